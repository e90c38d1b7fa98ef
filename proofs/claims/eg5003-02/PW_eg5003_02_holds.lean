import PyProof.Rows.All
import Wide.All
import OpenK.AllK
import Wide.FinOn
import PyProof.EnumFor
import PyProof.DictCompW
import KE.KPairComp
import KE.KDictFold
import PySem.Challenge.RW_eg5003_02
open PySem PySem.W PyProof.Rows
set_option Elab.async false
set_option maxRecDepth 100000
set_option maxHeartbeats 8000000
-- Base
namespace Mine
/-- all of h stands in h' -/
def Kp (h h' : Heap) : Prop := ∀ b o, h.get? b = some o → h'.get? b = some o
theorem Kp.refl (h : Heap) : Kp h h := fun _ _ e => e
theorem Kp.trans {a b c : Heap} (x : Kp a b) (y : Kp b c) : Kp a c := fun _ _ e => y _ _ (x _ _ e)
/-- what a call of a def promises: it reads the caller's heap by `pre`, changes nothing that stood, and hands back a value with the objects nw that it made -/
def Ct (prog : Program) (w : World) (K : Frag) (f : Addr) (D : Nat) (pre : Heap → Prop) (pos : List Value) (kw : List (PySem.Str × Value)) (Ret : Value → List (Addr × Obj) → Prop) : Prop :=
  ∀ (p : Program) (loose : List PySem.Str) (mean : ExcName → Option Value) (mg mb : PySem.Str → Option Value) (dp un : Nat) (gd : Option (List Code)) (cn : PySem.Str) (cs : Scope) (a : Addr) (ccd : Value) (cl : List (PySem.Str × Addr)) (outer : List Env) (A₀ : Around) (base h₀ : Heap) (L : Addr) (m : PySem.Str → Option Value) (news : List (Addr × Obj)) (s : Shared) (Q E : Value → Shared → Prop),
    Below A₀ base outer h₀ → Fr h₀ L s.heap m → K.In h₀ → News h₀ L s.heap news → Top p loose mean mg mb h₀ → cs.kind = .function → pre s.heap → dp + D < recursionLimit → un + 20 * D < cLine →
    (∀ v nw h' tk', Ret v nw → Kp s.heap h' → (∀ q ∈ nw, s.heap.get? q.1 = none) → Fr h₀ L h' m → News h₀ L h' (nw ++ news) → Q v { s with heap := h', toks := tk' }) →
    wpAny (model prog w) (ktrTop dp un gd cn cs L a ccd cl outer) (call (.ref f) pos kw) Q E s
/-- the obligation of the body -/
def Bd (prog : Program) (w : World) (K : Frag) (f : Addr) (qual : PySem.Str) (cdv : Value) (body : List Stmt) (scope : Scope) (binds : List (PySem.Str × Value)) (D : Nat) (pre : Heap → Prop) (Ret : Value → List (Addr × Obj) → Prop) : Prop :=
  ∀ (p : Program) (loose : List PySem.Str) (mean : ExcName → Option Value) (mg mb : PySem.Str → Option Value) (dp un : Nat) (gd : Option (List Code)) (outer : List Env) (A₀ : Around) (base g : Heap) (L : Addr) (s : Shared) (Q : Flow → Shared → Prop),
    Below A₀ base outer g → Fr g L s.heap (fun y => binds.reverse.lookup y) → K.In g → News g L s.heap [] → Top p loose mean mg mb g → pre g → dp + D < recursionLimit + 1 → un + 20 * D < cLine + 3 →
    (∀ v nw m' h' tk', Ret v nw → Fr g L h' m' → News g L h' nw → Q (.ret v) { s with heap := h', toks := tk' }) →
    wpAny (model prog w) (ktrTop dp un gd qual scope L f cdv [] outer) (execs body (envOf qual scope L f cdv)) Q (fun _ _ => False) s
theorem Ct.of {prog : Program} {w : World} {K : Frag} {f : Addr} {D : Nat} {pre : Heap → Prop} {pos : List Value} {kw : List (PySem.Str × Value)} {Ret : Value → List (Addr × Obj) → Prop}
    {name qual : PySem.Str} {params : Arguments} {body : List Stmt} {scope : Scope} {dV kV doc pm cdv ct oc : Value} {an od : Option Addr} {osl : Array (Option Value)} {binds : List (PySem.Str × Value)}
    (ho : K.lookup f = some ⟨oc, od, .func (fnOf name qual params body scope dV kV doc pm an cdv ct), osl⟩) (hcd : codeIn K cdv qual = true)
    (hbind : ∀ s : Shared, K.In s.heap → BindsTo s (fnOf name qual params body scope dV kV doc pm an cdv ct) ⟨pos, kw⟩ binds) (hloc : ∀ y ∈ binds, scope.names.lookup y.1 = some .local)
    (hco : scope.isCoroutine = false) (hgen : scope.isGenerator = false) (hk : scope.kind = .function) (hcell : ∀ x ∈ scope.names, x.2 ≠ .cell)
    (hmono : ∀ h h', Kp h h' → pre h → pre h')
    (h : Bd prog w K f qual cdv body scope binds D pre Ret) : Ct prog w K f D pre pos kw Ret := by
  intro p loose mean mg mb dp un gd cn cs a ccd cl outer A₀ base h₀ L m news s Q E B F X N T hck hpre hd hu hret
  refine wpAny_call ?_
  refine code_defG (K := K) (A₀ := A₀) (news := []) B F X News.nil T rfl rfl hck ho hcd (by show dp < recursionLimit; omega) (hbind s (X.keeps F.keep)) hloc ?_ hco hgen hk hcell
  intro g L' h₁ FG F' N' B' X' T' G'
  have kg : Kp s.heap g := fun b o e => G' b o e (by simp)
  refine wpAny_mono (h p loose mean mg mb (dp + 1) (un + 3) gd _ _ base g L' _ (fun fl s' => LeaveK h₀ L m g _ (match fl with | .ret v => v | _ => .none) s') B' F' X' N' T' (hmono _ _ kg hpre) (by omega) (by omega) ?_) (fun fl s' hl => hl) (fun _ _ x => x.elim)
  intro v nw m' h' tk' hr F₁ N₁
  refine ⟨L', m', nw, F₁, N₁, fun Fz Nz => ?_⟩
  have kh : Kp s.heap h' := kg.trans F₁.keep
  refine hret v nw h' tk' hr kh (fun q hq => ?_) Fz fun q hq => ?_
  · cases e : s.heap.get? q.1 with
    | none => rfl
    | some o => have := (N₁ q hq).2.2; rw [kg _ _ e] at this; cases this
  · rcases List.mem_append.mp hq with hq | hq
    · exact Nz q hq
    · exact ⟨kh _ _ (N q hq).1, (N q hq).2⟩
theorem Ct.use {prog : Program} {w : World} {K : Frag} {f : Addr} {D : Nat} {pre : Heap → Prop} {pos : List Value} {kw : List (PySem.Str × Value)} {Ret : Value → List (Addr × Obj) → Prop} (C : Ct prog w K f D pre pos kw Ret)
    {p : Program} {loose : List PySem.Str} {mean : ExcName → Option Value} {mg mb : PySem.Str → Option Value} {dp un : Nat} {gd : Option (List Code)} {cn : PySem.Str} {cs : Scope} {a : Addr} {ccd : Value} {cl : List (PySem.Str × Addr)} {outer : List Env} {A₀ : Around} {base h₀ : Heap} {L : Addr} {m : PySem.Str → Option Value} {news : List (Addr × Obj)} {s : Shared} {Q E : Value → Shared → Prop}
    (B : Below A₀ base outer h₀) (F : Fr h₀ L s.heap m) (X : K.In h₀) (N : News h₀ L s.heap news) (T : Top p loose mean mg mb h₀) (hk : cs.kind = .function) (hp : pre s.heap) (hd : dp + D < recursionLimit) (hu : un + 20 * D < cLine)
    (h : ∀ v nw h' tk', Ret v nw → Kp s.heap h' → (∀ q ∈ nw, s.heap.get? q.1 = none) → Fr h₀ L h' m → News h₀ L h' (nw ++ news) → Q v { s with heap := h', toks := tk' }) :
    wpAny (model prog w) (ktrTop dp un gd cn cs L a ccd cl outer) (call (.ref f) pos kw) Q E s := C p loose mean mg mb dp un gd cn cs a ccd cl outer A₀ base h₀ L m news s Q E B F X N T hk hp hd hu h
/-- a ledger may be taken in any order -/
theorem news_sub {h₀ h : Heap} {L : Addr} {news news' : List (Addr × Obj)} (N : News h₀ L h news') (hs : ∀ p ∈ news, p ∈ news') : News h₀ L h news := fun p hp => N p (hs p hp)
theorem fr_pin {h₀ h : Heap} {L : Addr} {m : PySem.Str → Option Value} (ps : List (PySem.Str × Value)) (hp : ∀ q ∈ ps, m q.1 = some q.2) (F : Fr h₀ L h m) : Fr h₀ L h (kstB m ps) := by
  have e : kstB m ps = m := funext fun z => kstB_eq hp fun _ => rfl
  rw [e]; exact F
theorem fr_turn {h₀ h : Heap} {L : Addr} {m : PySem.Str → Option Value} {x : PySem.Str} {v : Value} (ps : List (PySem.Str × Value)) (hp : ∀ q ∈ ps, m q.1 = some q.2) (F : Fr h₀ L h (fun y => if y = x then some v else m y)) : Fr h₀ L h (kstB m ((x, v) :: ps)) := by
  have e : kstB m ((x, v) :: ps) = fun y => if y = x then some v else m y := by
    funext z
    show (if z = x then some v else kstB m ps z) = if z = x then some v else m z
    rw [kstB_eq hp fun _ => rfl]
  rw [e]; exact F
theorem name_addr {P : Prop} {h₀ h : Heap} {L a : Addr} {o : Obj} {r : List (Addr × Obj)} (_ : News h₀ L h ((a, o) :: r)) (k : ∀ b, b = a → P) : P := k a rfl
def Stop (P : Prop) : Prop := P
theorem Stop.into {P : Prop} (h : Stop P) : P := h
theorem Stop.out {P : Prop} (h : P) : Stop P := h
theorem list_mono {l : Addr} {vs : Array Value} {h h' : Heap} (k : Kp h h') (x : h.IsList l vs) : h'.IsList l vs := x.at fun o e => k l o e
section
variable {prog : Program} {w : World} {A : Around} {E : Value → Shared → Prop} {s : Shared} {env : Env} {h₀ : Heap} {x : PySem.Str} {body : List Stmt} {Q : Flow → Shared → Prop}
theorem iter_rangeN {r : Addr} {a₀ b₀ : Int} {t₀ u₀ v₀ : Tok} {n : Nat} {m₀ : PySem.Str → Option Value} {news : List (Addr × Obj)} (J : Nat → (PySem.Str → Option Value) → List (Addr × Obj) → Prop)
    (hh : A.handled = none) (hr : IsRange s.heap r a₀ b₀ 1 t₀ u₀ v₀) (hsmall : Builtin.Range.small a₀ b₀ 1 = true) (hn : Builtin.Range.rangeSize a₀ b₀ 1 = (n : Int)) (F : Fr h₀ env.locals s.heap m₀) (N : News h₀ env.locals s.heap news) (hj : J 0 m₀ news)
    (turn : ∀ (i : Nat) t m₁ nx h tk own, i < n → OwnOff own (news.map (·.1)) → nx.map (·.1) = news.map (·.1) → J i m₁ nx → Fr h₀ env.locals h (fun y => if y = x then some (.int (a₀ + (i : Int)) t) else m₁ y) → News h₀ env.locals h (nx ++ own) →
      wpAny (model prog w) A (execs body env) (InvPostN h₀ env.locals (J (i + 1)) own (news.map (·.1)) { s with heap := h, toks := tk } Q) E { s with heap := h, toks := tk })
    (done : ∀ m₁ nx h tk, J n m₁ nx → Fr h₀ env.locals h m₁ → News h₀ env.locals h nx → Q .next { s with heap := h, toks := tk }) :
    wpAny (model prog w) A (pyIter (.ref r)) (fun it s₂ => LoopAtV prog w A h₀ env x body Q E it s₂) E s := by
  refine wpAny_pyIter_range hr hsmall ?_
  have W : Walks prog w A s.heap.objs.size [s.heap.objs.size] [s.heap.objs.size] n (fun i v => i < n ∧ ∃ t, v = .int (a₀ + i * 1) t)
      (fun i h => IsRangeIter h s.heap.objs.size (a₀ + (i : Nat) * 1) ((n : Int) - (i : Nat)) 1) := (Walks.range hh _ a₀ 1 n).bound
  refine loop_invN J W ?_ ?_ ?_ ?_ (by show IsRangeIter _ _ _ _ _; rw [hn]; simpa using Heap.get?_push_size _ rfl) (F.push _) (fun p hp => ⟨Heap.get?_push_of_some _ (N p hp).1, (N p hp).2⟩) hj ?_ ?_
  · intro hm
    exact absurd F.ns.lt ((List.mem_singleton.mp hm) ▸ Nat.lt_irrefl _)
  · intro b hb
    rw [List.mem_singleton.mp hb]
    exact next_is_new F
  · intro p hp hI
    exact absurd (Heap.lt_size (N p hp).1) ((List.mem_singleton.mp hI) ▸ Nat.lt_irrefl _)
  · intro p hp hI
    exact absurd (Heap.lt_size (N p hp).1) ((List.mem_singleton.mp hI) ▸ Nat.lt_irrefl _)
  · rintro i v m₁ nx h tk own hi ⟨_, t, rfl⟩ hadr hoff hJ F₁ N₁
    have e1 : a₀ + (i : Int) * 1 = a₀ + (i : Int) := by omega
    rw [e1] at F₁
    exact turn i t m₁ nx h tk own hi hoff hadr hJ F₁ N₁
  · intro m₁ nx h tk hJ F₁ N₁
    exact done m₁ nx h tk hJ F₁ N₁
end
theorem rs_one (n : Nat) : Builtin.Range.rangeSize 0 (n : Int) 1 = (n : Int) := by
  unfold Builtin.Range.rangeSize
  rw [if_pos (by decide)]
  split <;> omega
theorem rsmall (n : Nat) (h : n < 2 ^ 60) : Builtin.Range.small 0 (n : Int) 1 = true := small_one (by omega) (by omega) (by omega) (by omega)
end Mine
-- Base2
namespace Mine
section
variable {prog : Program} {w : World} {A₀ A : Around} {s : Shared} {base h₀ : Heap} {outer : List Env} {L : Addr} {m : PySem.Str → Option Value} {env : Env}
theorem code_defCG {K : Frag} {p : Program} {loose : List PySem.Str} {mean : ExcName → Option Value} {mg mb : PySem.Str → Option Value} {R : Result → Shared → Prop} {name qual : PySem.Str} {params : Arguments} {body : List Stmt} {scope : Scope} {dV kV doc pm cdv ct oc : Value} {an od : Option Addr} {osl : Array (Option Value)} {f : Addr} {args : Args} {binds : List (PySem.Str × Value)}
    (B : Below A₀ base outer h₀) (F : Fr h₀ L s.heap m) (X₀ : K.In h₀) (T : Top p loose mean mg mb h₀) (hA : A.frames = some (env :: outer)) (hf : env.frame = some L) (hke : env.scope.kind = .function)
    (ho : K.lookup f = some ⟨oc, od, .func (fnOf name qual params body scope dV kV doc pm an cdv ct), osl⟩) (hcd : codeIn K cdv qual = true) (hroom : A.depth < recursionLimit)
    (hbind : BindsTo s (fnOf name qual params body scope dV kV doc pm an cdv ct) args binds) (hkind : (binds.all fun y => scope.names.lookup y.1 == some .local || scope.names.lookup y.1 == some .cell) = true)
    (hnd : ((cellsFrom 0 scope.names []).map (·.1)).Nodup)
    (h : ∀ g L' h₁ tk cells, Fr h₀ L g m → Fr g L' h₁ (bindL (envOfC qual scope L' f cdv).kindOf binds fun _ => none) → News g L' h₁ cells →
      CellsAre (bindC (envOfC qual scope L' f cdv).kindOf binds fun _ => none) (cellsFrom (L' + 1) scope.names []) cells → Below A base (env :: outer) g → K.In g → Top p loose mean mg mb g → Kp s.heap g →
      wpAny (model prog w) (A.deeper (envOfC qual scope L' f cdv)) (execs body (envOfC qual scope L' f cdv))
        (fun fl s' => LeaveK h₀ L m g R (match fl with | .ret v => v | _ => .none) s')
        (fun e s' => wpAny (model prog w) (A.deeper (envOfC qual scope L' f cdv)) (leaving (envOfC qual scope L' f cdv) e) (fun _ s'' => R (.error e) s'') (fun e' s'' => R (.error e') s'') s')
        { s with heap := h₁, toks := tk })
    (hco : scope.isCoroutine = false) (hgen : scope.isGenerator = false) (hk : scope.kind = .function) : codeAny (model prog w) A (.call (.ref f) args) R s := by
  obtain ⟨FG, BG, st, lv⟩ := groundX (R := R) B F (News.nil (h₀ := h₀) (L := L) (h := s.heap)) hA hf hke
  refine codeAny_call_function hroom ((X₀.keeps F.keep) _ _ ho) rfl hco hgen rfl (codeRec_of (X₀.keeps F.keep) hcd) (hbind _ _ _ _ ?_)
  refine wpAny_newFunctionEnv_cells hk (kindsX hkind _) fun env' he s' x => ?_
  subst he
  refine ⟨(T.nolimit.keeps F.keep).keeps x.toInCall.keep, codeAny_func ?_⟩
  obtain ⟨h₁, tk, rfl, _⟩ := x.done
  have hk₁ := x.toInCall.keep
  obtain ⟨cells, NC, Y⟩ := Cl.news (h₀ := s.heap) (Nat.le_refl _) fun n c hm => ⟨x.cell n c (lookup_of_mem_nodup (cellsFrom_names scope.names 0 (s.heap.objs.size + 1) [] [] rfl ▸ hnd) hm), x.above n c hm⟩
  refine wpAny_mono (h _ s.heap.objs.size h₁ tk cells FG ⟨x.toInCall.ns, fun b o e => hk₁ b o (of_hideAll _ e), Nat.le_of_eq (hideAll_size _ _)⟩ (fun p hp => ?_) Y BG (X₀.keeps st) (T.keeps st) (fun b o e => hideAll_get _ e (by simp))) (fun fl s' hl => lv _ _ hl) fun _ _ y => y
  refine ⟨(NC p hp).1, (NC p hp).2.1, ?_⟩
  cases q : (hideAll s.heap (([] : List (Addr × Obj)).map (·.1))).get? p.1 with
  | none => rfl
  | some o => have := of_hideAll _ q; rw [(NC p hp).2.2] at this; cases this
end
theorem lo_of {p : Program} {loose : List PySem.Str} {mean : ExcName → Option Value} {mg mb m : PySem.Str → Option Value} {g h : Heap} {L D : Addr} (T : Top p loose mean mg mb g) (F : Fr g L h m) (hL : L < D) : (D == sysModules) = false :=
  beq_eq_false_iff_ne.mpr (Nat.ne_of_gt (Nat.lt_trans (modules_low T.nolimit) (Nat.lt_of_le_of_lt F.above hL)))
/-- the obligation of the body, with cells -/
def BdC (prog : Program) (w : World) (K : Frag) (f : Addr) (qual : PySem.Str) (cdv : Value) (body : List Stmt) (scope : Scope) (binds : List (PySem.Str × Value)) (D : Nat) (pre : Heap → Prop) (Ret : Value → List (Addr × Obj) → Prop) : Prop :=
  ∀ (p : Program) (loose : List PySem.Str) (mean : ExcName → Option Value) (mg mb : PySem.Str → Option Value) (dp un : Nat) (gd : Option (List Code)) (outer : List Env) (A₀ : Around) (base g : Heap) (L : Addr) (s : Shared) (Q : Flow → Shared → Prop) (cells : List (Addr × Obj)),
    Below A₀ base outer g → Fr g L s.heap (bindL (envOfC qual scope L f cdv).kindOf binds fun _ => none) → K.In g → News g L s.heap cells → CellsAre (bindC (envOfC qual scope L f cdv).kindOf binds fun _ => none) (cellsFrom (L + 1) scope.names []) cells → Top p loose mean mg mb g → pre g → dp + D < recursionLimit + 1 → un + 20 * D < cLine + 3 →
    (∀ v nw m' h' tk', Ret v nw → Fr g L h' m' → News g L h' nw → Q (.ret v) { s with heap := h', toks := tk' }) →
    wpAny (model prog w) (ktrTop dp un gd qual scope L f cdv (cellsFrom (L + 1) scope.names []) outer) (execs body (envOfC qual scope L f cdv)) Q (fun _ _ => False) s
theorem Ct.ofC {prog : Program} {w : World} {K : Frag} {f : Addr} {D : Nat} {pre : Heap → Prop} {pos : List Value} {kw : List (PySem.Str × Value)} {Ret : Value → List (Addr × Obj) → Prop}
    {name qual : PySem.Str} {params : Arguments} {body : List Stmt} {scope : Scope} {dV kV doc pm cdv ct oc : Value} {an od : Option Addr} {osl : Array (Option Value)} {binds : List (PySem.Str × Value)}
    (ho : K.lookup f = some ⟨oc, od, .func (fnOf name qual params body scope dV kV doc pm an cdv ct), osl⟩) (hcd : codeIn K cdv qual = true)
    (hbind : ∀ s : Shared, K.In s.heap → BindsTo s (fnOf name qual params body scope dV kV doc pm an cdv ct) ⟨pos, kw⟩ binds) (hkind : (binds.all fun y => scope.names.lookup y.1 == some .local || scope.names.lookup y.1 == some .cell) = true)
    (hnd : ((cellsFrom 0 scope.names []).map (·.1)).Nodup)
    (hco : scope.isCoroutine = false) (hgen : scope.isGenerator = false) (hk : scope.kind = .function)
    (hmono : ∀ h h', Kp h h' → pre h → pre h')
    (h : BdC prog w K f qual cdv body scope binds D pre Ret) : Ct prog w K f D pre pos kw Ret := by
  intro p loose mean mg mb dp un gd cn cs a ccd cl outer A₀ base h₀ L m news s Q E B F X N T hck hpre hd hu hret
  refine wpAny_call ?_
  refine code_defCG (K := K) (A₀ := A₀) B F X T rfl rfl hck ho hcd (by show dp < recursionLimit; omega) (hbind s (X.keeps F.keep)) hkind hnd ?_ hco hgen hk
  intro g L' h₁ tk cells FG F' N' Y B' X' T' kg
  refine wpAny_mono (h p loose mean mg mb (dp + 1) (un + 3) gd _ _ base g L' _ (fun fl s' => LeaveK h₀ L m g _ (match fl with | .ret v => v | _ => .none) s') cells B' F' X' N' Y T' (hmono _ _ kg hpre) (by omega) (by omega) ?_) (fun fl s' hl => hl) (fun _ _ x => x.elim)
  intro v nw m' h' tk' hr F₁ N₁
  refine ⟨L', m', nw, F₁, N₁, fun Fz Nz => ?_⟩
  have kh : Kp s.heap h' := kg.trans F₁.keep
  refine hret v nw h' tk' hr kh (fun q hq => ?_) Fz fun q hq => ?_
  · cases e : s.heap.get? q.1 with
    | none => rfl
    | some o => have := (N₁ q hq).2.2; rw [kg _ _ e] at this; cases this
  · rcases List.mem_append.mp hq with hq | hq
    · exact Nz q hq
    · exact ⟨kh _ _ (N q hq).1, (N q hq).2⟩
end Mine
-- Top02
namespace Mine
open_top hd for PySem.Challenge.rw_eg5003_02
end Mine
-- R1
namespace Mine
namespace R
open Builtin
theorem slot_lstrip : Slot "bytes" "lstrip" "bytes.lstrip" :=
  .of (owner := "bytes") (n := "lstrip") (by rw [typeLookup_type, builtinLookup_eq_fast]; kernel_rfl) (by decide +kernel) (by decide +kernel) (by decide +kernel)
    (by first | exact .inl (by decide +kernel) | exact .inr (by decide +kernel)) (by rw [isSubtype_type]; kernel_rfl)
theorem type_lstrip : typeOf (.builtin "bytes.lstrip") = pure (.type "method_descriptor") := by show builtinType _ = _; rw [builtinType_eq_fast]; kernel_rfl
theorem entry_lstrip : entryFor table "bytes.lstrip" = some Builtin.«bytes.lstrip» := entryFor_of_tree (by kernel_rfl)
theorem args_lstrip (a b : Value) : argsOk "bytes.lstrip" ⟨[a, b], []⟩ := by
  unfold argsOk; rw [signature?_of (id := "bytes.lstrip") (n := "lstrip".toList.reverse) (o := ['s', 'e', 't', 'y', 'b']) (by kernel_rfl) FB.owner_bytes]; kernel_rfl
theorem slot_rstrip : Slot "bytes" "rstrip" "bytes.rstrip" :=
  .of (owner := "bytes") (n := "rstrip") (by rw [typeLookup_type, builtinLookup_eq_fast]; kernel_rfl) (by decide +kernel) (by decide +kernel) (by decide +kernel)
    (by first | exact .inl (by decide +kernel) | exact .inr (by decide +kernel)) (by rw [isSubtype_type]; kernel_rfl)
theorem type_rstrip : typeOf (.builtin "bytes.rstrip") = pure (.type "method_descriptor") := by show builtinType _ = _; rw [builtinType_eq_fast]; kernel_rfl
theorem entry_rstrip : entryFor table "bytes.rstrip" = some Builtin.«bytes.rstrip» := entryFor_of_tree (by kernel_rfl)
theorem args_rstrip (a : Value) : argsOk "bytes.rstrip" ⟨[a], []⟩ := by
  unfold argsOk; rw [signature?_of (id := "bytes.rstrip") (n := "rstrip".toList.reverse) (o := ['s', 'e', 't', 'y', 'b']) (by kernel_rfl) FB.owner_bytes]; kernel_rfl
theorem meets_lstrip {b c : Array UInt8} {t u : Tok} : Meets («bytes.lstrip» ⟨[.bytes b t, .bytes c u], []⟩) (fun _ R s => b.size ≤ sizeLine ∧ ∀ r t' k, r.toList = b.toList.dropWhile c.contains → R (.ok (.ret (.bytes r t'))) { s with toks := k }) := by
  refine .of_wp fun prog w A R s hS => ?_
  obtain ⟨hsz, h⟩ := hS
  unfold «bytes.lstrip» Bytes.stripM
  dsimp only
  refine wpAny_bind (wpAny_of_eq (a := (Value.bytes b t, [Value.bytes c u])) rfl ?_)
  dsimp only
  refine wpAny_bind (wpAny_of_eq KBd.like_eq ?_)
  refine wpAny_bind (wpAny_pure ?_)
  refine wpAny_bind (wpAny_of_eq (a := b) rfl ?_)
  simp only [Bool.false_eq_true, if_false, if_true]
  split
  · rename_i he
    refine wpAny_bind (wpAny_rule ?_)
    refine wpAny_bind (m := Bytes.Kind.bytes.same (Value.bytes b t)) ?_
    unfold Bytes.Kind.same
    rw [if_pos (by decide)]
    refine wpAny_bind (wpAny_typeOf (typeIs_bytes s b t) ?_)
    rw [if_pos (by decide)]
    refine wpAny_pure (wpAny_pure ⟨_, rfl, h b t _ ?_⟩)
    exact ((List.dropWhile_suffix _).eq_of_length (by simpa using he)).symm
  · refine wpAny_bind (m := Bytes.Kind.bytes.new _) (wpAny_mkBytes (wpAny_pure ⟨_, rfl, h _ _ _ ?_⟩) ?_)
    · simp
    · rw [List.size_toArray]
      exact Nat.le_trans ((List.dropWhile_suffix _).length_le) (by simpa using hsz)
theorem meets_rstrip {b : Array UInt8} {t : Tok} : Meets («bytes.rstrip» ⟨[.bytes b t], []⟩) (fun _ R s => b.size ≤ sizeLine ∧ ∀ r t' k, r.toList = (b.toList.reverse.dropWhile Bytes.isSpace).reverse → R (.ok (.ret (.bytes r t'))) { s with toks := k }) := by
  refine .of_wp fun prog w A R s hS => ?_
  obtain ⟨hsz, h⟩ := hS
  unfold «bytes.rstrip» Bytes.stripM
  dsimp only
  refine wpAny_bind (wpAny_of_eq (a := (Value.bytes b t, [])) rfl ?_)
  dsimp only
  refine wpAny_bind (wpAny_pure ?_)
  refine wpAny_bind (wpAny_of_eq (a := b) rfl ?_)
  simp only [Bool.false_eq_true, if_false, if_true]
  split
  · rename_i he
    refine wpAny_bind (wpAny_rule ?_)
    refine wpAny_bind (m := Bytes.Kind.bytes.same (Value.bytes b t)) ?_
    unfold Bytes.Kind.same
    rw [if_pos (by decide)]
    refine wpAny_bind (wpAny_typeOf (typeIs_bytes s b t) ?_)
    rw [if_pos (by decide)]
    refine wpAny_pure (wpAny_pure ⟨_, rfl, h b t _ ?_⟩)
    have e := (List.dropWhile_suffix (l := b.toList.reverse) Bytes.isSpace).eq_of_length (by simpa using he)
    rw [e, List.reverse_reverse]
  · refine wpAny_bind (m := Bytes.Kind.bytes.new _) (wpAny_mkBytes (wpAny_pure ⟨_, rfl, h _ _ _ ?_⟩) ?_)
    · simp
    · rw [List.size_toArray, List.length_reverse]
      exact Nat.le_trans ((List.dropWhile_suffix _).length_le) (by simpa using hsz)
section
variable {prog : Program} {w : World} {A : Around} {E : Value → Shared → Prop} {s : Shared} {b c : Array UInt8} {t u : Tok}
theorem lstrip_call {Q : Value → Shared → Prop} {ks cs : List Int} (hb : KBw.bInts b = ks) (hc : KBw.bInts c = cs) (hsz : ks.length ≤ 16777216) (h : ∀ r t' k, KBw.bInts r = ks.dropWhile (fun x => decide (x ∈ cs)) → Q (.bytes r t') { s with toks := k }) :
    wpAny (model prog w) A (call (.builtin "bytes.lstrip") [.bytes b t, .bytes c u]) Q E s :=
  call_meets slot_lstrip (typeIs_bytes _ _ _) entry_lstrip (args_lstrip _ _) meets_lstrip ⟨by rw [← KBw.ints_length, hb, sizeLine_eq]; exact hsz, fun r t' k hr => h r t' k (by
    subst hb hc
    unfold KBw.bInts
    rw [hr, List.dropWhile_map]
    congr 2
    funext x
    simp only [Function.comp]
    have e : (c.contains x = true) ↔ ((x.toNat : Int) ∈ c.toList.map fun c => (c.toNat : Int)) := by
      rw [Array.contains_iff_mem, List.mem_map]
      constructor
      · intro hx
        exact ⟨x, by simpa using hx, rfl⟩
      · rintro ⟨y, hy, e⟩
        have : y = x := UInt8.toNat_inj.mp (by omega)
        subst this
        simpa using hy
    by_cases hx : c.contains x = true
    · rw [hx, decide_eq_true (e.mp hx)]
    · rw [Bool.not_eq_true] at hx
      rw [hx]
      exact (decide_eq_false (fun q => by rw [e.mpr q] at hx; cases hx)).symm)⟩
theorem lstrip_method {M : Model} {pl : Sem Bool} {Q : Value × List Value → Shared → Prop} (h : Q (.builtin "bytes.lstrip", [.bytes b t]) s) : wpAny M A (getMethod (.bytes b t) "lstrip" pl) Q E s := by
  with_reducible exact KBd.method_of (.bytes b t) (typeIs_bytes _ _ _) slot_lstrip type_lstrip KBd.noRef h
theorem rstrip_method {M : Model} {pl : Sem Bool} {Q : Value × List Value → Shared → Prop} (h : Q (.builtin "bytes.rstrip", [.bytes b t]) s) : wpAny M A (getMethod (.bytes b t) "rstrip" pl) Q E s := by
  with_reducible exact KBd.method_of (.bytes b t) (typeIs_bytes _ _ _) slot_rstrip type_rstrip KBd.noRef h
def spaceI (x : Int) : Bool := decide (x = 32 ∨ (9 ≤ x ∧ x ≤ 13))
theorem rstrip_call {Q : Value → Shared → Prop} {ks : List Int} (hb : KBw.bInts b = ks) (hsz : ks.length ≤ 16777216) (h : ∀ r t' k, KBw.bInts r = (ks.reverse.dropWhile spaceI).reverse → Q (.bytes r t') { s with toks := k }) :
    wpAny (model prog w) A (call (.builtin "bytes.rstrip") [.bytes b t]) Q E s :=
  call_meets slot_rstrip (typeIs_bytes _ _ _) entry_rstrip (args_rstrip _) meets_rstrip ⟨by rw [← KBw.ints_length, hb, sizeLine_eq]; exact hsz, fun r t' k hr => h r t' k (by
    subst hb
    unfold KBw.bInts
    rw [hr, ← List.map_reverse, List.dropWhile_map, ← List.map_reverse]
    congr 3
    funext x
    simp only [Function.comp]
    unfold Bytes.isSpace spaceI
    have hx := x.toNat_lt
    have e1 : (x == 32) = decide (x.toNat = 32) := by
      by_cases q : x = 32
      · subst q; decide
      · rw [beq_eq_false_iff_ne.mpr q]
        exact (decide_eq_false (fun e => q (UInt8.toNat_inj.mp e))).symm
    have e2 : decide (9 ≤ x) = decide (9 ≤ x.toNat) := by
      simp only [UInt8.le_iff_toNat_le]; rfl
    have e3 : decide (x ≤ 13) = decide (x.toNat ≤ 13) := by
      simp only [UInt8.le_iff_toNat_le]; rfl
    rw [e1, e2, e3, ← Bool.decide_and, ← Bool.decide_or]
    congr 1
    apply propext
    omega)⟩
theorem mul_call {Q : Value → Shared → Prop} {c0 n : Int} (hb : KBw.bInts b = [c0]) (h0 : 0 ≤ n) (h1 : n ≤ 1048576) (h : ∀ r t' k, KBw.bInts r = List.replicate n.toNat c0 → Q (.bytes r t') { s with toks := k }) :
    wpAny (model prog w) A (binaryOp .Mult (.bytes b t) (.int n u)) Q E s := by
  have hl : b.toList.length = 1 := by
    have := congrArg List.length hb
    rw [KBw.ints_length] at this
    simpa using this
  have e : b = b.toList.toArray := by simp
  have hne : b.toList ≠ [] := fun q => by rw [q] at hl; simp at hl
  rw [e]
  refine bytes_mul_any hne (by omega) h1 (by omega) fun t' k => h _ t' k ?_
  obtain ⟨x, hx⟩ := List.length_eq_one_iff.mp hl
  have hx0 : (x.toNat : Int) = c0 := by
    have : KBw.bInts b = [(x.toNat : Int)] := by
      unfold KBw.bInts
      rw [hx]
      rfl
    rw [this] at hb
    simpa using hb
  unfold KBw.bInts
  rw [hx, ← hx0]
  simp
end
end R
end Mine
-- R2
namespace Mine
namespace R
open Builtin
open Builtin._codecs in
theorem encodeRoad_ascii (id : String) (self : Value) (x : PySem.Str) (errors : Option PySem.Str) : encodeRoad id self x (PySem.Str.ofString "ascii") errors = (do mkBytes (← encodeNarrow id asciiCodec errors self x)) := by
  first | rfl | (unfold encodeRoad; rfl) | (unfold encodeRoad; simp only []; rfl) | decide
open Builtin._codecs in
theorem encode_tree2 (x : PySem.Str) (t u : Tok) : «str.encode» ⟨[.str x t, .str (PySem.Str.ofString "ascii") u], []⟩ = (do ret (← encodeRoad "str.encode" (.str x t) x (PySem.Str.ofString "ascii") none)) := by
  first | rfl | kernel_rfl
theorem forIn_two {σ : Type} {f : Nat → σ → Sem (ForInStep σ)} {a b : σ} (h1 : ∀ i, f i a = pure (.yield b)) (h2 : ∀ i, f i b = pure (.done b)) : ∀ {l : List Nat}, l ≠ [] → forIn l a f = pure b
  | [], h => absurd rfl h
  | [i], _ => by
    rw [List.forIn_cons, h1]
    rfl
  | i :: j :: r, _ => by
    rw [List.forIn_cons, h1]
    show forIn (j :: r) b f = pure b
    rw [List.forIn_cons, h2]
    rfl
theorem fold_push (l : List Nat) (o : Array UInt8) : l.foldl (fun acc y => acc ++ [y.toUInt8].toArray) o = o ++ (l.map fun c => c.toUInt8).toArray := by
  induction l generalizing o with
  | nil => simp
  | cons c r ih =>
    rw [List.foldl_cons, ih]
    simp
open Builtin._codecs in
theorem narrow_ascii (id : String) (self : Value) (x : PySem.Str) (h : ∀ c ∈ x.cps, c < 128) (hz : x.length ≤ sizeLine) : encodeNarrow id asciiCodec none self x = pure (x.cps.map fun c => c.toUInt8) := by
  by_cases h0 : x.length = 0
  · have e : x.cps = #[] := Array.eq_empty_of_size_eq_zero h0
    unfold encodeNarrow
    dsimp only
    rw [h0, e]
    first | rfl | simp
  · have hbad : ∀ c ∈ x.cps, asciiCodec.bad c = false := fun c hc => by
      show decide (c ≥ 128) = false
      exact decide_eq_false (by have := h c hc; omega)
    have hfi : Array.findIdx? asciiCodec.bad x.cps = none := by
      rw [Array.findIdx?_eq_none_iff]
      exact fun c hc => by simp [hbad c hc]
    have hex : x.cps.extract 0 = x.cps := by simp
    have hsz : x.cps.size = x.length := rfl
    have hfold : Array.foldl (fun acc y => acc ++ (asciiCodec.bytesOf y).toArray) #[] x.cps = x.cps.map fun c => c.toUInt8 := by
      rw [← Array.foldl_toList]
      show x.cps.toList.foldl (fun acc y => acc ++ [y.toUInt8].toArray) #[] = _
      rw [fold_push]
      apply Array.toList_inj.mp
      simp
    unfold encodeNarrow
    dsimp only
    simp only [Std.Legacy.Range.forIn_eq_forIn_range']
    rw [forIn_two (b := (x.length, x.cps.map (fun c => c.toUInt8), {}))]
    · first | rfl | simp
    · intro i
      dsimp only
      have hpos : 0 < x.cps.size := by rw [hsz]; omega
      rw [if_neg (by simp), Array.getElem?_eq_getElem hpos]
      dsimp only
      rw [hbad _ (Array.getElem_mem hpos), Bool.not_false, if_pos rfl]
      have hex2 : x.cps.extract.extract 0 x.cps.size = x.cps := by simp
      simp only [hex, hfi, Option.getD_none]
      have hex3 : x.cps.extract 0 x.cps.size = x.cps := by simp
      rw [hfold, Nat.zero_add, hsz]
    · intro i
      dsimp only
      rw [if_neg (by rw [Array.size_map, hsz]; exact Nat.not_lt.mpr hz), Array.getElem?_eq_none (by rw [hsz]; exact Nat.le_refl _)]
    · intro e
      have := congrArg List.length e
      simp at this
      exact h0 (by simpa using this)
theorem meets_encode {x : PySem.Str} {t u : Tok} : Meets («str.encode» ⟨[.str x t, .str (PySem.Str.ofString "ascii") u], []⟩) (fun _ R s => (∀ c ∈ x.cps, c < 128) ∧ x.length ≤ sizeLine ∧ ∀ t' k, R (.ok (.ret (.bytes (x.cps.map fun c => c.toUInt8) t'))) { s with toks := k }) := by
  refine .of_wp fun prog w A R s hS => ?_
  obtain ⟨h, hz, hR⟩ := hS
  rw [encode_tree2, encodeRoad_ascii, narrow_ascii _ _ _ h hz]
  refine wpAny_bind (wpAny_bind (wpAny_pure ?_))
  refine wpAny_mkBytes (wpAny_pure ⟨_, rfl, hR _ _⟩) ?_
  rw [Array.size_map]
  exact hz
section
variable {prog : Program} {w : World} {A : Around} {E : Value → Shared → Prop} {s : Shared} {x : PySem.Str} {t u : Tok}
theorem encode_method {M : Model} {pl : Sem Bool} {Q : Value × List Value → Shared → Prop} (h : Q (.builtin "str.encode", [.str x t]) s) : wpAny M A (getMethod (.str x t) "encode" pl) Q E s := by
  with_reducible exact getMethod_builtin (typeIs_str _ _ _) F.plainAttrs_str F.slot_str_encode F.type_str_encode (fun _ e => nomatch e) h
theorem encode_call {Q : Value → Shared → Prop} (hx : ∀ c ∈ x.cps, c < 128) (hz : x.length ≤ sizeLine) (h : ∀ t' k, Q (.bytes (x.cps.map fun c => c.toUInt8) t') { s with toks := k }) :
    wpAny (model prog w) A (call (.builtin "str.encode") [.str x t, .str (PySem.Str.ofString "ascii") u]) Q E s :=
  call_meets F.slot_str_encode (typeIs_str _ _ _) F.entry_str_encode (F.args_str_encode_2 _ _) meets_encode ⟨hx, hz, h⟩
end
end R
end Mine
-- R3
namespace Mine
namespace R
open Builtin
theorem no_index_bytes : typeLookup (.type "bytes") "__index__" = pure none := by rw [typeLookup_type, builtinLookup_eq_fast]; kernel_rfl
section
variable {prog : Program} {w : World} {A : Around} {E : Value → Shared → Prop} {s : Shared} {b c : Array UInt8} {t u : Tok}
theorem asIndex_bytes {M : Model} {Q : Except Value Int → Shared → Prop} (hh : A.handled = none)
    (h : ∀ h' tk e, Heap.NewExc s.heap h' e "TypeError" → Q (.error (.ref e)) { s with heap := h', toks := tk }) : wpAny M A (asIndex (.bytes b t)).attempt Q E s := by
  refine wpAny_attempt ?_
  unfold asIndex
  refine wpAny_bind (wpAny_of_eq (a := none) rfl ?_)
  dsimp only
  refine wpAny_bind (wpAny_callSpecial?_none (typeIs_bytes s b t) no_index_bytes ?_)
  dsimp only
  have e : typeNameOfCut 200 (.bytes b t) = pure "bytes" := by first | rfl | kernel_rfl
  rw [e]
  refine wpAny_bind (wpAny_pure ?_)
  exact wpAny_raiseErrorMade plainExc_TypeError hh h (by decide)
theorem find_one {v : UInt8} : (Bytes.find? b #[v] 0 b.size).isSome = b.contains v := by
  unfold Bytes.find?
  rw [Bool.eq_iff_iff, List.find?_isSome, Array.contains_iff_mem]
  constructor
  · rintro ⟨i, hi, he⟩
    have hlt : i < b.size := by
      simp at hi
      omega
    rw [beq_iff_eq] at he
    have h0 := congrArg (fun a => a[0]?) he
    simp [Array.getElem?_extract, hlt] at h0
    rw [← h0.2]
    exact Array.getElem_mem hlt
  · intro hv
    obtain ⟨i, hi, rfl⟩ := Array.mem_iff_getElem.mp hv
    refine ⟨i, by simp; omega, ?_⟩
    rw [beq_iff_eq]
    apply Array.ext
    · simp; omega
    · intro j h1 h2
      have : j = 0 := by simpa using h2
      subst this
      simp
theorem meets_contains {v : UInt8} : Meets («bytes.__contains__» ⟨[.bytes b t, .bytes #[v] u], []⟩) (fun A R s => A.handled = none ∧ ∀ h' k, (∀ a o, s.heap.get? a = some o → h'.get? a = some o) → R (.ok (.ret (.bool (b.contains v)))) { s with heap := h', toks := k }) := by
  refine .of_wp fun prog w A R s hS => ?_
  obtain ⟨hh, h⟩ := hS
  unfold «bytes.__contains__»
  refine wpAny_bind (wpAny_of_eq (a := (Value.bytes b t, [Value.bytes #[v] u])) rfl ?_)
  dsimp only
  refine wpAny_bind (m := Bytes.containsIn _ _ _) ?_
  unfold Bytes.containsIn
  refine wpAny_bind (asIndex_bytes hh fun h' tk e hx => ?_)
  refine wpAny_bind (wpAny_of_eq KBy.buffer_eq ?_)
  dsimp only
  refine wpAny_bind (wpAny_of_eq KBy.buffer_eq ?_)
  dsimp only
  refine wpAny_bind (wpAny_rule (wpAny_pure ?_))
  rw [find_one]
  exact wpAny_pure ⟨_, rfl, h _ _ hx.keeps⟩
theorem notin_bytes {v : UInt8} {Q : Value → Shared → Prop} (hh : A.handled = none) (h : ∀ h' k, (∀ a o, s.heap.get? a = some o → h'.get? a = some o) → Q (.bool (!(b.contains v))) { s with heap := h', toks := k }) :
    wpAny (model prog w) A (compareOp .NotIn (.bytes #[v] u) (.bytes b t)) Q E s := by
  show wpAny _ _ (PySem.contains (Value.bytes b t) (Value.bytes #[v] u) >>= fun r => (pure (Value.bool (!r)) : Sem Value)) _ _ _
  refine wpAny_bind (contains_slot (typeIs_bytes s b t) FB.slot_bytes_contains ?_)
  refine call_meets FB.slot_bytes_contains (typeIs_bytes _ _ _) FB.entry_bytes_contains (FB.args_bytes_contains_2 _ _) meets_contains ⟨hh, fun h' k hk => ?_⟩
  refine wpAny_of_eq (a := b.contains v) (by rfl) ?_
  exact wpAny_pure (h h' k hk)
theorem contains_ints {v : UInt8} {ks : List Int} (hb : KBw.bInts b = ks) : b.contains v = decide ((v.toNat : Int) ∈ ks) := by
  subst hb
  have e : (b.contains v = true) ↔ ((v.toNat : Int) ∈ KBw.bInts b) := by
    unfold KBw.bInts
    rw [Array.contains_iff_mem, List.mem_map]
    constructor
    · intro hx
      exact ⟨v, by simpa using hx, rfl⟩
    · rintro ⟨y, hy, e⟩
      have : y = v := UInt8.toNat_inj.mp (by omega)
      subst this
      simpa using hy
  by_cases hx : b.contains v = true
  · rw [hx, decide_eq_true (e.mp hx)]
  · rw [Bool.not_eq_true] at hx
    rw [hx]
    exact (decide_eq_false (fun q => by rw [e.mpr q] at hx; cases hx)).symm
end
end R
end Mine
-- R4
namespace Mine
namespace R
open Builtin
section
variable {prog : Program} {w : World} {M : Model} {A : Around} {E : Value → Shared → Prop} {s : Shared} {h₀ : Heap} {L : Addr} {m : PySem.Str → Option Value} {news : List (Addr × Obj)}
theorem fb_callWith {pos : Pos} {u : Addr} {first : List Value} {env : Env} {e : PySem.Expr} {rest : List PySem.Expr} {kws : List Keyword} {Q : Value → Shared → Prop} (_N : News h₀ L s.heap news) (_hm : (u, KFB.bound) ∈ news) (hall : (backToKw pos (keywordEach kws env)).all (·.1.isSome) = true)
    (h : wpAny M A (spliced (backTo pos (starEach (e :: rest) env))) (fun vs s₁ => wpAny M A (evalAll ((backToKw pos (keywordEach kws env)).map (·.2)))
      (fun ks s₂ => KFB.StandsAt u s₂.heap ∧ wpAny M A (call (.ref u) (first ++ vs) (((backToKw pos (keywordEach kws env)).filterMap (·.1)).zip ks)) Q E s₂) E s₁) E s)
    (hplain : ((backTo pos (starEach (e :: rest) env)).any (·.1) || (backToKw pos (keywordEach kws env)).any (·.1.isNone)) = false := by rfl) (he : starEach (e :: rest) env = (false, eval e env) :: starEach rest env := by rfl) :
    wpAny M A (callWith pos (.ref u) first (backTo pos (starEach (e :: rest) env)) (backToKw pos (keywordEach kws env))) Q E s := by
  unfold callWith
  refine wpAny_bind (wpAny_holding (wpAny_mono (evalArgs_kw2 (Q := fun x s₁ => KFB.StandsAt u s₁.heap ∧ wpAny M A (call (.ref u) (first ++ x.pos) x.kw) Q E s₁) hall h he) (fun x s₁ h₁ => wpAny_bind (wpAny_standAt ?_)) fun _ _ x => x))
  obtain ⟨ho, hcall⟩ := h₁
  simp only [hplain]
  refine wpAny_bind (m := keeperOf (.ref u)) ?_
  unfold keeperOf
  refine wpAny_bind (wpAny_load ho ?_)
  simp only [KFB.bound, show (Value.type "builtin_function_or_method" != Value.type "method") = true by decide, show (Value.type "builtin_function_or_method" == Value.type "builtin_function_or_method" || Value.type "builtin_function_or_method" == Value.type "method-wrapper") = true by decide, if_true]
  refine wpAny_pure ?_
  exact wpAny_bind (wpAny_mono hcall (fun r s₂ hr => wpAny_bind (wpAny_holding (wpAny_point (wpAny_pure hr)))) fun _ _ x => x)
theorem fb_check {b : Array UInt8} {t u : Tok} : checkBoundCall "int.from_bytes" ⟨[.type "int", .bytes b t], [(PySem.Str.ofString "byteorder", .str (PySem.Str.ofString "big") u)]⟩ = pure () := by first | kernel_rfl | rfl
theorem fb_grown {n e : Nat} {Q : Value → Shared → Prop} (hn : n < 2 ^ e) (he : e < 134217728) (h : Q (.int (n : Int) s.toks) { s with toks := s.toks + 1 }) : wpAny M A (mkIntGrown (n : Int)) Q E s := by
  unfold mkIntGrown
  have hb : bitsLine = 134217728 := by first | rfl | decide
  have hl : ¬ ((n : Int).natAbs.log2 ≥ bitsLine) := by
    rw [Int.natAbs_natCast, hb]
    by_cases hz : n = 0
    · subst hz
      decide
    · have h1 := (Nat.log2_lt hz).mpr hn
      omega
  rw [if_neg hl]
  exact wpAny_mkInt h
theorem fb_tree {b : Array UInt8} {t u : Tok} {P : Fin → Shared → Prop} (hl : b.size ≤ 1000) (h : P (.done (.ret (.int (KFB.value (KBw.bInts b)) s.toks))) { s with toks := s.toks + 1 }) :
    wpAny M A (Builtin.«int.from_bytes» ⟨[.type "int", .bytes b t], [(PySem.Str.ofString "byteorder", .str (PySem.Str.ofString "big") u)]⟩) P E s := by
  have hv : ((b.toList.foldl (fun (acc : Nat) (b : UInt8) => acc * 256 + b.toNat) 0 : Nat) : Int) = KFB.value (KBw.bInts b) := KFB.fold_cast b.toList 0
  have hn : b.toList.foldl (fun (acc : Nat) (b : UInt8) => acc * 256 + b.toNat) 0 < 2 ^ (8 * b.size) := by
    have h1 := KFB.fold_lt b.toList 0
    rw [Nat.zero_add, Nat.one_mul, Array.length_toList] at h1
    rw [Nat.pow_mul]
    exact h1
  unfold Builtin.«int.from_bytes»
  refine wpAny_bind (wpAny_of_eq (a := true) KFB.type_int ?_)
  refine KFB.if_not rfl ?_
  refine wpAny_bind (wpAny_of_eq (a := true) F.conv_sub_int ?_)
  refine KFB.if_not rfl ?_
  refine wpAny_bind (wpAny_of_eq (a := [some (.bytes b t), some (.str (PySem.Str.ofString "big") u), none]) (by kernel_rfl) ?_)
  refine wpAny_bind (wpAny_of_eq (a := PySem.Str.ofString "big") (by kernel_rfl) ?_)
  refine wpAny_bind (wpAny_of_eq (a := false) rfl ?_)
  refine wpAny_bind (wpAny_of_eq (a := false) (by kernel_rfl) ?_)
  refine wpAny_bind (wpAny_of_eq (a := b) rfl ?_)
  show wpAny _ _ (mkIntGrown (b.toList.foldl (fun (acc : Int) (b : UInt8) => acc * 256 + (b.toNat : Int)) ((0 : Nat) : Int)) >>= fun v => _) _ _ _
  rw [KFB.foldI_eq]
  refine wpAny_bind (fb_grown hn (by omega) ?_)
  rw [hv]
  refine KFB.if_so (by decide +kernel) ?_
  exact wpAny_bind (wpAny_pure (wpAny_pure h))
theorem fb_call {x : Addr} {b : Array UInt8} {t u : Tok} {ks : List Int} {Q : Value → Shared → Prop} (N : News h₀ L s.heap news) (hm : (x, KFB.bound) ∈ news) (hb : KBw.bInts b = ks) (hl : ks.length ≤ 1000)
    (h : ∀ t' k, Q (.int (ks.foldl (fun a k => a * 256 + k) 0) t') { s with toks := k }) : wpAny (model prog w) A (call (.ref x) [.bytes b t] [(PySem.Str.ofString "byteorder", .str (PySem.Str.ofString "big") u)]) Q E s := by
  subst hb
  have ho := KFB.at_of N hm
  refine wpAny_call (codeAny_of_tree ?_)
  show wpAny _ A.in1 (callAny (.ref x) ⟨[.bytes b t], [(PySem.Str.ofString "byteorder", .str (PySem.Str.ofString "big") u)]⟩) _ _ s
  simp only [callAny]
  refine wpAny_bind (wpAny_load ho ?_)
  simp only [KFB.bound, show (Value.type "builtin_function_or_method" == Value.type "method" || Value.type "builtin_function_or_method" == Value.type "builtin_function_or_method" || Value.type "builtin_function_or_method" == Value.type "method-wrapper") = true by decide, if_true]
  refine KFB.if_so (by decide) ?_
  refine wpAny_bind (wpAny_of_eq (a := ()) fb_check ?_)
  refine wpAny_bind (wpAny_pure (wpAny_pure ?_))
  exact ⟨KFB.quiet_fb, codeAny_builtin KFB.entry_fb (fb_tree (by rw [← KBw.ints_length]; exact hl) (h _ _))⟩
end
end R
end Mine
-- R5
namespace Mine
namespace R
open Builtin
theorem ri_no_bytes : typeLookup (.type "list_reverseiterator") "__bytes__" = pure none := by rw [typeLookup_type, builtinLookup_eq_fast]; kernel_rfl
theorem ri_no_index : typeLookup (.type "list_reverseiterator") "__index__" = pure none := by rw [typeLookup_type, builtinLookup_eq_fast]; kernel_rfl
theorem ri_no_buffer : typeLookup (.type "list_reverseiterator") "__buffer__" = pure none := by rw [typeLookup_type, builtinLookup_eq_fast]; kernel_rfl
theorem ri_no_len : typeLookup (.type "list_reverseiterator") "__len__" = pure none := by rw [typeLookup_type, builtinLookup_eq_fast]; kernel_rfl
theorem ri_hint : typeLookup (.type "list_reverseiterator") "__length_hint__" = pure (some (.builtin "list_reverseiterator.__length_hint__")) := by rw [typeLookup_type, builtinLookup_eq_fast]; kernel_rfl
theorem ri_split : splitId "list_reverseiterator.__length_hint__" = some ("list_reverseiterator", "__length_hint__") := by decide +kernel
theorem ri_sub : isSubtype (.type "list_reverseiterator") (.type "list_reverseiterator") = pure true := by rw [isSubtype_type]; kernel_rfl
section
variable {prog : Program} {w : World} {A : Around} {E : Value → Shared → Prop} {s : Shared}
theorem bw_loop {R : Result → Shared → Prop} {I S : Addr} {fp wr : List Addr} {ns : List Int} {P : Nat → Value → Prop} {St : Nat → Heap → Prop} (W : Walks prog w A.in1 I fp wr ns.length P St) (hP : ∀ i v, i < ns.length → P i v → ∃ t, v = .int (ns.getD i 0) t) (hr : ∀ n ∈ ns, 0 ≤ n ∧ n < 256) (hz : ns.length ≤ sizeLine) (hS : S ∉ fp) :
    ∀ (k i : Nat) (s : Shared), ns.length - i = k → i ≤ ns.length → St i s.heap → s.heap.get? S = some { cls := .type "bytearray", data := .bytearray (byteArr (ns.take i)) } →
      (∀ h' t k', (∀ b o, b ∉ wr → b ≠ S → s.heap.get? b = some o → h'.get? b = some o) → R (.ok (.ret (.bytes (byteArr ns) t))) { s with heap := h', toks := k' }) →
      codeAny (model prog w) A (.builtin "bytes.__new__.loop" ⟨[.type "bytes", .ref I, .ref S], []⟩) R s := by
  intro k
  induction k with
  | zero =>
    intro i s hk hle hst hSv hR
    have hin : i = ns.length := by omega
    subst hin
    refine codeAny_builtin F.bm_entry_loop ?_
    rw [Around.under_plainId F.bm_plain_loop _]
    show wpAny _ A.in1 (pyNext (.ref I) >>= _) _ _ s
    refine wpAny_bind (W.done s _ _ hst fun h' tk he => ?_)
    have hS' : h'.get? S = some { cls := .type "bytearray", data := .bytearray (byteArr (ns.take ns.length)) } := he S _ (fun h => hS (W.sub _ h)) hSv
    refine wpAny_bind ?_
    unfold Builtin.Bytes.payload Builtin.Bytes.payload?
    refine wpAny_bind (wpAny_bind (wpAny_load hS' ?_))
    refine wpAny_pure (wpAny_pure ?_)
    rw [List.take_length]
    refine wpAny_bind (wpAny_mkBytes ?_ (by rw [byteArr_size]; exact hz))
    show wpAny _ _ (if (Value.type "bytes" == Value.type "bytes") = true then _ else _) _ _ _
    refine bm_if_true (by decide) ?_
    first
      | exact wpAny_pure (hR h' _ _ fun b o hb _ e => he b o hb e)
      | exact wpAny_bind (wpAny_pure (wpAny_pure (hR h' _ _ fun b o hb _ e => he b o hb e)))
  | succ k ih =>
    intro i s hk hle hst hSv hR
    have hlt : i < ns.length := by omega
    have hn : ns[i]? = some (ns.getD i 0) := by
      rw [List.getD_eq_getElem?_getD, List.getElem?_eq_getElem hlt]
      rfl
    obtain ⟨h0, h1⟩ := hr (ns.getD i 0) (List.mem_of_getElem? hn)
    refine codeAny_builtin F.bm_entry_loop ?_
    rw [Around.under_plainId F.bm_plain_loop _]
    show wpAny _ A.in1 (pyNext (.ref I) >>= _) _ _ s
    refine wpAny_bind (W.item i s _ _ hlt hst fun v h' tk hv hst' hs => ?_)
    obtain ⟨t, rfl⟩ := hP i v hlt hv
    have hS' : h'.get? S = some { cls := .type "bytearray", data := .bytearray (byteArr (ns.take i)) } := hs S _ (fun h => hS (W.sub _ h)) hSv
    refine wpAny_bind (wpAny_holding (wpAny_of_eq (rfl : asIndex (.int (ns.getD i 0) t) = pure (ns.getD i 0)) ?_))
    refine wpAny_bind (wpAny_letGo ?_)
    refine bm_if_false (by simp only [Bool.or_eq_false_iff, decide_eq_false_iff_not]; omega) ?_
    refine wpAny_bind ?_
    show wpAny _ _ (updateBytearray S (·.push (ns.getD i 0).toNat.toUInt8)) _ _ _
    unfold updateBytearray
    refine wpAny_bind (wpAny_load hS' ?_)
    show wpAny _ _ (update S (Obj.mapBytearray (·.push (ns.getD i 0).toNat.toUInt8)) >>= fun _ => lookBehind S) _ _ _
    refine wpAny_bind (wpAny_update hS' ?_)
    have hS₂ : (h'.update S (Obj.mapBytearray (·.push (ns.getD i 0).toNat.toUInt8))).get? S = some { cls := .type "bytearray", data := .bytearray (byteArr (ns.take (i + 1))) } := by
      rw [byteArr_take hn]
      exact Heap.get?_update_self (Obj.mapBytearray (·.push (ns.getD i 0).toNat.toUInt8)) hS' rfl
    refine wpAny_lookBehind hS₂ ?_ ?_
    · show (if (byteArr (ns.take (i + 1))).size > sizeLine then some "bytearray:memory" else none) = none
      rw [if_neg]
      rw [byteArr_size, List.length_take]
      omega
    · refine wpAny_pure ⟨plainId_quiet F.bm_plain_loop _, ih (i + 1) { s with heap := h'.update S (Obj.mapBytearray (·.push (ns.getD i 0).toNat.toUInt8)), toks := tk } (by omega) hlt ?_ hS₂ fun h3 t' k' hk3 => ?_⟩
      · exact W.frame _ _ _ hst' fun b hb o e => (Heap.get?_update_other _ _ (fun q => hS (by rw [q]; exact hb))).trans e
      · exact hR h3 t' k' fun b o hbI hbS e => hk3 b o hbI hbS ((Heap.get?_update_other _ _ (Ne.symm hbS)).trans (hs b o hbI e))
theorem bw_new {l I : Addr} {vs : List Value} {ns : List Int} {Q : Value → Shared → Prop} (hh : A.handled = none) (hl : s.heap.IsList l vs.toArray) (hI : s.heap.get? I = some (revObj l ((vs.length : Int) - 1))) (hlI : l ≠ I) (hi : IntsAre vs ns) (hr : ∀ n ∈ ns, 0 ≤ n ∧ n < 256) (hz : ns.length ≤ sizeLine)
    (hQ : ∀ h' t k, (∀ b o, b ≠ I → s.heap.get? b = some o → h'.get? b = some o) → Q (.bytes (byteArr ns.reverse) t) { s with heap := h', toks := k }) :
    codeAny (model prog w) A (.call (.builtin "bytes.__new__") ⟨[.type "bytes", .ref I], []⟩) (wants Q E) s := by
  have hlen : vs.length = ns.length := hi.length
  have hrev : s.heap.IsRevIter I l ((vs.length : Int) - 1) := ⟨_, hI, rfl, rfl⟩
  have hT : s.TypeIs (.ref I) "list_reverseiterator" := hrev.typeIs
  refine codeAny_of_tree ?_
  show wpAny _ A.in1 (do checkBuiltinCall "bytes.__new__" ⟨[.type "bytes", .ref I], []⟩; again (.builtin "bytes.__new__" ⟨[.type "bytes", .ref I], []⟩)) _ _ s
  refine wpAny_bind (wpAny_of_eq (F.bm_newCall _) (wpAny_pure ⟨plainId_quiet F.bm_plain _, codeAny_builtin F.bm_entry ?_⟩))
  rw [Around.under_plainId F.bm_plain _]
  unfold Builtin.«bytes.__new__»
  refine wpAny_bind (wpAny_of_eq (a := true) rfl ?_)
  refine bm_if_false rfl ?_
  refine wpAny_bind (wpAny_of_eq F.bm_sub ?_)
  refine bm_if_false rfl ?_
  refine wpAny_bind (wpAny_of_eq (F.bm_bind _) ?_)
  refine wpAny_bind (wpAny_of_eq (a := ()) rfl ?_)
  refine wpAny_bind (wpAny_of_eq (a := ()) rfl ?_)
  refine bm_if_false rfl ?_
  refine wpAny_bind (wpAny_specialOf hT ri_no_bytes ?_)
  refine wpAny_bind (wpAny_bind ?_)
  show wpAny _ _ (load I >>= _) _ _ _
  refine wpAny_bind (wpAny_load hI ?_)
  refine wpAny_pure (wpAny_pure ?_)
  refine bm_if_false rfl ?_
  refine wpAny_bind (wpAny_specialOf hT ri_no_index ?_)
  refine bm_if_true rfl ?_
  first
    | show wpAny _ _ (Builtin.Bytes.buffer? "bytes.__new__" (.ref I) true >>= _) _ _ _
    | (refine wpAny_bind ?_; show wpAny _ _ (Builtin.Bytes.buffer? "bytes.__new__" (.ref I) true >>= _) _ _ _)
  refine wpAny_bind ?_
  unfold Builtin.Bytes.buffer?
  refine wpAny_bind (wpAny_specialOf hT ri_no_buffer ?_)
  refine wpAny_bind (wpAny_specialOf hT ri_no_buffer ?_)
  refine wpAny_pure ?_
  refine wpAny_bind (wpAny_tryCatch (wpAny_pyIter_revIter hrev ?_))
  refine wpAny_bind (wpAny_holding ?_)
  unfold Builtin.Bytes.lengthHint
  refine wpAny_bind (wpAny_specialOf hT ri_no_len ?_)
  dsimp only
  refine bm_if_false rfl ?_
  refine bm_if_false rfl ?_
  refine wpAny_bind (wpAny_specialOf hT ri_hint ?_)
  dsimp only
  rw [ri_split]
  dsimp only
  refine wpAny_bind (wpAny_isInstance hT ri_sub ?_)
  refine bm_if_false rfl ?_
  refine bm_if_true (by decide +kernel) ?_
  refine bm_if_false (by decide) ?_
  refine wpAny_pure ?_
  refine wpAny_bind ?_
  unfold Builtin.Bytes.newBytearray
  refine wpAny_newObj_type ?_ (Nat.zero_le _)
  have hne : ∀ b, b ∈ [I, l] → s.heap.objs.size ≠ b := fun b hb e => by
    rcases List.mem_cons.mp hb with rfl | hb
    · exact absurd (Heap.lt_size hI) (by rw [e]; exact Nat.lt_irrefl _)
    · rw [List.mem_singleton.mp hb] at e
      obtain ⟨o, ho, _⟩ := id hl
      exact absurd (Heap.lt_size ho) (by rw [e]; exact Nat.lt_irrefl _)
  have W := Walks.listRev (prog := prog) (w := w) (A := A.in1) hh I l hlI vs.toArray
  have hsz : vs.toArray.size = ns.reverse.length := by simp [hlen]
  have hP : ∀ i v, i < ns.reverse.length → vs.toArray[vs.toArray.size - 1 - i]? = some v → ∃ t, v = .int (ns.reverse.getD i 0) t := by
    intro i v hiL hv
    obtain ⟨n, t, rfl, hn⟩ := IntsAre.at hi (vs.length - 1 - i) v (by simpa using hv)
    refine ⟨t, ?_⟩
    rw [List.getD_eq_getElem?_getD, List.getElem?_reverse (by simpa using hiL), ← hlen, hn]
    rfl
  have main := bw_loop (prog := prog) (w := w) (A := A) (R := wants Q E) (ns := ns.reverse) (P := fun i v => vs.toArray[vs.toArray.size - 1 - i]? = some v) (St := fun i h => i ≤ vs.toArray.size ∧ h.IsRevIter I l ((vs.toArray.size : Int) - 1 - (i : Int)) ∧ h.IsList l vs.toArray) (S := s.heap.objs.size) (fp := [I, l]) (wr := [I]) (I := I) (by rw [← hsz]; exact W) hP (fun n hn => hr n (List.mem_reverse.mp hn)) (by rw [List.length_reverse]; exact hz) (fun hm => hne _ hm rfl)
    ns.reverse.length 0 { s with heap := s.heap.push { cls := .type "bytearray", data := .bytearray #[] } } rfl (Nat.zero_le _) ⟨Nat.zero_le _, ⟨_, Heap.get?_push_of_some _ hI, rfl, by simp [revObj]⟩, hl.push _⟩ (Heap.get?_push_size _ rfl)
    fun h' t k hk => hQ h' t k fun b o hb e => hk b o (by simpa using hb) (Nat.ne_of_lt (Heap.lt_size e)) (Heap.get?_push_of_some _ e)
  first
    | exact wpAny_pure ⟨plainId_quiet F.bm_plain_loop _, main⟩
    | exact wpAny_pure (wpAny_pure ⟨plainId_quiet F.bm_plain_loop _, main⟩)
theorem bw_call {h₀ : Heap} {L l I : Addr} {m : PySem.Str → Option Value} {news : List (Addr × Obj)} {vs : List Value} {ns : List Int} {Q : Value → Shared → Prop} (Fz : Fr h₀ L s.heap m) (N : News h₀ L s.heap ((I, revObj l ((vs.length : Int) - 1)) :: news)) (hoff : ∀ p ∈ news, p.1 ≠ I) (hl : s.heap.IsList l vs.toArray) (hlI : l ≠ I) (hi : IntsAre vs ns) (hr : ∀ n ∈ ns, 0 ≤ n ∧ n < 256) (hz : ns.length ≤ 16777216) (hh : A.handled = none)
    (h : ∀ h' t k, Fr h₀ L h' m → News h₀ L h' news → Q (.bytes (byteArr ns.reverse) t) { s with heap := h', toks := k }) : wpAny (model prog w) A (call (.type "bytes") [.ref I]) Q E s := by
  have hI := N (I, _) (.head _)
  refine callType_codes (Q₁ := fun obj s₁ => s₁.TypeIs obj "bytes" ∧ Q obj s₁) F.bm_called (F.bm_typeCall _) F.entry_object_init
    (bw_new hh hl hI.1 hlI hi hr (by rw [sizeLine_eq]; exact hz) fun h' t k hk => ⟨PySem.W.typeIs_bytes _ _ _, h h' t k ?_ ?_⟩) fun obj s₁ h₁ => ?_
  · obtain ⟨oL, a1, a2, hL, a3⟩ := Fz.ns
    exact ⟨⟨oL, a1, a2, hk _ _ (Ne.symm hI.2.1) hL, a3⟩, fun b o e => hk b o (fun q => by have := hI.2.2; rw [← q, e] at this; cases this) (Fz.keep b o e), Fz.above⟩
  · exact fun p hp => ⟨hk _ _ (hoff p hp) (N p (.tail _ hp)).1, (N p (.tail _ hp)).2⟩
  · exact ⟨h₁.1, F.args_object_init_2 obj _, object_init_meets F.bm_called.init.lookup F.bm_called.made (by decide) prog w A.in1 _ s₁ ⟨h₁.1, rfl, h₁.2⟩⟩
end
end R
end Mine
-- R6
namespace Mine
namespace R
open Builtin KBw PyProof.V
set_option maxHeartbeats 8000000 in
theorem meets_enumerate_newB (b : Array UInt8) (t : Tok) :
    Meets (Builtin.«enumerate.__new__» ⟨[.type "enumerate", .bytes b t], []⟩) (fun _ R s =>
      R (.ok (.ret (.ref (s.heap.push { cls := .type "bytes_iterator", data := .fields #[.bytes b t, .int 0 0] }).objs.size)))
        { s with heap := (s.heap.push { cls := .type "bytes_iterator", data := .fields #[.bytes b t, .int 0 0] }).push { cls := .type "enumerate", data := .fields #[.none, .bool false, .ref s.heap.objs.size, rawInt 0, .none, .none] } }) :=
  .of_wp fun prog w A R s h => by
    obtain ⟨hp, g, d, tk, os⟩ := s
    have hsub := sub_enumerate
    wp_walk
    refine wpAny_stack_any fun st => wpAny_pure ?_
    split
    · rename_i c _ _ _ _ _
      cases (c == Value.type "enumerate")
      · wp_walk using KBw.pyIter_bytes
        exact ⟨_, rfl, h⟩
      · wp_walk using KBw.pyIter_bytes
        exact ⟨_, rfl, h⟩
    · wp_walk using KBw.pyIter_bytes
      exact ⟨_, rfl, h⟩
section
variable {prog : Program} {w : World} {A : Around} {E : Value → Shared → Prop} {s : Shared}
theorem call_enumerate_bytes {b : Array UInt8} {t : Tok} {Q : Value → Shared → Prop}
    (h : ∀ h', IsEnum h' (s.heap.objs.size + 1) s.heap.objs.size 0 .none → IsBytesIter h' s.heap.objs.size b t 0 → h'.objs.size = s.heap.objs.size + 2 →
      (∀ b o, s.heap.get? b = some o → h'.get? b = some o) → Q (.ref (s.heap.objs.size + 1)) { s with heap := h' }) :
    wpAny (model prog w) A (call (.type "enumerate") [.bytes b t]) Q E s := by
  refine callType_new F.called_enumerate (by decide) (F.typeCall_enumerate_1 _) (F.newCall_enumerate_1 _) (fun obj => F.args_object_init_2 obj _) F.entry_enumerate_new
    (meets_enumerate_newB b t) ?_
  have hz : (s.heap.push { cls := .type "bytes_iterator", data := .fields #[.bytes b t, .int 0 0] }).objs.size = s.heap.objs.size + 1 := Heap.size_push ..
  show _ ∧ _
  rw [hz]
  have he : IsEnum ((s.heap.push { cls := .type "bytes_iterator", data := .fields #[.bytes b t, .int 0 0] }).push
      { cls := .type "enumerate", data := .fields #[.none, .bool false, .ref s.heap.objs.size, rawInt 0, .none, .none] }) (s.heap.objs.size + 1) s.heap.objs.size 0 .none := by
    have := Heap.get?_push_size (s.heap.push { cls := .type "bytes_iterator", data := .fields #[.bytes b t, .int 0 0] })
      (o := { cls := .type "enumerate", data := .fields #[.none, .bool false, .ref s.heap.objs.size, rawInt 0, .none, .none] }) rfl
    rw [hz] at this; exact this
  refine ⟨⟨_, he, rfl⟩, h _ he ⟨_, Heap.get?_push_of_some _ (Heap.get?_push_size _ rfl), rfl, rfl⟩ (by rw [Heap.size_push, hz]) fun b o y => Heap.get?_push_of_some _ (Heap.get?_push_of_some _ y)⟩
theorem nextOfB_item {it : Addr} {b : Array UInt8} {t : Tok} {i : Nat} {c : UInt8} {Q : Value → Shared → Prop} (hit : IsBytesIter s.heap it b t i) (hx : b[i]? = some c)
    (hQ : ∀ h', IsBytesIter h' it b t (i + 1) → Heap.SameBut it s.heap h' → Q (.int (c.toNat : Int) s.toks) { s with heap := h', toks := s.toks + 1 }) :
    wpAny (model prog w) A (Builtin.SmallTypes.nextOf (.ref it)) Q E s := by
  obtain ⟨o, ho, hc, hd⟩ := id hit
  unfold Builtin.SmallTypes.nextOf
  refine wpAny_bind (wpAny_callSpecial?_slot (name := PySem.Str.ofString "__next__") (iter_typeIs hit) slot_next
    (wpAny_call_entry slot_next (iter_typeIs hit) entry_next ?_ (args_next _)))
  show wpAny _ _ (field (.ref it) 0 >>= _) _ _ s
  refine wpAny_bind (wpAny_field ho hd (x := .bytes b t) rfl ?_)
  show wpAny _ _ (if (Value.bytes b t == Value.none) = true then _ else _) _ _ s
  rw [if_neg (show ¬ ((Value.bytes b t == Value.none) = true) from Bool.false_ne_true)]
  show wpAny _ _ (field (.ref it) 1 >>= _) _ _ s
  refine wpAny_bind (wpAny_field ho hd (x := .int i 0) rfl ?_)
  refine wpAny_bind (wpAny_of_eq (a := b) rfl ?_)
  simp only [Int.toNat_natCast, hx]
  refine wpAny_bind (wpAny_setField ho hd (by simp) (wpAny_bind (wpAny_mkInt (wpAny_pure ⟨_, rfl, wpAny_pure (hQ _ ?_ (Heap.SameBut.update ..))⟩))))
  exact ⟨_, Heap.get?_update_self _ ho (Obj.isFreed_of_fields (Obj.data_mapFields hd _)), (Obj.cls_mapFields ..).trans hc, by
    rw [Obj.data_mapFields hd]; simp [rawInt]⟩
theorem nextOfB_end {it : Addr} {b : Array UInt8} {t : Tok} {i : Nat} {Q : Value → Shared → Prop} (hh : A.handled = none) (hit : IsBytesIter s.heap it b t i) (hx : b[i]? = none)
    (hE : ∀ h' e, Heap.ExtBut it s.heap h' → (∃ o, h'.get? e = some o ∧ o.cls = .type "StopIteration") → E (.ref e) { s with heap := h' }) :
    wpAny (model prog w) A (Builtin.SmallTypes.nextOf (.ref it)) Q E s := by
  obtain ⟨o, ho, hc, hd⟩ := id hit
  unfold Builtin.SmallTypes.nextOf
  refine wpAny_bind (wpAny_callSpecial?_slot (name := PySem.Str.ofString "__next__") (iter_typeIs hit) slot_next
    (wpAny_call_entry slot_next (iter_typeIs hit) entry_next ?_ (args_next _)))
  show wpAny _ _ (field (.ref it) 0 >>= _) _ _ s
  refine wpAny_bind (wpAny_field ho hd (x := .bytes b t) rfl ?_)
  show wpAny _ _ (if (Value.bytes b t == Value.none) = true then _ else _) _ _ s
  rw [if_neg (show ¬ ((Value.bytes b t == Value.none) = true) from Bool.false_ne_true)]
  show wpAny _ _ (field (.ref it) 1 >>= _) _ _ s
  refine wpAny_bind (wpAny_field ho hd (x := .int i 0) rfl ?_)
  refine wpAny_bind (wpAny_of_eq (a := b) rfl ?_)
  simp only [Int.toNat_natCast, hx]
  refine wpAny_bind (wpAny_rule (wpAny_bind (wpAny_setField ho hd (by simp) ?_)))
  show wpAny _ _ (newExc (.type "StopIteration") [] >>= _) _ _ _
  refine wpAny_bind ?_
  simp only [newExc, newTuple]
  refine wpAny_bind (wpAny_newObj_type ?_ (by size_fits))
  refine wpAny_bind (m := firstArgMember _ _) (wpAny_of_eq (a := Value.none) (by first | rfl | (simp only [firstArgMember]; rfl)) ?_)
  refine wpAny_newObj_type ?_ (by size_fits)
  simp only [raiseNew]
  refine wpAny_bind (wpAny_handled ?_)
  first | rw [show A.in1.handled = none from hh] | rw [hh]
  refine wpAny_bind (wpAny_pure (wpAny_throw ?_))
  exact hE _ _ (((Heap.SameBut.update ..).extBut.push _).push _) ⟨_, Heap.get?_push_size _ rfl, rfl⟩
theorem biter_ext {h h' : Heap} {it e : Addr} {b : Array UInt8} {t : Tok} {i : Nat} (x : IsBytesIter h it b t i) (hs : Heap.ExtBut e h h') (hne : it ≠ e) : IsBytesIter h' it b t i :=
  let ⟨o, ho, r⟩ := x; ⟨o, hs it o hne ho, r⟩
theorem enumerateB_next_item {e it : Addr} {i : Nat} {b : Array UInt8} {t : Tok} {c : UInt8} {old : Value} {Q : Value → Shared → Prop}
    (he : IsEnum s.heap e it i old) (hit : IsBytesIter s.heap it b t i) (hx : b[i]? = some c) (hne : e ≠ it)
    (hQ : ∀ h', IsEnumOut h' e it ((i : Int) + 1) (.int (c.toNat : Int) s.toks) s.heap.objs.size → IsBytesIter h' it b t (i + 1) →
      h'.get? s.heap.objs.size = some { cls := .type "tuple", data := .seq #[.int i (s.toks + 1), .int (c.toNat : Int) s.toks] } → h'.objs.size = s.heap.objs.size + 1 →
      (∀ b o, b ≠ e → b ≠ it → s.heap.get? b = some o → h'.get? b = some o) → Q (.ref s.heap.objs.size) { s with heap := h', toks := s.toks + 1 + 1 }) :
    wpAny (model prog w) A (Builtin.«enumerate.__next__» ⟨[.ref e], []⟩) (fun fin s' => ∃ v, fin = .done (.ret v) ∧ Q v s') E s := by
  obtain ⟨hp, g, d, tk, os⟩ := s
  show wpAny _ _ (field (.ref e) 2 >>= _) _ _ _
  refine wpAny_bind (wpAny_field he rfl (x := .ref it) rfl ?_)
  refine wpAny_bind (nextOfB_item hit hx fun h₁ hit₁ hs₁ => ?_)
  replace hs₁ : Heap.SameBut it hp h₁ := hs₁
  have he₁ : IsEnum h₁ e it i old := (hs₁.2 e hne).trans he
  show wpAny _ _ (field (.ref e) 3 >>= _) _ _ ⟨h₁, g, d, tk + 1, os⟩
  refine wpAny_bind (wpAny_field he₁ rfl (x := rawInt i) rfl ?_)
  show wpAny _ _ (field (.ref e) 4 >>= _) _ _ ⟨h₁, g, d, tk + 1, os⟩
  refine wpAny_bind (wpAny_field he₁ rfl (x := .none) rfl ?_)
  show wpAny _ _ (mkInt i >>= _) _ _ ⟨h₁, g, d, tk + 1, os⟩
  refine wpAny_bind (wpAny_mkInt ?_)
  show wpAny _ _ (setField (.ref e) 3 (rawInt ((i : Int) + 1)) >>= _) _ _ ⟨h₁, g, d, tk + 1 + 1, os⟩
  refine wpAny_bind (wpAny_setField_rec he₁ (by simp) fun h₂ he₂ hs₂ => ?_)
  replace hs₂ : Heap.SameBut e h₁ h₂ := hs₂
  replace he₂ : IsEnum h₂ e it ((i : Int) + 1) old := he₂
  show wpAny _ _ (setField (.ref e) 4 .none >>= _) _ _ ⟨h₂, g, d, tk + 1 + 1, os⟩
  refine wpAny_bind (wpAny_setField_rec he₂ (by simp) fun h₃ he₃ hs₃ => ?_)
  replace hs₃ : Heap.SameBut e h₂ h₃ := hs₃
  replace he₃ : IsEnum h₃ e it ((i : Int) + 1) old := he₃
  show wpAny _ _ (newTuple [.int i (tk + 1), .int (c.toNat : Int) tk] >>= _) _ _ ⟨h₃, g, d, tk + 1 + 1, os⟩
  refine wpAny_bind (wpAny_newTuple ?_)
  have he₄ : IsEnum (h₃.push { cls := .type "tuple", data := .seq #[.int i (tk + 1), .int (c.toNat : Int) tk] }) e it ((i : Int) + 1) old := Heap.get?_push_of_some _ he₃
  generalize hh₄ : h₃.push { cls := .type "tuple", data := .seq #[.int i (tk + 1), .int (c.toNat : Int) tk] } = h₄ at he₄
  have hsz : h₃.objs.size = hp.objs.size := by rw [hs₃.1, hs₂.1, hs₁.1]
  have hel : e < hp.objs.size := Heap.lt_size he
  have ht₄ : h₄.get? hp.objs.size = some { cls := .type "tuple", data := .seq #[.int i (tk + 1), .int (c.toNat : Int) tk] } := by rw [← hh₄, ← hsz]; exact Heap.get?_push_size _ rfl
  have hz₄ : h₄.objs.size = hp.objs.size + 1 := by rw [← hh₄, Heap.size_push, hsz]
  have hk₄ : ∀ b o, b ≠ e → b ≠ it → hp.get? b = some o → h₄.get? b = some o := fun b o hbe hbi hb => by
    rw [← hh₄]; exact Heap.get?_push_of_some _ (hs₃.extBut b o hbe (hs₂.extBut b o hbe (hs₁.extBut b o hbi hb)))
  have hit₄ : IsBytesIter h₄ it b t (i + 1) := by
    rw [← hh₄]; obtain ⟨o, ho, r⟩ := biter_ext (biter_ext hit₁ hs₂.extBut (Ne.symm hne)) hs₃.extBut (Ne.symm hne); exact ⟨o, Heap.get?_push_of_some _ ho, r⟩
  show wpAny _ _ (Builtin.SmallTypes.ownedTupleIsFree (.ref e) >>= _) _ _ ⟨h₄, g, d, tk + 1 + 1, os⟩
  rw [hsz]
  clear hh₄ he₃ hs₃ he₂ hs₂ he₁ hs₁ hit₁ hsz h₃ h₂ h₁
  refine wpAny_bind ?_
  · unfold Builtin.SmallTypes.ownedTupleIsFree
    refine wpAny_bind (wpAny_field he₄ rfl (x := .none) rfl (wpAny_pure ?_))
    simp only [if_true]
    refine wpAny_bind (wpAny_rule ?_)
    refine wpAny_bind (wpAny_field he₄ rfl (x := old) rfl ?_)
    refine wpAny_bind (wpAny_setField_rec he₄ (by simp) fun h₅ he₅ hs₅ => ?_)
    replace hs₅ : Heap.SameBut e h₄ h₅ := hs₅
    replace he₅ : IsEnum h₅ e it ((i : Int) + 1) (.int (c.toNat : Int) tk) := he₅
    show wpAny _ _ (Builtin.SmallTypes.ownedTupleHandOut (.ref e) (.ref hp.objs.size) >>= _) _ _ ⟨h₅, g, d, tk + 1 + 1, os⟩
    refine wpAny_bind ?_
    · unfold Builtin.SmallTypes.ownedTupleHandOut
      refine wpAny_bind (wpAny_setField_rec he₅ (by simp) fun h₆ he₆ hs₆ => ?_)
      replace hs₆ : Heap.SameBut e h₅ h₆ := hs₆
      replace he₆ : IsEnumOut h₆ e it ((i : Int) + 1) (.int (c.toNat : Int) tk) hp.objs.size := he₆
      refine wpAny_setField_rec he₆ (by simp) fun h₇ he₇ hs₇ => ?_
      replace hs₇ : Heap.SameBut e h₆ h₇ := hs₇
      replace he₇ : IsEnumOut h₇ e it ((i : Int) + 1) (.int (c.toNat : Int) tk) hp.objs.size := he₇
      refine wpAny_bind (wpAny_letGo (wpAny_pure ⟨_, rfl, hQ h₇ he₇ ?_ ?_ ?_ ?_⟩))
      · exact biter_ext (biter_ext (biter_ext hit₄ hs₅.extBut (Ne.symm hne)) hs₆.extBut (Ne.symm hne)) hs₇.extBut (Ne.symm hne)
      · exact hs₇.extBut _ _ (Nat.ne_of_gt hel) (hs₆.extBut _ _ (Nat.ne_of_gt hel) (hs₅.extBut _ _ (Nat.ne_of_gt hel) ht₄))
      · rw [hs₇.1, hs₆.1, hs₅.1, hz₄]
      · exact fun b o hbe hbi hb => hs₇.extBut b o hbe (hs₆.extBut b o hbe (hs₅.extBut b o hbe (hk₄ b o hbe hbi hb)))
theorem pyNext_enumB_item {e it : Addr} {i : Nat} {b : Array UInt8} {t : Tok} {c : UInt8} {old : Value} {Q : Option Value → Shared → Prop}
    (he : IsEnum s.heap e it i old) (hit : IsBytesIter s.heap it b t i) (hx : b[i]? = some c) (hne : e ≠ it)
    (hQ : ∀ h', IsEnumOut h' e it ((i : Int) + 1) (.int (c.toNat : Int) s.toks) s.heap.objs.size → IsBytesIter h' it b t (i + 1) →
      h'.get? s.heap.objs.size = some { cls := .type "tuple", data := .seq #[.int i (s.toks + 1), .int (c.toNat : Int) s.toks] } → h'.objs.size = s.heap.objs.size + 1 →
      (∀ b o, b ≠ e → b ≠ it → s.heap.get? b = some o → h'.get? b = some o) → Q (some (.ref s.heap.objs.size)) { s with heap := h', toks := s.toks + 1 + 1 }) :
    wpAny (model prog w) A (pyNext (.ref e)) Q E s := by
  have hT : s.TypeIs (.ref e) "enumerate" := ⟨_, he, rfl⟩
  unfold pyNext
  exact wpAny_bind (wpAny_attempt (wpAny_callSpecial?_slot (name := PySem.Str.ofString "__next__") hT F.slot_enumerate_next
    (wpAny_call_entry F.slot_enumerate_next hT F.entry_enumerate_next
      (enumerateB_next_item he hit hx hne fun h' a b c d k => wpAny_pure (hQ h' a b c d k)) (F.args_enumerate_next_1 _))))
theorem pyNext_enumB_end {e it : Addr} {i : Nat} {b : Array UInt8} {t : Tok} {old : Value} {Q : Option Value → Shared → Prop} (hh : A.handled = none)
    (he : IsEnum s.heap e it i old) (hit : IsBytesIter s.heap it b t i) (hx : b[i]? = none)
    (hQ : ∀ h', Heap.ExtBut it s.heap h' → Q none { s with heap := h' }) : wpAny (model prog w) A (pyNext (.ref e)) Q E s := by
  have hT : s.TypeIs (.ref e) "enumerate" := ⟨_, he, rfl⟩
  unfold pyNext
  refine wpAny_bind (wpAny_attempt (wpAny_callSpecial?_slot (name := PySem.Str.ofString "__next__") hT F.slot_enumerate_next
    (wpAny_call_entry F.slot_enumerate_next hT F.entry_enumerate_next ?_ (F.args_enumerate_next_1 _))))
  show wpAny _ _ (field (.ref e) 2 >>= _) _ _ _
  refine wpAny_bind (wpAny_field he rfl (x := .ref it) rfl ?_)
  refine wpAny_bind (nextOfB_end hh hit hx fun h' x he' hx' => ?_)
  obtain ⟨o, ho, hc⟩ := hx'
  refine wpAny_bind (wpAny_isInstance (T := "StopIteration") (b := true) ⟨o, ho, hc⟩ isSubtype_stop ?_)
  exact wpAny_pure (hQ _ he')
/-- the loop of a dict comprehension whose target takes a tuple apart -/
theorem dc_loop {kx vx target iter : PySem.Expr} {scope : Scope} {pos : Pos} {it : Value} {D : Addr} {env : Env} {R : Result → Shared → Prop} (I : Nat → Shared → Prop)
    (turn : ∀ n s, I n s → wpAny (model prog w) A (pyNext it) (fun r s₁ => match r with
      | none => R (.ok .next) s₁
      | some v => wpAny (model prog w) A (letOwnedTupleGo target it v) (fun _ s₀ => wpAny (model prog w) A (assign target env v) (fun _ s₂ =>
          wpAny (model prog w) A (eval kx env) (fun kv s₄ => wpAny (model prog w) A (eval vx env) (fun vv s₅ =>
            wpAny (model prog w) A (dictSet D kv vv) (fun _ s₆ => ∃ m, m < n ∧ I m s₆) (notedBy (model prog w) A env fun e s' => R (.error e) s') s₅) (notedBy (model prog w) A env fun e s' => R (.error e) s') s₄) (notedBy (model prog w) A env fun e s' => R (.error e) s') s₂)
          (notedBy (model prog w) A env fun e s' => R (.error e) s') s₀) (notedBy (model prog w) A env fun e s' => R (.error e) s') s₁) (notedBy (model prog w) A env fun e s' => R (.error e) s') s)
    (n : Nat) (h : I n s) : codeAny (model prog w) A (.compLoop (.DictComp kx vx [⟨target, iter, [], 0⟩] scope pos) 0 it (.ref D) env) R s := by
  refine codeAny_loop rfl I (fun n s hI => ?_) n h
  show wpAny _ A ((compTurn (.DictComp kx vx [⟨target, iter, [], 0⟩] scope pos) 0 it (.ref D) env).onRaise (fun x => do noteFrame x env; theTreesLotGoes x)) _ _ s
  refine wpAny_noted ?_
  rw [compTurn_dict]
  refine wpAny_bind (wpAny_standAt (wpAny_bind (wpAny_mono (turn n s hI) (fun r s₁ h₁ => ?_) fun _ _ h' => h')))
  cases r with
  | none => exact wpAny_pure h₁
  | some v =>
    refine wpAny_bind (wpAny_mono h₁ (fun _ s₀ h₀' => ?_) fun _ _ h' => h')
    refine wpAny_bind (wpAny_mono h₀' (fun _ s₂ h₂ => ?_) fun _ _ h' => h')
    refine wpAny_bind (wpAny_tests_nil ?_)
    exact wpAny_bind (wpAny_bind (wpAny_mono h₂ (fun kv s₄ h₄ => wpAny_bind (wpAny_holding (wpAny_mono h₄ (fun vv s₅ h₅ => wpAny_bind (wpAny_standAt (wpAny_holding (wpAny_mono h₅ (fun _ s₆ h₆ => wpAny_pure ⟨rfl, h₆⟩) fun _ _ h' => h')))) fun _ _ h' => h'))) fun _ _ h' => h'))
end
end R
end Mine
-- R7
namespace Mine
namespace R
open Builtin KBw PyProof.V
def invI (ks : List Int) : Nat → List (Int × Int)
  | 0 => []
  | i + 1 => kdfPut (invI ks i) (ks.getD i 0) (i : Int)
theorem invI_len (ks : List Int) : ∀ i, (invI ks i).length ≤ i
  | 0 => Nat.le_refl _
  | i + 1 => Nat.le_trans (kdfPut_len _ _ _) (Nat.succ_le_succ (invI_len ks i))
theorem assign_rule {M : Model} {A : Around} {E : Value → Shared → Prop} {s : Shared} {env : Env} {x : PySem.Str} {pos' pos : Pos} {value : PySem.Expr} {Q : Flow → Shared → Prop} (hs : swapsWith value (some (.Name x pos')) pos.line env = pure false)
    (h : wpAny M A (eval value env) (fun v s' => wpAny M A (storeName env x v) (fun _ s'' => Q .next s'') E s') E s) : wpAny M A (exec (.Assign [.Name x pos'] value pos) env) Q E s := by
  rw [exec_Assign_Name _ _ _ _ _ hs]
  exact wpAny_bind (wpAny_standAt (wpAny_bind (wpAny_mono h (fun v s' h' => wpAny_bind (wpAny_standAt (wpAny_bind (wpAny_bindName (wpAny_mono h' (fun _ _ h'' => wpAny_pure h'') fun _ _ x => x))))) fun _ _ x => x)))
section
variable {prog : Program} {w : World} {A : Around} {E : Value → Shared → Prop} {h₀ : Heap} {L : Addr} {m : PySem.Str → Option Value} {env : Env}
theorem dc_block {iter : PySem.Expr} {a b : PySem.Str} {pa pb pk pv tp : Pos} {kk : Nat} {scope : Scope} {cl : List (PySem.Str × Addr)} {pos : Pos} {s₂ : Shared} {e it : Addr} {B : Array UInt8} {t : Tok} {ks : List Int} {news : List (Addr × Obj)} {RR : Value → Addr → Result → Shared → Prop}
    (hb : KBw.bInts B = ks) (hz : ks.length ≤ 16777216) (hh : A.handled = none) (hne : e ≠ it)
    (he : IsEnum s₂.heap e it 0 .none) (hit : IsBytesIter s₂.heap it B t 0)
    (hcell : ∀ y ∈ scope.names, y.2 ≠ .cell) (hkind : scope.kind = .function) (hxa : scope.names.lookup a = some .local) (hxb : scope.names.lookup b = some .local) (hab : ¬ a = b)
    (hda : (a == ("__debug__" : PySem.Str)) = false) (hdb : (b == ("__debug__" : PySem.Str)) = false)
    (F : Fr h₀ L s₂.heap m) (N : News h₀ L s₂.heap news) (heL : L ≠ e) (hiL : L ≠ it) (he₀ : h₀.get? e = none) (hi₀ : h₀.get? it = none) (off : ∀ p ∈ news, p.1 ≠ e ∧ p.1 ≠ it)
    (hRR : ∀ D C h tk m' o kvs, o.IsDictOf (PySem.intKind prog w) kvs → FlatPairs PyData.int kvs (kdfD (invI ks ks.length)) → Fr h₀ L h m → News h₀ L h ((D, o) :: news) → L < D → (∀ p ∈ news, p.1 ≠ D) → h.Ns C m' → h₀.get? C = none → h₀.get? D = none → C ≠ L → D ≠ L → C ≠ D → (∀ p ∈ news, p.1 ≠ C) → RR (.ref D) C (.ok .next) { s₂ with heap := h, toks := tk }) :
    wpAny (model prog w) A newDict (fun acc s₃ => wpAny (model prog w) A (newFunctionEnv scope env.globals cl [] env.qual none .none (some env)) (fun cenv s₄ =>
      codeAny (model prog w) A (.compStart (.DictComp (.Name b pk) (.Name a pv) [⟨.Tuple [.Name a pa, .Name b pb] kk tp, iter, [], 0⟩] scope pos) 0 (.ref e) acc { cenv with scope := relabel scope env }) (RR acc cenv.locals) s₄) E s₃) E s₂ := by
  refine wpAny_newObj_type (wpAny_newFunctionEnv hcell (by intro y hy; simp at hy) (fun h₁ hns₁ hsb₁ => ?_) hkind)
  dsimp only at hns₁ hsb₁ ⊢
  have hnew : (s₂.heap.push { cls := .type "dict", dict := none, data := .dict #[] }).DictOf (PySem.intKind prog w) s₂.heap.objs.size [] := Heap.DictOf.new s₂.heap
  generalize hH2 : s₂.heap.push { cls := .type "dict", dict := none, data := .dict #[] } = H2 at hns₁ hsb₁ hnew ⊢
  have hC : H2.objs.size = s₂.heap.objs.size + 1 := by rw [← hH2, Heap.size_push]
  have hDC : s₂.heap.objs.size ≠ H2.objs.size := by rw [hC]; exact Nat.ne_of_lt (Nat.lt_succ_self _)
  have below : ∀ b, b < s₂.heap.objs.size → b ≠ H2.objs.size ∧ b ≠ s₂.heap.objs.size := fun b hb => ⟨by rw [hC]; exact Nat.ne_of_lt (Nat.lt_succ_of_lt hb), Nat.ne_of_lt hb⟩
  have helt : e < s₂.heap.objs.size := Heap.lt_size he
  have hilt : it < s₂.heap.objs.size := by obtain ⟨_, x, _⟩ := hit; exact Heap.lt_size x
  have old : ∀ b o, s₂.heap.get? b = some o → h₁.get? b = some o := fun b o e => hsb₁.extBut b o (below b (Heap.lt_size e)).1 (Heap.get?_push_of_some _ (hH2 ▸ Heap.get?_push_of_some _ e))
  have hacc : h₁.DictOf (PySem.intKind prog w) s₂.heap.objs.size [] := hnew.at fun o e => hsb₁.extBut _ _ hDC (Heap.get?_push_of_some _ e)
  have fresh : ∀ a, s₂.heap.objs.size ≤ a → s₂.heap.get? a = none := fun a ha => by
    cases e : s₂.heap.get? a with
    | none => rfl
    | some o' => exact absurd (Heap.lt_size e) (Nat.not_lt.mpr ha)
  have fresh₀ : ∀ a, s₂.heap.objs.size ≤ a → h₀.get? a = none := fun a ha => by
    cases e : h₀.get? a with
    | none => rfl
    | some o' => have := F.keep a o' e; rw [fresh a ha] at this; cases this
  have hD₀ : h₀.get? s₂.heap.objs.size = none := fresh₀ _ (Nat.le_refl _)
  have hC₀ : h₀.get? H2.objs.size = none := fresh₀ _ (by rw [hC]; exact Nat.le_succ _)
  have hLlt : L < s₂.heap.objs.size := F.ns.lt
  have hDL : s₂.heap.objs.size ≠ L := Ne.symm (below L hLlt).2
  have hCL : H2.objs.size ≠ L := Ne.symm (below L hLlt).1
  have hCe : e ≠ H2.objs.size := (below e helt).1
  have hDe : e ≠ s₂.heap.objs.size := (below e helt).2
  have hCi : it ≠ H2.objs.size := (below it hilt).1
  have hDi : it ≠ s₂.heap.objs.size := (below it hilt).2
  have offC : ∀ p ∈ news, p.1 ≠ H2.objs.size := fun p hp => (below _ (Heap.lt_size (N p hp).1)).1
  have offD : ∀ p ∈ news, p.1 ≠ s₂.heap.objs.size := fun p hp => (below _ (Heap.lt_size (N p hp).1)).2
  have hlenB : ks.length = B.size := by rw [← hb, KBw.ints_length]
  have he₁ : IsEnum h₁ e it 0 .none := old _ _ he
  have hit₁ : IsBytesIter h₁ it B t 0 := let ⟨o, ho, r⟩ := hit; ⟨o, old _ _ ho, r⟩
  generalize hCC : H2.objs.size = C at *
  generalize hDD : s₂.heap.objs.size = D at *
  have loop : ∀ s₃ : Shared, s₃ = { s₂ with heap := h₁, toks := s₂.toks + ([] : List (PySem.Str × Value)).length } →
      codeAny (model prog w) A (.compLoop (.DictComp (.Name b pk) (.Name a pv) [⟨.Tuple [.Name a pa, .Name b pb] kk tp, iter, [], 0⟩] scope pos) 0 (.ref e) (.ref D) (compEnvC scope cl C env))
        (RR (.ref D) C) s₃ := by
    rintro s₃ rfl
    refine dc_loop
      (fun k s' => ∃ h' tk i m' kvs old, s' = { s₂ with heap := h', toks := tk } ∧ i ≤ ks.length ∧ k = ks.length + 1 - i ∧ IsEnum h' e it ((i : Nat) : Int) old ∧ IsBytesIter h' it B t i ∧ Fr h₀ L h' m ∧ h'.Ns C m' ∧
        News h₀ L h' news ∧ h'.DictOf (PySem.intKind prog w) D kvs ∧ FlatPairs PyData.int kvs (kdfD (invI ks i))) ?_ (ks.length + 1)
      ⟨h₁, _, 0, _, [], .none, rfl, Nat.zero_le _, rfl, he₁, hit₁, F.keeps old, hns₁, fun p hp => ⟨old _ _ (N p hp).1, (N p hp).2⟩, hacc, .nil⟩
    · rintro k s' ⟨h', tk, i, m', kvs, ol, rfl, hi, rfl, he', hit', F', hn', N', hD', hf'⟩
      by_cases hlt : i < ks.length
      · have hlt' : i < B.size := by omega
        have hx : B[i]? = some B[i] := by simp [hlt']
        have hki : ks.getD i 0 = (B[i].toNat : Int) := by
          rw [List.getD_eq_getElem?_getD, ← hb, KBw.ints_get hx]
          rfl
        refine pyNext_enumB_item he' hit' hx hne fun h₂ ho₂ hit₂ ht₂ hz₂ hk₂ => ?_
        refine wpAny_letOwnedTupleGo_enum ho₂ fun h₃ he₃ hs₃ => ?_
        replace hs₃ : Heap.SameBut e h₂ h₃ := hs₃
        have helt' : e < h'.objs.size := Heap.lt_size he'
        have ht₃ : h₃.IsTuple h'.objs.size #[.int i (tk + 1), .int (B[i].toNat : Int) tk] := ⟨_, (hs₃.2 _ (Nat.ne_of_gt helt')).trans ht₂, rfl, _, rfl⟩
        have up₃ : ∀ c o, c ≠ e → c ≠ it → h'.get? c = some o → h₃.get? c = some o := fun c o h1 h2 x => hs₃.extBut c o h1 (hk₂ c o h1 h2 x)
        refine kcp_assign (env := compEnvC scope cl C env) hh ht₃ (lookup_relabel_local hxa) (lookup_relabel_local hxb) (by simp [compEnvC, relabel, hkind]) (hn'.at' fun o x => up₃ _ o (Ne.symm hCe) (Ne.symm hCi) x) fun h₄ tk₄ hn₄ hs₄ => ?_
        have up₄ : ∀ c o, c ≠ e → c ≠ it → c ≠ C → h'.get? c = some o → h₄.get? c = some o := fun c o h1 h2 h3 x => hs₄ c o h3 (up₃ c o h1 h2 x)
        have he₄ : IsEnum h₄ e it ((i : Int) + 1) (.int (B[i].toNat : Int) tk) := hs₄ _ _ hCe he₃
        have hit₄ : IsBytesIter h₄ it B t (i + 1) := let ⟨o, hq, r⟩ := biter_ext hit₂ hs₃.extBut (Ne.symm hne); ⟨o, hs₄ _ _ hCi hq, r⟩
        refine wpAny_Name (wpAny_loadName_local (by simp [compEnvC, relabel, hkind]) (lookup_relabel_local hxb) hn₄ (by simp; rfl) ?_) hdb
        refine wpAny_Name (wpAny_loadName_local (by simp [compEnvC, relabel, hkind]) (lookup_relabel_local hxa) hn₄ (by simp [hab]; rfl) ?_) hda
        have hkv : kvs.length ≤ sizeLine := by
          have h1 := hf'.length
          have h2 := invI_len ks i
          rw [kdfD_length] at h1
          rw [sizeLine_eq]
          omega
        refine wpAny_dictSet_pairs (hsz := hkv) (knd := PySem.intKind prog w) (k := (B[i].toNat : Int)) (intKind_is _ _ _ _) (hD'.at fun o x => up₄ _ _ (Ne.symm hDe) (Ne.symm hDi) hDC x) fun h₅ hd₅ hs₅ => ?_
        replace hs₅ : Heap.SameBut D h₄ h₅ := hs₅
        have up₅ : ∀ c o, c ≠ e → c ≠ it → c ≠ C → c ≠ D → h'.get? c = some o → h₅.get? c = some o := fun c o h1 h2 h3 h4 x => hs₅.extBut c o h4 (up₄ c o h1 h2 h3 x)
        refine ⟨ks.length + 1 - (i + 1), by omega, h₅, _, i + 1, _, _, (.int (B[i].toNat : Int) tk), rfl, hlt, rfl, ?_, biter_ext hit₄ hs₅.extBut hDi, ?_, hn₄.at' fun o x => hs₅.extBut C o (Ne.symm hDC) x, ?_, hd₅, ?_⟩
        · have := hs₅.extBut e _ hDe he₄
          simpa using this
        · exact ⟨F'.ns.at' fun o x => up₅ _ o heL hiL (Ne.symm hCL) (Ne.symm hDL) x, fun c o x => up₅ c o (fun q => by rw [q, he₀] at x; cases x) (fun q => by rw [q, hi₀] at x; cases x) (fun q => by rw [q, hC₀] at x; cases x) (fun q => by rw [q, hD₀] at x; cases x) (F'.keep c o x), F'.above⟩
        · intro p hp
          exact ⟨up₅ _ _ (off p hp).1 (off p hp).2 (offC p hp) (offD p hp) (N' p hp).1, (N' p hp).2⟩
        · have := hf'.stored PyProof.V.same_int (B[i].toNat : Int) (PyProof.V.Flat.int (i : Int) (tk + 1))
          rw [kdfD_put] at this
          show FlatPairs PyData.int _ (kdfD (kdfPut (invI ks i) (ks.getD i 0) (i : Int)))
          rw [hki]
          exact this
      · have hin : i = ks.length := by omega
        subst hin
        have hx : B[ks.length]? = none := Array.getElem?_eq_none (by omega)
        refine pyNext_enumB_end hh he' hit' hx fun h₂ hs₂ => ?_
        replace hs₂ : Heap.ExtBut it h' h₂ := hs₂
        obtain ⟨o, ho, hdo⟩ := Heap.dictOf_iff.mp hD'
        have ho₂ := hs₂ D o (Ne.symm hDi) ho
        refine hRR D C h₂ _ m' o kvs hdo hf' ⟨F'.ns.at' fun o x => hs₂ _ o hiL x, fun c o x => hs₂ c o (fun q => by rw [q, hi₀] at x; cases x) (F'.keep c o x), F'.above⟩ (fun p hp => ?_) hLlt offD (hn'.at' fun o x => hs₂ _ o (Ne.symm hCi) x) hC₀ hD₀ hCL hDL (Ne.symm hDC) offC
        rcases List.mem_cons.mp hp with rfl | hp
        · exact ⟨ho₂, hDL, hD₀⟩
        · exact ⟨hs₂ _ _ (off p hp).2 (N' p hp).1, (N' p hp).2⟩
  refine codeAny_compStart_dict (loop _ rfl) ?_
  exact wpAny_pyIter_enum he₁ (loop _ rfl)
theorem DictComp_enumB {s : Shared} {iter : PySem.Expr} {a b : PySem.Str} {pa pb pk pv tp : Pos} {kk : Nat} {scope : Scope} {cl : List (PySem.Str × Addr)} {pos : Pos} {B : Array UInt8} {ks : List Int} {news : List (Addr × Obj)} {Q : Value → Shared → Prop}
    (_F : Fr h₀ L s.heap m) (_N : News h₀ L s.heap news) (hb : KBw.bInts B = ks) (hz : ks.length ≤ 16777216) (hh : A.handled = none)
    (hclos : closureFor scope env = pure cl) (hcell : ∀ y ∈ scope.names, y.2 ≠ .cell) (hkind : scope.kind = .function)
    (hnames : ∀ y ∈ scope.names, y.2 = .local → scope.names.lookup y.1 = some .local) (hxa : scope.names.lookup a = some .local) (hxb : scope.names.lookup b = some .local) (hab : ¬ a = b)
    (hda : (a == ("__debug__" : PySem.Str)) = false) (hdb : (b == ("__debug__" : PySem.Str)) = false)
    (h : wpAny (model prog w) A (eval iter env) (fun xv s₁ => ∃ e it t, xv = .ref e ∧ e ≠ it ∧ IsEnum s₁.heap e it 0 .none ∧ IsBytesIter s₁.heap it B t 0 ∧ Fr h₀ L s₁.heap m ∧ News h₀ L s₁.heap news ∧ L ≠ e ∧ L ≠ it ∧ h₀.get? e = none ∧ h₀.get? it = none ∧ (∀ p ∈ news, p.1 ≠ e ∧ p.1 ≠ it) ∧
      (∀ D h' tk o kvs, o.IsDictOf (PySem.intKind prog w) kvs → FlatPairs PyData.int kvs (kdfD (invI ks ks.length)) → Fr h₀ L h' m → News h₀ L h' ((D, o) :: news) → L < D → (∀ p ∈ news, p.1 ≠ D) → Q (.ref D) { s₁ with heap := h', toks := tk })) E s)
    (hs : ∀ x, foldedSetIterable iter env x = pure x := by intro _; rfl) :
    wpAny (model prog w) A (eval (.DictComp (.Name b pk) (.Name a pv) [⟨.Tuple [.Name a pa, .Name b pb] kk tp, iter, [], 0⟩] scope pos) env) Q E s := by
  rw [arm_eval_DictComp]
  refine wpAny_comprehension_free (use := none) rfl hs hclos hkind hnames (wpAny_mono h (fun xv s₁ h₁ => ?_) fun _ _ e => e)
  obtain ⟨e, it, t, rfl, hne, he, hit, F, N, heL, hiL, he₀, hi₀, off, hQ⟩ := h₁
  refine wpAny_pyIter_enum he ?_
  refine dc_block (RR := fun acc C => compPost (model prog w) A E none Q acc C) hb hz hh hne he hit hcell hkind hxa hxb hab hda hdb F N heL hiL he₀ hi₀ off ?_
  intro D C h' tk m' o kvs hdo hf F' N' hLD offD hn hC₀ hD₀ hCL hDL hCD offC
  refine ⟨m', hn, fun h'' hs'' => hQ D h'' tk o kvs hdo hf ⟨F'.ns.sameBut hs'' (Ne.symm hCL), fun c o x => hs''.extBut c o (fun q => by rw [q, hC₀] at x; cases x) (F'.keep c o x), F'.above⟩ (fun p hp => ?_) hLD offD⟩
  refine ⟨hs''.extBut _ _ ?_ (N' p hp).1, (N' p hp).2⟩
  rcases List.mem_cons.mp hp with rfl | hp
  · exact Ne.symm hCD
  · exact offC p hp
theorem new_at {h : Heap} {a : Addr} (F : Fr h₀ L h m) (ha : h.objs.size ≤ a) : h₀.get? a = none := by
  cases e : h₀.get? a with
  | none => rfl
  | some o => exact absurd (Heap.lt_size (F.keep _ _ e)) (Nat.not_lt.mpr ha)
end
end R
end Mine
-- R8
namespace Mine
namespace R
open PyProof.Rows.LCg PyProof.Rows.LCt
section
variable {prog : Program} {w : World} {A : Around} {E : Value → Shared → Prop} {s : Shared} {h₀ : Heap} {L : Addr} {m : PySem.Str → Option Value} {env : Env}
theorem biter_st {b : Array UInt8} {t : Tok} {I : Addr} : ∀ i h h' o (nw : List (Addr × Obj)), KBw.IsBytesIter h I b t i → h.get? I = some o → h'.get? I = some o → (∀ b o, h₀.get? b = some o → h'.get? b = some o) → News h₀ L h' nw → True → KBw.IsBytesIter h' I b t i := by
  rintro i h h' o nw ⟨o', ho', r⟩ e e' _ _ _
  rw [e] at ho'
  cases ho'
  exact ⟨o, e', r⟩
/-- y = [elt for x in a bytes if ct] -/
theorem Assign_LC_TB {ct elt iter : PySem.Expr} {x y : PySem.Str} {px py : Pos} {scope : Scope} {cl : List (PySem.Str × Addr)} {pos spos : Pos} {Q : Flow → Shared → Prop} (F₀ : Fr h₀ L s.heap m) (hLe : env.locals = L) (hh : A.handled = none)
    (hsw : swapsWith (.ListComp elt [⟨.Name x px, iter, [ct], 0⟩] scope pos) (some (.Name y py)) spos.line env = pure true)
    (hclos : closureFor scope env = pure cl) (hcell : ∀ z ∈ scope.names, z.2 ≠ .cell) (hkind : scope.kind = .function)
    (hnames : ∀ z ∈ scope.names, z.2 = .local → scope.names.lookup z.1 = some .local) (hx : scope.names.lookup x = some .local)
    (hy : env.kindOf y = some .local) (hp : (env.scope.kind == .class || (env.scope.kind == .module && env.locals != env.globals)) = false)
    (h : wpAny (model prog w) A (eval iter env) (fun xv s₁ => ∃ b t news, xv = .bytes b t ∧ Fr h₀ L s₁.heap m ∧ News h₀ L s₁.heap news ∧ b.size ≤ sizeLine ∧
      ∀ g, CompRestT prog w A h₀ L m env ct elt x scope cl { s₁ with heap := g } (fun _ => True) (fun i v => ∃ c u, b[i]? = some c ∧ v = .int (c.toNat : Int) u) (FinA h₀ L m { s₁ with heap := g } y Q) b.size 0 [] news) E s)
    (hs : ∀ x, foldedSetIterable iter env x = pure x := by intro _; rfl) :
    wpAny (model prog w) A (exec (.Assign [.Name y py] (.ListComp elt [⟨.Name x px, iter, [ct], 0⟩] scope pos) spos) env) Q E s := by
  subst hLe
  rw [exec_Assign_Name_used _ _ _ _ hsw]
  refine wpAny_bind (wpAny_standAt (wpAny_bind ?_))
  show wpAny _ A (do let _ ← comprehension (.ListComp elt [⟨.Name x px, iter, [ct], 0⟩] scope pos) scope env _ (newList []) false (eval iter env) (some (assign (.Name y py) env))) _ _ s
  refine wpAny_bind (wpAny_mono (wpAny_comprehension_free (use := some (assign (.Name y py) env)) (Q := fun _ s' => Q .next s') rfl hs hclos hkind hnames
    (wpAny_mono h (fun xv s₁ h₁ => ?_) fun _ _ e => e)) (fun _ s' hq => wpAny_pure (wpAny_pure hq)) fun _ _ e => e)
  obtain ⟨b, t, news, rfl, F, N, hsz, R⟩ := h₁
  refine KBw.pyIter_bytes ?_
  have up : ∀ c o, s₁.heap.get? c = some o → (s₁.heap.push { cls := .type "bytes_iterator", data := .fields #[.bytes b t, .int 0 0] }).get? c = some o := fun c o e => Heap.get?_push_of_some _ e
  refine block_T (S := fun _ => True) (KBw.walks hh s₁.heap.objs.size b t) hsz (fun i h st => by obtain ⟨o, e, _⟩ := st; exact ⟨o, e⟩) biter_st hcell hkind hx ⟨_, Heap.get?_push_size _ rfl, rfl, rfl⟩ (fun c hc => ?_)
    (F.keeps up) (N.grown up) (Nat.ne_of_lt F.ns.lt) (next_is_new F) (fun p hp => Nat.ne_of_lt (Heap.lt_size (N p hp).1)) trivial (R _) ?_
  · rw [List.mem_singleton.mp hc]
    show s₁.heap.objs.size < (s₁.heap.push _).objs.size
    rw [Heap.size_push]; exact Nat.lt_succ_self _
  · intro D C h' tk m' ys news' F' N' o1 hn hC₀ hD₀ hCL hDL hCD offC fin
    show wpAny _ A (assign (.Name y py) env (.ref D)) _ _ _
    refine wpAny_assign_Name (wpAny_storeName_local hy F'.ns (fun h₂ hn₂ hs₂ => ?_) hp)
    have hL₀ : h₀.get? env.locals = none := Heap.get?_none_of_le F'.above
    have F₂ : Fr h₀ env.locals h₂ (fun z => if z = y then some (.ref D) else m z) := ⟨hn₂, fun b o e => hs₂.extBut b o (fun q => by rw [q, hL₀] at e; cases e) (F'.keep b o e), F'.above⟩
    refine ⟨m', hn.sameBut hs₂ hCL, fun h'' hs'' => fin D h'' _ (F₂.change hs'' hCL hC₀) (fun p hp => ?_) o1⟩
    have z : h₂.get? p.1 = some p.2 := hs₂.extBut _ _ (N' p hp).2.1 (N' p hp).1
    refine ⟨hs''.extBut _ _ ?_ z, (N' p hp).2⟩
    rcases List.mem_cons.mp hp with rfl | hp
    · exact Ne.symm hCD
    · exact offC p hp
end
section
variable {prog : Program} {w : World} {A : Around} {E : Value → Shared → Prop} {s : Shared} {env : Env} {h₀ : Heap} {x : PySem.Str} {body : List Stmt} {Q : Flow → Shared → Prop}
/-- for over a list of the ledger, its items any values -/
theorem iter_invNV {l : Addr} {vs : List Value} {nn : Nat} {m₀ : PySem.Str → Option Value} {news : List (Addr × Obj)} (J : Nat → (PySem.Str → Option Value) → List (Addr × Obj) → Prop)
    (hh : A.handled = none) (hl : (l, listOf vs.toArray nn) ∈ news) (F : Fr h₀ env.locals s.heap m₀) (N : News h₀ env.locals s.heap news) (hj : J 0 m₀ news)
    (turn : ∀ i v m₁ news₁ h tk own, vs[i]? = some v → news₁.map (·.1) = news.map (·.1) → OwnOff own (news.map (·.1)) → (l, listOf vs.toArray nn) ∈ news₁ → J i m₁ news₁ → Fr h₀ env.locals h (fun y => if y = x then some v else m₁ y) → News h₀ env.locals h (news₁ ++ own) →
      wpAny (model prog w) A (execs body env) (InvPostN h₀ env.locals (fun m' nx => (l, listOf vs.toArray nn) ∈ nx ∧ J (i + 1) m' nx) own (news.map (·.1)) { s with heap := h, toks := tk } Q) E { s with heap := h, toks := tk })
    (done : ∀ m₁ news₁ h tk, (l, listOf vs.toArray nn) ∈ news₁ → J vs.length m₁ news₁ → Fr h₀ env.locals h m₁ → News h₀ env.locals h news₁ → Q .next { s with heap := h, toks := tk }) :
    wpAny (model prog w) A (pyIter (.ref l)) (fun it s₂ => LoopAtV prog w A h₀ env x body Q E it s₂) E s := by
  have hol : s.heap.get? l = some (listOf vs.toArray nn) := (N _ hl).1
  have hls : s.heap.IsList l vs.toArray := ⟨_, hol, rfl, nn, rfl⟩
  have hne : l ≠ s.heap.objs.size := Nat.ne_of_lt (Heap.lt_size hol)
  refine wpAny_pyIter_list hls ?_
  have W := Walks.list (prog := prog) (w := w) hh s.heap.objs.size l hne vs.toArray
  have hlen : vs.toArray.size = vs.length := by simp
  rw [hlen] at W
  refine ⟨_, _, _, vs.length, _, _, m₀, news, (fun i m nx => nx.map (·.1) = news.map (·.1) ∧ (l, listOf vs.toArray nn) ∈ nx ∧ J i m nx), rfl, W, ?_, ?_, ?_, ⟨⟨_, Heap.get?_push_size _ rfl, rfl, rfl⟩, hls.at fun o e => Heap.get?_push_of_some _ e⟩, F.push _, (fun p hp => ⟨Heap.get?_push_of_some _ (N p hp).1, (N p hp).2⟩), ⟨rfl, hl, hj⟩, ?_, ?_⟩
  · intro hm
    rcases List.mem_cons.mp hm with e | hm
    · exact absurd F.ns.lt (e ▸ Nat.lt_irrefl _)
    · exact (N _ hl).2.1 ((List.mem_singleton.mp hm).symm)
  · intro b hb
    rw [List.mem_singleton.mp hb]
    exact next_is_new F
  · intro p hp hI
    exact absurd (Heap.lt_size (N p hp).1) ((List.mem_singleton.mp hI) ▸ Nat.lt_irrefl _)
  · rintro i v m₁ news₁ s₁ own ⟨hh', tk', rfl⟩ hin hP ⟨hadr, hl₁, hJ⟩ hoff hown hget hfp _ F₁ N₁
    have hsep : OwnOff (own.filter fun p => decide (p.1 = s.heap.objs.size)) (news.map (·.1)) := by
      intro p hp b hb e
      obtain ⟨q, hq, rfl⟩ := List.mem_map.mp hb
      have h1 : p.1 = s.heap.objs.size := by simpa using (List.mem_filter.mp hp).2
      exact absurd (Heap.lt_size (N q hq).1) (by rw [← e, h1]; exact Nat.lt_irrefl _)
    have hv : vs[i]? = some v := by simpa using hP
    have N₂ : News h₀ env.locals hh' (news₁ ++ own.filter fun p => decide (p.1 = s.heap.objs.size)) := fun p hp => N₁ p ((List.mem_append.mp hp).elim (fun h => List.mem_append.mpr (.inr h)) fun h => List.mem_append.mpr (.inl ((List.mem_filter.mp h).1)))
    have hlo : hh'.get? l = some (listOf vs.toArray nn) := (N₁ _ (List.mem_append.mpr (.inr hl₁))).1
    refine wpAny_mono (turn i v m₁ news₁ hh' tk' _ hv hadr hsep hl₁ hJ F₁ N₂) (fun f s₂ p => ?_) fun _ _ e => e
    have fin : InvEndN h₀ env.locals (fun m' nx => (l, listOf vs.toArray nn) ∈ nx ∧ J (i + 1) m' nx) (own.filter fun p => decide (p.1 = s.heap.objs.size)) (news.map (·.1)) { s with heap := hh', toks := tk' } s₂ →
        LoopStepU h₀ env.locals [s.heap.objs.size] own (fun m nx => nx.map (·.1) = news.map (·.1) ∧ (l, listOf vs.toArray nn) ∈ nx ∧ J (i + 1) m nx) { s with heap := hh', toks := tk' } .next s₂ := by
      rintro ⟨h', tk, m', news', nx, e, F', N', hn, ho, ha, hm⟩
      refine ⟨rfl, h', tk, m', nx, e, F', fun p hp => ?_, fun p hp => ?_, ha, hm⟩
      · rcases List.mem_append.mp hp with h | h
        · by_cases hI : p.1 = s.heap.objs.size
          · exact N' p (ho p (List.mem_filter.mpr ⟨h, by simpa using hI⟩))
          · have h1 : p.1 = l := by
              rcases List.mem_cons.mp (hown p h) with h2 | h2
              · exact absurd h2 hI
              · exact List.mem_singleton.mp h2
            have h2 : hh'.get? p.1 = some p.2 := hget p h
            rw [h1, hlo] at h2
            have h3 : p = (l, listOf vs.toArray nn) := Prod.ext h1 (Option.some.inj h2).symm
            rw [h3]
            exact N' _ (hn _ hm.1)
        · exact N' p (hn p h)
      · have h1 : p.1 ∈ nx.map (·.1) := List.mem_map.mpr ⟨p, hp, rfl⟩
        rw [ha] at h1
        obtain ⟨q, hq, e⟩ := List.mem_map.mp h1
        intro hI
        exact absurd (Heap.lt_size (N q hq).1) (by rw [e, List.mem_singleton.mp hI]; exact Nat.lt_irrefl _)
    cases f with
    | ret v => exact .ret p
    | brk => exact .brk p
    | next => exact .next (fin p)
    | cont => exact .cont (fin p)
  · rintro h' tk m' news' F' N' _ ⟨_, hl', hJ⟩
    exact done m' news' h' tk hl' hJ F' N'
end
end R
end Mine
-- R9
namespace Mine
namespace R
open PyProof.Rows.LCg PyProof.Rows.LCt PyProof.V KBw
section
variable {prog : Program} {w : World} {A : Around} {E : Value → Shared → Prop} {s : Shared} {h₀ : Heap} {L : Addr} {m : PySem.Str → Option Value} {env : Env}
/-- [elt for x in a bytes] -/
theorem LC_B {elt iter : PySem.Expr} {x : PySem.Str} {px : Pos} {scope : Scope} {cl : List (PySem.Str × Addr)} {pos : Pos} {Q : Value → Shared → Prop} (F₀ : Fr h₀ L s.heap m) (hh : A.handled = none)
    (hclos : closureFor scope env = pure cl) (hcell : ∀ y ∈ scope.names, y.2 ≠ .cell) (hkind : scope.kind = .function)
    (hnames : ∀ y ∈ scope.names, y.2 = .local → scope.names.lookup y.1 = some .local) (hx : scope.names.lookup x = some .local)
    (h : wpAny (model prog w) A (eval iter env) (fun xv s₁ => ∃ b t news, xv = .bytes b t ∧ Fr h₀ L s₁.heap m ∧ News h₀ L s₁.heap news ∧ b.size ≤ sizeLine ∧
      ∀ g, CompRest prog w A h₀ L m env elt x scope cl { s₁ with heap := g } (fun _ => True) (fun i v => ∃ c u, b[i]? = some c ∧ v = .int (c.toNat : Int) u) (FinE h₀ L m { s₁ with heap := g } Q) b.size 0 [] news) E s)
    (hs : ∀ x, foldedSetIterable iter env x = pure x := by intro _; rfl) :
    wpAny (model prog w) A (eval (.ListComp elt [⟨.Name x px, iter, [], 0⟩] scope pos) env) Q E s := by
  rw [eval_ListComp]
  refine wpAny_comprehension_free (use := none) rfl hs hclos hkind hnames (wpAny_mono h (fun xv s₁ h₁ => ?_) fun _ _ e => e)
  obtain ⟨b, t, news, rfl, F, N, hsz, R⟩ := h₁
  refine KBw.pyIter_bytes ?_
  have up : ∀ c o, s₁.heap.get? c = some o → (s₁.heap.push { cls := .type "bytes_iterator", data := .fields #[.bytes b t, .int 0 0] }).get? c = some o := fun c o e => Heap.get?_push_of_some _ e
  refine block_U (S := fun _ => True) (KBw.walks hh s₁.heap.objs.size b t) hsz (fun i h st => by obtain ⟨o, e, _⟩ := st; exact ⟨o, e⟩) biter_st hcell hkind hx ⟨_, Heap.get?_push_size _ rfl, rfl, rfl⟩ (fun c hc => ?_)
    (F.keeps up) (N.grown up) (Nat.ne_of_lt F.ns.lt) (next_is_new F) (fun p hp => Nat.ne_of_lt (Heap.lt_size (N p hp).1)) trivial (R _) ?_
  · rw [List.mem_singleton.mp hc]
    show s₁.heap.objs.size < (s₁.heap.push _).objs.size
    rw [Heap.size_push]; exact Nat.lt_succ_self _
  · intro D C h tk m' ys news' F' N' o1 hn hC₀ hD₀ hCL hDL hCD offC fin
    refine ⟨m', hn, fun h'' hs'' => fin D h'' tk (F'.change hs'' hCL hC₀) (fun p hp => ?_) o1⟩
    refine ⟨hs''.extBut _ _ ?_ (N' p hp).1, (N' p hp).2⟩
    rcases List.mem_cons.mp hp with rfl | hp
    · exact Ne.symm hCD
    · exact offC p hp
theorem riter_ext {h h' : Heap} {it e : Addr} {a b : Int} (x : IsRangeIter h it a b 1) (hs : Heap.ExtBut e h h') (hne : it ≠ e) : IsRangeIter h' it a b 1 := hs it _ hne x
theorem dcr_block {iter kx : PySem.Expr} {a : PySem.Str} {pa pv : Pos} {scope : Scope} {cl : List (PySem.Str × Addr)} {pos : Pos} {s₂ : Shared} {it : Addr} {ks : List Int} {news : List (Addr × Obj)} {RR : Value → Addr → Result → Shared → Prop}
    (hz : ks.length ≤ 16777216) (hh : A.handled = none)
    (hit : IsRangeIter s₂.heap it 0 (ks.length : Int) 1)
    (hcell : ∀ y ∈ scope.names, y.2 ≠ .cell) (hkind : scope.kind = .function) (hxa : scope.names.lookup a = some .local)
    (hda : (a == ("__debug__" : PySem.Str)) = false)
    (F : Fr h₀ L s₂.heap m) (N : News h₀ L s₂.heap news) (hiL : L ≠ it) (hi₀ : h₀.get? it = none) (off : ∀ p ∈ news, p.1 ≠ it)
    (hkey : ∀ (i : Nat) t C oC m₂ h tk (E' : Value → Shared → Prop), i < ks.length → NsObj oC m₂ → m₂ a = some (.int (i : Int) t) → Fr h₀ L h m → News h₀ L h ((C, oC) :: news) →
      wpAny (model prog w) A (eval kx (compEnvC scope cl C env)) (fun v s' => (∃ t', v = .int (ks.getD i 0) t') ∧ ∃ tk', s' = { s₂ with heap := h, toks := tk' }) E' { s₂ with heap := h, toks := tk })
    (hRR : ∀ D C h tk m' o kvs, o.IsDictOf (PySem.intKind prog w) kvs → FlatPairs PyData.int kvs (kdfD (invI ks ks.length)) → Fr h₀ L h m → News h₀ L h ((D, o) :: news) → L < D → (∀ p ∈ news, p.1 ≠ D) → h.Ns C m' → h₀.get? C = none → h₀.get? D = none → C ≠ L → D ≠ L → C ≠ D → (∀ p ∈ news, p.1 ≠ C) → RR (.ref D) C (.ok .next) { s₂ with heap := h, toks := tk }) :
    wpAny (model prog w) A newDict (fun acc s₃ => wpAny (model prog w) A (newFunctionEnv scope env.globals cl [] env.qual none .none (some env)) (fun cenv s₄ =>
      codeAny (model prog w) A (.compStart (.DictComp kx (.Name a pv) [⟨.Name a pa, iter, [], 0⟩] scope pos) 0 (.ref it) acc { cenv with scope := relabel scope env }) (RR acc cenv.locals) s₄) E s₃) E s₂ := by
  refine wpAny_newObj_type (wpAny_newFunctionEnv hcell (by intro y hy; simp at hy) (fun h₁ hns₁ hsb₁ => ?_) hkind)
  dsimp only at hns₁ hsb₁ ⊢
  have hnew : (s₂.heap.push { cls := .type "dict", dict := none, data := .dict #[] }).DictOf (PySem.intKind prog w) s₂.heap.objs.size [] := Heap.DictOf.new s₂.heap
  generalize hH2 : s₂.heap.push { cls := .type "dict", dict := none, data := .dict #[] } = H2 at hns₁ hsb₁ hnew ⊢
  have hC : H2.objs.size = s₂.heap.objs.size + 1 := by rw [← hH2, Heap.size_push]
  have hDC : s₂.heap.objs.size ≠ H2.objs.size := by rw [hC]; exact Nat.ne_of_lt (Nat.lt_succ_self _)
  have below : ∀ b, b < s₂.heap.objs.size → b ≠ H2.objs.size ∧ b ≠ s₂.heap.objs.size := fun b hb => ⟨by rw [hC]; exact Nat.ne_of_lt (Nat.lt_succ_of_lt hb), Nat.ne_of_lt hb⟩
  have hilt : it < s₂.heap.objs.size := Heap.lt_size hit
  have old : ∀ b o, s₂.heap.get? b = some o → h₁.get? b = some o := fun b o e => hsb₁.extBut b o (below b (Heap.lt_size e)).1 (Heap.get?_push_of_some _ (hH2 ▸ Heap.get?_push_of_some _ e))
  have hacc : h₁.DictOf (PySem.intKind prog w) s₂.heap.objs.size [] := hnew.at fun o e => hsb₁.extBut _ _ hDC (Heap.get?_push_of_some _ e)
  have fresh : ∀ a, s₂.heap.objs.size ≤ a → s₂.heap.get? a = none := fun a ha => by
    cases e : s₂.heap.get? a with
    | none => rfl
    | some o' => exact absurd (Heap.lt_size e) (Nat.not_lt.mpr ha)
  have fresh₀ : ∀ a, s₂.heap.objs.size ≤ a → h₀.get? a = none := fun a ha => by
    cases e : h₀.get? a with
    | none => rfl
    | some o' => have := F.keep a o' e; rw [fresh a ha] at this; cases this
  have hD₀ : h₀.get? s₂.heap.objs.size = none := fresh₀ _ (Nat.le_refl _)
  have hC₀ : h₀.get? H2.objs.size = none := fresh₀ _ (by rw [hC]; exact Nat.le_succ _)
  have hLlt : L < s₂.heap.objs.size := F.ns.lt
  have hDL : s₂.heap.objs.size ≠ L := Ne.symm (below L hLlt).2
  have hCL : H2.objs.size ≠ L := Ne.symm (below L hLlt).1
  have hCi : it ≠ H2.objs.size := (below it hilt).1
  have hDi : it ≠ s₂.heap.objs.size := (below it hilt).2
  have offC : ∀ p ∈ news, p.1 ≠ H2.objs.size := fun p hp => (below _ (Heap.lt_size (N p hp).1)).1
  have offD : ∀ p ∈ news, p.1 ≠ s₂.heap.objs.size := fun p hp => (below _ (Heap.lt_size (N p hp).1)).2
  have hit₁ : IsRangeIter h₁ it 0 (ks.length : Int) 1 := old _ _ hit
  generalize hCC : H2.objs.size = C at *
  generalize hDD : s₂.heap.objs.size = D at *
  have W := Walks.range (prog := prog) (w := w) hh it 0 1 ks.length
  have loop : ∀ s₃ : Shared, s₃ = { s₂ with heap := h₁, toks := s₂.toks + ([] : List (PySem.Str × Value)).length } →
      codeAny (model prog w) A (.compLoop (.DictComp kx (.Name a pv) [⟨.Name a pa, iter, [], 0⟩] scope pos) 0 (.ref it) (.ref D) (compEnvC scope cl C env))
        (RR (.ref D) C) s₃ := by
    rintro s₃ rfl
    refine dc_loop
      (fun k s' => ∃ h' tk i m' kvs, s' = { s₂ with heap := h', toks := tk } ∧ i ≤ ks.length ∧ k = ks.length + 1 - i ∧ IsRangeIter h' it (0 + ((i : Nat) : Int) * 1) ((ks.length : Int) - (i : Nat)) 1 ∧ Fr h₀ L h' m ∧ h'.Ns C m' ∧
        News h₀ L h' news ∧ h'.DictOf (PySem.intKind prog w) D kvs ∧ FlatPairs PyData.int kvs (kdfD (invI ks i))) ?_ (ks.length + 1)
      ⟨h₁, _, 0, _, [], rfl, Nat.zero_le _, rfl, by simpa using hit₁, F.keeps old, hns₁, fun p hp => ⟨old _ _ (N p hp).1, (N p hp).2⟩, hacc, .nil⟩
    · rintro k s' ⟨h', tk, i, m', kvs, rfl, hi, rfl, hit', F', hn', N', hD', hf'⟩
      by_cases hlt : i < ks.length
      · refine W.item i _ _ _ hlt hit' fun v h₂ tk₂ hv hst₂ hk₂ => ?_
        obtain ⟨t, rfl⟩ := hv
        have e1 : 0 + (i : Int) * 1 = (i : Int) := by omega
        rw [e1]
        refine wpAny_of_eq (a := ()) (by rfl) ?_
        have up₂ : ∀ c o, c ≠ it → h'.get? c = some o → h₂.get? c = some o := fun c o hc e => hk₂ c o (by simpa using hc) e
        refine wpAny_assign_Name (wpAny_storeName_local (env := compEnvC scope cl C env) (lookup_relabel_local hxa) (hn'.at' fun o e => up₂ _ o (Ne.symm hCi) e) (fun h₃ hn₃ hs₃ => ?_) (by simp [compEnvC, relabel, hkind]))
        replace hs₃ : Heap.SameBut C h₂ h₃ := hs₃
        replace hn₃ : h₃.Ns C _ := hn₃
        have up₃ : ∀ c o, c ≠ it → c ≠ C → h'.get? c = some o → h₃.get? c = some o := fun c o h1 h2 e => hs₃.extBut c o h2 (up₂ c o h1 e)
        have F₃ : Fr h₀ L h₃ m := ⟨F'.ns.at' fun o x => up₃ _ o hiL (Ne.symm hCL) x, fun c o x => up₃ c o (fun q => by rw [q, hi₀] at x; cases x) (fun q => by rw [q, hC₀] at x; cases x) (F'.keep c o x), F'.above⟩
        have N₃ : News h₀ L h₃ news := fun p hp => ⟨up₃ _ _ (off p hp) (offC p hp) (N' p hp).1, (N' p hp).2⟩
        obtain ⟨oC, heC, hoC⟩ := ns_obj hn₃
        have N₃' : News h₀ L h₃ ((C, oC) :: news) := fun p hp => by
          rcases List.mem_cons.mp hp with rfl | hp
          · exact ⟨heC, hCL, hC₀⟩
          · exact N₃ p hp
        have hst₃ : IsRangeIter h₃ it (0 + ((i + 1 : Nat) : Int) * 1) ((ks.length : Int) - ((i + 1 : Nat) : Int)) 1 := hs₃.extBut it _ hCi hst₂
        have hD₃ : h₃.DictOf (PySem.intKind prog w) D kvs := hD'.at fun o x => up₃ _ _ (Ne.symm hDi) hDC x
        refine wpAny_mono (hkey i t C oC _ h₃ _ _ hlt hoC (by simp) F₃ N₃') (fun kv s₄ h₄ => ?_) fun _ _ e => e
        obtain ⟨⟨t', rfl⟩, tk', rfl⟩ := h₄
        refine wpAny_Name (wpAny_loadName_local (by simp [compEnvC, relabel, hkind]) (lookup_relabel_local hxa) hn₃ (by simp; rfl) ?_) hda
        have hkv : kvs.length ≤ sizeLine := by
          have h1 := hf'.length
          have h2 := invI_len ks i
          rw [kdfD_length] at h1
          rw [sizeLine_eq]
          omega
        refine wpAny_dictSet_pairs (hsz := hkv) (knd := PySem.intKind prog w) (k := ks.getD i 0) (intKind_is _ _ _ _) hD₃ fun h₅ hd₅ hs₅ => ?_
        replace hs₅ : Heap.SameBut D h₃ h₅ := hs₅
        refine ⟨ks.length + 1 - (i + 1), by omega, h₅, _, i + 1, _, _, rfl, hlt, rfl, ?_, ?_, hn₃.at' fun o x => hs₅.extBut C o (Ne.symm hDC) x, ?_, hd₅, ?_⟩
        · exact hs₅.extBut it _ hDi hst₃
        · exact F₃.change hs₅ hDL hD₀
        · intro p hp
          exact ⟨hs₅.extBut _ _ (offD p hp) (N₃ p hp).1, (N₃ p hp).2⟩
        · have := hf'.stored PyProof.V.same_int (ks.getD i 0) (PyProof.V.Flat.int (i : Int) t)
          rw [kdfD_put] at this
          exact this
      · have hin : i = ks.length := by omega
        subst hin
        refine W.done _ _ _ hit' fun h₂ tk₂ hk₂ => ?_
        have up₂ : ∀ c o, c ≠ it → h'.get? c = some o → h₂.get? c = some o := fun c o hc e => hk₂ c o (by simpa using hc) e
        obtain ⟨o, ho, hdo⟩ := Heap.dictOf_iff.mp hD'
        have ho₂ := up₂ D o (Ne.symm hDi) ho
        refine hRR D C h₂ _ m' o kvs hdo hf' ⟨F'.ns.at' fun o x => up₂ _ o hiL x, fun c o x => up₂ c o (fun q => by rw [q, hi₀] at x; cases x) (F'.keep c o x), F'.above⟩ (fun p hp => ?_) hLlt offD (hn'.at' fun o x => up₂ _ o (Ne.symm hCi) x) hC₀ hD₀ hCL hDL (Ne.symm hDC) offC
        rcases List.mem_cons.mp hp with rfl | hp
        · exact ⟨ho₂, hDL, hD₀⟩
        · exact ⟨up₂ _ _ (off p hp) (N' p hp).1, (N' p hp).2⟩
  refine codeAny_compStart_dict (loop _ rfl) ?_
  exact W.self 0 _ _ _ (by simpa using hit₁) (loop _ rfl)
/-- {kx: a for a in range(n)} -/
theorem DictComp_range {s : Shared} {iter kx : PySem.Expr} {a : PySem.Str} {pa pv : Pos} {scope : Scope} {cl : List (PySem.Str × Addr)} {pos : Pos} {ks : List Int} {news : List (Addr × Obj)} {Q : Value → Shared → Prop} (_F : Fr h₀ L s.heap m)
    (hz : ks.length ≤ 16777216) (hh : A.handled = none)
    (hclos : closureFor scope env = pure cl) (hcell : ∀ y ∈ scope.names, y.2 ≠ .cell) (hkind : scope.kind = .function)
    (hnames : ∀ y ∈ scope.names, y.2 = .local → scope.names.lookup y.1 = some .local) (hxa : scope.names.lookup a = some .local)
    (hda : (a == ("__debug__" : PySem.Str)) = false)
    (h : wpAny (model prog w) A (eval iter env) (fun xv s₁ => ∃ r t u v, xv = .ref r ∧ IsRange s₁.heap r 0 (ks.length : Int) 1 t u v ∧ Fr h₀ L s₁.heap m ∧ News h₀ L s₁.heap news ∧
      (∀ (i : Nat) t C oC m₂ h tk (E' : Value → Shared → Prop), i < ks.length → NsObj oC m₂ → m₂ a = some (.int (i : Int) t) → Fr h₀ L h m → News h₀ L h ((C, oC) :: news) →
        wpAny (model prog w) A (eval kx (compEnvC scope cl C env)) (fun v s' => (∃ t', v = .int (ks.getD i 0) t') ∧ ∃ tk', s' = { s₁ with heap := h, toks := tk' }) E' { s₁ with heap := h, toks := tk }) ∧
      (∀ D h' tk o kvs, o.IsDictOf (PySem.intKind prog w) kvs → FlatPairs PyData.int kvs (kdfD (invI ks ks.length)) → Fr h₀ L h' m → News h₀ L h' ((D, o) :: news) → L < D → (∀ p ∈ news, p.1 ≠ D) → Q (.ref D) { s₁ with heap := h', toks := tk })) E s)
    (hs : ∀ x, foldedSetIterable iter env x = pure x := by intro _; rfl) :
    wpAny (model prog w) A (eval (.DictComp kx (.Name a pv) [⟨.Name a pa, iter, [], 0⟩] scope pos) env) Q E s := by
  rw [arm_eval_DictComp]
  refine wpAny_comprehension_free (use := none) rfl hs hclos hkind hnames (wpAny_mono h (fun xv s₁ h₁ => ?_) fun _ _ e => e)
  obtain ⟨r, t, u, v, rfl, hr, F, N, hkey, hQ⟩ := h₁
  refine wpAny_pyIter_range hr (rsmall _ (by omega)) ?_
  have up : ∀ (o' : Obj) c o, s₁.heap.get? c = some o → (s₁.heap.push o').get? c = some o := fun o' c o e => Heap.get?_push_of_some _ e
  refine dcr_block (ks := ks) (RR := fun acc C => compPost (model prog w) A E none Q acc C) hz hh (by show IsRangeIter _ _ _ _ _; rw [rs_one]; exact Heap.get?_push_size _ rfl) hcell hkind hxa hda
    (F.keeps fun c o e => up _ c o e) (N.grown fun c o e => up _ c o e) (Nat.ne_of_lt F.ns.lt) (next_is_new F) (fun p hp => Nat.ne_of_lt (Heap.lt_size (N p hp).1)) hkey ?_
  intro D C h' tk m' o kvs hdo hf F' N' hLD offD hn hC₀ hD₀ hCL hDL hCD offC
  refine ⟨m', hn, fun h'' hs'' => hQ D h'' tk o kvs hdo hf ⟨F'.ns.sameBut hs'' (Ne.symm hCL), fun c o x => hs''.extBut c o (fun q => by rw [q, hC₀] at x; cases x) (F'.keep c o x), F'.above⟩ (fun p hp => ?_) hLD offD⟩
  refine ⟨hs''.extBut _ _ ?_ (N' p hp).1, (N' p hp).2⟩
  rcases List.mem_cons.mp hp with rfl | hp
  · exact Ne.symm hCD
  · exact offC p hp
/-- y = {kx: a for a in range(n)} -/
theorem Assign_DictComp_range {s : Shared} {iter kx : PySem.Expr} {a y : PySem.Str} {pa pv py : Pos} {scope : Scope} {cl : List (PySem.Str × Addr)} {pos spos : Pos} {ks : List Int} {news : List (Addr × Obj)} {Q : Flow → Shared → Prop} (_F : Fr h₀ L s.heap m) (_N : News h₀ L s.heap news) (hLe : env.locals = L)
    (hz : ks.length ≤ 16777216) (hh : A.handled = none)
    (hsw : swapsWith (.DictComp kx (.Name a pv) [⟨.Name a pa, iter, [], 0⟩] scope pos) (some (.Name y py)) spos.line env = pure true)
    (hclos : closureFor scope env = pure cl) (hcell : ∀ y ∈ scope.names, y.2 ≠ .cell) (hkind : scope.kind = .function)
    (hnames : ∀ y ∈ scope.names, y.2 = .local → scope.names.lookup y.1 = some .local) (hxa : scope.names.lookup a = some .local)
    (hda : (a == ("__debug__" : PySem.Str)) = false)
    (hy : env.kindOf y = some .local) (hp : (env.scope.kind == .class || (env.scope.kind == .module && env.locals != env.globals)) = false)
    (h : wpAny (model prog w) A (eval iter env) (fun xv s₁ => Stop (∃ r t u v, xv = .ref r ∧ IsRange s₁.heap r 0 (ks.length : Int) 1 t u v ∧ Fr h₀ L s₁.heap m ∧ News h₀ L s₁.heap news ∧
      (∀ (i : Nat) t C oC m₂ h tk (E' : Value → Shared → Prop), i < ks.length → NsObj oC m₂ → m₂ a = some (.int (i : Int) t) → Fr h₀ L h m → News h₀ L h ((C, oC) :: news) →
        wpAny (model prog w) A (eval kx (compEnvC scope cl C env)) (fun v s' => (∃ t', v = .int (ks.getD i 0) t') ∧ ∃ tk', s' = { s₁ with heap := h, toks := tk' }) E' { s₁ with heap := h, toks := tk }) ∧
      (∀ D h' tk o kvs, o.IsDictOf (PySem.intKind prog w) kvs → FlatPairs PyData.int kvs (kdfD (invI ks ks.length)) → Fr h₀ L h' (fun z => if z = y then some (.ref D) else m z) → News h₀ L h' ((D, o) :: news) → L < D → (∀ p ∈ news, p.1 ≠ D) → Q .next { s₁ with heap := h', toks := tk }))) E s)
    (hs : ∀ x, foldedSetIterable iter env x = pure x := by intro _; rfl) :
    wpAny (model prog w) A (exec (.Assign [.Name y py] (.DictComp kx (.Name a pv) [⟨.Name a pa, iter, [], 0⟩] scope pos) spos) env) Q E s := by
  subst hLe
  rw [exec_Assign_Name_used _ _ _ _ hsw]
  refine wpAny_bind (wpAny_standAt (wpAny_bind ?_))
  show wpAny _ A (do let _ ← comprehension (.DictComp kx (.Name a pv) [⟨.Name a pa, iter, [], 0⟩] scope pos) scope env _ newDict false (eval iter env) (some (assign (.Name y py) env))) _ _ s
  refine wpAny_bind (wpAny_mono (wpAny_comprehension_free (use := some (assign (.Name y py) env)) (Q := fun _ s' => Q .next s') rfl hs hclos hkind hnames
    (wpAny_mono h (fun xv s₁ h₁ => ?_) fun _ _ e => e)) (fun _ s' hq => wpAny_pure (wpAny_pure hq)) fun _ _ e => e)
  obtain ⟨r, t, u, v, rfl, hr, F, N, hkey, hQ⟩ := h₁
  refine wpAny_pyIter_range hr (rsmall _ (by omega)) ?_
  have up : ∀ (o' : Obj) c o, s₁.heap.get? c = some o → (s₁.heap.push o').get? c = some o := fun o' c o e => Heap.get?_push_of_some _ e
  refine dcr_block (ks := ks) hz hh (by show IsRangeIter _ _ _ _ _; rw [rs_one]; exact Heap.get?_push_size _ rfl) hcell hkind hxa hda
    (F.keeps fun c o e => up _ c o e) (N.grown fun c o e => up _ c o e) (Nat.ne_of_lt F.ns.lt) (next_is_new F) (fun p hp => Nat.ne_of_lt (Heap.lt_size (N p hp).1)) hkey ?_
  intro D C h' tk m' o kvs hdo hf F' N' hLD offD hn hC₀ hD₀ hCL hDL hCD offC
  show wpAny _ A (assign (.Name y py) env (.ref D)) _ _ _
  refine wpAny_assign_Name (wpAny_storeName_local hy F'.ns (fun h₂ hn₂ hs₂ => ?_) hp)
  have hL₀ : h₀.get? env.locals = none := Heap.get?_none_of_le F'.above
  have F₂ : Fr h₀ env.locals h₂ (fun z => if z = y then some (.ref D) else m z) := ⟨hn₂, fun b o e => hs₂.extBut b o (fun q => by rw [q, hL₀] at e; cases e) (F'.keep b o e), F'.above⟩
  refine ⟨m', hn.sameBut hs₂ hCL, fun h'' hs'' => hQ D h'' _ o kvs hdo hf (F₂.change hs'' hCL hC₀) (fun p hp => ?_) hLD offD⟩
  have z : h₂.get? p.1 = some p.2 := hs₂.extBut _ _ (N' p hp).2.1 (N' p hp).1
  refine ⟨hs''.extBut _ _ ?_ z, (N' p hp).2⟩
  rcases List.mem_cons.mp hp with rfl | hp
  · exact Ne.symm hCD
  · exact offC p hp
end
end R
end Mine
-- P2
namespace Mine
theorem mem_first {G D M : Addr} {lo o1 o2 : Obj} {q : Addr × Obj} (hmem : (G, lo) ∈ q :: [(D, o1), (M, o2)]) (h1 : D < G) (h2 : M < G) : q = (G, lo) := by
  rcases List.mem_cons.mp hmem with e | hm
  · exact e.symm
  · rcases List.mem_cons.mp hm with e | hm
    · have e1 : G = D := congrArg Prod.fst e
      exact absurd e1 (Nat.ne_of_gt h1)
    · have e1 : G = M := congrArg Prod.fst (List.mem_singleton.mp hm)
      exact absurd e1 (Nat.ne_of_gt h2)
theorem foldl_filter (p : Int → Bool) (ks : List Int) : ks.foldl (fun l k => if p k = true then l ++ [k] else l) [] = ks.filter p := by
  have key : ∀ (ks l : List Int), ks.foldl (fun l k => if p k = true then l ++ [k] else l) l = l ++ ks.filter p := by
    intro ks
    induction ks with
    | nil => intro l; simp
    | cons k r ih =>
      intro l
      rw [List.foldl_cons, ih]
      by_cases h : p k = true
      · simp [h]
      · simp [h]
  simpa using key ks []
theorem LCg.off1_mem {D : Addr} : ∀ {l : List (Addr × Obj)}, PyProof.Rows.LCg.Off1 D l → ∀ p ∈ l, p.1 ≠ D
  | [], _, _, h => nomatch h
  | _ :: _, x, p, h => by
    rcases List.mem_cons.mp h with rfl | h
    · exact x.1
    · exact LCg.off1_mem x.2 p h
theorem nodup_inj {ks : List Int} (hd : ks.Nodup) {i j : Nat} (hi : i < ks.length) (hj : j < ks.length) (e : ks[i] = ks[j]) : i = j := by
  rw [List.nodup_iff_pairwise_ne, List.pairwise_iff_getElem] at hd
  rcases Nat.lt_trichotomy i j with h | h | h
  · exact absurd e (hd i j hi hj h)
  · exact h
  · exact absurd e.symm (hd j i hj hi h)
theorem look_cons (p : Int × Int) (c : List (Int × Int)) (x d : Int) : kdfLook (p :: c) x d = if p.1 = x then p.2 else kdfLook c x d := by
  unfold kdfLook
  rw [List.find?_cons]
  by_cases h : p.1 = x <;> simp [h]
theorem look_map (k v x d : Int) : ∀ c : List (Int × Int), kdfLook (c.map (fun p => if decide (p.1 = k) then (p.1, v) else p)) x d = if x = k ∧ kdfHas c k = true then v else kdfLook c x d
  | [] => by simp [kdfLook, kdfHas]
  | p :: r => by
    rw [List.map_cons, look_cons, look_map k v x d r, look_cons]
    have hh : kdfHas (p :: r) k = (decide (p.1 = k) || kdfHas r k) := rfl
    rw [hh]
    by_cases hp : p.1 = k
    · subst hp
      by_cases hx : x = p.1
      · subst hx
        simp
      · have hx2 : ¬ p.1 = x := fun e => hx e.symm
        simp [hx, hx2]
    · by_cases hx : p.1 = x
      · have hxk : ¬ x = k := fun e => hp (hx.trans e)
        simp [hp, hx, hxk]
      · simp [hp, hx]
theorem look_none {x d : Int} : ∀ {c : List (Int × Int)}, kdfHas c x = false → kdfLook c x d = d
  | [], _ => rfl
  | p :: r, h => by
    have hh : kdfHas (p :: r) x = (decide (p.1 = x) || kdfHas r x) := rfl
    rw [hh, Bool.or_eq_false_iff] at h
    rw [look_cons, if_neg (by simpa using h.1), look_none h.2]
theorem look_app (k v x d : Int) : ∀ c : List (Int × Int), kdfLook (c ++ [(k, v)]) x d = if kdfHas c x = true then kdfLook c x d else if k = x then v else d
  | [] => by
    by_cases h : k = x <;> simp [kdfLook, kdfHas, h]
  | p :: r => by
    have hh : kdfHas (p :: r) x = (decide (p.1 = x) || kdfHas r x) := rfl
    rw [List.cons_append, look_cons, look_app k v x d r, look_cons, hh]
    by_cases hx : p.1 = x <;> simp [hx]
theorem look_put (k v x d : Int) (c : List (Int × Int)) : kdfLook (kdfPut c k v) x d = if x = k then v else kdfLook c x d := by
  unfold kdfPut
  split
  · rename_i h
    have h' : kdfHas c k = true := h
    rw [look_map, h']
    simp
  · rename_i h
    have h' : kdfHas c k = false := by
      cases e : kdfHas c k with
      | false => rfl
      | true => exact absurd e h
    rw [look_app]
    by_cases hx : x = k
    · subst hx
      simp [h']
    · have hkx : ¬ k = x := fun e => hx e.symm
      by_cases hb : kdfHas c x = true
      · simp [hb, hx]
      · have hb' : kdfHas c x = false := by simpa using hb
        rw [look_none hb']
        simp [hb', hx, hkx]
theorem has_put (k v x : Int) (c : List (Int × Int)) : kdfHas (kdfPut c k v) x = (decide (x = k) || kdfHas c x) := by
  unfold kdfPut kdfHas
  split
  · rename_i h
    have h1 : ∀ c : List (Int × Int), ((c.map (fun p => if decide (p.1 = k) then (p.1, v) else p)).any fun p => decide (p.1 = x)) = c.any fun p => decide (p.1 = x) := by
      intro c
      induction c with
      | nil => rfl
      | cons p r ih =>
        rw [List.map_cons, List.any_cons, List.any_cons, ih]
        by_cases hp : p.1 = k <;> simp [hp]
    rw [h1]
    by_cases hx : x = k
    · subst hx
      simp [h]
    · simp [hx]
  · rw [List.any_append]
    by_cases hx : x = k
    · subst hx
      simp
    · have hkx : ¬ k = x := fun e => hx e.symm
      simp [hx, hkx]
theorem put_len (k v : Int) {c : List (Int × Int)} (h : kdfHas c k = true) : (kdfPut c k v).length = c.length := by
  unfold kdfHas at h
  unfold kdfPut
  rw [if_pos h, List.length_map]
theorem inv_has {ks : List Int} {x : Int} : ∀ {n : Nat}, n ≤ ks.length → (kdfHas (R.invI ks n) x = true ↔ x ∈ ks.take n)
  | 0, _ => by simp [R.invI, kdfHas]
  | n + 1, h => by
    have hn : n < ks.length := h
    have ih := inv_has (x := x) (Nat.le_of_lt hn)
    show kdfHas (kdfPut (R.invI ks n) (ks.getD n 0) (n : Int)) x = true ↔ _
    rw [has_put, Bool.or_eq_true, ih, List.take_add_one, List.mem_append, List.getElem?_eq_getElem hn, List.getD_eq_getElem?_getD, List.getElem?_eq_getElem hn]
    simp
    exact or_comm
theorem inv_look {ks : List Int} (hd : ks.Nodup) {i : Nat} : ∀ {n : Nat}, n ≤ ks.length → i < n → kdfLook (R.invI ks n) (ks.getD i 0) 0 = (i : Int)
  | 0, _, h => absurd h (Nat.not_lt_zero _)
  | n + 1, h, hi => by
    have hn : n < ks.length := h
    show kdfLook (kdfPut (R.invI ks n) (ks.getD n 0) (n : Int)) (ks.getD i 0) 0 = _
    rw [look_put]
    by_cases e : i = n
    · subst e
      rw [if_pos rfl]
    · have hin : i < ks.length := by omega
      have : ¬ ks.getD i 0 = ks.getD n 0 := by
        rw [List.getD_eq_getElem?_getD, List.getD_eq_getElem?_getD, List.getElem?_eq_getElem hin, List.getElem?_eq_getElem hn]
        intro e2
        exact e (nodup_inj hd hin hn e2)
      rw [if_neg this]
      exact inv_look hd (Nat.le_of_lt hn) (by omega)
end Mine
-- P1b
namespace Mine
local macro_rules | `(tactic| walk_at "none") => `(tactic| fail)
local macro_rules | `(tactic| walk_at "none") => `(tactic| fail)
local macro_rules | `(tactic| walk_at "none") => `(tactic| fail)
local macro_rules | `(tactic| walk_at "none") => `(tactic| fail)
local macro_rules | `(tactic| walk_at "none") => `(tactic| fail)
local macro_rules | `(tactic| walk_at "none") => `(tactic| fail)
local macro_rules | `(tactic| walk_at "none") => `(tactic| fail)
local macro_rules | `(tactic| walk_at "none") => `(tactic| fail)
local macro_rules | `(tactic| walk_at "none") => `(tactic| fail)
theorem fresh_walk_P1b : True := by
 w_top off
 trivial
local macro_rules | `(tactic| walk1) => `(tactic| ((with_reducible show wpAny _ _ (exec (Stmt.While _ _ _ _) _) _ _ _); refine Stop.into ?_))
local macro_rules | `(tactic| walk1) => `(tactic| ((with_reducible show wpAny _ _ (exec (Stmt.For _ _ _ _ _) _) _ _ _); refine Stop.into ?_))
local macro_rules | `(tactic| walk1) => `(tactic| ((with_reducible show wpAny _ _ (pyIter _) _ _ _); refine Stop.into ?_))
local macro_rules | `(tactic| walk1) => `(tactic| ((with_reducible show wpAny _ _ (call (Value.ref _) _ _) _ _ _); refine Stop.into ?_))
local macro_rules | `(tactic| walk_at "getMethod bytes") => `(tactic| (with_reducible refine R.lstrip_method ?_))
local macro_rules | `(tactic| walk_at "getMethod bytes") => `(tactic| (with_reducible refine R.rstrip_method ?_))
local macro_rules | `(tactic| walk_at "getMethod str") => `(tactic| (with_reducible refine R.encode_method ?_))
local macro_rules | `(tactic| walk_at "call builtin:bytes.lstrip") => `(tactic| ((with_reducible show wpAny _ _ (call (Value.builtin "bytes.lstrip") [Value.bytes _ _, Value.bytes _ _]) _ _ _); (refine R.lstrip_call (by kba_ints2) (by kba_ints2) (by kba_size) ?_); intro _ _ _ hlst))
local macro_rules | `(tactic| walk_at "call builtin:bytes.rstrip") => `(tactic| ((with_reducible show wpAny _ _ (call (Value.builtin "bytes.rstrip") [Value.bytes _ _]) _ _ _); (refine R.rstrip_call (by kba_ints2) (by kba_size) ?_); intro _ _ _ hrst))
local macro_rules | `(tactic| walk_at "callWith ref") => `(tactic| (k_here; kfb_any; k_dflt (refine' R.fb_callWith ?hN ?hM ?ha ?_; (case hN => k_asm); (case hM => k_mem); (case ha => exact rfl); k_whole)))
local macro_rules | `(tactic| walk1) => `(tactic| ((with_reducible show wpAny _ _ (binaryOp Operator.Add (Value.bytes _ _) (Value.bytes _ _)) _ _ _); first | ((refine KBa.add_K (by kba_ints2) (by kba_ints2) (by ((try simp only [List.length_replicate, List.length_append, List.length_map, List.length_take, List.length_drop, List.length_cons, List.length_nil]); omega)) ?_); intro _ _ kbaApp) | (refine Stop.into ?_)))
theorem fdiv_pos (a : Int) {b : Int} (h : 0 ≤ b) : a.fdiv b = a / b := by rw [Int.fdiv_eq_ediv_of_nonneg _ h]
theorem fmod_pos (a : Int) {b : Int} (h : 0 ≤ b) : a.fmod b = a % b := by rw [Int.fmod_eq_emod_of_nonneg _ h]
def dig (base n : Nat) : List Nat := if h : 2 ≤ base ∧ n ≠ 0 then dig base (n / base) ++ [n % base] else []
termination_by n
decreasing_by exact Nat.div_lt_self (by omega) (by omega)
def encI (ks : List Int) (i : Int) : List Int := (dig ks.length i.toNat).map fun d => ks.getD d 0
theorem encI_step {ks : List Int} {j : Int} (hb : 2 ≤ ks.length) (hj : 0 < j) : encI ks j = encI ks (j / (ks.length : Int)) ++ [ks.getD (j % (ks.length : Int)).toNat 0] := by
  unfold encI
  have h1 : j.toNat ≠ 0 := by omega
  rw [dig, dif_pos ⟨hb, h1⟩]
  have e1 : (j / (ks.length : Int)).toNat = j.toNat / ks.length := by
    obtain ⟨n, rfl⟩ := Int.eq_ofNat_of_zero_le (Int.le_of_lt hj)
    simp
    norm_cast
  have e2 : (j % (ks.length : Int)).toNat = j.toNat % ks.length := by
    obtain ⟨n, rfl⟩ := Int.eq_ofNat_of_zero_le (Int.le_of_lt hj)
    simp
    norm_cast
  rw [e1, e2]
  simp
theorem encI_zero (ks : List Int) : encI ks 0 = [] := by
  unfold encI
  rw [dig, dif_neg (by simp)]
  rfl
def digNum (ks : List Int) (base : Int) : Int := ks.foldl (fun a k => a * base + k) 0
theorem digNum_from (base : Int) : ∀ (ks : List Int) (a : Int), ks.foldl (fun a k => a * base + k) a = a * base ^ ks.length + digNum ks base
  | [], a => by simp [digNum]
  | k :: r, a => by
    have h1 := digNum_from base r (a * base + k)
    have h2 : digNum (k :: r) base = (0 * base + k) * base ^ r.length + digNum r base := digNum_from base r (0 * base + k)
    rw [List.foldl_cons, h1, h2, List.length_cons, Int.pow_succ]
    grind
theorem digNum_cons (base k : Int) (r : List Int) : digNum (k :: r) base = k * base ^ r.length + digNum r base := by
  have : digNum (k :: r) base = (0 * base + k) * base ^ r.length + digNum r base := digNum_from base r (0 * base + k)
  rw [this]
  simp
theorem drop_back {ks : List Int} {i : Nat} (h : i < ks.length) : ks.drop (ks.length - (i + 1)) = ks.getD (ks.length - 1 - i) 0 :: ks.drop (ks.length - i) := by
  have e : ks.length - i = ks.length - (i + 1) + 1 := by omega
  have h1 : ks.length - (i + 1) < ks.length := by omega
  rw [e, List.drop_eq_getElem_cons h1, List.getD_eq_getElem?_getD]
  have e2 : ks.length - 1 - i = ks.length - (i + 1) := by omega
  rw [e2, List.getElem?_eq_getElem h1]
  rfl
theorem mul_left {a b : Int} (h0 : 0 ≤ a) (h1 : a < 1000000) : IntMulOk a b := IntMulOk.of_left (intBits_le_iff.mpr (by omega))
theorem mul_right {a b : Int} (h0 : 0 ≤ b) (h1 : b < 1000000) : IntMulOk a b := IntMulOk.of_right (intBits_le_iff.mpr (by omega))
def nough (ks : List Int) : Nat := (ks.takeWhile fun k => decide (k = 0)).length
theorem nough_nil : nough [] = 0 := rfl
theorem nough_zero (r : List Int) : nough (0 :: r) = nough r + 1 := by simp [nough]
theorem nough_pos {k : Int} (h : k ≠ 0) (r : List Int) : nough (k :: r) = 0 := by simp [nough, h]
theorem drop_at {ks : List Int} {i : Nat} (h : i < ks.length) : ks.drop i = ks.getD i 0 :: ks.drop (i + 1) := by
  rw [List.drop_eq_getElem_cons h, List.getD_eq_getElem?_getD, List.getElem?_eq_getElem h]
  rfl
def ledN (b n : Nat) : List Nat := if h : 2 ≤ b ∧ n ≠ 0 then n % b :: ledN b (n / b) else []
termination_by n
decreasing_by exact Nat.div_lt_self (by omega) (by omega)
/-- the digits of an int, least first -/
def ledI (new c : Int) : List Int := List.map (fun d : Nat => (d : Int)) (ledN new.toNat c.toNat)
def carr (old new : Int) : List Int → Int → List Int
  | [], c => ledI new c
  | d :: r, c => (c + d * old) % new :: carr old new r ((c + d * old) / new)
theorem ledI_zero {new c : Int} (h : c ≤ 0) : ledI new c = [] := by
  unfold ledI
  rw [ledN, dif_neg (by omega)]
  rfl
theorem ledI_step {new c : Int} (hb : 2 ≤ new) (h : 0 < c) : ledI new c = c % new :: ledI new (c / new) := by
  obtain ⟨b, rfl⟩ := Int.eq_ofNat_of_zero_le (by omega : 0 ≤ new)
  obtain ⟨n, rfl⟩ := Int.eq_ofNat_of_zero_le (by omega : 0 ≤ c)
  unfold ledI
  rw [ledN, dif_pos (by omega)]
  have e1 : ((n : Int) / (b : Int)).toNat = n / b := by norm_cast
  rw [List.map_cons, e1]
  simp
theorem emod_in {a b : Int} (h : 0 < b) : 0 ≤ a % b ∧ a % b < b := ⟨Int.emod_nonneg _ (by omega), Int.emod_lt_of_pos _ h⟩
theorem carr_in {old new : Int} (hn : 2 ≤ new) : ∀ (ds : List Int) (c : Int), ∀ x ∈ carr old new ds c, 0 ≤ x ∧ x < new
  | [], c, x, hx => by
    show 0 ≤ x ∧ x < new
    unfold carr ledI at hx
    obtain ⟨d, hd, rfl⟩ := List.mem_map.mp hx
    have key : ∀ n : Nat, ∀ d ∈ ledN new.toNat n, d < new.toNat := by
      intro n
      induction n using Nat.strongRecOn with
      | ind n ih =>
        intro d hd
        rw [ledN] at hd
        split at hd
        · rename_i h
          rcases List.mem_cons.mp hd with rfl | hd
          · exact Nat.mod_lt _ (by omega)
          · exact ih _ (Nat.div_lt_self (by omega) (by omega)) d hd
        · cases hd
    have := key _ d hd
    omega
  | d :: r, c, x, hx => by
    unfold carr at hx
    rcases List.mem_cons.mp hx with rfl | hx
    · exact emod_in (by omega)
    · exact carr_in hn r _ x hx
theorem take_set {v : Int} : ∀ (ds : List Int) (j : Nat), j < ds.length → (ds.set j v).take (j + 1) = ds.take j ++ [v]
  | [], _, h => absurd h (Nat.not_lt_zero _)
  | d :: r, 0, _ => by simp
  | d :: r, j + 1, h => by
    have ih := take_set (v := v) r j (Nat.lt_of_succ_lt_succ h)
    show d :: (r.set j v).take (j + 1) = d :: r.take j ++ [v]
    rw [ih]
    rfl
theorem drop_set {v : Int} : ∀ (ds : List Int) (j : Nat), (ds.set j v).drop (j + 1) = ds.drop (j + 1)
  | [], _ => by simp
  | d :: r, 0 => by simp
  | d :: r, j + 1 => by
    show (r.set j v).drop (j + 1) = r.drop (j + 1)
    exact drop_set r j
theorem mem_set_in {v : Int} {P : Int → Prop} {ds : List Int} {j : Nat} (h : ∀ d ∈ ds, P d) (hv : P v) : ∀ d ∈ ds.set j v, P d := fun d hd => by
  rcases List.mem_or_eq_of_mem_set hd with h1 | h1
  · exact h d h1
  · exact h1 ▸ hv
theorem getD_in {P : Int → Prop} {ds : List Int} {j : Nat} (h : ∀ d ∈ ds, P d) (hj : j < ds.length) : P (ds.getD j 0) := by
  rw [List.getD_eq_getElem?_getD, List.getElem?_eq_getElem hj]
  exact h _ (List.getElem_mem hj)
theorem foldl_carr_in {old new : Int} (hn : 2 ≤ new) : ∀ (ks ds : List Int), (∀ d ∈ ds, 0 ≤ d ∧ d < new) → ∀ d ∈ List.foldl (carr old new) ds ks, 0 ≤ d ∧ d < new
  | [], _, h => h
  | k :: r, ds, _ => foldl_carr_in hn r _ (carr_in hn ds k)
theorem foldl_take {α β : Type} (f : β → α → β) (b : β) {ks : List α} {i : Nat} {x : α} (h : ks[i]? = some x) : List.foldl f b (ks.take (i + 1)) = f (List.foldl f b (ks.take i)) x := by
  rw [List.take_add_one, h]
  simp
theorem sub_a {α : Type} {a : α} {l r : List α} : ∀ p ∈ a :: l, p ∈ a :: (l ++ r) := fun p hp => by
  rcases List.mem_cons.mp hp with rfl | h
  · exact .head _
  · exact .tail _ (List.mem_append_left _ h)
theorem sub_b {α : Type} {a : α} {l r : List α} : ∀ p ∈ r, p ∈ a :: (l ++ r) := fun _ hp => .tail _ (List.mem_append_right _ hp)
theorem sub_c {α : Type} {a : α} {l : List α} : ∀ p ∈ l, p ∈ a :: l := fun _ hp => .tail _ hp
theorem sub_d {α : Type} {a : α} {l : List α} : ∀ p ∈ [a], p ∈ a :: l := fun _ hp => by
  rw [List.mem_singleton.mp hp]
  exact .head _
theorem clip_in {n : Nat} {j : Int} (h0 : 0 ≤ j) (h1 : j ≤ n) : clipAt n j = j.toNat := by
  obtain ⟨k, rfl⟩ := Int.eq_ofNat_of_zero_le h0
  rw [clipAt_nat]
  omega
theorem pick_one {ks : List Int} {j : Int} (h0 : 0 ≤ j) (h1 : j < ks.length) : (ks.drop (clipAt ks.length j)).take (clipAt ks.length (j + 1) - clipAt ks.length j) = [ks.getD j.toNat 0] := by
  rw [clip_in h0 (by omega), clip_in (by omega) (by omega)]
  have e : (j + 1).toNat - j.toNat = 1 := by omega
  have h : j.toNat < ks.length := by omega
  rw [e, List.getD_eq_getElem?_getD, List.getElem?_eq_getElem h, List.take_one, List.head?_drop, List.getElem?_eq_getElem h]
  rfl
theorem drop_nough : ∀ (ks : List Int), ks.dropWhile (fun k => decide (k = 0)) = ks.drop (nough ks)
  | [] => rfl
  | k :: r => by
    by_cases h : k = 0
    · subst h
      rw [List.dropWhile_cons_of_pos (by simp), nough_zero, List.drop_succ_cons, drop_nough r]
    · rw [List.dropWhile_cons_of_neg (by simp [h]), nough_pos h, List.drop_zero]
theorem nough_le : ∀ (ks : List Int), nough ks ≤ ks.length := fun ks => (List.takeWhile_sublist _).length_le
theorem digNum_drop (base : Int) : ∀ (ks : List Int), digNum (ks.drop (nough ks)) base = digNum ks base
  | [] => rfl
  | k :: r => by
    by_cases h : k = 0
    · subst h
      rw [nough_zero, List.drop_succ_cons, digNum_drop base r, digNum_cons, Int.zero_mul, Int.zero_add]
    · rw [nough_pos h, List.drop_zero]
theorem digNum_nonneg {base : Int} (hb : 0 ≤ base) : ∀ {ks : List Int}, (∀ k ∈ ks, 0 ≤ k) → 0 ≤ digNum ks base
  | [], _ => Int.le_refl _
  | k :: r, h => by
    rw [digNum_cons]
    have h1 := digNum_nonneg hb (ks := r) fun x hx => h x (.tail _ hx)
    have h2 := Int.mul_nonneg (h k (.head _)) (Int.pow_nonneg hb : 0 ≤ base ^ r.length)
    omega
theorem ints_nonneg {b : Array UInt8} {ks : List Int} (hb : KBw.bInts b = ks) : ∀ k ∈ ks, 0 ≤ k := fun k hk => by
  subst hb
  exact (KBw.ints_in hk).1
theorem ints_lt {b : Array UInt8} {ks : List Int} (hb : KBw.bInts b = ks) : ∀ k ∈ ks, 0 ≤ k ∧ k < 256 := fun k hk => by
  subst hb
  exact KBw.ints_in hk
theorem scrub_b_ct (w : World) (b : Array UInt8) (ta : Nat) :
    Ct (PySem.Challenge.rw_eg5003_02.row.prog) w (Mine.hd.heap_39 w.params) 21 5 (fun _ => True) [.bytes b ta] [] (fun v nw => nw = [] ∧ v = .bytes b ta) := by
  k_fill
  refine' Ct.of (by k_is) (by k_is) (fun s _ => BindsTo.of_eq rfl) (locs rfl) rfl rfl rfl (by decide) (fun _ _ _ x => x) ?_
  intro p loose mean mg mb dp un gd outer A₀ base g L s Q B F X N T hpre hd hu hret
  k_steps
  dsimp only
  exact hret _ [] _ _ _ ⟨rfl, rfl⟩ F N
theorem scrub_s_ct (w : World) (x : PySem.Str) (ta : Nat) (hx : ∀ c ∈ x.cps, c < 128) (hz : x.length ≤ 1000) :
    Ct (PySem.Challenge.rw_eg5003_02.row.prog) w (Mine.hd.heap_39 w.params) 21 5 (fun _ => True) [.str x ta] [] (fun v nw => nw = [] ∧ ∃ t, v = .bytes (x.cps.map fun c => c.toUInt8) t) := by
  k_fill
  refine' Ct.of (by k_is) (by k_is) (fun s _ => BindsTo.of_eq rfl) (locs rfl) rfl rfl rfl (by decide) (fun _ _ _ x => x) ?_
  intro p loose mean mg mb dp un gd outer A₀ base g L s Q B F X N T hpre hd hu hret
  k_steps
  refine R.encode_call hx (by rw [sizeLine_eq]; omega) ?_
  intro t' k'
  k_steps
  dsimp only
  rename Fr _ _ _ _ => F1
  rename News _ _ _ _ => N1
  exact hret _ [] _ _ _ ⟨rfl, t', rfl⟩ F1 N1
theorem enc_int_ct (w : World) (i : Int) (d : Bool) (b : Array UInt8) (ks : List Int) (tk tk' : Nat) (hi : 0 ≤ i) (hb : KBw.bInts b = ks) (h2 : 2 ≤ ks.length) (h3 : ks.length ≤ 200) (h4 : (encI ks i).length ≤ 10000) :
    Ct (PySem.Challenge.rw_eg5003_02.row.prog) w (Mine.hd.heap_39 w.params) 29 5 (fun _ => True) [.int i tk, .bool d, .bytes b tk'] [] (fun v nw => nw = [] ∧ ∃ r t, v = .bytes r t ∧ KBw.bInts r = if i = 0 ∧ d = true then ks.take 1 else encI ks i) := by
  k_fill
  refine' Ct.of (by k_is) (by k_is) (fun s X => by exact binds_K X rfl (by k_is) rfl rfl rfl) (locs rfl) rfl rfl rfl (by decide) (fun _ _ k x => x) ?_
  intro p loose mean mg mb dp un gd outer A₀ base g L s Q B F X N T hpre hd hu hret
  have hsz : b.size = ks.length := by rw [← hb, KBw.ints_length]
  k_steps
  any_goals (
    refine Stop.out ?_
    rename Fr _ _ _ _ => F1
    rename News _ _ _ _ => N1
    refine' While_inv2 (fun n m nw => nw = [] ∧ ∃ (j : Int) (st : Array UInt8) (ss : List Int) (t1 t2 t3 : Nat), KBw.bInts st = ss ∧ 0 ≤ j ∧ n = j.toNat ∧ m "i" = some (.int j t1) ∧ m "string" = some (.bytes st t2) ∧ m "alphabet" = some (.bytes b tk') ∧ m "base" = some (.int (ks.length : Int) t3) ∧ encI ks i = encI ks j ++ ss)
      F1 N1 ⟨rfl, i, _, [], _, _, _, rfl, hi, rfl, rfl, rfl, rfl, rfl, by simp⟩ ?_ PassesOwn.never
    rintro n m₁ nw h₁ tk₁ F₁ N₁ ⟨rfl, j, st, ss, t1, t2, t3, hst, hj, rfl, e1, e2, e3, e4, henc⟩
    have F₂ := fr_pin [("i", .int j t1), ("string", .bytes st t2), ("alphabet", .bytes b tk'), ("base", .int (ks.length : Int) t3)] (by simp [e1, e2, e3, e4]) F₁
    clear F1 N1 F₁
    have hss : ss.length ≤ 10000 := by
      have := congrArg List.length henc
      rw [List.length_append] at this
      omega
    k_steps
    · have hidx : 0 ≤ j.fmod (ks.length : Int) ∧ j.fmod (ks.length : Int) < ks.length := by
        rw [fmod_pos _ (by omega)]
        exact ⟨Int.emod_nonneg _ (by omega), Int.emod_lt_of_pos _ (by omega)⟩
      rename KBw.bInts (KBy.picked _ _ _) = _ => kb
      k_steps
      rename KBw.bInts (KBy.picked _ _ _ ++ _) = _ => kb
      rw [pick_one hidx.1 hidx.2] at kb
      rename Fr _ _ _ _ => F3
      rename News _ _ _ _ => N3
      have hdv : 0 ≤ j.fdiv (ks.length : Int) ∧ (j.fdiv (ks.length : Int)).toNat < j.toNat := by
        rw [fdiv_pos _ (by omega)]
        have h1 := Int.ediv_nonneg hj (by omega : (0 : Int) ≤ ks.length)
        have h2 : j / (ks.length : Int) < j := Int.ediv_lt_of_lt_mul (by omega) (by
          have : j * 2 ≤ j * (ks.length : Int) := Int.mul_le_mul_of_nonneg_left (by omega) hj
          omega)
        omega
      refine ⟨_, _, _, [], _, rfl, F3, news_sub N3 (by simp), hdv.2, rfl, _, _, _, _, _, _, kb, hdv.1, rfl, rfl, rfl, rfl, rfl, ?_⟩
      rw [henc, encI_step h2 (by omega), fdiv_pos _ (by omega), fmod_pos _ (by omega)]
      simp
    · dsimp only
      refine hret _ [] _ _ _ ⟨rfl, st, _, rfl, ?_⟩ F₂ N₁
      rw [if_neg (by simp_all)]
      rename j = 0 => hj0
      rw [hst, henc, hj0, encI_zero]
      rfl)
  · dsimp only
    rename KBw.bInts _ = List.take _ _ => kb
    rename Fr _ _ _ _ => F3
    rename News _ _ _ _ => N3
    refine hret _ [] _ _ _ ⟨rfl, _, _, rfl, ?_⟩ F3 N3
    rw [if_pos (by simp_all), kb, show clipAt ks.length 0 = 0 from clip_in (by omega) (by omega), show clipAt ks.length 1 = 1 from clip_in (by omega) (by omega)]
    rfl
theorem enc_int_kw (w : World) (i : Int) (d : Bool) (b : Array UInt8) (ks : List Int) (tk tk' : Nat) (hi : 0 ≤ i) (hb : KBw.bInts b = ks) (h2 : 2 ≤ ks.length) (h3 : ks.length ≤ 200) (h4 : (encI ks i).length ≤ 10000) :
    Ct (PySem.Challenge.rw_eg5003_02.row.prog) w (Mine.hd.heap_39 w.params) 29 5 (fun _ => True) [.int i tk] [("default_one", .bool d), ("alphabet", .bytes b tk')] (fun v nw => nw = [] ∧ ∃ r t, v = .bytes r t ∧ KBw.bInts r = if i = 0 ∧ d = true then ks.take 1 else encI ks i) := by
  k_fill
  refine' Ct.of (by k_is) (by k_is) (fun s X => by exact binds_K X rfl (by k_is) rfl rfl rfl) (locs rfl) rfl rfl rfl (by decide) (fun _ _ k x => x) ?_
  intro p loose mean mg mb dp un gd outer A₀ base g L s Q B F X N T hpre hd hu hret
  have hsz : b.size = ks.length := by rw [← hb, KBw.ints_length]
  k_steps
  any_goals (
    refine Stop.out ?_
    rename Fr _ _ _ _ => F1
    rename News _ _ _ _ => N1
    refine' While_inv2 (fun n m nw => nw = [] ∧ ∃ (j : Int) (st : Array UInt8) (ss : List Int) (t1 t2 t3 : Nat), KBw.bInts st = ss ∧ 0 ≤ j ∧ n = j.toNat ∧ m "i" = some (.int j t1) ∧ m "string" = some (.bytes st t2) ∧ m "alphabet" = some (.bytes b tk') ∧ m "base" = some (.int (ks.length : Int) t3) ∧ encI ks i = encI ks j ++ ss)
      F1 N1 ⟨rfl, i, _, [], _, _, _, rfl, hi, rfl, rfl, rfl, rfl, rfl, by simp⟩ ?_ PassesOwn.never
    rintro n m₁ nw h₁ tk₁ F₁ N₁ ⟨rfl, j, st, ss, t1, t2, t3, hst, hj, rfl, e1, e2, e3, e4, henc⟩
    have F₂ := fr_pin [("i", .int j t1), ("string", .bytes st t2), ("alphabet", .bytes b tk'), ("base", .int (ks.length : Int) t3)] (by simp [e1, e2, e3, e4]) F₁
    clear F1 N1 F₁
    have hss : ss.length ≤ 10000 := by
      have := congrArg List.length henc
      rw [List.length_append] at this
      omega
    k_steps
    · have hidx : 0 ≤ j.fmod (ks.length : Int) ∧ j.fmod (ks.length : Int) < ks.length := by
        rw [fmod_pos _ (by omega)]
        exact ⟨Int.emod_nonneg _ (by omega), Int.emod_lt_of_pos _ (by omega)⟩
      rename KBw.bInts (KBy.picked _ _ _) = _ => kb
      k_steps
      rename KBw.bInts (KBy.picked _ _ _ ++ _) = _ => kb
      rw [pick_one hidx.1 hidx.2] at kb
      rename Fr _ _ _ _ => F3
      rename News _ _ _ _ => N3
      have hdv : 0 ≤ j.fdiv (ks.length : Int) ∧ (j.fdiv (ks.length : Int)).toNat < j.toNat := by
        rw [fdiv_pos _ (by omega)]
        have h1 := Int.ediv_nonneg hj (by omega : (0 : Int) ≤ ks.length)
        have h2 : j / (ks.length : Int) < j := Int.ediv_lt_of_lt_mul (by omega) (by
          have : j * 2 ≤ j * (ks.length : Int) := Int.mul_le_mul_of_nonneg_left (by omega) hj
          omega)
        omega
      refine ⟨_, _, _, [], _, rfl, F3, news_sub N3 (by simp), hdv.2, rfl, _, _, _, _, _, _, kb, hdv.1, rfl, rfl, rfl, rfl, rfl, ?_⟩
      rw [henc, encI_step h2 (by omega), fdiv_pos _ (by omega), fmod_pos _ (by omega)]
      simp
    · dsimp only
      refine hret _ [] _ _ _ ⟨rfl, st, _, rfl, ?_⟩ F₂ N₁
      rw [if_neg (by simp_all)]
      rename j = 0 => hj0
      rw [hst, henc, hj0, encI_zero]
      rfl)
  · dsimp only
    rename KBw.bInts _ = List.take _ _ => kb
    rename Fr _ _ _ _ => F3
    rename News _ _ _ _ => N3
    refine hret _ [] _ _ _ ⟨rfl, _, _, rfl, ?_⟩ F3 N3
    rw [if_pos (by simp_all), kb, show clipAt ks.length 0 = 0 from clip_in (by omega) (by omega), show clipAt ks.length 1 = 1 from clip_in (by omega) (by omega)]
    rfl
end Mine
-- C10b
namespace Mine
local macro_rules | `(tactic| walk_at "none") => `(tactic| fail)
local macro_rules | `(tactic| walk_at "none") => `(tactic| fail)
local macro_rules | `(tactic| walk_at "none") => `(tactic| fail)
local macro_rules | `(tactic| walk_at "none") => `(tactic| fail)
local macro_rules | `(tactic| walk_at "none") => `(tactic| fail)
local macro_rules | `(tactic| walk_at "none") => `(tactic| fail)
local macro_rules | `(tactic| walk_at "none") => `(tactic| fail)
local macro_rules | `(tactic| walk_at "none") => `(tactic| fail)
theorem fresh_walk_C10b : True := by
 w_top off
 trivial
local macro_rules | `(tactic| walk1) => `(tactic| ((with_reducible show wpAny _ _ (exec (Stmt.While _ _ _ _) _) _ _ _); refine Stop.into ?_))
local macro_rules | `(tactic| walk1) => `(tactic| ((with_reducible show wpAny _ _ (exec (Stmt.For _ _ _ _ _) _) _ _ _); refine Stop.into ?_))
local macro_rules | `(tactic| walk1) => `(tactic| ((with_reducible show wpAny _ _ (pyIter _) _ _ _); refine Stop.into ?_))
local macro_rules | `(tactic| walk1) => `(tactic| ((with_reducible show wpAny _ _ (call (Value.ref _) _ _) _ _ _); refine Stop.into ?_))
local macro_rules | `(tactic| walk_at "getMethod bytes") => `(tactic| (with_reducible refine R.lstrip_method ?_))
local macro_rules | `(tactic| walk_at "getMethod bytes") => `(tactic| (with_reducible refine R.rstrip_method ?_))
local macro_rules | `(tactic| walk_at "getMethod str") => `(tactic| (with_reducible refine R.encode_method ?_))
local macro_rules | `(tactic| walk_at "call builtin:bytes.lstrip") => `(tactic| ((with_reducible show wpAny _ _ (call (Value.builtin "bytes.lstrip") [Value.bytes _ _, Value.bytes _ _]) _ _ _); (refine R.lstrip_call (by kba_ints2) (by kba_ints2) (by kba_size) ?_); intro _ _ _ hlst))
local macro_rules | `(tactic| walk_at "call builtin:bytes.rstrip") => `(tactic| ((with_reducible show wpAny _ _ (call (Value.builtin "bytes.rstrip") [Value.bytes _ _]) _ _ _); (refine R.rstrip_call (by kba_ints2) (by kba_size) ?_); intro _ _ _ hrst))
local macro_rules | `(tactic| walk_at "callWith ref") => `(tactic| (k_here; kfb_any; k_dflt (refine' R.fb_callWith ?hN ?hM ?ha ?_; (case hN => k_asm); (case hM => k_mem); (case ha => exact rfl); k_whole)))
local macro_rules | `(tactic| walk1) => `(tactic| ((with_reducible show wpAny _ _ (binaryOp Operator.Add (Value.bytes _ _) (Value.bytes _ _)) _ _ _); first | ((refine KBa.add_K (by kba_ints2) (by kba_ints2) (by ((try simp only [List.length_replicate, List.length_append, List.length_map, List.length_take, List.length_drop, List.length_cons, List.length_nil]); omega)) ?_); intro _ _ kbaApp) | (refine Stop.into ?_)))
theorem enc_ct (w : World) (b sg : Array UInt8) (ks ss : List Int) (ta tb : Nat) (hb : KBw.bInts b = ks) (hs : KBw.bInts sg = ss) (h2 : 2 ≤ ss.length) (h3 : ss.length ≤ 200) (h4 : ks.length ≤ 200) (h5 : (encI ss (digNum ks 256)).length ≤ 10000) :
    Ct (PySem.Challenge.rw_eg5003_02.row.prog) w (Mine.hd.heap_39 w.params) 37 15 (fun _ => True) [.bytes b ta, .bytes sg tb] [] (fun v nw => nw = [] ∧ ∃ r t, v = .bytes r t ∧ KBw.bInts r = List.replicate (nough ks) (ss.getD 0 0) ++ encI ss (digNum ks 256)) := by
  k_fill
  refine' Ct.of (by k_is) (by k_is) (fun s X => by exact binds_K X rfl (by k_is) rfl rfl rfl) (locs rfl) rfl rfl rfl (by decide) (fun _ _ k x => x) ?_
  intro p loose mean mg mb dp un gd outer A₀ base g L s Q B F X N T hpre hd hu hret
  k_steps
  refine Stop.out ?_
  refine (scrub_b_ct w b ta).use B F X N T rfl trivial (by omega) (by omega) ?_
  rintro v nw h' tk' ⟨rfl, rfl⟩ k1 fr1 F1 N1
  k_steps
  rename KBw.bInts _ = List.dropWhile _ _ => hl
  have hl2 : ks.dropWhile (fun x => decide (x ∈ List.map (fun c : UInt8 => (c.toNat : Int)) [0])) = ks.drop (nough ks) := by
    rw [← drop_nough]
    congr 1
    funext x
    simp
  rw [hl2] at hl
  have hz5 := nough_le ks
  k_steps
  refine Stop.out ?_
  rename News _ _ _ _ => N2
  rename Fr _ _ _ _ => F2
  refine R.fb_call N2 (.head _) hl (by rw [List.length_drop]; omega) ?_
  intro t3 k3
  have hdn : List.foldl (fun a k => a * 256 + k) 0 (ks.drop (nough ks)) = digNum ks 256 := digNum_drop 256 ks
  rw [hdn]
  k_steps
  refine Stop.out ?_
  rename News _ _ _ _ => N3
  rename Fr _ _ _ _ => F3
  refine' (enc_int_kw w (digNum ks 256) false sg ss t3 tb (digNum_nonneg (by decide) (ints_nonneg hb)) hs h2 h3 h5).use B F3 X N3 T rfl trivial ?hd ?hu ?_
  case hd => omega
  case hu => omega
  rintro v nw h' tk' ⟨rfl, r5, t5, rfl, hr5⟩ k5 fr5 F5 N5
  rw [if_neg (by simp)] at hr5
  k_steps
  rename KBw.bInts (KBy.picked _ _ _) = _ => h01
  have h01' : KBw.bInts (KBy.picked sg (some 0) (some 1)) = [ss.getD 0 0] := by
    rw [h01]
    exact pick_one (j := 0) (by omega) (by omega)
  refine R.mul_call h01' (by omega) (by omega) ?_
  intro r6 t6 k6 hr6
  have hnn : ((ks.length : Int) - ((ks.length - nough ks : Nat) : Int)).toNat = nough ks := by omega
  rw [hnn] at hr6
  k_steps
  rename KBw.bInts (_ ++ _) = _ => hfin
  rename Fr _ _ _ _ => F9
  rename News _ _ _ _ => N9
  dsimp only
  exact hret _ [] _ _ _ ⟨rfl, _, _, rfl, hfin⟩ F9 News.nil
end Mine
-- M1b
namespace Mine
local macro_rules | `(tactic| walk_at "none") => `(tactic| fail)
local macro_rules | `(tactic| walk_at "none") => `(tactic| fail)
local macro_rules | `(tactic| walk_at "none") => `(tactic| fail)
local macro_rules | `(tactic| walk_at "none") => `(tactic| fail)
local macro_rules | `(tactic| walk_at "none") => `(tactic| fail)
local macro_rules | `(tactic| walk_at "none") => `(tactic| fail)
local macro_rules | `(tactic| walk_at "none") => `(tactic| fail)
local macro_rules | `(tactic| walk_at "none") => `(tactic| fail)
local macro_rules | `(tactic| walk_at "none") => `(tactic| fail)
theorem fresh_walk_M1b : True := by
 w_top off
 trivial
local macro_rules | `(tactic| walk1) => `(tactic| ((with_reducible show wpAny _ _ (exec (Stmt.While _ _ _ _) _) _ _ _); refine Stop.into ?_))
local macro_rules | `(tactic| walk1) => `(tactic| ((with_reducible show wpAny _ _ (exec (Stmt.For _ _ _ _ _) _) _ _ _); refine Stop.into ?_))
local macro_rules | `(tactic| walk1) => `(tactic| ((with_reducible show wpAny _ _ (pyIter _) _ _ _); refine Stop.into ?_))
local macro_rules | `(tactic| walk1) => `(tactic| ((with_reducible show wpAny _ _ (call (Value.ref _) _ _) _ _ _); refine Stop.into ?_))
local macro_rules | `(tactic| walk_at "getMethod bytes") => `(tactic| (with_reducible refine R.lstrip_method ?_))
local macro_rules | `(tactic| walk_at "getMethod bytes") => `(tactic| (with_reducible refine R.rstrip_method ?_))
local macro_rules | `(tactic| walk_at "getMethod str") => `(tactic| (with_reducible refine R.encode_method ?_))
local macro_rules | `(tactic| walk_at "call builtin:bytes.lstrip") => `(tactic| ((with_reducible show wpAny _ _ (call (Value.builtin "bytes.lstrip") [Value.bytes _ _, Value.bytes _ _]) _ _ _); (refine R.lstrip_call (by kba_ints2) (by kba_ints2) (by kba_size) ?_); intro _ _ _ hlst))
local macro_rules | `(tactic| walk_at "call builtin:bytes.rstrip") => `(tactic| ((with_reducible show wpAny _ _ (call (Value.builtin "bytes.rstrip") [Value.bytes _ _]) _ _ _); (refine R.rstrip_call (by kba_ints2) (by kba_size) ?_); intro _ _ _ hrst))
local macro_rules | `(tactic| walk_at "callWith ref") => `(tactic| (k_here; kfb_any; k_dflt (refine' R.fb_callWith ?hN ?hM ?ha ?_; (case hN => k_asm); (case hM => k_mem); (case ha => exact rfl); k_whole)))
local macro_rules | `(tactic| walk1) => `(tactic| ((with_reducible show wpAny _ _ (binaryOp Operator.Add (Value.bytes _ _) (Value.bytes _ _)) _ _ _); first | ((refine KBa.add_K (by kba_ints2) (by kba_ints2) (by ((try simp only [List.length_replicate, List.length_append, List.length_map, List.length_take, List.length_drop, List.length_cons, List.length_nil]); omega)) ?_); intro _ _ kbaApp) | (refine Stop.into ?_)))
local macro_rules | `(tactic| walk1) => `(tactic| ((with_reducible show wpAny _ _ (exec (Stmt.Assign _ (PySem.Expr.DictComp _ _ _ _ _) _) _) _ _ _); refine Stop.into ?_))
local macro_rules | `(tactic| walk1) => `(tactic| ((with_reducible show wpAny _ _ (call (Value.type "enumerate") _ _) _ _ _); refine Stop.into ?_))
theorem map_ct (w : World) (b : Array UInt8) (ks : List Int) (ta : Nat) (hb : KBw.bInts b = ks) (hz : ks.length ≤ 200) :
    Ct (PySem.Challenge.rw_eg5003_02.row.prog) w (Mine.hd.heap_39 w.params) 42 5 (fun _ => True) [.bytes b ta] [("autofix", .bool false)] (fun v nw => ∃ D o kvs, v = .ref D ∧ nw = [(D, o)] ∧ (D == sysModules) = false ∧ o.IsDictOf (PySem.intKind (PySem.Challenge.rw_eg5003_02.row.prog) w) kvs ∧ PyProof.V.FlatPairs PyData.int kvs (kdfD (R.invI ks ks.length))) := by
  k_fill
  refine' Ct.ofC (by k_is) (by k_is) (fun s X => by first | exact BindsTo.of_eq rfl | exact binds_K X rfl (by k_is) rfl rfl rfl) (by rfl) (by decide) rfl rfl rfl (fun _ _ k x => x) ?_
  intro p loose mean mg mb dp un gd outer A₀ base g L s Q cells B F X N Y T hpre hd hu hret
  obtain ⟨oc, hE, d1⟩ := PyProof.Rows.CellsAre.one Y
  subst hE
  clear Y
  replace d1 : oc.data = .cell none := d1
  have F := fr_pin [("alphabet", .bytes b ta), ("autofix", .bool false)] (by simp only [List.forall_mem_cons]; exact ⟨rfl, rfl, by simp⟩) F
  k_steps
  refine Stop.out ?_
  refine R.assign_rule (by rfl) ?_
  refine R.DictComp_enumB F N hb (by omega) (by rfl) (by rfl) (by decide) (by rfl) (by decide) (by rfl) (by rfl) (by decide) (by decide) (by decide) ?_
  k_steps
  refine Stop.out ?_
  rename Fr _ _ _ _ => F1
  rename News _ _ _ _ => N1
  refine R.call_enumerate_bytes ?_
  intro h' he hit hsz hk
  have hL : L < s.heap.objs.size := F1.ns.lt
  refine ⟨_, _, _, rfl, Nat.ne_of_gt (Nat.lt_succ_self _), he, hit, F1.keeps hk, fun p hp => ⟨hk _ _ (N1 p hp).1, (N1 p hp).2⟩, Nat.ne_of_lt (Nat.lt_succ_of_lt hL), Nat.ne_of_lt hL, R.new_at F1 (Nat.le_succ _), R.new_at F1 (Nat.le_refl _), fun p hp => ⟨Nat.ne_of_lt (Nat.lt_succ_of_lt (Heap.lt_size (N1 p hp).1)), Nat.ne_of_lt (Heap.lt_size (N1 p hp).1)⟩, ?_⟩
  intro D h2 tk2 o kvs hdo hf F2 N2 hLD off
  have lo : (D == sysModules) = false := lo_of T F2 hLD
  have hne : @Ne Nat (L + 1) D := off _ (.head _)
  clear F1 N1 off
  refine storeX_C F2 N2 (by rfl) (.tail (Ne.symm hne) (.head (by simp))) d1 ?_ (by rfl) (by rfl)
  intro h3 oc3 F3 N3 d3
  try dsimp only at N3
  clear F2 N2
  k_steps
  dsimp only
  exact hret _ [(D, o)] _ _ _ ⟨D, o, kvs, rfl, rfl, lo, hdo, hf⟩ F3 (news_sub N3 (by simp))
end Mine
-- D1b
namespace Mine
local macro_rules | `(tactic| walk_at "none") => `(tactic| fail)
local macro_rules | `(tactic| walk_at "none") => `(tactic| fail)
local macro_rules | `(tactic| walk_at "none") => `(tactic| fail)
local macro_rules | `(tactic| walk_at "none") => `(tactic| fail)
local macro_rules | `(tactic| walk_at "none") => `(tactic| fail)
local macro_rules | `(tactic| walk_at "none") => `(tactic| fail)
local macro_rules | `(tactic| walk_at "none") => `(tactic| fail)
local macro_rules | `(tactic| walk_at "none") => `(tactic| fail)
theorem fresh_walk_D1b : True := by
 w_top off
 trivial
local macro_rules | `(tactic| walk1) => `(tactic| ((with_reducible show wpAny _ _ (exec (Stmt.While _ _ _ _) _) _ _ _); refine Stop.into ?_))
local macro_rules | `(tactic| walk1) => `(tactic| ((with_reducible show wpAny _ _ (exec (Stmt.For _ _ _ _ _) _) _ _ _); refine Stop.into ?_))
local macro_rules | `(tactic| walk1) => `(tactic| ((with_reducible show wpAny _ _ (pyIter _) _ _ _); refine Stop.into ?_))
local macro_rules | `(tactic| walk1) => `(tactic| ((with_reducible show wpAny _ _ (call (Value.ref _) _ _) _ _ _); refine Stop.into ?_))
local macro_rules | `(tactic| walk_at "getMethod bytes") => `(tactic| (with_reducible refine R.lstrip_method ?_))
local macro_rules | `(tactic| walk_at "getMethod bytes") => `(tactic| (with_reducible refine R.rstrip_method ?_))
local macro_rules | `(tactic| walk_at "getMethod str") => `(tactic| (with_reducible refine R.encode_method ?_))
local macro_rules | `(tactic| walk_at "call builtin:bytes.lstrip") => `(tactic| ((with_reducible show wpAny _ _ (call (Value.builtin "bytes.lstrip") [Value.bytes _ _, Value.bytes _ _]) _ _ _); (refine R.lstrip_call (by kba_ints2) (by kba_ints2) (by kba_size) ?_); intro _ _ _ hlst))
local macro_rules | `(tactic| walk_at "call builtin:bytes.rstrip") => `(tactic| ((with_reducible show wpAny _ _ (call (Value.builtin "bytes.rstrip") [Value.bytes _ _]) _ _ _); (refine R.rstrip_call (by kba_ints2) (by kba_size) ?_); intro _ _ _ hrst))
local macro_rules | `(tactic| walk_at "callWith ref") => `(tactic| (k_here; kfb_any; k_dflt (refine' R.fb_callWith ?hN ?hM ?ha ?_; (case hN => k_asm); (case hM => k_mem); (case ha => exact rfl); k_whole)))
local macro_rules | `(tactic| walk1) => `(tactic| ((with_reducible show wpAny _ _ (binaryOp Operator.Add (Value.bytes _ _) (Value.bytes _ _)) _ _ _); first | ((refine KBa.add_K (by kba_ints2) (by kba_ints2) (by ((try simp only [List.length_replicate, List.length_append, List.length_map, List.length_take, List.length_drop, List.length_cons, List.length_nil]); omega)) ?_); intro _ _ kbaApp) | (refine Stop.into ?_)))
local macro_rules | `(tactic| walk1) => `(tactic| ((with_reducible show wpAny _ _ (exec (Stmt.Assign _ (PySem.Expr.DictComp _ _ _ _ _) _) _) _ _ _); refine Stop.into ?_))
local macro_rules | `(tactic| walk1) => `(tactic| ((with_reducible show wpAny _ _ (call (Value.type "enumerate") _ _) _ _ _); refine Stop.into ?_))
def rankNum (ss tks : List Int) : Int := digNum (tks.map fun x => kdfLook (R.invI ss ss.length) x 0) (ss.length : Int)
theorem no_space {ks : List Int} (h : ∀ k ∈ ks, R.spaceI k = false) : (ks.reverse.dropWhile R.spaceI).reverse = ks := by
  have : ks.reverse.dropWhile R.spaceI = ks.reverse := by
    cases e : ks.reverse with
    | nil => rfl
    | cons a r =>
      have ha : a ∈ ks := List.mem_reverse.mp (e ▸ List.mem_cons_self)
      rw [List.dropWhile_cons_of_neg (by rw [h a ha]; simp)]
  rw [this, List.reverse_reverse]
theorem dec_b_ct (w : World) (b sg : Array UInt8) (ks ss : List Int) (ta tb : Nat) (hb : KBw.bInts b = ks) (hs : KBw.bInts sg = ss) (h2 : 2 ≤ ss.length) (h3 : ss.length ≤ 200) (h4 : ks.length ≤ 5000) (hns : ∀ k ∈ ss, R.spaceI k = false) (hall : ∀ k ∈ ks, k ∈ ss) :
    Ct (PySem.Challenge.rw_eg5003_02.row.prog) w (Mine.hd.heap_39 w.params) 51 12 (fun _ => True) [.bytes b ta, .bytes sg tb] [] (fun v nw => nw = [] ∧ ∃ t, v = .int (rankNum ss ks) t) := by
  k_fill
  refine' Ct.of (by k_is) (by k_is) (fun s X => by exact kp_binds X (fun _ => rfl)) (locs rfl) rfl rfl rfl (by decide) (fun _ _ k x => x) ?_
  intro p loose mean mg mb dp un gd outer A₀ base g L s Q B F X N T hpre hd hu hret
  k_steps
  refine R.notin_bytes (by rfl) ?_
  intro h1 tk1 hk1
  rw [R.contains_ints hs, decide_eq_false (show ¬ ((32 : UInt8).toNat : Int) ∈ ss from fun h => absurd (hns _ h) (by decide))]
  have F1 := F.keeps hk1
  have N1 : News g L h1 [] := News.nil
  clear N F
  k_steps
  refine Stop.out ?_
  rename KBw.bInts _ = List.reverse _ => hr0
  rw [no_space fun k hk => hns k (hall k hk)] at hr0
  rename Fr _ _ _ _ => F1
  rename News _ _ _ _ => N1
  refine' (scrub_b_ct w _ _).use B F1 X N1 T rfl trivial ?hd ?hu ?_
  case hd => omega
  case hu => omega
  rintro v nw h' tk' ⟨rfl, rfl⟩ k1 fr1 F2 N2
  clear F1 N1
  k_steps
  refine Stop.out ?_
  rename Fr _ _ _ _ => F2
  rename News _ _ _ _ => N2
  refine' (map_ct w sg ss tb hs (by omega)).use B F2 X N2 T rfl trivial ?hd ?hu ?_
  case hd => omega
  case hu => omega
  rintro v nw h' tk' ⟨D, o, kvs, rfl, rfl, lo, hdo, hf⟩ k2 fr2 F3 N3
  clear F2 N2
  k_steps
  refine Stop.out ?_
  rename Fr _ _ _ _ => F4
  rename News _ _ _ _ => N4
  refine wpAny_mono (E := fun _ _ => False) ?_ (fun _ _ h => h) (fun _ _ h => h.elim)
  refine For_invVF F4 (by rfl) (by rfl) ?_
  k_steps
  refine Stop.out ?_
  rename Fr _ _ _ _ => F4
  rename News _ _ _ _ => N4
  refine KBmo.iter_bytesN (fun i m nw => nw = [(D, o)] ∧ ∃ t t2, m "decimal" = some (.int (rankNum ss (ks.take i)) t) ∧ m "map" = some (.ref D) ∧ m "base" = some (.int (ss.length : Int) t2)) hr0 (by rfl) F4 N4 ⟨rfl, _, _, rfl, rfl, rfl⟩ ?_ ?_
  · rintro i k t m₂ nx2 h4 tk4 own2 hk hk0 hk1 hoff2 ⟨rfl, t3, t4, e1, e2, e3⟩ F8 N8
    have F9 := fr_turn [("decimal", .int (rankNum ss (ks.take i)) t3), ("map", .ref D), ("base", .int (ss.length : Int) t4)] (by simp [e1, e2, e3]) F8
    clear F4 N4 F8
    have hmem : k ∈ ks := List.mem_of_getElem? hk
    have hhas : kdfHas (R.invI ss ss.length) k = true := (inv_has (Nat.le_refl _)).mpr (by rw [List.take_length]; exact hall k hmem)
    k_steps
    rename Fr _ _ _ _ => F5
    rename News _ _ _ _ => N5
    have hrn : rankNum ss (ks.take (i + 1)) = rankNum ss (ks.take i) * (ss.length : Int) + kdfLook (R.invI ss ss.length) k 0 := by
      unfold rankNum digNum
      rw [List.take_add_one, hk, Option.toList_some, List.map_append, List.foldl_append]
      rfl
    rw [← hrn] at F5
    exact InvEndN.intro F5 N5 ⟨rfl, _, _, rfl, rfl, rfl⟩ rfl (fun p hp => List.mem_append_left _ hp) (fun p hp => List.mem_append_right _ hp)
  · rintro m₂ nx2 h4 tk4 ⟨rfl, t3, t4, e1, e2, e3⟩ F8 N8
    have F9 := fr_pin [("decimal", .int (rankNum ss (ks.take ks.length)) t3)] (by simp [e1]) F8
    clear F4 N4 F8
    k_steps
    dsimp only
    refine hret _ [] _ _ _ ⟨rfl, t3, ?_⟩ F9 News.nil
    rw [List.take_length]
theorem dec_kw_ct (w : World) (b sg : Array UInt8) (ks ss : List Int) (ta tb : Nat) (hb : KBw.bInts b = ks) (hs : KBw.bInts sg = ss) (h2 : 2 ≤ ss.length) (h3 : ss.length ≤ 200) (h4 : ks.length ≤ 5000) (hns : ∀ k ∈ ss, R.spaceI k = false) (hall : ∀ k ∈ ks, k ∈ ss) :
    Ct (PySem.Challenge.rw_eg5003_02.row.prog) w (Mine.hd.heap_39 w.params) 51 12 (fun _ => True) [.bytes b ta] [("alphabet", .bytes sg tb), ("autofix", .bool false)] (fun v nw => nw = [] ∧ ∃ t, v = .int (rankNum ss ks) t) := by
  k_fill
  refine' Ct.of (by k_is) (by k_is) (fun s X => by exact kp_binds X (fun _ => rfl)) (locs rfl) rfl rfl rfl (by decide) (fun _ _ k x => x) ?_
  intro p loose mean mg mb dp un gd outer A₀ base g L s Q B F X N T hpre hd hu hret
  k_steps
  refine R.notin_bytes (by rfl) ?_
  intro h1 tk1 hk1
  rw [R.contains_ints hs, decide_eq_false (show ¬ ((32 : UInt8).toNat : Int) ∈ ss from fun h => absurd (hns _ h) (by decide))]
  have F1 := F.keeps hk1
  have N1 : News g L h1 [] := News.nil
  clear N F
  k_steps
  refine Stop.out ?_
  rename KBw.bInts _ = List.reverse _ => hr0
  rw [no_space fun k hk => hns k (hall k hk)] at hr0
  rename Fr _ _ _ _ => F1
  rename News _ _ _ _ => N1
  refine' (scrub_b_ct w _ _).use B F1 X N1 T rfl trivial ?hd ?hu ?_
  case hd => omega
  case hu => omega
  rintro v nw h' tk' ⟨rfl, rfl⟩ k1 fr1 F2 N2
  clear F1 N1
  k_steps
  refine Stop.out ?_
  rename Fr _ _ _ _ => F2
  rename News _ _ _ _ => N2
  refine' (map_ct w sg ss tb hs (by omega)).use B F2 X N2 T rfl trivial ?hd ?hu ?_
  case hd => omega
  case hu => omega
  rintro v nw h' tk' ⟨D, o, kvs, rfl, rfl, lo, hdo, hf⟩ k2 fr2 F3 N3
  clear F2 N2
  k_steps
  refine Stop.out ?_
  rename Fr _ _ _ _ => F4
  rename News _ _ _ _ => N4
  refine wpAny_mono (E := fun _ _ => False) ?_ (fun _ _ h => h) (fun _ _ h => h.elim)
  refine For_invVF F4 (by rfl) (by rfl) ?_
  k_steps
  refine Stop.out ?_
  rename Fr _ _ _ _ => F4
  rename News _ _ _ _ => N4
  refine KBmo.iter_bytesN (fun i m nw => nw = [(D, o)] ∧ ∃ t t2, m "decimal" = some (.int (rankNum ss (ks.take i)) t) ∧ m "map" = some (.ref D) ∧ m "base" = some (.int (ss.length : Int) t2)) hr0 (by rfl) F4 N4 ⟨rfl, _, _, rfl, rfl, rfl⟩ ?_ ?_
  · rintro i k t m₂ nx2 h4 tk4 own2 hk hk0 hk1 hoff2 ⟨rfl, t3, t4, e1, e2, e3⟩ F8 N8
    have F9 := fr_turn [("decimal", .int (rankNum ss (ks.take i)) t3), ("map", .ref D), ("base", .int (ss.length : Int) t4)] (by simp [e1, e2, e3]) F8
    clear F4 N4 F8
    have hmem : k ∈ ks := List.mem_of_getElem? hk
    have hhas : kdfHas (R.invI ss ss.length) k = true := (inv_has (Nat.le_refl _)).mpr (by rw [List.take_length]; exact hall k hmem)
    k_steps
    rename Fr _ _ _ _ => F5
    rename News _ _ _ _ => N5
    have hrn : rankNum ss (ks.take (i + 1)) = rankNum ss (ks.take i) * (ss.length : Int) + kdfLook (R.invI ss ss.length) k 0 := by
      unfold rankNum digNum
      rw [List.take_add_one, hk, Option.toList_some, List.map_append, List.foldl_append]
      rfl
    rw [← hrn] at F5
    exact InvEndN.intro F5 N5 ⟨rfl, _, _, rfl, rfl, rfl⟩ rfl (fun p hp => List.mem_append_left _ hp) (fun p hp => List.mem_append_right _ hp)
  · rintro m₂ nx2 h4 tk4 ⟨rfl, t3, t4, e1, e2, e3⟩ F8 N8
    have F9 := fr_pin [("decimal", .int (rankNum ss (ks.take ks.length)) t3)] (by simp [e1]) F8
    clear F4 N4 F8
    k_steps
    dsimp only
    refine hret _ [] _ _ _ ⟨rfl, t3, ?_⟩ F9 News.nil
    rw [List.take_length]
end Mine
-- E1b
namespace Mine
local macro_rules | `(tactic| walk_at "none") => `(tactic| fail)
local macro_rules | `(tactic| walk_at "none") => `(tactic| fail)
local macro_rules | `(tactic| walk_at "none") => `(tactic| fail)
local macro_rules | `(tactic| walk_at "none") => `(tactic| fail)
local macro_rules | `(tactic| walk_at "none") => `(tactic| fail)
local macro_rules | `(tactic| walk_at "none") => `(tactic| fail)
local macro_rules | `(tactic| walk_at "none") => `(tactic| fail)
local macro_rules | `(tactic| walk_at "none") => `(tactic| fail)
local macro_rules | `(tactic| walk_at "none") => `(tactic| fail)
theorem fresh_walk_E1b : True := by
 w_top off
 trivial
local macro_rules | `(tactic| walk1) => `(tactic| ((with_reducible show wpAny _ _ (exec (Stmt.While _ _ _ _) _) _ _ _); refine Stop.into ?_))
local macro_rules | `(tactic| walk1) => `(tactic| ((with_reducible show wpAny _ _ (exec (Stmt.For _ _ _ _ _) _) _ _ _); refine Stop.into ?_))
local macro_rules | `(tactic| walk1) => `(tactic| ((with_reducible show wpAny _ _ (pyIter _) _ _ _); refine Stop.into ?_))
local macro_rules | `(tactic| walk1) => `(tactic| ((with_reducible show wpAny _ _ (call (Value.ref _) _ _) _ _ _); refine Stop.into ?_))
local macro_rules | `(tactic| walk_at "getMethod bytes") => `(tactic| (with_reducible refine R.lstrip_method ?_))
local macro_rules | `(tactic| walk_at "getMethod bytes") => `(tactic| (with_reducible refine R.rstrip_method ?_))
local macro_rules | `(tactic| walk_at "getMethod str") => `(tactic| (with_reducible refine R.encode_method ?_))
local macro_rules | `(tactic| walk_at "call builtin:bytes.lstrip") => `(tactic| ((with_reducible show wpAny _ _ (call (Value.builtin "bytes.lstrip") [Value.bytes _ _, Value.bytes _ _]) _ _ _); (refine R.lstrip_call (by kba_ints2) (by kba_ints2) (by kba_size) ?_); intro _ _ _ hlst))
local macro_rules | `(tactic| walk_at "call builtin:bytes.rstrip") => `(tactic| ((with_reducible show wpAny _ _ (call (Value.builtin "bytes.rstrip") [Value.bytes _ _]) _ _ _); (refine R.rstrip_call (by kba_ints2) (by kba_size) ?_); intro _ _ _ hrst))
local macro_rules | `(tactic| walk_at "callWith ref") => `(tactic| (k_here; kfb_any; k_dflt (refine' R.fb_callWith ?hN ?hM ?ha ?_; (case hN => k_asm); (case hM => k_mem); (case ha => exact rfl); k_whole)))
local macro_rules | `(tactic| walk1) => `(tactic| ((with_reducible show wpAny _ _ (binaryOp Operator.Add (Value.bytes _ _) (Value.bytes _ _)) _ _ _); first | ((refine KBa.add_K (by kba_ints2) (by kba_ints2) (by ((try simp only [List.length_replicate, List.length_append, List.length_map, List.length_take, List.length_drop, List.length_cons, List.length_nil]); omega)) ?_); intro _ _ kbaApp) | (refine Stop.into ?_)))
local macro_rules | `(tactic| walk1) => `(tactic| ((with_reducible show wpAny _ _ (exec (Stmt.Assign _ (PySem.Expr.DictComp _ _ _ _ _) _) _) _ _ _); refine Stop.into ?_))
local macro_rules | `(tactic| walk1) => `(tactic| ((with_reducible show wpAny _ _ (call (Value.type "enumerate") _ _) _ _ _); refine Stop.into ?_))
def lead (c : Int) (ks : List Int) : Nat := (ks.takeWhile fun x => decide (x = c)).length
theorem lead_le (c : Int) (ks : List Int) : lead c ks ≤ ks.length := (List.takeWhile_sublist _).length_le
theorem drop_lead (c : Int) : ∀ (ks : List Int), ks.dropWhile (fun x => decide (x ∈ [c])) = ks.drop (lead c ks)
  | [] => rfl
  | k :: r => by
    by_cases h : k = c
    · subst h
      have h1 : lead k (k :: r) = lead k r + 1 := by simp [lead]
      rw [List.dropWhile_cons_of_pos (by simp), h1, List.drop_succ_cons, drop_lead k r]
    · have h1 : lead c (k :: r) = 0 := by simp [lead, h]
      rw [List.dropWhile_cons_of_neg (by simp [h]), h1, List.drop_zero]
theorem inv_nonneg (ss : List Int) (x : Int) : ∀ n, 0 ≤ kdfLook (R.invI ss n) x 0
  | 0 => Int.le_refl _
  | n + 1 => by
    show 0 ≤ kdfLook (kdfPut (R.invI ss n) (ss.getD n 0) (n : Int)) x 0
    rw [look_put]
    split
    · omega
    · exact inv_nonneg ss x n
theorem rankNum_nonneg {ss ks : List Int} (_ : ∀ k ∈ ks, k ∈ ss) : 0 ≤ rankNum ss ks := digNum_nonneg (by omega) fun k hk => by
  obtain ⟨x, _, rfl⟩ := List.mem_map.mp hk
  exact inv_nonneg ss x _
theorem rep_ints (n : Nat) : KBw.bInts (List.replicate n [(0 : UInt8)]).flatten.toArray = List.replicate n 0 := by
  unfold KBw.bInts
  induction n with
  | zero => rfl
  | succ n ih =>
    simp
theorem b58_b_ct (w : World) (b sg : Array UInt8) (ks ss : List Int) (ta tb : Nat) (hb : KBw.bInts b = ks) (hs : KBw.bInts sg = ss) (h2 : 2 ≤ ss.length) (h3 : ss.length ≤ 200) (h4 : ks.length ≤ 3000) (hns : ∀ k ∈ ss, R.spaceI k = false) (hall : ∀ k ∈ ks, k ∈ ss)
    (hlen : (ledI 256 (rankNum ss (ks.drop (lead (ss.getD 0 0) ks)))).length ≤ 5000) :
    Ct (PySem.Challenge.rw_eg5003_02.row.prog) w (Mine.hd.heap_39 w.params) 60 20 (fun _ => True) [.bytes b ta, .bytes sg tb] [] (fun v nw => nw = [] ∧ ∃ r t, v = .bytes r t ∧ KBw.bInts r = List.replicate (lead (ss.getD 0 0) ks) 0 ++ (ledI 256 (rankNum ss (ks.drop (lead (ss.getD 0 0) ks)))).reverse) := by
  k_fill
  refine' Ct.of (by k_is) (by k_is) (fun s X => by exact kp_binds X (fun _ => rfl)) (locs rfl) rfl rfl rfl (by decide) (fun _ _ k x => x) ?_
  intro p loose mean mg mb dp un gd outer A₀ base g L s Q B F X N T hpre hd hu hret
  k_steps
  refine Stop.out ?_
  rename Fr _ _ _ _ => F1
  rename News _ _ _ _ => N1
  rename KBw.bInts _ = _ => hr0
  rw [no_space fun k hk => hns k (hall k hk)] at hr0
  refine' (scrub_b_ct w _ _).use B F1 X N1 T rfl trivial ?hd ?hu ?_
  case hd => omega
  case hu => omega
  rintro v nw h' tk' ⟨rfl, rfl⟩ k1 fr1 F2 N2
  clear F1 N1
  k_steps
  rename KBw.bInts _ = List.dropWhile _ _ => hl
  rename KBw.bInts (KBy.picked _ _ _) = _ => h01
  have hpk : List.take (clipAt ss.length 1 - clipAt ss.length 0) (List.drop (clipAt ss.length 0) ss) = [ss.getD 0 0] := pick_one (j := 0) (by omega) (by omega)
  rw [hpk, drop_lead] at hl
  have hzl : lead (ss.getD 0 0) ks ≤ ks.length := lead_le _ _
  have hln : (ks.drop (lead (ss.getD 0 0) ks)).length ≤ 3000 := by
    rw [List.length_drop]
    omega
  k_steps
  refine Stop.out ?_
  rename Fr _ _ _ _ => F3
  rename News _ _ _ _ => N3
  refine' (dec_kw_ct w _ sg (ks.drop (lead (ss.getD 0 0) ks)) ss _ tb hl hs h2 h3 (by omega) hns (fun k hk => hall k (List.mem_of_mem_drop hk))).use B F3 X N3 T rfl trivial ?hd ?hu ?_
  case hd => omega
  case hu => omega
  rintro v nw h' tk' ⟨rfl, t5, rfl⟩ k5 fr5 F5 N5
  clear F3 N3
  have hpos : 0 ≤ rankNum ss (ks.drop (lead (ss.getD 0 0) ks)) := rankNum_nonneg fun k hk => hall k (List.mem_of_mem_drop hk)
  k_steps
  refine Stop.out ?_
  rename Fr _ _ _ _ => F6
  rename News _ _ _ _ => N6
  refine name_addr N6 ?_
  intro Rl hRl
  subst hRl
  refine While_inv2 (fun n m nw => ∃ vs3 ms n3 c3 t3 t6 t7, nw = [(Rl, listOf vs3.toArray n3)] ∧ n = c3.toNat ∧ IntsAre vs3 ms ∧ 0 ≤ c3 ∧ (∀ d ∈ ms, 0 ≤ d ∧ d < 256) ∧ ledI 256 (rankNum ss (ks.drop (lead (ss.getD 0 0) ks))) = ms ++ ledI 256 c3 ∧ m "acc" = some (.int c3 t3) ∧ m "result" = some (.ref Rl) ∧ m "origlen" = some (.int (ks.length : Int) t6) ∧ m "newlen" = some (.int ((ks.length - lead (ss.getD 0 0) ks : Nat) : Int) t7)) F6 N6
    ⟨[], [], 0, _, _, _, _, rfl, rfl, .nil, hpos, by simp, rfl, rfl, rfl, rfl, rfl⟩ ?_ PassesOwn.never
  rintro n9 m₁ nw h₁ tk₁ F₁ N₁ ⟨vs3, ms, n3, c3, t3, t6, t7, rfl, rfl, hvs3, hc3, hms, hq3, e1, e2, e3, e4⟩
  have F₂ := fr_pin [("acc", .int c3 t3), ("result", .ref Rl), ("origlen", .int (ks.length : Int) t6), ("newlen", .int ((ks.length - lead (ss.getD 0 0) ks : Nat) : Int) t7)] (by simp [e1, e2, e3, e4]) F₁
  clear F₁ F6 N6
  have hl3 := congrArg List.length hq3
  rw [List.length_append] at hl3
  have hl4 := hvs3.length
  have hz9 : vs3.toArray.size ≤ 5000 := by
    rw [List.size_toArray]
    omega
  k_steps
  · rename Fr _ _ _ _ => F3
    rename News _ _ _ _ => N3
    rename 0 < c3 => hcp
    refine append_K F3 (news_sub N3 (by simp) : News g L _ [(Rl, listOf vs3.toArray n3)]) (.head (by simp)) ?_ (by rw [sizeLine_eq]; omega)
    intro h9 F9 N9
    rw [List.push_toArray] at N9
    clear F3 N3
    k_steps
    rename Fr _ _ _ _ => F3
    rename News _ _ _ _ => N3
    have hdv : 0 ≤ c3.fdiv 256 ∧ (c3.fdiv 256).toNat < c3.toNat := by
      rw [fdiv_pos _ (by omega)]
      omega
    refine ⟨_, _, _, _, _, rfl, F3, N3, hdv.2, _, _, _, _, _, _, _, rfl, rfl, hvs3.append (.cons _ _ .nil), hdv.1, ?_, ?_, rfl, rfl, rfl, rfl⟩
    · intro d hd
      rcases List.mem_append.mp hd with hd | hd
      · exact hms d hd
      · rw [List.mem_singleton.mp hd, fmod_pos _ (by omega)]
        exact emod_in (by omega)
    · rw [hq3, ledI_step (by omega) hcp, fdiv_pos _ (by omega), fmod_pos _ (by omega), List.append_assoc]
      rfl
  · rename ¬ 0 < c3 => hcp
    rename Fr _ _ _ _ => F3
    rename News _ _ _ _ => N3
    rename @LT.lt Nat _ Rl _ => hRl
    have hr := (N3 (Rl, listOf vs3.toArray n3) (by simp)).1
    refine R.bw_call F3 N3 (by intro p hp; rw [List.mem_singleton.mp hp]; exact Nat.ne_of_lt hRl) ⟨_, hr, rfl, n3, rfl⟩ (Nat.ne_of_lt hRl) hvs3 hms (by omega) (by rfl) ?_
    intro h9 t9 k9 F9 N9
    k_steps
    refine Stop.out ?_
    have hz1 : ((ks.length : Int) - ((ks.length - lead (ss.getD 0 0) ks : Nat) : Int)).toNat = lead (ss.getD 0 0) ks := by omega
    rw [hz1]
    refine KBa.add_K (rep_ints _) (KBa.ints_make (ns := ms.reverse) (fun d hd => hms d (List.mem_reverse.mp hd))) (by rw [List.length_replicate, List.length_reverse]; omega) ?_
    intro r2 t2 hr2
    rw [ledI_zero (c := c3) (by omega), List.append_nil] at hq3
    exact hret _ [] _ _ _ ⟨rfl, _, _, rfl, by rw [hr2, hq3]⟩ F9 News.nil
end Mine
-- H1b
namespace Mine
local macro_rules | `(tactic| walk_at "none") => `(tactic| fail)
local macro_rules | `(tactic| walk_at "none") => `(tactic| fail)
local macro_rules | `(tactic| walk_at "none") => `(tactic| fail)
local macro_rules | `(tactic| walk_at "none") => `(tactic| fail)
local macro_rules | `(tactic| walk_at "none") => `(tactic| fail)
local macro_rules | `(tactic| walk_at "none") => `(tactic| fail)
local macro_rules | `(tactic| walk_at "none") => `(tactic| fail)
local macro_rules | `(tactic| walk_at "none") => `(tactic| fail)
theorem fresh_walk_H1b : True := by
 w_top off
 trivial
local macro_rules | `(tactic| walk1) => `(tactic| ((with_reducible show wpAny _ _ (exec (Stmt.While _ _ _ _) _) _ _ _); refine Stop.into ?_))
local macro_rules | `(tactic| walk1) => `(tactic| ((with_reducible show wpAny _ _ (exec (Stmt.For _ _ _ _ _) _) _ _ _); refine Stop.into ?_))
local macro_rules | `(tactic| walk1) => `(tactic| ((with_reducible show wpAny _ _ (pyIter _) _ _ _); refine Stop.into ?_))
local macro_rules | `(tactic| walk1) => `(tactic| ((with_reducible show wpAny _ _ (call (Value.ref _) _ _) _ _ _); refine Stop.into ?_))
local macro_rules | `(tactic| walk_at "getMethod bytes") => `(tactic| (with_reducible refine R.lstrip_method ?_))
local macro_rules | `(tactic| walk_at "getMethod bytes") => `(tactic| (with_reducible refine R.rstrip_method ?_))
local macro_rules | `(tactic| walk_at "getMethod str") => `(tactic| (with_reducible refine R.encode_method ?_))
local macro_rules | `(tactic| walk_at "call builtin:bytes.lstrip") => `(tactic| ((with_reducible show wpAny _ _ (call (Value.builtin "bytes.lstrip") [Value.bytes _ _, Value.bytes _ _]) _ _ _); (refine R.lstrip_call (by kba_ints2) (by kba_ints2) (by kba_size) ?_); intro _ _ _ hlst))
local macro_rules | `(tactic| walk_at "call builtin:bytes.rstrip") => `(tactic| ((with_reducible show wpAny _ _ (call (Value.builtin "bytes.rstrip") [Value.bytes _ _]) _ _ _); (refine R.rstrip_call (by kba_ints2) (by kba_size) ?_); intro _ _ _ hrst))
local macro_rules | `(tactic| walk_at "callWith ref") => `(tactic| (k_here; kfb_any; k_dflt (refine' R.fb_callWith ?hN ?hM ?ha ?_; (case hN => k_asm); (case hM => k_mem); (case ha => exact rfl); k_whole)))
local macro_rules | `(tactic| walk1) => `(tactic| ((with_reducible show wpAny _ _ (binaryOp Operator.Add (Value.bytes _ _) (Value.bytes _ _)) _ _ _); first | ((refine KBa.add_K (by kba_ints2) (by kba_ints2) (by ((try simp only [List.length_replicate, List.length_append, List.length_map, List.length_take, List.length_drop, List.length_cons, List.length_nil]); omega)) ?_); intro _ _ kbaApp) | (refine Stop.into ?_)))
local macro_rules | `(tactic| walk1) => `(tactic| ((with_reducible show wpAny _ _ (exec (Stmt.Assign _ (PySem.Expr.DictComp _ _ _ _ _) _) _) _ _ _); refine Stop.into ?_))
local macro_rules | `(tactic| walk1) => `(tactic| ((with_reducible show wpAny _ _ (call (Value.type "enumerate") _ _) _ _ _); refine Stop.into ?_))
def draw (ns : List Int) (k : Int) : Int :=
  if ns.length = 0 then 5 * k + 2 else ns.getD (k % (ns.length : Int)).toNat 0 + 37 * (k / (ns.length : Int))
theorem draw_ct (w : World) (l : Addr) (vs : List Value) (ns : List Int) (k : Int) (tk : Nat) (hi : IntsAre vs ns) (hn : ns.length < 64) :
    Ct (PySem.Challenge.rw_eg5003_02.row.prog) w (Mine.hd.heap_39 w.params) 68 5 (fun h => h.IsList l vs.toArray) [.ref l, .int k tk] [] (fun v nw => nw = [] ∧ ∃ t, v = .int (draw ns k) t) := by
  k_fill
  refine' Ct.of (by k_is) (by k_is) (fun s _ => BindsTo.of_eq rfl) (locs rfl) rfl rfl rfl (by decide) (fun _ _ k x => list_mono k x) ?_
  intro p loose mean mg mb dp un gd outer A₀ base g L s Q B F X N T hpre hd hu hret
  k_steps
  · dsimp only
    exact hret _ [] _ _ _ ⟨rfl, _, by rw [draw, if_neg (by omega), fmod_pos _ (by omega), fdiv_pos _ (by omega)]⟩ F N
  · dsimp only
    exact hret _ [] _ _ _ ⟨rfl, _, by rw [draw, if_pos (by omega)]⟩ F N
theorem noughts_b_ct (w : World) (b : Array UInt8) (tk : Nat) (ks : List Int) (hi : KBw.bInts b = ks) (hz : ks.length ≤ 200) :
    Ct (PySem.Challenge.rw_eg5003_02.row.prog) w (Mine.hd.heap_39 w.params) 80 5 (fun h => True) [.bytes b tk] [] (fun v nw => nw = [] ∧ ∃ t, v = .int (nough ks : Nat) t) := by
  k_fill
  refine' Ct.of (by k_is) (by k_is) (fun s X => BindsTo.of_eq rfl) (locs rfl) rfl rfl rfl (by decide) (fun _ _ k x => x) ?_
  intro p loose mean mg mb dp un gd outer A₀ base' g L s Q B F X N T hpre hd hu hret
  k_steps
  refine Stop.out ?_
  rename Fr _ _ _ _ => F1
  rename News _ _ _ _ => N1
  refine While_inv2 (fun n m nw => nw = [] ∧ ∃ (j : Nat) (t : Tok), m "count" = some (.int (j : Int) t) ∧ m "row" = some (.bytes b tk) ∧ j ≤ ks.length ∧ n = ks.length - j ∧ nough ks = j + nough (ks.drop j)) F1 N1 ⟨rfl, 0, _, rfl, rfl, by omega, rfl, by simp⟩ ?_ PassesOwn.never
  rintro n m₁ nw h₁ tk₁ F₁ N₁ ⟨rfl, j, t, e1, e2, hj, rfl, hn⟩
  have F₂ := fr_pin [("count", .int (j : Int) t), ("row", .bytes b tk)] (by simp [e1, e2]) F₁
  clear F1 N1 F₁
  k_steps
  · rename Fr _ _ _ _ => F3
    rename News _ _ _ _ => N3
    rename ks.getD _ 0 = 0 => hz0
    have hlt : j < ks.length := by omega
    rw [Int.toNat_natCast] at hz0
    have e3 : nough (ks.drop j) = nough (ks.drop (j + 1)) + 1 := by rw [drop_at hlt, hz0, nough_zero]
    exact ⟨_, _, _, [], _, rfl, F3, N3, (by omega : ks.length - (j + 1) < ks.length - j), rfl, j + 1, _, rfl, rfl, by omega, rfl, by omega⟩
  · rename ks.getD _ 0 ≠ 0 => hz0
    have hlt : j < ks.length := by omega
    rw [Int.toNat_natCast] at hz0
    dsimp only
    exact hret _ [] _ _ _ ⟨rfl, t, by rw [hn, drop_at hlt, nough_pos hz0, Nat.add_zero]⟩ F₂ N₁
  · have hge : ks.length ≤ j := by omega
    dsimp only
    exact hret _ [] _ _ _ ⟨rfl, t, by rw [hn, List.drop_of_length_le hge, nough_nil, Nat.add_zero]⟩ F₂ N₁
end Mine
-- H2b
namespace Mine
local macro_rules | `(tactic| walk_at "none") => `(tactic| fail)
local macro_rules | `(tactic| walk_at "none") => `(tactic| fail)
local macro_rules | `(tactic| walk_at "none") => `(tactic| fail)
local macro_rules | `(tactic| walk_at "none") => `(tactic| fail)
local macro_rules | `(tactic| walk_at "none") => `(tactic| fail)
local macro_rules | `(tactic| walk_at "none") => `(tactic| fail)
local macro_rules | `(tactic| walk_at "none") => `(tactic| fail)
local macro_rules | `(tactic| walk_at "none") => `(tactic| fail)
local macro_rules | `(tactic| walk_at "none") => `(tactic| fail)
theorem fresh_walk_H2b : True := by
 w_top off
 trivial
local macro_rules | `(tactic| walk1) => `(tactic| ((with_reducible show wpAny _ _ (exec (Stmt.While _ _ _ _) _) _ _ _); refine Stop.into ?_))
local macro_rules | `(tactic| walk1) => `(tactic| ((with_reducible show wpAny _ _ (exec (Stmt.For _ _ _ _ _) _) _ _ _); refine Stop.into ?_))
local macro_rules | `(tactic| walk1) => `(tactic| ((with_reducible show wpAny _ _ (pyIter _) _ _ _); refine Stop.into ?_))
local macro_rules | `(tactic| walk1) => `(tactic| ((with_reducible show wpAny _ _ (call (Value.ref _) _ _) _ _ _); refine Stop.into ?_))
local macro_rules | `(tactic| walk_at "getMethod bytes") => `(tactic| (with_reducible refine R.lstrip_method ?_))
local macro_rules | `(tactic| walk_at "getMethod bytes") => `(tactic| (with_reducible refine R.rstrip_method ?_))
local macro_rules | `(tactic| walk_at "getMethod str") => `(tactic| (with_reducible refine R.encode_method ?_))
local macro_rules | `(tactic| walk_at "call builtin:bytes.lstrip") => `(tactic| ((with_reducible show wpAny _ _ (call (Value.builtin "bytes.lstrip") [Value.bytes _ _, Value.bytes _ _]) _ _ _); (refine R.lstrip_call (by kba_ints2) (by kba_ints2) (by kba_size) ?_); intro _ _ _ hlst))
local macro_rules | `(tactic| walk_at "call builtin:bytes.rstrip") => `(tactic| ((with_reducible show wpAny _ _ (call (Value.builtin "bytes.rstrip") [Value.bytes _ _]) _ _ _); (refine R.rstrip_call (by kba_ints2) (by kba_size) ?_); intro _ _ _ hrst))
local macro_rules | `(tactic| walk_at "callWith ref") => `(tactic| (k_here; kfb_any; k_dflt (refine' R.fb_callWith ?hN ?hM ?ha ?_; (case hN => k_asm); (case hM => k_mem); (case ha => exact rfl); k_whole)))
local macro_rules | `(tactic| walk1) => `(tactic| ((with_reducible show wpAny _ _ (binaryOp Operator.Add (Value.bytes _ _) (Value.bytes _ _)) _ _ _); first | ((refine KBa.add_K (by kba_ints2) (by kba_ints2) (by ((try simp only [List.length_replicate, List.length_append, List.length_map, List.length_take, List.length_drop, List.length_cons, List.length_nil]); omega)) ?_); intro _ _ kbaApp) | (refine Stop.into ?_)))
local macro_rules | `(tactic| walk1) => `(tactic| ((with_reducible show wpAny _ _ (exec (Stmt.Assign _ (PySem.Expr.DictComp _ _ _ _ _) _) _) _ _ _); refine Stop.into ?_))
local macro_rules | `(tactic| walk1) => `(tactic| ((with_reducible show wpAny _ _ (call (Value.type "enumerate") _ _) _ _ _); refine Stop.into ?_))
local macro_rules | `(tactic| walk1) => `(tactic| ((with_reducible show wpAny _ _ (binaryOp Operator.Mult (Value.int _ _) (Value.int _ _)) _ _ _); refine Stop.into ?_))
theorem number_l_ct (w : World) (l : Addr) (vs : List Value) (ks : List Int) (base : Int) (tk : Nat) (hi : IntsAre vs ks) (h0 : ∀ k ∈ ks, 0 ≤ k ∧ k < 256) (hb : 0 ≤ base ∧ base ≤ 256) (hz : ks.length ≤ 5000) :
    Ct (PySem.Challenge.rw_eg5003_02.row.prog) w (Mine.hd.heap_39 w.params) 87 5 (fun h => h.IsList l vs.toArray) [.ref l, .int base tk] [] (fun v nw => nw = [] ∧ ∃ t, v = .int (digNum ks base) t) := by
  k_fill
  refine' Ct.of (by k_is) (by k_is) (fun s X => BindsTo.of_eq rfl) (locs rfl) rfl rfl rfl (by decide) (fun _ _ k x => list_mono k x) ?_
  intro p loose mean mg mb dp un gd outer A₀ base' g L s Q B F X N T hpre hd hu hret
  k_steps
  refine Stop.out ?_
  rename Fr _ _ _ _ => F1
  rename News _ _ _ _ => N1
  refine For_invVF F1 (by rfl) (by rfl) ?_
  k_steps
  refine Stop.out ?_
  rename Fr _ _ _ _ => F1
  rename News _ _ _ _ => N1
  rename IsRange _ _ _ _ _ _ _ _ => R1
  refine iter_rangeN (n := ks.length) (fun i m nw => nw = [] ∧ ∃ t t9, m "total" = some (.int (digNum (ks.drop (ks.length - i)) base) t) ∧ m "power" = some (.int (base ^ i) t9) ∧ m "row" = some (.ref l) ∧ m "base" = some (.int base tk)) (by rfl) R1 (rsmall _ (by omega)) (rs_one _) F1 N1 ⟨rfl, _, _, by rw [Nat.sub_zero, List.drop_length]; rfl, by rw [Int.pow_zero]; rfl, rfl, rfl⟩ ?_ ?_
  · rintro i t m₁ nx h tk₁ own hin hoff hadr ⟨rfl, t2, t9, e1, e4, e2, e3⟩ F₁ N₁
    have F₂ := fr_turn [("total", .int (digNum (ks.drop (ks.length - i)) base) t2), ("power", .int (base ^ i) t9), ("row", .ref l), ("base", .int base tk)] (by simp [e1, e2, e3, e4]) F₁
    clear F1 N1 F₁
    k_steps
    have hx : (-1 - (0 + (i : Int)) + (ks.length : Int)).toNat = ks.length - 1 - i := by omega
    have hlt : ks.length - 1 - i < ks.length := by omega
    have hk := h0 (ks.getD (ks.length - 1 - i) 0) (by rw [List.getD_eq_getElem?_getD, List.getElem?_eq_getElem hlt]; exact List.getElem_mem hlt)
    refine Stop.out ?_
    refine mul_int ?_ (mul_left (by rw [hx]; exact hk.1) (by rw [hx]; omega))
    k_steps
    refine Stop.out ?_
    refine mul_int ?_ (mul_right (by omega) (by omega))
    k_steps
    rename Fr _ _ _ _ => F3
    rename News _ _ _ _ => N3
    have e5 : digNum (ks.drop (ks.length - (i + 1))) base = digNum (ks.drop (ks.length - i)) base + ks.getD (-1 - (0 + (i : Int)) + (ks.length : Int)).toNat 0 * base ^ i := by
      rw [drop_back hin, digNum_cons, List.length_drop, hx]
      have e5 : ks.length - (ks.length - i) = i := by omega
      rw [e5, Int.add_comm]
    have e6 : base ^ (i + 1) = base ^ i * base := Int.pow_succ _ _
    simp only [e5, e6]
    refine InvEndN.intro F3 N3 ⟨rfl, _, _, rfl, rfl, rfl, rfl⟩ rfl (by simp) (by simp)
  · rintro m₁ nx h tk₁ ⟨rfl, t2, t9, e1, e4, e2, e3⟩ F₁ N₁
    have F₂ := fr_pin [("total", .int (digNum (ks.drop (ks.length - ks.length)) base) t2)] (by simp [e1]) F₁
    clear F1 N1 F₁
    k_steps
    dsimp only
    refine hret _ [] _ _ _ ⟨rfl, t2, ?_⟩ F₂ N₁
    rw [Nat.sub_self, List.drop_zero]
end Mine
-- H3b
namespace Mine
local macro_rules | `(tactic| walk_at "none") => `(tactic| fail)
local macro_rules | `(tactic| walk_at "none") => `(tactic| fail)
local macro_rules | `(tactic| walk_at "none") => `(tactic| fail)
local macro_rules | `(tactic| walk_at "none") => `(tactic| fail)
local macro_rules | `(tactic| walk_at "none") => `(tactic| fail)
local macro_rules | `(tactic| walk_at "none") => `(tactic| fail)
local macro_rules | `(tactic| walk_at "none") => `(tactic| fail)
local macro_rules | `(tactic| walk_at "none") => `(tactic| fail)
theorem fresh_walk_H3b : True := by
 w_top off
 trivial
local macro_rules | `(tactic| walk1) => `(tactic| ((with_reducible show wpAny _ _ (exec (Stmt.While _ _ _ _) _) _ _ _); refine Stop.into ?_))
local macro_rules | `(tactic| walk1) => `(tactic| ((with_reducible show wpAny _ _ (exec (Stmt.For _ _ _ _ _) _) _ _ _); refine Stop.into ?_))
local macro_rules | `(tactic| walk1) => `(tactic| ((with_reducible show wpAny _ _ (pyIter _) _ _ _); refine Stop.into ?_))
local macro_rules | `(tactic| walk1) => `(tactic| ((with_reducible show wpAny _ _ (call (Value.ref _) _ _) _ _ _); refine Stop.into ?_))
local macro_rules | `(tactic| walk_at "getMethod bytes") => `(tactic| (with_reducible refine R.lstrip_method ?_))
local macro_rules | `(tactic| walk_at "getMethod bytes") => `(tactic| (with_reducible refine R.rstrip_method ?_))
local macro_rules | `(tactic| walk_at "getMethod str") => `(tactic| (with_reducible refine R.encode_method ?_))
local macro_rules | `(tactic| walk_at "call builtin:bytes.lstrip") => `(tactic| ((with_reducible show wpAny _ _ (call (Value.builtin "bytes.lstrip") [Value.bytes _ _, Value.bytes _ _]) _ _ _); (refine R.lstrip_call (by kba_ints2) (by kba_ints2) (by kba_size) ?_); intro _ _ _ hlst))
local macro_rules | `(tactic| walk_at "call builtin:bytes.rstrip") => `(tactic| ((with_reducible show wpAny _ _ (call (Value.builtin "bytes.rstrip") [Value.bytes _ _]) _ _ _); (refine R.rstrip_call (by kba_ints2) (by kba_size) ?_); intro _ _ _ hrst))
local macro_rules | `(tactic| walk_at "callWith ref") => `(tactic| (k_here; kfb_any; k_dflt (refine' R.fb_callWith ?hN ?hM ?ha ?_; (case hN => k_asm); (case hM => k_mem); (case ha => exact rfl); k_whole)))
local macro_rules | `(tactic| walk1) => `(tactic| ((with_reducible show wpAny _ _ (binaryOp Operator.Add (Value.bytes _ _) (Value.bytes _ _)) _ _ _); first | ((refine KBa.add_K (by kba_ints2) (by kba_ints2) (by ((try simp only [List.length_replicate, List.length_append, List.length_map, List.length_take, List.length_drop, List.length_cons, List.length_nil]); omega)) ?_); intro _ _ kbaApp) | (refine Stop.into ?_)))
local macro_rules | `(tactic| walk1) => `(tactic| ((with_reducible show wpAny _ _ (exec (Stmt.Assign _ (PySem.Expr.DictComp _ _ _ _ _) _) _) _ _ _); refine Stop.into ?_))
local macro_rules | `(tactic| walk1) => `(tactic| ((with_reducible show wpAny _ _ (call (Value.type "enumerate") _ _) _ _ _); refine Stop.into ?_))
local macro_rules | `(tactic| walk1) => `(tactic| ((with_reducible show wpAny _ _ (binaryOp Operator.Mult (Value.int _ _) (Value.int _ _)) _ _ _); refine Stop.into ?_))
theorem number_b_ct (w : World) (b : Array UInt8) (ta : Nat) (ks : List Int) (base : Int) (tk : Nat) (hi : KBw.bInts b = ks) (h0 : ∀ k ∈ ks, 0 ≤ k ∧ k < 256) (hb : 0 ≤ base ∧ base ≤ 256) (hz : ks.length ≤ 5000) :
    Ct (PySem.Challenge.rw_eg5003_02.row.prog) w (Mine.hd.heap_39 w.params) 87 5 (fun _ => True) [.bytes b ta, .int base tk] [] (fun v nw => nw = [] ∧ ∃ t, v = .int (digNum ks base) t) := by
  k_fill
  refine' Ct.of (by k_is) (by k_is) (fun s X => BindsTo.of_eq rfl) (locs rfl) rfl rfl rfl (by decide) (fun _ _ k x => x) ?_
  intro p loose mean mg mb dp un gd outer A₀ base' g L s Q B F X N T hpre hd hu hret
  k_steps
  refine Stop.out ?_
  rename Fr _ _ _ _ => F1
  rename News _ _ _ _ => N1
  refine For_invVF F1 (by rfl) (by rfl) ?_
  k_steps
  refine Stop.out ?_
  rename Fr _ _ _ _ => F1
  rename News _ _ _ _ => N1
  rename IsRange _ _ _ _ _ _ _ _ => R1
  refine iter_rangeN (n := ks.length) (fun i m nw => nw = [] ∧ ∃ t t9, m "total" = some (.int (digNum (ks.drop (ks.length - i)) base) t) ∧ m "power" = some (.int (base ^ i) t9) ∧ m "row" = some (.bytes b ta) ∧ m "base" = some (.int base tk)) (by rfl) R1 (rsmall _ (by omega)) (rs_one _) F1 N1 ⟨rfl, _, _, by rw [Nat.sub_zero, List.drop_length]; rfl, by rw [Int.pow_zero]; rfl, rfl, rfl⟩ ?_ ?_
  · rintro i t m₁ nx h tk₁ own hin hoff hadr ⟨rfl, t2, t9, e1, e4, e2, e3⟩ F₁ N₁
    have F₂ := fr_turn [("total", .int (digNum (ks.drop (ks.length - i)) base) t2), ("power", .int (base ^ i) t9), ("row", .bytes b ta), ("base", .int base tk)] (by simp [e1, e2, e3, e4]) F₁
    clear F1 N1 F₁
    k_steps
    have hx : (-1 - (0 + (i : Int)) + (ks.length : Int)).toNat = ks.length - 1 - i := by omega
    have hlt : ks.length - 1 - i < ks.length := by omega
    have hk := h0 (ks.getD (ks.length - 1 - i) 0) (by rw [List.getD_eq_getElem?_getD, List.getElem?_eq_getElem hlt]; exact List.getElem_mem hlt)
    refine Stop.out ?_
    rename 0 ≤ ks.getD _ 0 => hz1
    rename ks.getD _ 0 < 256 => hz2
    refine mul_int ?_ (mul_left hz1 (by omega))
    clear hz1 hz2
    k_steps
    refine Stop.out ?_
    refine mul_int ?_ (mul_right (by omega) (by omega))
    k_steps
    rename Fr _ _ _ _ => F3
    rename News _ _ _ _ => N3
    have e5 : digNum (ks.drop (ks.length - (i + 1))) base = digNum (ks.drop (ks.length - i)) base + ks.getD (-1 - (0 + (i : Int)) + (ks.length : Int)).toNat 0 * base ^ i := by
      rw [drop_back hin, digNum_cons, List.length_drop, hx]
      have e5 : ks.length - (ks.length - i) = i := by omega
      rw [e5, Int.add_comm]
    have e6 : base ^ (i + 1) = base ^ i * base := Int.pow_succ _ _
    simp only [e5, e6]
    refine InvEndN.intro F3 N3 ⟨rfl, _, _, rfl, rfl, rfl, rfl⟩ rfl (by simp) (by simp)
  · rintro m₁ nx h tk₁ ⟨rfl, t2, t9, e1, e4, e2, e3⟩ F₁ N₁
    have F₂ := fr_pin [("total", .int (digNum (ks.drop (ks.length - ks.length)) base) t2)] (by simp [e1]) F₁
    clear F1 N1 F₁
    k_steps
    dsimp only
    refine hret _ [] _ _ _ ⟨rfl, t2, ?_⟩ F₂ N₁
    rw [Nat.sub_self, List.drop_zero]
end Mine
-- H4b
namespace Mine
local macro_rules | `(tactic| walk_at "none") => `(tactic| fail)
local macro_rules | `(tactic| walk_at "none") => `(tactic| fail)
local macro_rules | `(tactic| walk_at "none") => `(tactic| fail)
local macro_rules | `(tactic| walk_at "none") => `(tactic| fail)
local macro_rules | `(tactic| walk_at "none") => `(tactic| fail)
local macro_rules | `(tactic| walk_at "none") => `(tactic| fail)
local macro_rules | `(tactic| walk_at "none") => `(tactic| fail)
local macro_rules | `(tactic| walk_at "none") => `(tactic| fail)
local macro_rules | `(tactic| walk_at "none") => `(tactic| fail)
theorem fresh_walk_H4b : True := by
 w_top off
 trivial
local macro_rules | `(tactic| walk1) => `(tactic| ((with_reducible show wpAny _ _ (exec (Stmt.While _ _ _ _) _) _ _ _); refine Stop.into ?_))
local macro_rules | `(tactic| walk1) => `(tactic| ((with_reducible show wpAny _ _ (exec (Stmt.For _ _ _ _ _) _) _ _ _); refine Stop.into ?_))
local macro_rules | `(tactic| walk1) => `(tactic| ((with_reducible show wpAny _ _ (pyIter _) _ _ _); refine Stop.into ?_))
local macro_rules | `(tactic| walk1) => `(tactic| ((with_reducible show wpAny _ _ (call (Value.ref _) _ _) _ _ _); refine Stop.into ?_))
local macro_rules | `(tactic| walk_at "getMethod bytes") => `(tactic| (with_reducible refine R.lstrip_method ?_))
local macro_rules | `(tactic| walk_at "getMethod bytes") => `(tactic| (with_reducible refine R.rstrip_method ?_))
local macro_rules | `(tactic| walk_at "getMethod str") => `(tactic| (with_reducible refine R.encode_method ?_))
local macro_rules | `(tactic| walk_at "call builtin:bytes.lstrip") => `(tactic| ((with_reducible show wpAny _ _ (call (Value.builtin "bytes.lstrip") [Value.bytes _ _, Value.bytes _ _]) _ _ _); (refine R.lstrip_call (by kba_ints2) (by kba_ints2) (by kba_size) ?_); intro _ _ _ hlst))
local macro_rules | `(tactic| walk_at "call builtin:bytes.rstrip") => `(tactic| ((with_reducible show wpAny _ _ (call (Value.builtin "bytes.rstrip") [Value.bytes _ _]) _ _ _); (refine R.rstrip_call (by kba_ints2) (by kba_size) ?_); intro _ _ _ hrst))
local macro_rules | `(tactic| walk_at "callWith ref") => `(tactic| (k_here; kfb_any; k_dflt (refine' R.fb_callWith ?hN ?hM ?ha ?_; (case hN => k_asm); (case hM => k_mem); (case ha => exact rfl); k_whole)))
local macro_rules | `(tactic| walk1) => `(tactic| ((with_reducible show wpAny _ _ (binaryOp Operator.Add (Value.bytes _ _) (Value.bytes _ _)) _ _ _); first | ((refine KBa.add_K (by kba_ints2) (by kba_ints2) (by ((try simp only [List.length_replicate, List.length_append, List.length_map, List.length_take, List.length_drop, List.length_cons, List.length_nil]); omega)) ?_); intro _ _ kbaApp) | (refine Stop.into ?_)))
local macro_rules | `(tactic| walk1) => `(tactic| ((with_reducible show wpAny _ _ (exec (Stmt.Assign _ (PySem.Expr.DictComp _ _ _ _ _) _) _) _ _ _); refine Stop.into ?_))
local macro_rules | `(tactic| walk1) => `(tactic| ((with_reducible show wpAny _ _ (call (Value.type "enumerate") _ _) _ _ _); refine Stop.into ?_))
def sig0 : List Int := [49, 50, 51, 52, 53, 54, 55, 56, 57, 65, 66, 67, 68, 69, 70, 71, 72, 74, 75, 76, 77, 78, 80, 81, 82, 83, 84, 85, 86, 87, 88, 89, 90, 97, 98, 99, 100, 101, 102, 103, 104, 105, 106, 107, 109, 110, 111, 112, 113, 114, 115, 116, 117, 118, 119, 120, 121, 122]
def sig1 : List Int := [114, 112, 115, 104, 110, 97, 102, 51, 57, 119, 66, 85, 68, 78, 69, 71, 72, 74, 75, 76, 77, 52, 80, 81, 82, 83, 84, 55, 86, 87, 88, 89, 90, 50, 98, 99, 100, 101, 67, 103, 54, 53, 106, 107, 109, 56, 111, 70, 113, 105, 49, 116, 117, 118, 65, 120, 121, 122]
def sigN (a0 a1 a2 : Int) : List Int := (rangeKs 0 (2 + a2 % 88).toNat).map fun k => 38 + (a0 % 89 + (1 + a1 % 88) * k) % 89
def sigs (kind a0 a1 a2 : Int) : List Int := if kind = 0 then sig0 else if kind = 1 then sig1 else sigN a0 a1 a2
theorem signs_ct (w : World) (kind a0 a1 a2 : Int) (t0 t1 t2 t3 : Nat) (hk : 0 ≤ kind ∧ kind < 3) :
    Ct (PySem.Challenge.rw_eg5003_02.row.prog) w (Mine.hd.heap_39 w.params) 73 5 (fun _ => True) [.int kind t0, .int a0 t1, .int a1 t2, .int a2 t3] [] (fun v nw => nw = [] ∧ ∃ r t, v = .bytes r t ∧ KBw.bInts r = sigs kind a0 a1 a2) := by
  k_fill
  refine' Ct.ofC (by k_is) (by k_is) (fun s X => by exact BindsTo.of_eq rfl) (by rfl) (by decide) rfl rfl rfl (fun _ _ k x => x) ?_
  intro p loose mean mg mb dp un gd outer A₀ base g L s Q cells B F X N Y T hpre hd hu hret
  obtain ⟨oc, oc2, hE, d1, d2⟩ := PyProof.Rows.CellsAre.two Y
  subst hE
  clear Y
  replace d1 : oc.data = .cell (some (.int a1 t2)) := d1
  replace d2 : oc2.data = .cell (some (.int a0 t1)) := d2
  k_steps
  · rename kind = 0 => h0
    dsimp only
    refine hret _ [] _ _ _ ⟨rfl, _, _, rfl, ?_⟩ F News.nil
    unfold sigs
    rw [if_pos h0]
    rfl
  · rename kind = 1 => h1
    rename kind ≠ 0 => h0
    dsimp only
    refine hret _ [] _ _ _ ⟨rfl, _, _, rfl, ?_⟩ F News.nil
    unfold sigs
    rw [if_neg h0, if_pos h1]
    rfl
  · rename kind ≠ 1 => h1
    rename kind ≠ 0 => h0
    rename KBa.In _ => hin
    rename Fr _ _ _ _ => F9
    dsimp only
    refine hret _ [] _ _ _ ⟨rfl, _, _, rfl, ?_⟩ F9 News.nil
    rw [KBa.ints_make hin]
    unfold sigs sigN
    rw [if_neg h0, if_neg h1]
    simp only [fmod_pos _ (show (0 : Int) ≤ 89 by decide), fmod_pos _ (show (0 : Int) ≤ 88 by decide), Int.sub_zero]
end Mine
-- H5b
namespace Mine
local macro_rules | `(tactic| walk_at "none") => `(tactic| fail)
local macro_rules | `(tactic| walk_at "none") => `(tactic| fail)
local macro_rules | `(tactic| walk_at "none") => `(tactic| fail)
local macro_rules | `(tactic| walk_at "none") => `(tactic| fail)
local macro_rules | `(tactic| walk_at "none") => `(tactic| fail)
local macro_rules | `(tactic| walk_at "none") => `(tactic| fail)
local macro_rules | `(tactic| walk_at "none") => `(tactic| fail)
local macro_rules | `(tactic| walk_at "none") => `(tactic| fail)
theorem fresh_walk_H5b : True := by
 w_top off
 trivial
local macro_rules | `(tactic| walk1) => `(tactic| ((with_reducible show wpAny _ _ (exec (Stmt.While _ _ _ _) _) _ _ _); refine Stop.into ?_))
local macro_rules | `(tactic| walk1) => `(tactic| ((with_reducible show wpAny _ _ (exec (Stmt.For _ _ _ _ _) _) _ _ _); refine Stop.into ?_))
local macro_rules | `(tactic| walk1) => `(tactic| ((with_reducible show wpAny _ _ (pyIter _) _ _ _); refine Stop.into ?_))
local macro_rules | `(tactic| walk1) => `(tactic| ((with_reducible show wpAny _ _ (call (Value.ref _) _ _) _ _ _); refine Stop.into ?_))
local macro_rules | `(tactic| walk_at "getMethod bytes") => `(tactic| (with_reducible refine R.lstrip_method ?_))
local macro_rules | `(tactic| walk_at "getMethod bytes") => `(tactic| (with_reducible refine R.rstrip_method ?_))
local macro_rules | `(tactic| walk_at "getMethod str") => `(tactic| (with_reducible refine R.encode_method ?_))
local macro_rules | `(tactic| walk_at "call builtin:bytes.lstrip") => `(tactic| ((with_reducible show wpAny _ _ (call (Value.builtin "bytes.lstrip") [Value.bytes _ _, Value.bytes _ _]) _ _ _); (refine R.lstrip_call (by kba_ints2) (by kba_ints2) (by kba_size) ?_); intro _ _ _ hlst))
local macro_rules | `(tactic| walk_at "call builtin:bytes.rstrip") => `(tactic| ((with_reducible show wpAny _ _ (call (Value.builtin "bytes.rstrip") [Value.bytes _ _]) _ _ _); (refine R.rstrip_call (by kba_ints2) (by kba_size) ?_); intro _ _ _ hrst))
local macro_rules | `(tactic| walk_at "callWith ref") => `(tactic| (k_here; kfb_any; k_dflt (refine' R.fb_callWith ?hN ?hM ?ha ?_; (case hN => k_asm); (case hM => k_mem); (case ha => exact rfl); k_whole)))
local macro_rules | `(tactic| walk1) => `(tactic| ((with_reducible show wpAny _ _ (binaryOp Operator.Add (Value.bytes _ _) (Value.bytes _ _)) _ _ _); first | ((refine KBa.add_K (by kba_ints2) (by kba_ints2) (by ((try simp only [List.length_replicate, List.length_append, List.length_map, List.length_take, List.length_drop, List.length_cons, List.length_nil]); omega)) ?_); intro _ _ kbaApp) | (refine Stop.into ?_)))
local macro_rules | `(tactic| walk1) => `(tactic| ((with_reducible show wpAny _ _ (exec (Stmt.Assign _ (PySem.Expr.DictComp _ _ _ _ _) _) _) _ _ _); refine Stop.into ?_))
local macro_rules | `(tactic| walk1) => `(tactic| ((with_reducible show wpAny _ _ (call (Value.type "enumerate") _ _) _ _ _); refine Stop.into ?_))
local macro_rules | `(tactic| walk1) => `(tactic| ((with_reducible show wpAny _ _ (eval (PySem.Expr.ListComp _ _ _ _) _) _ _ _); refine Stop.into ?_))
theorem ranks_ct (w : World) (b : Array UInt8) (ta : Nat) (ks : List Int) (d : Addr) (c : List (Int × Int)) (hb : KBw.bInts b = ks) (hz : ks.length ≤ 5000) (hall : ∀ k ∈ ks, kdfHas c k = true) :
    Ct (PySem.Challenge.rw_eg5003_02.row.prog) w (Mine.hd.heap_39 w.params) 92 5 (fun h => TabAt (PySem.intKind (PySem.Challenge.rw_eg5003_02.row.prog) w) PyData.int h d (kdfD c)) [.bytes b ta, .ref d] [] (fun v nw => ∃ D us, v = .ref D ∧ nw = [(D, LCg.lst us)] ∧ IntsAre us (ks.map fun k => kdfLook c k 0)) := by
  k_fill
  refine' Ct.ofC (by k_is) (by k_is) (fun s X => by exact BindsTo.of_eq rfl) (by rfl) (by decide) rfl rfl rfl (fun _ _ k x => x.keep k) ?_
  intro p loose mean mg mb dp un gd outer A₀ base g L s Q cells B F X N Y T hpre hd hu hret
  obtain ⟨oc, hE, d1⟩ := PyProof.Rows.CellsAre.one Y
  subst hE
  clear Y
  replace d1 : oc.data = .cell (some (.ref d)) := d1
  k_steps
  refine Stop.out ?_
  rename Fr _ _ _ _ => F1
  rename News _ _ _ _ => N1
  refine For_invVF F1 (by rfl) (by rfl) ?_
  k_steps
  refine Stop.out ?_
  rename Fr _ _ _ _ => F1
  rename News _ _ _ _ => N1
  refine KBmo.iter_bytesN (fun i m nw => nw = [(L + 1, oc)] ∧ m "text" = some (.bytes b ta)) hb (by rfl) F1 N1 ⟨rfl, rfl⟩ ?_ ?_
  · rintro i k t m₂ nx2 h4 tk4 own2 hk hk0 hk1 hoff2 ⟨rfl, e1⟩ F8 N8
    have F9 := fr_turn [("text", .bytes b ta)] (by simp [e1]) F8
    clear F1 N1 F8
    have hhas := hall k (List.mem_of_getElem? hk)
    have T8 := hpre.keep F9.keep
    k_steps
    · exact InvEndN.intro F9 N8 ⟨rfl, rfl⟩ rfl (fun p hp => List.mem_append_left _ hp) (fun p hp => List.mem_append_right _ hp)
    · rename Option.isSome _ = false => hf
      rw [kdfD_isSome, hhas] at hf
      cases hf
  · rintro m₂ nx2 h4 tk4 ⟨rfl, e1⟩ F8 N8
    have F9 := fr_pin [("text", .bytes b ta)] (by simp [e1]) F8
    clear F1 N1 F8
    k_steps
    refine Stop.out ?_
    refine R.LC_B F9 (by rfl) (by with_unfolding_all rfl) (by decide) (by rfl) (by decide) (by rfl) ?_
    refine nameX_L F9 (v := .bytes b ta) (by rfl) ?_
    refine ⟨b, ta, _, rfl, F9, N8, by rw [sizeLine_eq, ← KBw.ints_length, hb]; omega, fun g' => ?_⟩
    refine kcf_rest (S := fun _ => True) (ks := ks) (fun k => kdfLook c k 0) (by rw [← KBw.ints_length, hb]) (fun i v _ hv => by
      obtain ⟨c, u, hc, rfl⟩ := hv
      exact ⟨_, u, hb ▸ KBw.ints_get hc, rfl⟩) ?_ ?_
    · intro k t I oI C oC D' m₂ ys h tk E' hk hC hx F N off ne mk
      have hhas := hall k hk
      have T8 := hpre.keep F.keep
      have hlk := kdfD_item hhas
      k_steps
    · unfold KPfDone
      intro ys hys D h tk F N off
      exact hret _ _ _ _ _ ⟨D, ys, rfl, rfl, hys⟩ F (news_sub N (by simp))
end Mine
-- I1b
namespace Mine
local macro_rules | `(tactic| walk_at "none") => `(tactic| fail)
local macro_rules | `(tactic| walk_at "none") => `(tactic| fail)
local macro_rules | `(tactic| walk_at "none") => `(tactic| fail)
local macro_rules | `(tactic| walk_at "none") => `(tactic| fail)
local macro_rules | `(tactic| walk_at "none") => `(tactic| fail)
local macro_rules | `(tactic| walk_at "none") => `(tactic| fail)
local macro_rules | `(tactic| walk_at "none") => `(tactic| fail)
local macro_rules | `(tactic| walk_at "none") => `(tactic| fail)
local macro_rules | `(tactic| walk_at "none") => `(tactic| fail)
theorem fresh_walk_I1b : True := by
 w_top off
 trivial
local macro_rules | `(tactic| walk1) => `(tactic| ((with_reducible show wpAny _ _ (exec (Stmt.While _ _ _ _) _) _ _ _); refine Stop.into ?_))
local macro_rules | `(tactic| walk1) => `(tactic| ((with_reducible show wpAny _ _ (exec (Stmt.For _ _ _ _ _) _) _ _ _); refine Stop.into ?_))
local macro_rules | `(tactic| walk1) => `(tactic| ((with_reducible show wpAny _ _ (pyIter _) _ _ _); refine Stop.into ?_))
local macro_rules | `(tactic| walk1) => `(tactic| ((with_reducible show wpAny _ _ (call (Value.ref _) _ _) _ _ _); refine Stop.into ?_))
local macro_rules | `(tactic| walk_at "getMethod bytes") => `(tactic| (with_reducible refine R.lstrip_method ?_))
local macro_rules | `(tactic| walk_at "getMethod bytes") => `(tactic| (with_reducible refine R.rstrip_method ?_))
local macro_rules | `(tactic| walk_at "getMethod str") => `(tactic| (with_reducible refine R.encode_method ?_))
local macro_rules | `(tactic| walk_at "call builtin:bytes.lstrip") => `(tactic| ((with_reducible show wpAny _ _ (call (Value.builtin "bytes.lstrip") [Value.bytes _ _, Value.bytes _ _]) _ _ _); (refine R.lstrip_call (by kba_ints2) (by kba_ints2) (by kba_size) ?_); intro _ _ _ hlst))
local macro_rules | `(tactic| walk_at "call builtin:bytes.rstrip") => `(tactic| ((with_reducible show wpAny _ _ (call (Value.builtin "bytes.rstrip") [Value.bytes _ _]) _ _ _); (refine R.rstrip_call (by kba_ints2) (by kba_size) ?_); intro _ _ _ hrst))
local macro_rules | `(tactic| walk_at "callWith ref") => `(tactic| (k_here; kfb_any; k_dflt (refine' R.fb_callWith ?hN ?hM ?ha ?_; (case hN => k_asm); (case hM => k_mem); (case ha => exact rfl); k_whole)))
local macro_rules | `(tactic| walk1) => `(tactic| ((with_reducible show wpAny _ _ (binaryOp Operator.Add (Value.bytes _ _) (Value.bytes _ _)) _ _ _); first | ((refine KBa.add_K (by kba_ints2) (by kba_ints2) (by ((try simp only [List.length_replicate, List.length_append, List.length_map, List.length_take, List.length_drop, List.length_cons, List.length_nil]); omega)) ?_); intro _ _ kbaApp) | (refine Stop.into ?_)))
local macro_rules | `(tactic| walk1) => `(tactic| ((with_reducible show wpAny _ _ (exec (Stmt.Assign _ (PySem.Expr.DictComp _ _ _ _ _) _) _) _ _ _); refine Stop.into ?_))
local macro_rules | `(tactic| walk1) => `(tactic| ((with_reducible show wpAny _ _ (call (Value.type "enumerate") _ _) _ _ _); refine Stop.into ?_))
local macro_rules | `(tactic| walk1) => `(tactic| ((with_reducible show wpAny _ _ (call (Value.builtin "len") [Value.ref _]) _ _ _); refine Stop.into ?_))
theorem flat_rep (n : Nat) : (List.replicate n [(0 : Int)]).flatten = List.replicate n 0 := by
  induction n with
  | zero => rfl
  | succ n ih => simp
theorem sound_ct (w : World) (b : Array UInt8) (ta tb tc : Nat) (ks : List Int) (n : Nat) (num : Int) (d : Addr) (c : List (Int × Int)) (hb : KBw.bInts b = ks) (hz : ks.length ≤ 5000) (hc : c.length ≤ 200) (hall : ∀ k ∈ ks, kdfHas c k = true)
    (hr : ∀ k ∈ ks, 0 ≤ kdfLook c k 0 ∧ kdfLook c k 0 < 256) (hn : n ≤ ks.length) (hfront : (ks.map fun k => kdfLook c k 0).take n = List.replicate n 0) (hrest : ∀ x r, (ks.map fun k => kdfLook c k 0).drop n = x :: r → x ≠ 0) (hnum : digNum ((ks.map fun k => kdfLook c k 0).drop n) (c.length : Int) = num) :
    Ct (PySem.Challenge.rw_eg5003_02.row.prog) w (Mine.hd.heap_39 w.params) 99 15 (fun h => TabAt (PySem.intKind (PySem.Challenge.rw_eg5003_02.row.prog) w) PyData.int h d (kdfD c)) [.bytes b ta, .int (n : Int) tb, .int num tc, .ref d] [] (fun v nw => nw = [] ∧ v = .bool true) := by
  k_fill
  refine' Ct.of (by k_is) (by k_is) (fun s X => by exact BindsTo.of_eq rfl) (locs rfl) rfl rfl rfl (by decide) (fun _ _ k x => x.keep k) ?_
  intro p loose mean mg mb dp un gd outer A₀ base g L s Q B F X N T hpre hd hu hret
  k_steps
  refine Stop.out ?_
  rename Fr _ _ _ _ => F1
  rename News _ _ _ _ => N1
  refine' (ranks_ct w b ta ks d c hb hz hall).use B F1 X N1 T rfl (hpre.keep F1.keep) ?hd ?hu ?_
  case hd => omega
  case hu => omega
  rintro v nw h' tk' ⟨D, us, rfl, rfl, hus⟩ k1 fr1 F2 N2
  clear F1 N1
  have hsz : us.toArray.size ≤ 5000 := by
    rw [List.size_toArray, hus.length, List.length_map]
    exact hz
  k_steps
  · refine Stop.out ?_
    rename Fr _ _ _ _ => F2
    rename News _ _ _ _ => N2
    rename IntsAre _ (List.drop _ _) => hI
    rw [Int.toNat_natCast] at hI
    have hlz : ((ks.map fun k => kdfLook c k 0).drop n).length ≤ 5000 := by
      rw [List.length_drop, List.length_map]
      omega
    have hq := (N2 _ (.head _)).1
    refine name_addr N2 ?_
    intro R' hR'
    subst hR'
    refine len_ints_fit ⟨_, hq, rfl, _, rfl⟩ hI (by omega) ?_
    clear hsz
    k_steps
    · rename List.getD _ _ _ = 0 => hz0
      cases e : (ks.map fun k => kdfLook c k 0).drop n with
      | nil =>
        rename (0 : Int) < _ => hp
        rw [e] at hp
        cases hp
      | cons x r =>
        rw [e] at hz0
        exact absurd hz0 (hrest x r e)
    all_goals (
      refine Stop.out ?_
      refine kdf_len (hpre.keep F2.keep) (by omega) ?_
      k_steps
      refine Stop.out ?_
      rename Fr _ _ _ _ => F5
      rename News _ _ _ _ => N5
      refine' (number_l_ct w R' _ _ (c.length : Int) _ hI (fun k hk => by
        obtain ⟨x, hx, rfl⟩ := List.mem_map.mp (List.mem_of_mem_drop hk)
        exact hr x hx) (by omega) hlz).use B F5 X N5 T rfl (News.isList N5 (.head _)) ?hd ?hu ?_
      case hd => omega
      case hu => omega
      rintro v nw h' tk' ⟨rfl, t9, rfl⟩ k5 fr5 F6 N6
      clear F5 N5
      k_steps
      try dsimp only
      rename Fr _ _ _ _ => F7
      exact hret _ [] _ _ _ ⟨rfl, by rw [hnum]; simp⟩ F7 News.nil)
  · rename ¬ List.take _ _ = _ => hne
    refine absurd ?_ hne
    rw [Int.toNat_natCast, hfront, flat_rep]
end Mine
-- I2b
namespace Mine
local macro_rules | `(tactic| walk_at "none") => `(tactic| fail)
local macro_rules | `(tactic| walk_at "none") => `(tactic| fail)
local macro_rules | `(tactic| walk_at "none") => `(tactic| fail)
local macro_rules | `(tactic| walk_at "none") => `(tactic| fail)
local macro_rules | `(tactic| walk_at "none") => `(tactic| fail)
local macro_rules | `(tactic| walk_at "none") => `(tactic| fail)
local macro_rules | `(tactic| walk_at "none") => `(tactic| fail)
local macro_rules | `(tactic| walk_at "none") => `(tactic| fail)
theorem fresh_walk_I2b : True := by
 w_top off
 trivial
local macro_rules | `(tactic| walk1) => `(tactic| ((with_reducible show wpAny _ _ (exec (Stmt.While _ _ _ _) _) _ _ _); refine Stop.into ?_))
local macro_rules | `(tactic| walk1) => `(tactic| ((with_reducible show wpAny _ _ (exec (Stmt.For _ _ _ _ _) _) _ _ _); refine Stop.into ?_))
local macro_rules | `(tactic| walk1) => `(tactic| ((with_reducible show wpAny _ _ (pyIter _) _ _ _); refine Stop.into ?_))
local macro_rules | `(tactic| walk1) => `(tactic| ((with_reducible show wpAny _ _ (call (Value.ref _) _ _) _ _ _); refine Stop.into ?_))
local macro_rules | `(tactic| walk_at "getMethod bytes") => `(tactic| (with_reducible refine R.lstrip_method ?_))
local macro_rules | `(tactic| walk_at "getMethod bytes") => `(tactic| (with_reducible refine R.rstrip_method ?_))
local macro_rules | `(tactic| walk_at "getMethod str") => `(tactic| (with_reducible refine R.encode_method ?_))
local macro_rules | `(tactic| walk_at "call builtin:bytes.lstrip") => `(tactic| ((with_reducible show wpAny _ _ (call (Value.builtin "bytes.lstrip") [Value.bytes _ _, Value.bytes _ _]) _ _ _); (refine R.lstrip_call (by kba_ints2) (by kba_ints2) (by kba_size) ?_); intro _ _ _ hlst))
local macro_rules | `(tactic| walk_at "call builtin:bytes.rstrip") => `(tactic| ((with_reducible show wpAny _ _ (call (Value.builtin "bytes.rstrip") [Value.bytes _ _]) _ _ _); (refine R.rstrip_call (by kba_ints2) (by kba_size) ?_); intro _ _ _ hrst))
local macro_rules | `(tactic| walk_at "callWith ref") => `(tactic| (k_here; kfb_any; k_dflt (refine' R.fb_callWith ?hN ?hM ?ha ?_; (case hN => k_asm); (case hM => k_mem); (case ha => exact rfl); k_whole)))
local macro_rules | `(tactic| walk1) => `(tactic| ((with_reducible show wpAny _ _ (binaryOp Operator.Add (Value.bytes _ _) (Value.bytes _ _)) _ _ _); first | ((refine KBa.add_K (by kba_ints2) (by kba_ints2) (by ((try simp only [List.length_replicate, List.length_append, List.length_map, List.length_take, List.length_drop, List.length_cons, List.length_nil]); omega)) ?_); intro _ _ kbaApp) | (refine Stop.into ?_)))
local macro_rules | `(tactic| walk1) => `(tactic| ((with_reducible show wpAny _ _ (exec (Stmt.Assign _ (PySem.Expr.DictComp _ _ _ _ _) _) _) _ _ _); refine Stop.into ?_))
local macro_rules | `(tactic| walk1) => `(tactic| ((with_reducible show wpAny _ _ (call (Value.type "enumerate") _ _) _ _ _); refine Stop.into ?_))
theorem whole_ct (w : World) (i j : Int) (ta tb : Nat) (h : i = j) :
    Ct (PySem.Challenge.rw_eg5003_02.row.prog) w (Mine.hd.heap_39 w.params) 106 5 (fun _ => True) [.int i ta, .int j tb] [] (fun v nw => nw = [] ∧ v = .bool true) := by
  k_fill
  refine' Ct.of (by k_is) (by k_is) (fun s X => by exact BindsTo.of_eq rfl) (locs rfl) rfl rfl rfl (by decide) (fun _ _ k x => x) ?_
  intro p loose mean mg mb dp un gd outer A₀ base g L s Q B F X N T hpre hd hu hret
  k_steps
  all_goals (try dsimp only)
  all_goals (first | exact hret _ [] _ _ _ ⟨rfl, rfl⟩ F N | exact hret _ [] _ _ _ ⟨rfl, by rw [h]; simp⟩ F N)
end Mine
-- Q1b
namespace Mine
theorem dig_zero (b : Nat) : dig b 0 = [] := by
  rw [dig, dif_neg (by simp)]
theorem dig_step {b n : Nat} (hb : 2 ≤ b) (hn : n ≠ 0) : dig b n = dig b (n / b) ++ [n % b] := by
  rw [dig, dif_pos ⟨hb, hn⟩]
theorem dig_lt {b : Nat} (hb : 2 ≤ b) : ∀ n, ∀ d ∈ dig b n, d < b := by
  intro n
  induction n using Nat.strongRecOn with
  | ind n ih =>
    intro d hd
    by_cases hn : n = 0
    · subst hn
      rw [dig_zero] at hd
      cases hd
    · rw [dig_step hb hn] at hd
      rcases List.mem_append.mp hd with hd | hd
      · exact ih _ (Nat.div_lt_self (by omega) (by omega)) d hd
      · rw [List.mem_singleton.mp hd]
        exact Nat.mod_lt _ (by omega)
theorem dig_len {b : Nat} (hb : 2 ≤ b) : ∀ k n, n < 2 ^ k → (dig b n).length ≤ k := by
  intro k
  induction k with
  | zero =>
    intro n hn
    have : n = 0 := by simpa using hn
    subst this
    rw [dig_zero]
    simp
  | succ k ih =>
    intro n hn
    by_cases h0 : n = 0
    · subst h0
      rw [dig_zero]
      simp
    · rw [dig_step hb h0, List.length_append, List.length_singleton]
      have h1 : n / b ≤ n / 2 := Nat.div_le_div_left hb (by omega)
      have h2 : n / b < 2 ^ k := by
        rw [Nat.pow_succ] at hn
        omega
      have := ih _ h2
      omega
theorem digNum_snoc (ks : List Int) (k b : Int) : digNum (ks ++ [k]) b = digNum ks b * b + k := by
  unfold digNum
  rw [List.foldl_append]
  rfl
theorem dig_num {b : Nat} (hb : 2 ≤ b) : ∀ n : Nat, digNum ((dig b n).map fun d : Nat => (d : Int)) (b : Int) = (n : Int) := by
  intro n
  induction n using Nat.strongRecOn with
  | ind n ih =>
    by_cases hn : n = 0
    · subst hn
      rw [dig_zero]
      rfl
    · rw [dig_step hb hn, List.map_append, List.map_cons, List.map_nil, digNum_snoc, ih _ (Nat.div_lt_self (by omega) (by omega))]
      have := Nat.div_add_mod n b
      have h2 : (n : Int) = (b : Int) * ((n / b : Nat) : Int) + ((n % b : Nat) : Int) := by exact_mod_cast this.symm
      rw [h2, Int.mul_comm]
theorem dig_head {b : Nat} (hb : 2 ≤ b) : ∀ n : Nat, ∀ x r, dig b n = x :: r → x ≠ 0 := by
  intro n
  induction n using Nat.strongRecOn with
  | ind n ih =>
    intro x r e
    by_cases hn : n = 0
    · subst hn
      rw [dig_zero] at e
      cases e
    · rw [dig_step hb hn] at e
      by_cases hq : n / b = 0
      · rw [hq, dig_zero, List.nil_append] at e
        have e1 := (List.cons.inj e).1
        have : n % b = n := Nat.mod_eq_of_lt (by
          rcases Nat.div_eq_zero_iff.mp hq with h | h
          · omega
          · exact h)
        omega
      · cases hd : dig b (n / b) with
        | nil =>
          have := dig_num hb (n / b)
          rw [hd] at this
          simp [digNum] at this
          omega
        | cons y t =>
          rw [hd, List.cons_append] at e
          have e1 := (List.cons.inj e).1
          rw [← e1]
          exact ih _ (Nat.div_lt_self (by omega) (by omega)) y t hd
/-- the rank of a sign -/
def rk (ss : List Int) (x : Int) : Int := kdfLook (R.invI ss ss.length) x 0
theorem rk_get {ss : List Int} (hd : ss.Nodup) {i : Nat} (hi : i < ss.length) : rk ss (ss.getD i 0) = (i : Int) := inv_look hd (Nat.le_refl _) hi
theorem encI_mem {ss : List Int} (h2 : 2 ≤ ss.length) {n : Int} : ∀ x ∈ encI ss n, x ∈ ss := by
  intro x hx
  unfold encI at hx
  obtain ⟨d, hd, rfl⟩ := List.mem_map.mp hx
  have hlt := dig_lt h2 _ d hd
  rw [List.getD_eq_getElem?_getD, List.getElem?_eq_getElem hlt]
  exact List.getElem_mem hlt
theorem encI_rk {ss : List Int} (hnd : ss.Nodup) (h2 : 2 ≤ ss.length) (n : Int) : (encI ss n).map (rk ss) = (dig ss.length n.toNat).map fun d : Nat => (d : Int) := by
  unfold encI
  rw [List.map_map]
  refine List.map_congr_left fun d hd => ?_
  exact rk_get hnd (dig_lt h2 _ d hd)
theorem encI_num {ss : List Int} (hnd : ss.Nodup) (h2 : 2 ≤ ss.length) {n : Int} (hn : 0 ≤ n) : digNum ((encI ss n).map (rk ss)) (ss.length : Int) = n := by
  rw [encI_rk hnd h2, dig_num h2, Int.toNat_of_nonneg hn]
theorem rk_first {ss : List Int} (hnd : ss.Nodup) (h2 : 2 ≤ ss.length) : rk ss (ss.getD 0 0) = 0 := rk_get hnd (by omega)
theorem digNum_zeros (z : Nat) (ks : List Int) (b : Int) : digNum (List.replicate z 0 ++ ks) b = digNum ks b := by
  induction z with
  | zero => rfl
  | succ z ih => rw [List.replicate_succ, List.cons_append, digNum_cons, Int.zero_mul, Int.zero_add, ih]
theorem encI_len {ss : List Int} (h2 : 2 ≤ ss.length) {n : Int} {k : Nat} (h0 : 0 ≤ n) (h : n < 2 ^ k) : (encI ss n).length ≤ k := by
  unfold encI
  rw [List.length_map]
  refine dig_len h2 k _ ?_
  have : ((n.toNat : Nat) : Int) < ((2 ^ k : Nat) : Int) := by
    rw [Int.toNat_of_nonneg h0]
    exact_mod_cast h
  exact_mod_cast this
theorem digNum_lt {b : Int} (hb : 1 ≤ b) : ∀ {ks : List Int}, (∀ k ∈ ks, 0 ≤ k ∧ k < b) → digNum ks b < b ^ ks.length
  | [], _ => by show (0 : Int) < b ^ 0; rw [Int.pow_zero]; omega
  | k :: r, h => by
    have ih := digNum_lt hb (ks := r) fun x hx => h x (.tail _ hx)
    have hk := h k (.head _)
    rw [digNum_cons, List.length_cons, Int.pow_succ]
    have h1 : k * b ^ r.length ≤ (b - 1) * b ^ r.length := Int.mul_le_mul_of_nonneg_right (by omega) (Int.pow_nonneg (by omega))
    have h2 : (b - 1) * b ^ r.length = b ^ r.length * b - b ^ r.length := by
      rw [Int.sub_mul, Int.one_mul, Int.mul_comm]
    omega
theorem invI_length {ks : List Int} (hd : ks.Nodup) : ∀ {n : Nat}, n ≤ ks.length → (R.invI ks n).length = n
  | 0, _ => rfl
  | n + 1, h => by
    have hn : n < ks.length := h
    have ih := invI_length hd (n := n) (Nat.le_of_lt hn)
    have hnot : ¬ kdfHas (R.invI ks n) (ks.getD n 0) = true := by
      intro hh
      have hm := (inv_has (Nat.le_of_lt hn)).mp hh
      obtain ⟨i, hi, e⟩ := List.getElem_of_mem hm
      rw [List.length_take] at hi
      have hin : i < ks.length := by omega
      rw [List.getElem_take, List.getD_eq_getElem?_getD, List.getElem?_eq_getElem hn] at e
      have := nodup_inj hd hin hn e
      omega
    show (kdfPut (R.invI ks n) (ks.getD n 0) (n : Int)).length = n + 1
    unfold kdfPut
    unfold kdfHas at hnot
    rw [if_neg hnot, List.length_append, ih]
    rfl
theorem rk_in {ss : List Int} (hnd : ss.Nodup) {x : Int} (hx : x ∈ ss) : 0 ≤ rk ss x ∧ rk ss x < (ss.length : Int) := by
  obtain ⟨i, hi, e⟩ := List.getElem_of_mem hx
  have : x = ss.getD i 0 := by rw [List.getD_eq_getElem?_getD, List.getElem?_eq_getElem hi]; exact e.symm
  rw [this, rk_get hnd hi]
  omega
theorem nough_split : ∀ (ks : List Int), List.replicate (nough ks) 0 ++ ks.drop (nough ks) = ks
  | [] => rfl
  | k :: r => by
    by_cases h : k = 0
    · subst h
      rw [nough_zero, List.replicate_succ, List.drop_succ_cons, List.cons_append, nough_split r]
    · rw [nough_pos h]
      rfl
theorem drop_nough_head : ∀ (ks : List Int) (x : Int) (r : List Int), ks.drop (nough ks) = x :: r → x ≠ 0
  | [], _, _, e => by cases e
  | k :: t, x, r, e => by
    by_cases h : k = 0
    · subst h
      rw [nough_zero, List.drop_succ_cons] at e
      exact drop_nough_head t x r e
    · rw [nough_pos h, List.drop_zero] at e
      rw [← (List.cons.inj e).1]
      exact h
theorem digNum_pos {b : Int} (hb : 1 ≤ b) {x : Int} {r : List Int} (h : ∀ k ∈ x :: r, 0 ≤ k) (hx : x ≠ 0) : 0 < digNum (x :: r) b := by
  rw [digNum_cons]
  have h0 := h x (.head _)
  have h1 : 1 * b ^ r.length ≤ x * b ^ r.length := Int.mul_le_mul_of_nonneg_right (by omega) (Int.pow_nonneg (by omega))
  have h2 : 0 < b ^ r.length := Int.pow_pos (by omega)
  have h3 := digNum_nonneg (base := b) (by omega) (ks := r) fun k hk => h k (.tail _ hk)
  omega
theorem led_num {b : Int} (hb : 2 ≤ b) : ∀ (n : Nat) (ks : List Int), ks.length = n → (∀ k ∈ ks, 0 ≤ k ∧ k < b) → (∀ x r, ks = x :: r → x ≠ 0) → (ledI b (digNum ks b)).reverse = ks
  | 0, ks, hl, _, _ => by
    have : ks = [] := List.length_eq_zero_iff.mp hl
    subst this
    show (ledI b 0).reverse = []
    rw [ledI_zero (Int.le_refl _)]
    rfl
  | n + 1, ks, hl, hin, hhd => by
    have hne : ks ≠ [] := by
      intro e
      rw [e] at hl
      cases hl
    obtain ⟨is, k, rfl⟩ : ∃ is k, ks = is ++ [k] := ⟨ks.dropLast, ks.getLast hne, (List.dropLast_concat_getLast hne).symm⟩
    have hk := hin k (by simp)
    have his : ∀ x ∈ is, 0 ≤ x ∧ x < b := fun x hx => hin x (List.mem_append_left _ hx)
    have hv := digNum_nonneg (base := b) (by omega) (ks := is) fun x hx => (his x hx).1
    have hhi : ∀ x r, is = x :: r → x ≠ 0 := fun x r e => hhd x (r ++ [k]) (by rw [e]; rfl)
    have ih := led_num hb n is (by rw [List.length_append, List.length_singleton] at hl; omega) his hhi
    have hpos : 0 < digNum is b * b + k := by
      cases e : is with
      | nil =>
        have := hhd k [] (by rw [e]; rfl)
        show 0 < (0 : Int) * b + k
        omega
      | cons x r =>
        have h1 := digNum_pos (b := b) (by omega) (x := x) (r := r) (fun y hy => (his y (e ▸ hy)).1) (hhi x r e)
        have := Int.mul_pos h1 (show 0 < b by omega)
        omega
    have e1 : (digNum is b * b + k) % b = k := by
      rw [Int.add_comm, Int.add_mul_emod_self_right]
      exact Int.emod_eq_of_lt hk.1 hk.2
    have e2 : (digNum is b * b + k) / b = digNum is b := by
      rw [Int.add_comm, Int.add_mul_ediv_right _ _ (by omega), Int.ediv_eq_zero_of_lt hk.1 hk.2, Int.zero_add]
    rw [digNum_snoc, ledI_step hb hpos, e1, e2, List.reverse_cons, ih]
theorem led_back {ms : List Int} (h : ∀ d ∈ ms, 0 ≤ d ∧ d < 256) : List.replicate (nough ms) 0 ++ (ledI 256 (digNum ms 256)).reverse = ms := by
  rw [← digNum_drop 256 ms, led_num (by decide) _ _ rfl (fun k hk => h k (List.mem_of_mem_drop hk)) (drop_nough_head ms), nough_split]
theorem lead_rep (c : Int) (E : List Int) (hE : ∀ x r, E = x :: r → x ≠ c) : ∀ z, lead c (List.replicate z c ++ E) = z
  | 0 => by
    cases E with
    | nil => rfl
    | cons x r =>
      have := hE x r rfl
      simp [lead, this]
  | z + 1 => by
    rw [List.replicate_succ, List.cons_append]
    have h1 : lead c (c :: (List.replicate z c ++ E)) = lead c (List.replicate z c ++ E) + 1 := by simp [lead]
    rw [h1, lead_rep c E hE z]
theorem encI_head {ss : List Int} (hnd : ss.Nodup) (h2 : 2 ≤ ss.length) (n : Int) : ∀ x r, encI ss n = x :: r → x ≠ ss.getD 0 0 := by
  intro x r e hx
  have h1 := encI_rk hnd h2 n
  rw [e, List.map_cons, hx, rk_first hnd h2] at h1
  cases hd : dig ss.length n.toNat with
  | nil => rw [hd] at h1; cases h1
  | cons y t =>
    rw [hd, List.map_cons] at h1
    have := dig_head h2 _ y t hd
    have h3 := (List.cons.inj h1).1
    omega
def encT (ss ms : List Int) : List Int := List.replicate (nough ms) (ss.getD 0 0) ++ encI ss (digNum ms 256)
section
variable {ss ms : List Int} (hnd : ss.Nodup) (h2 : 2 ≤ ss.length)
include hnd h2
theorem first_mem : ss.getD 0 0 ∈ ss := by
  have h0 : 0 < ss.length := by omega
  rw [List.getD_eq_getElem?_getD, List.getElem?_eq_getElem h0]
  exact List.getElem_mem h0
theorem encT_mem : ∀ x ∈ encT ss ms, x ∈ ss := by
  intro x hx
  rcases List.mem_append.mp hx with h | h
  · rw [List.eq_of_mem_replicate h]
    exact first_mem hnd h2
  · exact encI_mem h2 x h
theorem encT_rk : (encT ss ms).map (rk ss) = List.replicate (nough ms) 0 ++ (encI ss (digNum ms 256)).map (rk ss) := by
  unfold encT
  rw [List.map_append, List.map_replicate, rk_first hnd h2]
theorem encT_take : ((encT ss ms).map (rk ss)).take (nough ms) = List.replicate (nough ms) 0 := by
  rw [encT_rk hnd h2, List.take_append_of_le_length (by rw [List.length_replicate]; exact Nat.le_refl _), List.take_of_length_le (by rw [List.length_replicate]; exact Nat.le_refl _)]
theorem encT_drop : ((encT ss ms).map (rk ss)).drop (nough ms) = (encI ss (digNum ms 256)).map (rk ss) := by
  rw [encT_rk hnd h2, List.drop_append_of_le_length (by rw [List.length_replicate]; exact Nat.le_refl _), List.drop_of_length_le (by rw [List.length_replicate]; exact Nat.le_refl _), List.nil_append]
theorem encI_rk_head (n : Int) : ∀ x r, (encI ss n).map (rk ss) = x :: r → x ≠ 0 := by
  intro x r e
  rw [encI_rk hnd h2] at e
  cases hd : dig ss.length n.toNat with
  | nil => rw [hd] at e; cases e
  | cons y t =>
    rw [hd, List.map_cons] at e
    have := dig_head h2 _ y t hd
    have h3 := (List.cons.inj e).1
    omega
theorem encT_lead : lead (ss.getD 0 0) (encT ss ms) = nough ms := lead_rep _ _ (encI_head hnd h2 _) _
theorem encT_rank (h : ∀ d ∈ ms, 0 ≤ d) : rankNum ss (encT ss ms) = digNum ms 256 := by
  show digNum ((encT ss ms).map (rk ss)) (ss.length : Int) = _
  rw [encT_rk hnd h2, digNum_zeros, encI_num hnd h2 (digNum_nonneg (by decide) h)]
theorem encI_rank {n : Int} (h : 0 ≤ n) : rankNum ss (encI ss n) = n := encI_num hnd h2 h
theorem encT_rest : (encT ss ms).drop (nough ms) = encI ss (digNum ms 256) := by
  unfold encT
  rw [List.drop_append_of_le_length (by rw [List.length_replicate]; exact Nat.le_refl _), List.drop_of_length_le (by rw [List.length_replicate]; exact Nat.le_refl _), List.nil_append]
end
end Mine
-- Q3b
namespace Mine
theorem mul89 : ∀ d : Nat, d < 89 → ∀ m : Nat, m < 89 → d ≠ 0 → m ≠ 0 → (d * m) % 89 ≠ 0 := by decide +kernel
theorem row_inj {a d i j : Int} (hd : 1 ≤ d ∧ d ≤ 88) (hi : 0 ≤ i) (hij : i < j) (hj : j ≤ 88) : 38 + (a + d * i) % 89 ≠ 38 + (a + d * j) % 89 := by
  intro e
  have e1 : (a + d * i) % 89 = (a + d * j) % 89 := by omega
  have e2 : ((a + d * j) - (a + d * i)) % 89 = 0 := by omega
  have e3 : (a + d * j) - (a + d * i) = d * (j - i) := by
    rw [Int.mul_sub]
    omega
  rw [e3] at e2
  obtain ⟨D, rfl⟩ := Int.eq_ofNat_of_zero_le (show 0 ≤ d by omega)
  obtain ⟨m, hm⟩ := Int.eq_ofNat_of_zero_le (show 0 ≤ j - i by omega)
  rw [hm] at e2
  refine mul89 D (by omega) m (by omega) (by omega) (by omega) ?_
  exact_mod_cast e2
theorem row_nodup {a d : Int} {n : Nat} (hd : 1 ≤ d ∧ d ≤ 88) (hn : n ≤ 89) : ((rangeKs 0 n).map fun k => 38 + (a + d * k) % 89).Nodup := by
  rw [List.nodup_iff_pairwise_ne]
  unfold rangeKs
  rw [List.map_map, List.pairwise_map]
  refine List.Pairwise.imp_of_mem ?_ List.pairwise_lt_range
  intro i j hi hj hlt
  have := List.mem_range.mp hj
  exact row_inj (i := 0 + (i : Int)) (j := 0 + (j : Int)) hd (by omega) (by omega) (by omega)
theorem sigs_good (kind a0 a1 a2 : Int) : 2 ≤ (sigs kind a0 a1 a2).length ∧ (sigs kind a0 a1 a2).length ≤ 90 ∧ (sigs kind a0 a1 a2).Nodup ∧ ∀ k ∈ sigs kind a0 a1 a2, R.spaceI k = false := by
  unfold sigs
  split
  · exact ⟨by decide, by decide, by decide +kernel, by decide +kernel⟩
  · split
    · exact ⟨by decide, by decide, by decide +kernel, by decide +kernel⟩
    · unfold sigN
      have h2 := emod_in (a := a2) (show (0 : Int) < 88 by decide)
      have h1 := emod_in (a := a1) (show (0 : Int) < 88 by decide)
      refine ⟨by rw [List.length_map, rangeKs_length]; omega, by rw [List.length_map, rangeKs_length]; omega, row_nodup (by omega) (by omega), ?_⟩
      intro k hk
      obtain ⟨x, _, rfl⟩ := List.mem_map.mp hk
      have h3 := emod_in (a := a0 % 89 + (1 + a1 % 88) * x) (show (0 : Int) < 89 by decide)
      unfold R.spaceI
      exact decide_eq_false (by omega)
end Mine
-- L0b
namespace Mine
local macro_rules | `(tactic| walk_at "none") => `(tactic| fail)
local macro_rules | `(tactic| walk_at "none") => `(tactic| fail)
local macro_rules | `(tactic| walk_at "none") => `(tactic| fail)
local macro_rules | `(tactic| walk_at "none") => `(tactic| fail)
local macro_rules | `(tactic| walk_at "none") => `(tactic| fail)
local macro_rules | `(tactic| walk_at "none") => `(tactic| fail)
local macro_rules | `(tactic| walk_at "none") => `(tactic| fail)
local macro_rules | `(tactic| walk_at "none") => `(tactic| fail)
theorem fresh_walk_L0b : True := by
 w_top off
 trivial
local macro_rules | `(tactic| walk1) => `(tactic| ((with_reducible show wpAny _ _ (exec (Stmt.While _ _ _ _) _) _ _ _); refine Stop.into ?_))
local macro_rules | `(tactic| walk1) => `(tactic| ((with_reducible show wpAny _ _ (exec (Stmt.For _ _ _ _ _) _) _ _ _); refine Stop.into ?_))
local macro_rules | `(tactic| walk1) => `(tactic| ((with_reducible show wpAny _ _ (pyIter _) _ _ _); refine Stop.into ?_))
local macro_rules | `(tactic| walk1) => `(tactic| ((with_reducible show wpAny _ _ (call (Value.ref _) _ _) _ _ _); refine Stop.into ?_))
local macro_rules | `(tactic| walk_at "getMethod bytes") => `(tactic| (with_reducible refine R.lstrip_method ?_))
local macro_rules | `(tactic| walk_at "getMethod bytes") => `(tactic| (with_reducible refine R.rstrip_method ?_))
local macro_rules | `(tactic| walk_at "getMethod str") => `(tactic| (with_reducible refine R.encode_method ?_))
local macro_rules | `(tactic| walk_at "call builtin:bytes.lstrip") => `(tactic| ((with_reducible show wpAny _ _ (call (Value.builtin "bytes.lstrip") [Value.bytes _ _, Value.bytes _ _]) _ _ _); (refine R.lstrip_call (by kba_ints2) (by kba_ints2) (by kba_size) ?_); intro _ _ _ hlst))
local macro_rules | `(tactic| walk_at "call builtin:bytes.rstrip") => `(tactic| ((with_reducible show wpAny _ _ (call (Value.builtin "bytes.rstrip") [Value.bytes _ _]) _ _ _); (refine R.rstrip_call (by kba_ints2) (by kba_size) ?_); intro _ _ _ hrst))
local macro_rules | `(tactic| walk_at "callWith ref") => `(tactic| (k_here; kfb_any; k_dflt (refine' R.fb_callWith ?hN ?hM ?ha ?_; (case hN => k_asm); (case hM => k_mem); (case ha => exact rfl); k_whole)))
local macro_rules | `(tactic| walk1) => `(tactic| ((with_reducible show wpAny _ _ (binaryOp Operator.Add (Value.bytes _ _) (Value.bytes _ _)) _ _ _); first | ((refine KBa.add_K (by kba_ints2) (by kba_ints2) (by ((try simp only [List.length_replicate, List.length_append, List.length_map, List.length_take, List.length_drop, List.length_cons, List.length_nil]); omega)) ?_); intro _ _ kbaApp) | (refine Stop.into ?_)))
local macro_rules | `(tactic| walk1) => `(tactic| ((with_reducible show wpAny _ _ (exec (Stmt.Assign _ (PySem.Expr.DictComp _ _ _ _ _) _) _) _ _ _); refine Stop.into ?_))
local macro_rules | `(tactic| walk1) => `(tactic| ((with_reducible show wpAny _ _ (call (Value.type "enumerate") _ _) _ _ _); refine Stop.into ?_))
local macro_rules | `(tactic| walk_at "eval Call") => `(tactic| ((with_reducible show wpAny _ _ (eval (PySem.Expr.Call (PySem.Expr.Name _ _) _ [] _) _) _ _ _); k_dflt (refine Call_ ?_)))
local macro_rules | `(tactic| walk1) => `(tactic| ((with_reducible show wpAny _ _ (exec (Stmt.Assign [PySem.Expr.Name ("many" : PySem.Str) _] (PySem.Expr.IfExp _ _ _ _) _) _) _ _ _); (fail_if_success (with_reducible rename Stop True => jm)); refine Stop.into ?_))
local macro_rules | `(tactic| walk1) => `(tactic| ((with_reducible show wpAny _ _ (exec (Stmt.If (PySem.Expr.Compare (PySem.Expr.Name ("base" : PySem.Str) _) _ _ _) _ _ _) _) _ _ _); (fail_if_success (with_reducible rename Stop True => jm)); refine Stop.into ?_))
local macro_rules | `(tactic| walk1) => `(tactic| ((with_reducible show wpAny _ _ (exec (Stmt.Assign [PySem.Expr.Name ("great" : PySem.Str) _] _ _) _) _ _ _); (fail_if_success (with_reducible rename Stop True => jm)); refine Stop.into ?_))
theorem top_apply {prog : Program} {w : World} {K : Frag} {f : Addr} {qual : PySem.Str} {cdv : Value} {body : List Stmt} {scope : Scope} {binds : List (PySem.Str × Value)} {D : Nat} {pre : Heap → Prop} {Ret : Value → List (Addr × Obj) → Prop}
    {p : Program} {loose : List PySem.Str} {mean : ExcName → Option Value} {mg mb : PySem.Str → Option Value} {dp un : Nat} {gd : Option (List Code)} {outer : List Env} {A₀ : Around} {base g : Heap} {L : Addr} {s : Shared} {Q : Flow → Shared → Prop} {E : Value → Shared → Prop} {cells : List (Addr × Obj)}
    (h : BdC prog w K f qual cdv body scope binds D pre Ret) (B : Below A₀ base outer g) (F : Fr g L s.heap (bindL (envOfC qual scope L f cdv).kindOf binds fun _ => none)) (X : K.In g) (N : News g L s.heap cells)
    (Y : CellsAre (bindC (envOfC qual scope L f cdv).kindOf binds fun _ => none) (cellsFrom (L + 1) scope.names []) cells) (T : Top p loose mean mg mb g) (hp : pre g) (hd : dp + D < recursionLimit + 1) (hu : un + 20 * D < cLine + 3)
    (hret : ∀ v nw m' h' tk', Ret v nw → Fr g L h' m' → News g L h' nw → Q (.ret v) { s with heap := h', toks := tk' }) :
    wpAny (model prog w) (ktrTop dp un gd qual scope L f cdv (cellsFrom (L + 1) scope.names []) outer) (execs body (envOfC qual scope L f cdv)) Q E s :=
  wpAny_mono (h p loose mean mg mb dp un gd outer A₀ base g L s Q cells B F X N Y T hp hd hu hret) (fun _ _ x => x) fun _ _ x => x.elim
theorem join_int {M : Model} {A : Around} {E : Value → Shared → Prop} {s : Shared} {env : Env} {h₀ : Heap} {L : Addr} {st : Stmt} {m : PySem.Str → Option Value} {news : List (Addr × Obj)} {Q : Flow → Shared → Prop} (x : PySem.Str) (P : Int → Prop) (ps : List (PySem.Str × Value)) (_F : Fr h₀ L s.heap m) (_N : News h₀ L s.heap news)
    (first : wpAny M A (exec st env) (fun f s' => Stop (f = Flow.next ∧ ∃ (h : Heap) (tk : Nat) (q : Int) (t : Tok) (m' : PySem.Str → Option Value), s' = { s with heap := h, toks := tk } ∧ P q ∧ Fr h₀ L h m' ∧ m' x = some (.int q t) ∧ (∀ p ∈ ps, m' p.1 = some p.2) ∧ News h₀ L h news)) E s)
    (rest : ∀ h tk q t m', P q → Fr h₀ L h (kstB m' ((x, .int q t) :: ps)) → News h₀ L h news → Q .next { s with heap := h, toks := tk }) : wpAny M A (exec st env) Q E s :=
  wpAny_mono first (fun f s' hm => by
    obtain ⟨rfl, h, tk, q, t, m', rfl, hp, F, hx, hps, N⟩ := hm
    refine rest h tk q t m' hp (fr_pin _ (fun r hr => ?_) F) N
    rcases List.mem_cons.mp hr with rfl | hr
    · exact hx
    · exact hps r hr) fun _ _ e => e
theorem lens_in : ∀ n : Nat, n < 8 → 0 ≤ ([33, 65, 78, 82, 100, 128, 130, 37] : List Int).getD n 0 ∧ ([33, 65, 78, 82, 100, 128, 130, 37] : List Int).getD n 0 ≤ 130 := by decide
theorem news_drop2 {h₀ h : Heap} {L : Addr} {a b : Addr × Obj} {r : List (Addr × Obj)} (N : News h₀ L h (a :: b :: r)) : News h₀ L h (a :: r) := news_sub N fun p hp => by
  rcases List.mem_cons.mp hp with rfl | hp
  · exact .head _
  · exact .tail _ (.tail _ hp)
theorem name_third {P : Prop} {h₀ h : Heap} {L : Addr} {a b : Addr × Obj} {c : Addr} {o : Obj} (_ : News h₀ L h [a, b, (c, o)]) (k : ∀ x, x = o → P) : P := k o rfl
theorem bytes_eq {a b : Array UInt8} (h : KBw.bInts a = KBw.bInts b) : a.toList = b.toList := by
  unfold KBw.bInts at h
  exact List.map_inj_right (fun x y e => UInt8.toNat_inj.mp (by exact_mod_cast e)) |>.mp h
theorem great_in (a : Int) (k : Nat) (hk : k ≤ 2000) : 0 ≤ a.fmod (2 ^ k) ∧ a.fmod (2 ^ k) < 2 ^ 2000 := by
  have h0 : (0 : Int) < 2 ^ k := Int.pow_pos (by decide)
  rw [fmod_pos _ (Int.le_of_lt h0)]
  have h2 := emod_in (a := a) h0
  have h1 : (2 : Int) ^ k ≤ 2 ^ 2000 := by exact_mod_cast Nat.pow_le_pow_right (n := 2) (by decide) hk
  exact ⟨h2.1, Int.lt_of_lt_of_le h2.2 h1⟩
theorem name_ints {P : Prop} {vs : List Value} {ns : List Int} (_ : IntsAre vs ns) (k : ∀ vs' ns', vs' = vs → ns' = ns → P) : P := k vs ns rfl rfl
theorem name_list {P : Prop} {h : Heap} {l : Addr} {vs : Array Value} (_ : h.IsList l vs) (k : ∀ l', l' = l → P) : P := k l rfl
theorem law_holds : PySem.Challenge.rw_eg5003_02.Holds := by
  refine Mine.hd ?_
  k_go0
  rename Below _ _ _ _ => B
  rename Fr _ _ _ _ => F
  rename Frag.In _ _ => X
  rename News _ _ _ _ => N
  rename CellsAre _ _ _ => Y
  rename Top _ _ _ _ _ _ => T
  rename Heap.IsList _ _ _ => hL
  rename IntsAre _ _ => hI
  rename ¬ _ < _ => hlen
  refine name_ints hI ?_
  intro vs ns e1 e2
  subst e1 e2
  refine name_list hL ?_
  intro l e1
  subst e1
  rename World => w
  have hn : ns.length < 64 := by omega
  refine top_apply (D := 40) (pre := fun h => h.IsList l vs.toArray) (Ret := fun v _ => v = .bool true) ?bd B F X N Y T hL (by decide) (by decide) ?ret
  case ret =>
    intro v nw m' h' tk' hv F' N'
    subst hv
    dsimp only
    k_steps
    done
  case bd =>
    clear B F X N Y T hL hlen
    rename Heap.CodeRec _ _ _ => z1
    clear z1
    rename Dflts _ _ _ _ _ _ => z1
    clear z1
    rename Ground _ _ _ _ _ _ _ _ _ => z1
    clear z1
    rename Glob _ _ _ _ _ _ _ _ => z1
    clear z1
    rename Obj.data _ = Data.cell _ => z1
    clear z1
    intro p loose mean mg mb dp un gd outer A₀ base g L s Q cells B F X N Y T hpre hd hu hret
    obtain ⟨oc, hE, d1⟩ := PyProof.Rows.CellsAre.one Y
    subst hE
    clear Y
    replace d1 : oc.data = .cell none := d1
    have F := fr_pin [("script", .ref l)] (by simp only [List.forall_mem_cons]; exact ⟨rfl, by simp⟩) F
    k_steps
    refine Stop.out ?_
    rename Fr _ _ _ _ => F1
    rename News _ _ _ _ => N1
    refine' (draw_ct w l vs ns 0 _ hI hn).use B F1 X N1 T rfl (hpre.at fun o e => F1.keep l o e) ?hd ?hu ?_
    case hd => omega
    case hu => omega
    rintro v nw h' tk' ⟨rfl, ta0, rfl⟩ kz frz F2 N2
    clear kz frz F1 N1
    try simp only [List.nil_append, List.append_nil] at N2
    k_steps
    refine Stop.out ?_
    rename Fr _ _ _ _ => F1
    rename News _ _ _ _ => N1
    refine' (draw_ct w l vs ns 1 _ hI hn).use B F1 X N1 T rfl (hpre.at fun o e => F1.keep l o e) ?hd ?hu ?_
    case hd => omega
    case hu => omega
    rintro v nw h' tk' ⟨rfl, ta1, rfl⟩ kz frz F2 N2
    clear kz frz F1 N1
    try simp only [List.nil_append, List.append_nil] at N2
    k_steps
    refine Stop.out ?_
    rename Fr _ _ _ _ => F1
    rename News _ _ _ _ => N1
    refine' (draw_ct w l vs ns 2 _ hI hn).use B F1 X N1 T rfl (hpre.at fun o e => F1.keep l o e) ?hd ?hu ?_
    case hd => omega
    case hu => omega
    rintro v nw h' tk' ⟨rfl, ta2, rfl⟩ kz frz F2 N2
    clear kz frz F1 N1
    try simp only [List.nil_append, List.append_nil] at N2
    k_steps
    refine Stop.out ?_
    rename Fr _ _ _ _ => F1
    rename News _ _ _ _ => N1
    refine' (draw_ct w l vs ns 3 _ hI hn).use B F1 X N1 T rfl (hpre.at fun o e => F1.keep l o e) ?hd ?hu ?_
    case hd => omega
    case hu => omega
    rintro v nw h' tk' ⟨rfl, ta3, rfl⟩ kz frz F2 N2
    clear kz frz F1 N1
    try simp only [List.nil_append, List.append_nil] at N2
    k_steps
    refine Stop.out ?_
    rename Fr _ _ _ _ => F1
    rename News _ _ _ _ => N1
    have hk3 : 0 ≤ (draw ns 0).fmod 3 ∧ (draw ns 0).fmod 3 < 3 := by
      rw [fmod_pos _ (by decide)]
      exact emod_in (by decide)
    refine' (signs_ct w ((draw ns 0).fmod 3) (draw ns 1) (draw ns 2) (draw ns 3) _ _ _ _ hk3).use B F1 X N1 T rfl trivial ?hd ?hu ?_
    case hd => omega
    case hu => omega
    rintro v nw h' tk' ⟨rfl, sg, tsg, rfl, hsg⟩ kz frz F2 N2
    clear kz frz F1 N1
    try simp only [List.nil_append, List.append_nil] at N2
    have hgood := sigs_good ((draw ns 0).fmod 3) (draw ns 1) (draw ns 2) (draw ns 3)
    generalize sigs ((draw ns 0).fmod 3) (draw ns 1) (draw ns 2) (draw ns 3) = ss at hsg hgood
    obtain ⟨hs2, hs3, hnd, hns⟩ := hgood
    k_steps
    refine Stop.out ?_
    rename Fr _ _ _ _ => F1
    rename News _ _ _ _ => N1
    refine R.Assign_DictComp_range (ks := ss) F1 N1 (by rfl) (by omega) (by rfl) (by with_unfolding_all rfl) (by with_unfolding_all rfl) (by decide) (by rfl) (by decide) (by rfl) (by decide) (by rfl) (by rfl) ?_
    k_steps
    refine Stop.out ?_
    rename IsRange _ _ _ _ _ _ _ _ => R2
    rename Fr _ _ _ _ => F2
    rename News _ _ _ _ => N2
    rename Obj.data _ = Data.cell (some (Value.bytes _ _)) => d2
    refine ⟨_, _, _, _, rfl, R2, F2, N2, ?key, ?fin⟩
    case key =>
      intro i t C oC m₂ h tk E' hi hC hx F N
      k_steps
    intro D h' tk o kvs hdo hf F4 N4 hLD off
    clear R2 F2 N2
    have lo : (D == sysModules) = false := lo_of T F4 hLD
    have hDL : @Ne Nat (L + 1) D := off _ (.head _)
    clear off
    k_steps
    refine Stop.out ?_
    rename Fr _ _ _ _ => F1
    rename News _ _ _ _ => N1
    obtain ⟨tbs, F1⟩ : ∃ tbs, Fr g L _ (kstB _ [("script", .ref l), ("base", .int (ss.length : Int) tbs), ("places", .ref D)]) := ⟨_, fr_pin [("script", .ref l), ("base", .int (ss.length : Int) _), ("places", .ref D)] (by simp only [List.forall_mem_cons]; exact ⟨rfl, rfl, rfl, by simp⟩) F1⟩
    refine join_int "many" (fun q => 0 ≤ q ∧ q ≤ 130) [("script", .ref l), ("base", .int (ss.length : Int) tbs), ("places", .ref D)] F1 N1 ?first ?rest
    case first =>
      have jm : Stop True := trivial
      k_steps
      refine Stop.out ?_
      rename Fr _ _ _ _ => F1
      rename News _ _ _ _ => N1
      refine' (draw_ct w l vs ns 5 _ hI hn).use B F1 X N1 T rfl (hpre.at fun o e => F1.keep l o e) ?hd ?hu ?_
      case hd => omega
      case hu => omega
      rintro v nw h' tk' ⟨rfl, ta5, rfl⟩ kz frz F2 N2
      clear kz frz F1 N1
      try simp only [List.nil_append, List.append_nil] at N2
      k_steps
      all_goals (
        refine Stop.out ?_
        rename Fr _ _ _ _ => F1
        rename News _ _ _ _ => N1
        refine' (draw_ct w l vs ns 4 _ hI hn).use B F1 X N1 T rfl (hpre.at fun o e => F1.keep l o e) ?hd ?hu ?_
        case hd => omega
        case hu => omega
        rintro v nw h' tk' ⟨rfl, ta4, rfl⟩ kz frz F2 N2
        clear kz frz F1 N1
        try simp only [List.nil_append, List.append_nil] at N2
        k_steps)
      all_goals (
        refine Stop.out ?_
        rename Fr _ _ _ _ => F9
        rename News _ _ _ _ => N9
        refine ⟨by trivial, _, _, _, _, _, rfl, ?_, F9, rfl, (by simp only [List.forall_mem_cons]; exact ⟨rfl, rfl, rfl, by simp⟩), N9⟩)
      · rename (0 : Int) ≤ (draw ns 4).fmod 8 => hx0
        rename (draw ns 4).fmod 8 < 8 => hx8
        exact lens_in _ (by omega)
      · rw [fmod_pos _ (by decide)]
        have := emod_in (a := draw ns 4) (show (0 : Int) < 131 by decide)
        omega
    intro h tk q0 tq0 m0 hq0 F2 N2
    clear F1 N1
    k_steps
    refine Stop.out ?_
    rename Fr _ _ _ _ => F1
    rename News _ _ _ _ => N1
    refine join_int "many" (fun q => 0 ≤ q ∧ q ≤ 130 ∧ (ss.length < 24 → q ≤ 32)) [("script", .ref l), ("base", .int (ss.length : Int) tbs), ("places", .ref D)] F1 N1 ?first2 ?rest2
    case first2 =>
      have jm : Stop True := trivial
      k_steps
      all_goals (
        refine Stop.out ?_
        rename Fr _ _ _ _ => F9
        rename News _ _ _ _ => N9
        refine ⟨by trivial, _, _, _, _, _, rfl, ?_, F9, rfl, (by simp only [List.forall_mem_cons]; exact ⟨rfl, rfl, rfl, by simp⟩), N9⟩)
      · rw [fmod_pos _ (by decide)]
        have := emod_in (a := q0) (show (0 : Int) < 33 by decide)
        omega
      · omega
    intro h tk q tq m0 hq F2 N2
    clear F1 N1 hq0
    k_steps
    refine Stop.out ?_
    rename Fr _ _ _ _ => F1
    rename News _ _ _ _ => N1
    refine' (draw_ct w l vs ns 6 _ hI hn).use B F1 X N1 T rfl (hpre.at fun o e => F1.keep l o e) ?hd ?hu ?_
    case hd => omega
    case hu => omega
    rintro v nw h' tk' ⟨rfl, ta6, rfl⟩ kz frz F2 N2
    clear kz frz F1 N1
    try simp only [List.nil_append, List.append_nil] at N2
    k_steps
    refine Stop.out ?_
    have hfr : 0 ≤ (if q < (draw ns 6).fmod 4 then q else (draw ns 6).fmod 4) ∧ (if q < (draw ns 6).fmod 4 then q else (draw ns 6).fmod 4) ≤ q ∧ (if q < (draw ns 6).fmod 4 then q else (draw ns 6).fmod 4) ≤ 3 := by
      have := emod_in (a := draw ns 6) (show (0 : Int) < 4 by decide)
      rw [fmod_pos _ (by decide)]
      split <;> omega
    generalize (if q < (draw ns 6).fmod 4 then q else (draw ns 6).fmod 4) = fr at *
    obtain ⟨cnt, hcnt⟩ : ∃ n : Nat, q - fr = (n : Int) := ⟨(q - fr).toNat, by omega⟩
    rename Fr _ _ _ _ => F1
    rename News _ _ _ _ => N1
    refine For_invVF F1 (by rfl) (by rfl) ?_
    k_steps
    refine Stop.out ?_
    rename Fr _ _ _ _ => F1
    rename News _ _ _ _ => N1
    rename IsRange _ _ _ _ _ _ _ _ => R1
    rw [hcnt] at R1
    refine name_addr N1 ?_
    intro Rw hRw
    subst hRw
    rename _ < Rw ∧ D < Rw ∧ L + 1 < Rw => l1
    rename IntsAre _ (List.flatten _) => hi1
    rw [flat_rep] at hi1
    have N2 := news_drop2 N1
    refine name_third N2 ?_
    intro oS hoS
    subst hoS
    clear N1
    refine iter_rangeN (n := cnt) (fun i m nw => ∃ us ms n, nw = [(Rw, listOf us.toArray n), (D, o), (L + 1, oS)] ∧ IntsAre us ms ∧ ms.length = fr.toNat + i ∧ (∀ d ∈ ms, 0 ≤ d ∧ d < 256) ∧ m "script" = some (.ref l) ∧ m "base" = some (.int (ss.length : Int) tbs) ∧ m "places" = some (.ref D) ∧ m "row" = some (.ref Rw)) (by rfl) R1 (rsmall _ (by omega)) (rs_one _) F1 N2 ⟨_, _, _, rfl, hi1, by rw [List.length_replicate, Nat.add_zero], fun d hd => by rw [List.eq_of_mem_replicate hd]; decide, rfl, rfl, rfl, rfl⟩ ?_ ?_
    · rintro i t m₁ nx h tk₁ own hin hoff hadr ⟨us, ms, nn, rfl, hus, hml, hmd, e1, e2, e3, e4⟩ F₁ N₁
      have F₂ := fr_turn [("script", .ref l), ("base", .int (ss.length : Int) tbs), ("places", .ref D), ("row", .ref Rw)] (by simp [e1, e2, e3, e4]) F₁
      clear F1 N2 F₁
      k_steps
      refine Stop.out ?_
      rename Fr _ _ _ _ => F5
      rename News _ _ _ _ => N5
      refine' (draw_ct w l vs ns (7 + (0 + (i : Int))) _ hI hn).use B F5 X N5 T rfl (hpre.at fun o e => F5.keep l o e) ?hd ?hu ?_
      case hd => omega
      case hu => omega
      rintro v nw h' tk' ⟨rfl, tax, rfl⟩ kz frz F6 N6
      clear kz frz F5 N5
      try simp only [List.nil_append] at N6
      k_steps
      rename Fr _ _ _ _ => F9
      rename News _ _ _ _ => N9
      rw [List.push_toArray] at N9
      refine InvEndN.intro (nx := (Rw, _) :: [(D, o), (L + 1, oS)]) F9 N9 ⟨us ++ [_], ms ++ [_], nn + 1, rfl, hus.append (.cons _ _ .nil), by rw [List.length_append, List.length_singleton]; omega, ?_, rfl, rfl, rfl, rfl⟩ rfl sub_a sub_b
      intro d hd
      rcases List.mem_append.mp hd with hd | hd
      · exact hmd d hd
      · rw [List.mem_singleton.mp hd, fmod_pos _ (by decide)]
        exact emod_in (by decide)
    rintro m₁ nx h tk₁ ⟨us, ms, nn, rfl, hus, hml, hmd, e1, e2, e3, e4⟩ F₁ N₁
    have F₂ := fr_pin [("script", .ref l), ("base", .int (ss.length : Int) tbs), ("places", .ref D), ("row", .ref Rw)] (by simp [e1, e2, e3, e4]) F₁
    clear F1 N2 F₁ R1
    have hms : ms.length ≤ 130 ∧ (ss.length < 24 → ms.length ≤ 32) := by omega
    have husz : us.toArray.size ≤ 130 := by
      rw [List.size_toArray, hus.length]
      omega
    clear hml hcnt hfr hi1
    k_steps
    rename KBa.In _ => hinn
    have hbm : KBw.bInts (byteArr ms) = ms := KBa.ints_make hinn
    have hnm : 0 ≤ digNum ms 256 := digNum_nonneg (by decide) fun k hk => (hmd k hk).1
    have hnz : digNum ms 256 < 2 ^ 1040 := by
      have h1 := digNum_lt (b := 256) (by decide) hmd
      have h2 : (256 : Int) ^ ms.length ≤ 256 ^ 130 := by exact_mod_cast Nat.pow_le_pow_right (n := 256) (by decide) hms.1
      have h3 : (256 : Int) ^ 130 = 2 ^ 1040 := by decide +kernel
      omega
    have hel : (encI ss (digNum ms 256)).length ≤ 1040 := encI_len hs2 hnm hnz
    have hnl := nough_le ms
    have hTb : ∀ x ∈ encT ss ms, kdfHas (R.invI ss ss.length) x = true := fun x hx => (inv_has (Nat.le_refl _)).mpr (by rw [List.take_length]; exact encT_mem hnd hs2 x hx)
    have hTl : (encT ss ms).length ≤ 1200 := by
      unfold encT
      rw [List.length_append, List.length_replicate]
      omega
    have hcl : (R.invI ss ss.length).length = ss.length := invI_length hnd (Nat.le_refl _)
    refine Stop.out ?_
    rename Fr _ _ _ _ => F1
    rename News _ _ _ _ => N1
    refine' (noughts_b_ct w (byteArr ms) _ ms hbm (by omega)).use B F1 X N1 T rfl trivial ?hd ?hu ?_
    case hd => omega
    case hu => omega
    rintro v nw h' tk' ⟨rfl, tf, rfl⟩ kz frz F2 N2
    clear kz frz F1 N1
    try simp only [List.nil_append, List.append_nil] at N2
    k_steps
    refine Stop.out ?_
    rename Fr _ _ _ _ => F1
    rename News _ _ _ _ => N1
    refine' (number_b_ct w (byteArr ms) _ ms 256 _ hbm hmd ⟨by decide, by decide⟩ (by omega)).use B F1 X N1 T rfl trivial ?hd ?hu ?_
    case hd => omega
    case hu => omega
    rintro v nw h' tk' ⟨rfl, tn, rfl⟩ kz frz F2 N2
    clear kz frz F1 N1
    try simp only [List.nil_append, List.append_nil] at N2
    k_steps
    refine Stop.out ?_
    rename Fr _ _ _ _ => F1
    rename News _ _ _ _ => N1
    refine' (enc_ct w (byteArr ms) sg ms ss _ _ hbm hsg hs2 (by omega) (by omega) (by omega)).use B F1 X N1 T rfl trivial ?hd ?hu ?_
    case hd => omega
    case hu => omega
    rintro v nw h' tk' ⟨rfl, tx, ttx, rfl, htx⟩ kz frz F2 N2
    clear kz frz F1 N1
    try simp only [List.nil_append, List.append_nil] at N2
    k_steps
    replace htx : KBw.bInts tx = encT ss ms := htx
    have hTr : ∀ x ∈ encT ss ms, 0 ≤ kdfLook (R.invI ss ss.length) x 0 ∧ kdfLook (R.invI ss ss.length) x 0 < 256 := fun x hx => by
      have := rk_in hnd (encT_mem hnd hs2 x hx)
      unfold rk at this
      omega
    have hTn : nough ms ≤ (encT ss ms).length := by
      unfold encT
      rw [List.length_append, List.length_replicate]
      omega
    have hT1 : ((encT ss ms).map fun k => kdfLook (R.invI ss ss.length) k 0).take (nough ms) = List.replicate (nough ms) 0 := encT_take hnd hs2
    have hTd : ((encT ss ms).map fun k => kdfLook (R.invI ss ss.length) k 0).drop (nough ms) = (encI ss (digNum ms 256)).map (rk ss) := encT_drop hnd hs2
    have hT2 : ∀ x r, ((encT ss ms).map fun k => kdfLook (R.invI ss ss.length) k 0).drop (nough ms) = x :: r → x ≠ 0 := fun x r e => encI_rk_head hnd hs2 _ x r (hTd ▸ e)
    have hT3 : digNum (((encT ss ms).map fun k => kdfLook (R.invI ss ss.length) k 0).drop (nough ms)) ((R.invI ss ss.length).length : Int) = digNum ms 256 := by
      rw [hcl, hTd, encI_num hnd hs2 hnm]
    refine Stop.out ?_
    rename Fr _ _ _ _ => F1
    rename News _ _ _ _ => N1
    refine' (sound_ct w tx ttx _ _ (encT ss ms) (nough ms) (digNum ms 256) D (R.invI ss ss.length) htx (by omega) (by omega) hTb hTr hTn hT1 hT2 hT3).use B F1 X N1 T rfl (TabAt.ofNews N1 (.tail _ (.head _)) lo hdo hf) ?hd ?hu ?_
    case hd => omega
    case hu => omega
    rintro v nw h' tk' ⟨rfl, rfl⟩ kz frz F2 N2
    clear kz frz F1 N1
    try simp only [List.nil_append, List.append_nil] at N2
    k_steps
    clear hTr hT1 hTd hT2 hT3
    have hlead : lead (ss.getD 0 0) (encT ss ms) = nough ms := encT_lead hnd hs2
    have hrest : (encT ss ms).drop (nough ms) = encI ss (digNum ms 256) := encT_rest hnd hs2
    have hrank : rankNum ss (encI ss (digNum ms 256)) = digNum ms 256 := encI_rank hnd hs2 hnm
    have hback : List.replicate (nough ms) 0 ++ (ledI 256 (digNum ms 256)).reverse = ms := led_back hmd
    have hled : (ledI 256 (digNum ms 256)).length ≤ 130 := by
      have := congrArg List.length hback
      rw [List.length_append, List.length_reverse, List.length_replicate] at this
      omega
    refine Stop.out ?_
    rename Fr _ _ _ _ => F1
    rename News _ _ _ _ => N1
    refine' (b58_b_ct w tx sg (encT ss ms) ss _ _ htx hsg hs2 (by omega) (by omega) hns (encT_mem hnd hs2) (by rw [hlead, hrest, hrank]; omega)).use B F1 X N1 T rfl trivial ?hd ?hu ?_
    case hd => omega
    case hu => omega
    rintro v nw h' tk' ⟨rfl, bk, tbk, rfl, hbk⟩ kz frz F2 N2
    clear kz frz F1 N1
    try simp only [List.nil_append, List.append_nil] at N2
    k_steps
    · refine absurd ?_ (show ¬ (bk.toList != (byteArr ms).toList) = true from ?_)
      · assumption
      · rw [hlead, hrest, hrank, hback, ← hbm] at hbk
        rw [bytes_eq hbk]
        simp
    clear hlead hback hled hbk
    refine Stop.out ?_
    rename Fr _ _ _ _ => F1
    rename News _ _ _ _ => N1
    refine' (enc_int_ct w (digNum ms 256) false sg ss _ _ hnm hsg hs2 (by omega) (by omega)).use B F1 X N1 T rfl trivial ?hd ?hu ?_
    case hd => omega
    case hu => omega
    rintro v nw h' tk' ⟨rfl, en, ten, rfl, hen⟩ kz frz F2 N2
    clear kz frz F1 N1
    try simp only [List.nil_append, List.append_nil] at N2
    k_steps
    rename KBw.bInts (KBy.picked _ _ _) = _ => hpk
    have hen2 : KBw.bInts en = encI ss (digNum ms 256) := by
      rw [hen]
      simp
    have hpk2 : KBw.bInts (KBy.picked tx (some (nough ms : Int)) none) = encI ss (digNum ms 256) := by
      rw [hpk, Nat.min_eq_left hTn, hrest, List.take_of_length_le (by rw [← hrest, List.length_drop]; exact Nat.le_refl _)]
    · rename (en.toList != _) = true => hne
      rw [bytes_eq (hen2.trans hpk2.symm)] at hne
      simp at hne
    clear hen
    rename (en.toList != _) = false => hne
    clear hne
    rename (bk.toList != _) = false => hne
    clear hne
    rename KBw.bInts (KBy.picked _ _ _) = _ => hpk
    have hpk2 : KBw.bInts (KBy.picked tx (some (nough ms : Int)) none) = encI ss (digNum ms 256) := by
      rw [hpk, Nat.min_eq_left hTn, hrest, List.take_of_length_le (by rw [← hrest, List.length_drop]; exact Nat.le_refl _)]
    clear hpk
    refine Stop.out ?_
    rename Fr _ _ _ _ => F1
    rename News _ _ _ _ => N1
    refine' (dec_b_ct w tx sg (encT ss ms) ss _ _ htx hsg hs2 (by omega) (by omega) hns (encT_mem hnd hs2)).use B F1 X N1 T rfl trivial ?hd ?hu ?_
    case hd => omega
    case hu => omega
    rintro v nw h' tk' ⟨rfl, td1, rfl⟩ kz frz F2 N2
    clear kz frz F1 N1
    try simp only [List.nil_append, List.append_nil] at N2
    k_steps
    refine Stop.out ?_
    rename Fr _ _ _ _ => F1
    rename News _ _ _ _ => N1
    refine' (whole_ct w (rankNum ss (encT ss ms)) (digNum ms 256) _ _ (encT_rank hnd hs2 fun d hd => (hmd d hd).1)).use B F1 X N1 T rfl trivial ?hd ?hu ?_
    case hd => omega
    case hu => omega
    rintro v nw h' tk' ⟨rfl, rfl⟩ kz frz F2 N2
    clear kz frz F1 N1
    try simp only [List.nil_append, List.append_nil] at N2
    k_steps
    clear hpk2
    rename KBw.bInts (KBy.picked _ _ _) = _ => hpk
    have hpk2 : KBw.bInts (KBy.picked tx (some (nough ms : Int)) none) = encI ss (digNum ms 256) := by
      rw [hpk, Nat.min_eq_left hTn, hrest, List.take_of_length_le (by rw [← hrest, List.length_drop]; exact Nat.le_refl _)]
    clear hpk
    refine Stop.out ?_
    rename Fr _ _ _ _ => F1
    rename News _ _ _ _ => N1
    refine' (dec_b_ct w (KBy.picked tx (some (nough ms : Int)) none) sg (encI ss (digNum ms 256)) ss _ _ hpk2 hsg hs2 (by omega) (by omega) hns (encI_mem hs2)).use B F1 X N1 T rfl trivial ?hd ?hu ?_
    case hd => omega
    case hu => omega
    rintro v nw h' tk' ⟨rfl, td2, rfl⟩ kz frz F2 N2
    clear kz frz F1 N1
    try simp only [List.nil_append, List.append_nil] at N2
    k_steps
    refine Stop.out ?_
    rename Fr _ _ _ _ => F1
    rename News _ _ _ _ => N1
    refine' (whole_ct w (rankNum ss (encI ss (digNum ms 256))) (digNum ms 256) _ _ hrank).use B F1 X N1 T rfl trivial ?hd ?hu ?_
    case hd => omega
    case hu => omega
    rintro v nw h' tk' ⟨rfl, rfl⟩ kz frz F2 N2
    clear kz frz F1 N1
    try simp only [List.nil_append, List.append_nil] at N2
    k_steps
    refine Stop.out ?_
    rename Fr _ _ _ _ => F1
    rename News _ _ _ _ => N1
    clear hpk2 hTn hrest hrank hTl hTb htx
    refine join_int "great" (fun q => 0 ≤ q) [("script", .ref l), ("base", .int (ss.length : Int) tbs), ("places", .ref D)] F1 N1 ?first3 ?rest3
    case first3 =>
      have jm : Stop True := trivial
      k_steps
      all_goals (
        refine Stop.out ?_
        rename Fr _ _ _ _ => F9
        rename News _ _ _ _ => N9
        refine ⟨by trivial, _, _, _, _, _, rfl, ?_, F9, rfl, (by simp only [List.forall_mem_cons]; exact ⟨rfl, rfl, rfl, by simp⟩), N9⟩)
      · split <;> omega
      · decide +kernel
    intro h tk q2 tq2 m0 hq2 F2 N2
    clear F1 N1
    k_steps
    refine Stop.out ?_
    rename Fr _ _ _ _ => F1
    rename News _ _ _ _ => N1
    refine join_int "great" (fun q => 0 ≤ q ∧ q < 2 ^ 2000) [("script", .ref l), ("base", .int (ss.length : Int) tbs), ("places", .ref D)] F1 N1 ?first4 ?rest4
    case first4 =>
      have jm : Stop True := trivial
      k_steps
      all_goals (
        refine Stop.out ?_
        rename Fr _ _ _ _ => F9
        rename News _ _ _ _ => N9
        refine ⟨by trivial, _, _, _, _, _, rfl, ?_, F9, rfl, (by simp only [List.forall_mem_cons]; exact ⟨rfl, rfl, rfl, by simp⟩), N9⟩
        exact great_in _ _ (by decide))
    intro h tk gr tgr m0 hgr F2 N2
    clear F1 N1 hq2
    have hel2 : (encI ss gr).length ≤ 2000 := encI_len hs2 hgr.1 hgr.2
    k_steps
    refine Stop.out ?_
    rename Fr _ _ _ _ => F1
    rename News _ _ _ _ => N1
    refine' (enc_int_ct w gr false sg ss _ _ hgr.1 hsg hs2 (by omega) (by omega)).use B F1 X N1 T rfl trivial ?hd ?hu ?_
    case hd => omega
    case hu => omega
    rintro v nw h' tk' ⟨rfl, to, tto, rfl, hto⟩ kz frz F2 N2
    clear kz frz F1 N1
    try simp only [List.nil_append, List.append_nil] at N2
    replace hto : KBw.bInts to = encI ss gr := by
      rw [hto]
      simp
    k_steps
    have hT1 : ∀ x ∈ encI ss gr, kdfHas (R.invI ss ss.length) x = true := fun x hx => (inv_has (Nat.le_refl _)).mpr (by rw [List.take_length]; exact encI_mem hs2 x hx)
    have hT2 : ∀ x ∈ encI ss gr, 0 ≤ kdfLook (R.invI ss ss.length) x 0 ∧ kdfLook (R.invI ss ss.length) x 0 < 256 := fun x hx => by
      have := rk_in hnd (encI_mem hs2 x hx)
      unfold rk at this
      omega
    have hT3 : ∀ x r, ((encI ss gr).map fun k => kdfLook (R.invI ss ss.length) k 0).drop 0 = x :: r → x ≠ 0 := fun x r e => encI_rk_head hnd hs2 _ x r e
    have hT4 : digNum (((encI ss gr).map fun k => kdfLook (R.invI ss ss.length) k 0).drop 0) ((R.invI ss ss.length).length : Int) = gr := by
      rw [hcl]
      exact encI_num hnd hs2 hgr.1
    refine Stop.out ?_
    rename Fr _ _ _ _ => F1
    rename News _ _ _ _ => N1
    refine' (sound_ct w to tto _ _ (encI ss gr) 0 gr D (R.invI ss ss.length) hto (by omega) (by omega) hT1 hT2 (Nat.zero_le _) rfl hT3 hT4).use B F1 X N1 T rfl (TabAt.ofNews N1 (.tail _ (.head _)) lo hdo hf) ?hd ?hu ?_
    case hd => omega
    case hu => omega
    rintro v nw h' tk' ⟨rfl, rfl⟩ kz frz F2 N2
    clear kz frz F1 N1
    try simp only [List.nil_append, List.append_nil] at N2
    k_steps
    clear hT1 hT2 hT3 hT4
    refine Stop.out ?_
    rename Fr _ _ _ _ => F1
    rename News _ _ _ _ => N1
    refine' (dec_b_ct w to sg (encI ss gr) ss _ _ hto hsg hs2 (by omega) (by omega) hns (encI_mem hs2)).use B F1 X N1 T rfl trivial ?hd ?hu ?_
    case hd => omega
    case hu => omega
    rintro v nw h' tk' ⟨rfl, td3, rfl⟩ kz frz F2 N2
    clear kz frz F1 N1
    try simp only [List.nil_append, List.append_nil] at N2
    k_steps
    refine Stop.out ?_
    rename Fr _ _ _ _ => F1
    rename News _ _ _ _ => N1
    refine' (whole_ct w (rankNum ss (encI ss gr)) gr _ _ (encI_rank hnd hs2 hgr.1)).use B F1 X N1 T rfl trivial ?hd ?hu ?_
    case hd => omega
    case hu => omega
    rintro v nw h' tk' ⟨rfl, rfl⟩ kz frz F2 N2
    clear kz frz F1 N1
    try simp only [List.nil_append, List.append_nil] at N2
    k_steps
    exact hret _ _ _ _ _ rfl F2 N2
end Mine
theorem PySem.Challenge.cw_eg5003_02_holds : PySem.Challenge.rw_eg5003_02.Holds := by
  exact Mine.law_holds
