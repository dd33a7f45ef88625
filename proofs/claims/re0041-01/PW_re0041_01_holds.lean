import PyProof.Rows.All
import Wide.All
import OpenK.AllK
import Wide.FinOn
import KE.KLcPair
import Lean
import PySem.Challenge.RW_re0041_01
open PySem PySem.W PyProof.Rows
set_option Elab.async false
section
set_option maxRecDepth 100000
set_option maxHeartbeats 8000000
namespace Mine
noncomputable def vw : Program := PySem.W.view PySem.Challenge.pw_re0041_01 [1, 2, 4, 5, 6, 8, 10, 11, 12, 13, 14, 15, 16, 17, 18, 19]
local macro_rules | `(tactic| o_law) => `(tactic| refine holds_law (by decide +kernel) fun said => ?_)
local macro_rules | `(tactic| o_head $H) => `(tactic| (refine holds_open (q := vw) (loose := []) (Xt := fun s => xlAt vw [] s && recOk (RowW.records PySem.Challenge.rw_re0041_01.row.toRowW) s) (XP := XL vw []) (Yf := Hook.obs $H) (Ya := Hook.val $H) (YP := Hook.says $H) (N := 1660) (fun _ => by kernel_rfl) (Hook.of $H) (Hook.keeps $H) (fun s e => xl_of s (Bool.and_eq_true_iff.mp e).1) XL.keeps (by rfl) (by rfl) (by rfl) (fun s e => recFacts_of (Bool.and_eq_true_iff.mp e).2) (by rfl) (by first | assumption | decide +kernel) (by decide +kernel) ⟨rfl, rfl, rfl, rfl, rfl, by decide +kernel⟩ ?hw ?hc))
open_top hd for PySem.Challenge.rw_re0041_01
end Mine
end
section
open PySem PySem.W PyProof.Rows
set_option maxRecDepth 100000
namespace Mine
noncomputable abbrev looseT : List Str := (looseW vw [] ++ List.map (fun x => x.name) (recsOf vw) ++
        List.map (fun x => x.fst) (litsOf vw) ++
      List.map (fun x => x.name) (clssOf vw (looseW vw [])))
abbrev PRG : Program := PySem.Challenge.rw_re0041_01.row.prog
def Hold (P : Prop) : Prop := P
theorem hold {P : Prop} (h : Hold P) : P := h
theorem unhold {P : Prop} (h : P) : Hold P := h
def Held (_ : String) : Prop := True
theorem held (k : String) : Held k := trivial
theorem holdAt {k : String} {P : Prop} (_ : Held k) (h : Hold P) : P := h
theorem rmm {dp a k n R : Nat} (h : dp + n < R) (hk : a + k ≤ n) : dp + a + k < R := Nat.lt_of_le_of_lt (Nat.add_assoc dp a k ▸ Nat.add_le_add_left hk dp) h
theorem rm0 {dp n R : Nat} (h : dp + n < R) : dp < R := Nat.lt_of_le_of_lt (Nat.le_add_right _ _) h
theorem sub_ex {a b : Nat} (h : a < b) : ∃ m, b - a = m + 1 := ⟨b - a - 1, (Nat.sub_add_cancel (Nat.sub_pos_of_lt h)).symm⟩
theorem sub_nx {a b m : Nat} (h : b - a = m + 1) : b - (a + 1) = m := congrArg Nat.pred h
theorem sub_at {a b m : Nat} (h : b - a = m + 1) : b - 1 - (m + 1 - 1) = a := by
  rw [(Nat.sub_eq_iff_eq_add (Nat.le_of_lt (Nat.lt_of_sub_pos (h ▸ Nat.succ_pos m)))).mp h, Nat.add_right_comm]
  exact Nat.add_sub_cancel_left m a
theorem sub_end {a b : Nat} (h1 : a ≤ b) (h2 : ¬ a < b) : a = b := Nat.le_antisymm h1 (Nat.le_of_not_lt h2)
theorem dec_lt {i n : Nat} (h : i < n) : n + 1 - (i + 1) < n + 1 - i := Nat.sub_lt_sub_left (Nat.lt_succ_of_lt h) (Nat.lt_succ_self i)
theorem lt4 : ∀ {c : Nat}, c < 4 → c = 0 ∨ c = 1 ∨ c = 2 ∨ c = 3 := by decide
theorem lt5 : ∀ {c : Nat}, c < 5 → c = 0 ∨ c = 1 ∨ c = 2 ∨ c = 3 ∨ c = 4 := by decide
theorem one4 : ∀ (n : Nat), n < 5 → 1 ≤ n → n = 1 ∨ n = 2 ∨ n = 3 ∨ n = 4 := by decide
theorem pos_of {x : Int} {n : Nat} (h : 0 ≤ x) (h2 : x < n) : 0 < n := Int.natCast_pos.mp (Int.lt_of_le_of_lt h h2)
theorem quiet {α : Type} {M : Model} {A : Around} {t : Sem α} {Q : α → Shared → Prop} {E : Value → Shared → Prop} {s : Shared} (h : ∀ Q9 : α → Shared → Prop, (∀ a s', Q a s' → Q9 a s') → wpAny M A t Q9 (fun _ _ => False) s) : wpAny M A t Q E s := wpAny_mono (h Q fun _ _ h => h) (fun _ _ h => h) fun _ _ h => h.elim
abbrev AB (dp un : Nat) : Around := { handled := none, depth := dp, frames := none, guards := none, units := un }
theorem forgetA {α : Type} {M : Model} {A : Around} {t : Sem α} {Q : α → Shared → Prop} {E : Value → Shared → Prop} {s : Shared} {dp un : Nat} (hh : A.handled = none) (hd : A.depth ≤ dp) (hu : A.units ≤ un)
    (h : wpAny M (AB dp un) t Q E s) : wpAny M A t Q E s := fun Γ p hΓ =>
  h Γ p ⟨hΓ.1.trans hh, Nat.le_trans hΓ.2.1 hd, fun _ e => (nomatch e), fun _ e => (nomatch e), Nat.le_trans hΓ.2.2.2.2 hu⟩
def LtAll (d : Addr) (l : List (Addr × Obj)) : Prop := ∀ p ∈ l, p.1 < d
theorem LtAll.ne {d : Addr} {l : List (Addr × Obj)} (h : LtAll d l) : ∀ p ∈ l, p.1 ≠ d := fun p hp => Nat.ne_of_lt (h p hp)
theorem LtAll.mono {d d' : Addr} {l : List (Addr × Obj)} (h : LtAll d l) (hd : d ≤ d') : LtAll d' l := fun p hp => Nat.lt_of_lt_of_le (h p hp) hd
theorem LtAll.neg {d d' : Addr} {l : List (Addr × Obj)} (h : LtAll d l) (hd : d ≤ d') : ∀ p ∈ l, p.1 ≠ d' := (h.mono hd).ne
section enter
variable {prog : Program} {w : World} {A : Around} {s : Shared} {h₀ : Heap} {L : Addr} {m : Str → Option Value} {news : List (Addr × Obj)} {K : Frag} {p : Program} {loose : List Str} {mean : ExcName → Option Value} {mg mb : Str → Option Value} {R : Result → Shared → Prop}
theorem back_out (F : Fr h₀ L s.heap m) (N : News h₀ L s.heap news) : h₀.StaysIn (hideAll s.heap (news.map (·.1))) ∧ ∀ v s', LeaveK h₀ L m (hideAll s.heap (news.map (·.1))) R v s' → R (.ok (.ret v)) s' := by
  have off : ∀ b o, h₀.get? b = some o → b ∉ news.map (·.1) := by
    intro b o e hb
    obtain ⟨q, hq, rfl⟩ := List.mem_map.mp hb
    have := (N q hq).2.2
    rw [e] at this
    cases this
  have st : h₀.StaysIn (hideAll s.heap (news.map (·.1))) := fun b o e => hideAll_get _ (F.keep b o e) (off b o e)
  refine ⟨st, ?_⟩
  rintro v s' ⟨L', m', news', F', N', k⟩
  obtain ⟨oL, es, ep, hL, hr⟩ := F.ns
  have nL : L ∉ news.map (·.1) := by
    intro hb
    obtain ⟨q, hq, e⟩ := List.mem_map.mp hb
    exact (N q hq).2.1 e
  have hLg := hideAll_get (news.map (·.1)) hL nL
  refine k ⟨⟨oL, es, ep, F'.keep L oL hLg, hr⟩, fun b o e => F'.keep b o (st b o e), F.above⟩ ?_
  intro q hq
  obtain ⟨q1, _, q3⟩ := N' q hq
  refine ⟨q1, ?_, ?_⟩
  · intro e
    rw [e, hLg] at q3
    cases q3
  · cases hc : h₀.get? q.1 with
    | none => rfl
    | some o =>
      rw [st _ _ hc] at q3
      cases q3
theorem enterP {name qual : Str} {params : Arguments} {body : List Stmt} {scope : Scope} {dV kV doc pm cdv ct oc : Value} {an od : Option Addr} {osl : Array (Option Value)} {f : Addr} {args : Args} {binds : List (Str × Value)}
    (F : Fr h₀ L s.heap m) (X₀ : K.In h₀) (N : News h₀ L s.heap news) (T : Top p loose mean mg mb h₀)
    (ho : K.lookup f = some ⟨oc, od, .func (fnOf name qual params body scope dV kV doc pm an cdv ct), osl⟩) (hcd : codeIn K cdv qual = true) (hroom : A.depth < recursionLimit)
    (hbind : BindsTo s (fnOf name qual params body scope dV kV doc pm an cdv ct) args binds) (hloc : ∀ y ∈ binds, scope.names.lookup y.1 = some .local)
    (h : ∀ g L' h₁, Fr g L' h₁ (fun y => binds.reverse.lookup y) → News g L' h₁ news → K.In g → Top p loose mean mg mb g → LtAll L' news →
      wpAny (model prog w) (A.deeper (envOf qual scope L' f cdv)) (execs body (envOf qual scope L' f cdv))
        (fun fl s' => LeaveK h₀ L m g R (match fl with | .ret v => v | _ => .none) s')
        (fun e s' => wpAny (model prog w) (A.deeper (envOf qual scope L' f cdv)) (leaving (envOf qual scope L' f cdv) e) (fun _ s'' => R (.error e) s'') (fun e' s'' => R (.error e') s'') s')
        { s with heap := h₁, toks := s.toks + binds.length })
    (hco : scope.isCoroutine = false) (hgen : scope.isGenerator = false) (hk : scope.kind = .function)
    (hcell : ∀ x ∈ scope.names, x.2 ≠ .cell) : codeAny (model prog w) A (.call (.ref f) args) R s := by
  obtain ⟨st, lv⟩ := back_out (R := R) F N
  have X := X₀.keeps F.keep
  refine codeAny_call_def (fd := fnOf name qual params body scope dV kV doc pm an cdv ct) (body := body) (binds := binds) hroom (X _ _ ho) rfl (T.nolimit.keeps F.keep) (codeRec_of X hcd) rfl hbind hcell hloc (fun h₁ hns hk₁ => ?_) hco hgen hk
  refine wpAny_mono (h _ s.heap.objs.size h₁ ⟨hns, fun b o e => hk₁ b o (of_hideAll _ e), Nat.le_of_eq (hideAll_size _ _)⟩ ?_ (X₀.keeps st) (T.keeps st) (fun q hq => Heap.lt_size (N q hq).1)) (fun fl s' hl => lv _ _ hl) fun _ _ y => y
  exact fun q hq => ⟨hk₁ _ _ (N q hq).1, Nat.ne_of_lt (Heap.lt_size (N q hq).1), hideAll_none _ (List.mem_map_of_mem hq)⟩
theorem enterC {name qual : Str} {params : Arguments} {body : List Stmt} {scope : Scope} {dV kV doc pm cdv ct oc : Value} {an od : Option Addr} {osl : Array (Option Value)} {f : Addr} {args : Args} {binds : List (Str × Value)}
    (F : Fr h₀ L s.heap m) (X₀ : K.In h₀) (N : News h₀ L s.heap news) (T : Top p loose mean mg mb h₀)
    (ho : K.lookup f = some ⟨oc, od, .func (fnOf name qual params body scope dV kV doc pm an cdv ct), osl⟩) (hcd : codeIn K cdv qual = true) (hroom : A.depth < recursionLimit)
    (hbind : BindsTo s (fnOf name qual params body scope dV kV doc pm an cdv ct) args binds) (hkind : (binds.all fun y => scope.names.lookup y.1 == some .local || scope.names.lookup y.1 == some .cell) = true)
    (hnd : ((cellsFrom 0 scope.names []).map (·.1)).Nodup)
    (h : ∀ g L' h₁ tk cells, Fr g L' h₁ (bindL (envOfC qual scope L' f cdv).kindOf binds fun _ => none) → News g L' h₁ (cells ++ news) →
      CellsAre (bindC (envOfC qual scope L' f cdv).kindOf binds fun _ => none) (cellsFrom (L' + 1) scope.names []) cells → K.In g → Top p loose mean mg mb g → LtAll L' news →
      wpAny (model prog w) (A.deeper (envOfC qual scope L' f cdv)) (execs body (envOfC qual scope L' f cdv))
        (fun fl s' => LeaveK h₀ L m g R (match fl with | .ret v => v | _ => .none) s')
        (fun e s' => wpAny (model prog w) (A.deeper (envOfC qual scope L' f cdv)) (leaving (envOfC qual scope L' f cdv) e) (fun _ s'' => R (.error e) s'') (fun e' s'' => R (.error e') s'') s')
        { s with heap := h₁, toks := tk })
    (hco : scope.isCoroutine = false) (hgen : scope.isGenerator = false) (hk : scope.kind = .function) : codeAny (model prog w) A (.call (.ref f) args) R s := by
  obtain ⟨st, lv⟩ := back_out (R := R) F N
  have X := X₀.keeps F.keep
  refine codeAny_call_function hroom (X _ _ ho) rfl hco hgen rfl (codeRec_of X hcd) (hbind _ _ _ _ ?_)
  refine wpAny_newFunctionEnv_cells hk (kindsX hkind _) fun env' he s' x => ?_
  subst he
  refine ⟨(T.nolimit.keeps F.keep).keeps x.toInCall.keep, codeAny_func ?_⟩
  obtain ⟨h₁, tk, rfl, _⟩ := x.done
  have hk₁ := x.toInCall.keep
  obtain ⟨cells, NC, Y⟩ := Cl.news (h₀ := s.heap) (Nat.le_refl _) fun n c hm => ⟨x.cell n c (lookup_of_mem_nodup (cellsFrom_names scope.names 0 (s.heap.objs.size + 1) [] [] rfl ▸ hnd) hm), x.above n c hm⟩
  refine wpAny_mono (h _ s.heap.objs.size h₁ tk cells ⟨x.toInCall.ns, fun b o e => hk₁ b o (of_hideAll _ e), Nat.le_of_eq (hideAll_size _ _)⟩ (fun q hq => ?_) Y (X₀.keeps st) (T.keeps st) (fun q hq => Heap.lt_size (N q hq).1)) (fun fl s' hl => lv _ _ hl) fun _ _ y => y
  rcases List.mem_append.mp hq with hq | hq
  · refine ⟨(NC q hq).1, (NC q hq).2.1, ?_⟩
    cases hc : (hideAll s.heap (news.map (·.1))).get? q.1 with
    | none => rfl
    | some o =>
      have := of_hideAll _ hc
      rw [(NC q hq).2.2] at this
      cases this
  · exact ⟨hk₁ _ _ (N q hq).1, Nat.ne_of_lt (Heap.lt_size (N q hq).1), hideAll_none _ (List.mem_map_of_mem hq)⟩
end enter
abbrev MClaim (w : World) (mean : ExcName → Option Value) (mg mb : Str → Option Value) (f : Addr) (news : List (Addr × Obj)) (vs : List Value) (k : Nat) (Ret : (Shared → (Value → Shared → Prop) → Heap → Addr → (Str → Option Value) → Prop)) : Prop :=
  ∀ (dp un : Nat) (h₀ : Heap) (L : Addr) (m : Str → Option Value) (s : Shared) (Q E : Value → Shared → Prop),
    Fr h₀ L s.heap m → (hd.heap_1 w.params).In h₀ → News h₀ L s.heap news → Top topProg looseT mean mg mb h₀ →
    dp + k < recursionLimit → un + 10 * k < cLine → Ret s Q h₀ L m →
      wpAny (model PRG w) (AB dp un) (call (.ref f) vs) Q E s
theorem news_t {h₀ h : Heap} {L : Addr} {p : Addr × Obj} {l : List (Addr × Obj)} (N : News h₀ L h (p :: l)) : News h₀ L h l := fun q hq => N q (.tail _ hq)
theorem news_l {h₀ h : Heap} {L : Addr} {l l' : List (Addr × Obj)} (N : News h₀ L h (l ++ l')) : News h₀ L h l := fun q hq => N q (List.mem_append_left _ hq)
theorem news_r {h₀ h : Heap} {L : Addr} {l l' : List (Addr × Obj)} (N : News h₀ L h (l ++ l')) : News h₀ L h l' := fun q hq => N q (List.mem_append_right _ hq)
end Mine
end
open Mine
section
open PySem PySem.W PyProof.Rows Mine
set_option Elab.async false
set_option maxRecDepth 100000
namespace Mine
abbrev lsO (vs : List Value) (n : Nat) : Obj := PySem.W.listOf vs.toArray n
theorem quietC {M : Model} {A : Around} {c : Code} {R : Result → Shared → Prop} {s : Shared} (h : ∀ R9 : Result → Shared → Prop, (∀ r s', R r s' → R9 r s') → codeAny M A c R9 s) : codeAny M A c R s := h R fun _ _ h => h
theorem compLoopQ {prog : Program} {w : World} {A : Around} {R : Result → Shared → Prop} {s : Shared} {elt target iter : Expr} {ifs : List Expr} {scope : Scope} {pos : Pos} {it acc : Value} {env : Env} (I : Nat → Shared → Prop)
    (turn : ∀ n s, I n s → ∀ (Qb : Shared → Prop) (E9 : Value → Shared → Prop), (∀ s', (∃ m, m < n ∧ I m s') → Qb s') → wpAny (model prog w) A (pyNext it) (fun r s₁ => match r with
      | none => R (.ok .next) s₁
      | some v => wpAny (model prog w) A (assign target env v) (fun _ s₂ =>
          wpAny (model prog w) A (forIn ifs true fun c r => if r = true then do let ok ← isTrue c env (eval c env); pure (ForInStep.yield ok) else pure (ForInStep.yield r)) (fun ok s₃ =>
            if ok = true then wpAny (model prog w) A (eval elt env) (fun x s₄ => wpAny (model prog w) A (call (.builtin "list.append") [acc, x]) (fun _ s₅ => Qb s₅) E9 s₄) E9 s₃
            else Qb s₃) E9 s₂) E9 s₁) E9 s)
    (n : Nat) (h : I n s) (ht : ∀ v, letOwnedTupleGo target it v = pure () := by intro _; rfl) :
    codeAny (model prog w) A (.compLoop (.ListComp elt [⟨target, iter, ifs, 0⟩] scope pos) 0 it acc env) R s :=
  codeAny_compLoop_tests I (fun n s hI => turn n s hI _ _ fun _ h => h) n h ht
section comp
variable {prog : Program} {w : World} {A : Around} {E : Value → Shared → Prop} {s : Shared} {env : Env} {h₀ : Heap} {L : Addr} {m : Str → Option Value}
def CompEnd (g : Heap) (C D : Addr) (rest : List (Addr × Obj)) (adr : List Addr) (J : List Value → List (Addr × Obj) → Array GenState → Prop) (d : Drawn) (os : OsState) (old : List Value) (nD : Nat) (ys : List Value) (s' : Shared) : Prop :=
  ∃ h' gs' tk' m' news₂, s' = ⟨h', gs', d, tk', os⟩ ∧ Fr g C h' m' ∧ News g C h' ((D, lsO old nD) :: (news₂ ++ rest)) ∧ news₂.map (·.1) = adr ∧ J ys news₂ gs'
def CompAt (prog : Program) (w : World) (A : Around) (h₀ : Heap) (L : Addr) (m : Str → Option Value) (env : Env) (scope : Scope) (cl : List (Str × Addr)) (x : Str) (ifs : List Expr) (elt : Expr) (Q : Value → Shared → Prop) (it : Value) (s₂ : Shared) : Prop :=
  ∃ (I : Addr) (fp wr : List Addr) (n : Nat) (P : Nat → Value → Prop) (St : Nat → Heap → Prop) (news fix : List (Addr × Obj)) (J : Nat → List Value → List (Addr × Obj) → Array GenState → Prop),
    it = .ref I ∧ Walks prog w A I fp wr n P St ∧ n ≤ 10000 ∧ St 0 s₂.heap ∧ (∀ b ∈ fp, b < s₂.heap.objs.size) ∧ (∀ b ∈ wr, h₀.get? b = none) ∧ L ∉ wr ∧ (∀ q ∈ news, q.1 ∉ fp) ∧ (∀ q ∈ fix, q.1 ∉ wr) ∧ Fr h₀ L s₂.heap m ∧ News h₀ L s₂.heap (news ++ fix) ∧
    J 0 [] news s₂.gens ∧ (∀ i ys nx gs, J i ys nx gs → ys.length ≤ i) ∧
    (∀ (g : Heap) (C D : Addr) (i : Nat) (v : Value) (ys : List Value) (nD : Nat) (news₁ : List (Addr × Obj)) (gs : Array GenState) (h : Heap) (tk : Nat) (m₁ : Str → Option Value) (own : List (Addr × Obj)) (E' : Value → Shared → Prop), i < n → P i v → J i ys news₁ gs → news₁.map (·.1) = news.map (·.1) → (∀ q ∈ own, q.1 ∈ fp) → (∀ q ∈ news ++ fix, q.1 < D) → (∀ q ∈ own, q.1 < D) → D < C → h₀.StaysIn g → Fr h₀ L g m →
      Fr g C h (fun y => if y = x then some v else m₁ y) → News g C h ((D, lsO ys nD) :: (news₁ ++ (fix ++ own))) →
      wpAny (model prog w) A (forIn ifs true fun c r => if r = true then do let ok ← isTrue c (compEnvC scope cl C env) (eval c (compEnvC scope cl C env)); pure (ForInStep.yield ok) else pure (ForInStep.yield r))
        (fun ok s₃ => if ok = true then wpAny (model prog w) A (eval elt (compEnvC scope cl C env)) (fun y s₄ => CompEnd g C D (fix ++ own) (news.map (·.1)) (J (i + 1)) s₂.drawn s₂.os ys nD (ys ++ [y]) s₄) E' s₃
          else CompEnd g C D (fix ++ own) (news.map (·.1)) (J (i + 1)) s₂.drawn s₂.os ys nD ys s₃) E' ⟨h, gs, s₂.drawn, tk, s₂.os⟩) ∧
    (∀ (D : Addr) (ys : List Value) (nD : Nat) (news₁ : List (Addr × Obj)) (gs : Array GenState) (h' : Heap) (tk : Nat), J n ys news₁ gs → news₁.map (·.1) = news.map (·.1) → (∀ q ∈ news ++ fix, q.1 < D) → Fr h₀ L h' m → News h₀ L h' ((D, lsO ys nD) :: (news₁ ++ fix)) → Q (.ref D) ⟨h', gs, s₂.drawn, tk, s₂.os⟩)
theorem mem3 {α : Type} {a : α} {l₁ l₂ l₃ : List α} {d : α} (h : a ∈ d :: (l₁ ++ l₂)) : a ∈ d :: (l₁ ++ (l₂ ++ l₃)) := by
  rcases List.mem_cons.mp h with rfl | h
  · exact .head _
  · exact .tail _ (by rw [← List.append_assoc]; exact List.mem_append_left _ h)
theorem compG {elt iter : Expr} {x : Str} {px : Pos} {ifs : List Expr} {scope : Scope} {cl : List (Str × Addr)} {pos : Pos} {Q : Value → Shared → Prop}
    (hclos : closureFor scope env = pure cl) (hcell : ∀ y ∈ scope.names, y.2 ≠ .cell) (hkind : scope.kind = .function)
    (hnames : ∀ y ∈ scope.names, y.2 = .local → scope.names.lookup y.1 = some .local) (hx : scope.names.lookup x = some .local)
    (h : wpAny (model prog w) A (eval iter env) (fun xv s₁ => wpAny (model prog w) A (pyIter xv) (fun it s₂ => CompAt prog w A h₀ L m env scope cl x ifs elt Q it s₂) E s₁) E s)
    (hs : ∀ x, foldedSetIterable iter env x = pure x := by intro _; rfl) :
    wpAny (model prog w) A (eval (.ListComp elt [⟨.Name x px, iter, ifs, 0⟩] scope pos) env) Q E s := by
  rw [eval_ListComp]
  refine wpAny_comprehension_free (use := none) rfl hs hclos hkind hnames (wpAny_mono h (fun xv s₁ h₁ => wpAny_mono h₁ (fun it s₂ h₂ => ?_) fun _ _ e => e) fun _ _ e => e)
  obtain ⟨I, fp, wr, n, P, St, news, fix, J, rfl, Wk, hsz, hst, hfp, hwr, hLw, hnf, hfw, F, N, hj, hjl, turn, done⟩ := h₂
  clear h₁
  refine wpAny_newObj_type (wpAny_newFunctionEnv hcell (by intro y hy; simp at hy) (fun h₁ hns₁ hsb₁ => ?_) hkind)
  dsimp only at hns₁ hsb₁ ⊢
  generalize hH2 : s₂.heap.push { cls := .type "list", dict := none, data := .seq ([] : List Value).toArray } = H2 at hns₁ hsb₁ ⊢
  have hC : H2.objs.size = s₂.heap.objs.size + 1 := by rw [← hH2, Heap.size_push]
  obtain ⟨D, hDd⟩ : ∃ D : Nat, s₂.heap.objs.size = D := ⟨_, rfl⟩
  obtain ⟨C, hCd⟩ : ∃ C : Nat, H2.objs.size = C := ⟨_, rfl⟩
  rw [hDd, hCd] at hC
  rw [hCd] at hns₁ hsb₁
  rw [hDd, hCd]
  have lt_new : ∀ q ∈ news ++ fix, q.1 < D := fun q hq => hDd ▸ Heap.lt_size (N q hq).1
  have old : ∀ b o, s₂.heap.get? b = some o → h₁.get? b = some o := by
    intro b o e
    have hb := ltN (hDd ▸ Heap.lt_size e : b < D)
    refine hsb₁.extBut b o (neN (by (first | (with_reducible first | assumption | exact Nat.le_trans (by assumption) (by decide) | exact Nat.lt_of_le_of_lt (by assumption) (by decide) | (refine Nat.ne_of_lt ?_; (repeat (first | assumption | refine Nat.lt_trans (by assumption) ?_)); done) | (refine Nat.ne_of_gt ?_; (repeat (first | assumption | refine Nat.lt_trans (by assumption) ?_)); done) | ((repeat (first | assumption | refine Nat.lt_trans (by assumption) ?_)); done)) | omega))) (Heap.get?_push_of_some _ ?_)
    rw [← hH2]
    exact Heap.get?_push_of_some _ e
  have hDo : h₁.get? D = some (lsO [] 0) := by
    refine hsb₁.extBut D _ (neN (by (first | (with_reducible first | assumption | exact Nat.le_trans (by assumption) (by decide) | exact Nat.lt_of_le_of_lt (by assumption) (by decide) | (refine Nat.ne_of_lt ?_; (repeat (first | assumption | refine Nat.lt_trans (by assumption) ?_)); done) | (refine Nat.ne_of_gt ?_; (repeat (first | assumption | refine Nat.lt_trans (by assumption) ?_)); done) | ((repeat (first | assumption | refine Nat.lt_trans (by assumption) ?_)); done)) | omega))) (Heap.get?_push_of_some _ ?_)
    rw [← hH2, ← hDd]
    exact Heap.get?_push_size _ rfl
  obtain ⟨g, hg⟩ : ∃ g, g = hideAll s₂.heap ((news ++ fix).map (·.1) ++ wr) := ⟨_, rfl⟩
  have hgs : ∀ b o, g.get? b = some o → s₂.heap.get? b = some o := fun b o e => of_hideAll _ (hg ▸ e)
  have hgsz : g.objs.size = D := by rw [hg, hideAll_size, hDd]
  have g_in : ∀ b o, s₂.heap.get? b = some o → b ∉ (news ++ fix).map (·.1) → b ∉ wr → g.get? b = some o := fun b o e h1 h2 => by
    rw [hg]
    exact hideAll_get _ e fun q => (List.mem_append.mp q).elim h1 h2
  have g_no : ∀ b, b ∈ (news ++ fix).map (·.1) ∨ b ∈ wr → g.get? b = none := fun b hb => by
    rw [hg]
    exact hideAll_none _ (List.mem_append.mpr hb)
  have g_new : ∀ b, D ≤ b → g.get? b = none := fun b hb => by
    cases q : g.get? b with
    | none => rfl
    | some o => exact absurd (Nat.lt_of_lt_of_le (hgsz ▸ Heap.lt_size q) hb) (Nat.lt_irrefl _)
  have stay : h₀.StaysIn g := fun b o e => by
    refine g_in b o (F.keep b o e) (fun hb => ?_) fun hb => ?_
    · obtain ⟨q, hq, rfl⟩ := List.mem_map.mp hb
      have := (N q hq).2.2
      rw [e] at this
      cases this
    · rw [hwr b hb] at e
      cases e
  obtain ⟨oL, esL, epL, hL, hLr⟩ := id F.ns
  have hLg : g.get? L = some oL := by
    refine g_in L oL hL (fun hb => ?_) hLw
    obtain ⟨q, hq, e⟩ := List.mem_map.mp hb
    exact (N q hq).2.1 e
  have FG : Fr h₀ L g m := ⟨⟨oL, esL, epL, hLg, hLr⟩, stay, F.above⟩
  have hfpD : ∀ b ∈ fp, @LT.lt Nat _ b D := fun b hb => ltN (hDd ▸ hfp b hb)
  have hCf : C ∉ fp := fun hb => by have := hfpD C hb; (first | (with_reducible first | assumption | exact Nat.le_trans (by assumption) (by decide) | exact Nat.lt_of_le_of_lt (by assumption) (by decide) | (refine Nat.ne_of_lt ?_; (repeat (first | assumption | refine Nat.lt_trans (by assumption) ?_)); done) | (refine Nat.ne_of_gt ?_; (repeat (first | assumption | refine Nat.lt_trans (by assumption) ?_)); done) | ((repeat (first | assumption | refine Nat.lt_trans (by assumption) ?_)); done)) | omega)
  have hDf : D ∉ fp := fun hb => by have := hfpD D hb; (first | (with_reducible first | assumption | exact Nat.le_trans (by assumption) (by decide) | exact Nat.lt_of_le_of_lt (by assumption) (by decide) | (refine Nat.ne_of_lt ?_; (repeat (first | assumption | refine Nat.lt_trans (by assumption) ?_)); done) | (refine Nat.ne_of_gt ?_; (repeat (first | assumption | refine Nat.lt_trans (by assumption) ?_)); done) | ((repeat (first | assumption | refine Nat.lt_trans (by assumption) ?_)); done)) | omega)
  have hCw : C ∉ wr := fun hb => hCf (Wk.sub _ hb)
  have hDw : D ∉ wr := fun hb => hDf (Wk.sub _ hb)
  have loop : ∀ s₃ : Shared, s₃ = { s₂ with heap := h₁, toks := s₂.toks + ([] : List (Str × Value)).length } →
      codeAny (model prog w) A (.compLoop (.ListComp elt [⟨.Name x px, iter, ifs, 0⟩] scope pos) 0 (.ref I) (.ref D) (compEnvC scope cl C env))
        (compPost (model prog w) A E none Q (.ref D) C) s₃ := by
    rintro s₃ rfl
    refine quietC ?_
    intro R9 hR9
    refine compLoopQ
      (fun k s' => ∃ i ys nD news₁ gs h tk m₁, s' = ⟨h, gs, s₂.drawn, tk, s₂.os⟩ ∧ i ≤ n ∧ k = n + 1 - i ∧ St i h ∧ Fr g C h m₁ ∧ News g C h ((D, lsO ys nD) :: (news₁ ++ fix)) ∧ news₁.map (·.1) = news.map (·.1) ∧ J i ys news₁ gs) ?_ (n + 1)
      ⟨0, [], 0, news, s₂.gens, h₁, _, _, rfl, Nat.zero_le _, rfl, Wk.frame _ _ _ hst fun b _ o e => old b o e, ⟨hns₁, fun b o e => old b o (hgs b o e), by (first | (with_reducible first | assumption | exact Nat.le_trans (by assumption) (by decide) | exact Nat.lt_of_le_of_lt (by assumption) (by decide) | (refine Nat.ne_of_lt ?_; (repeat (first | assumption | refine Nat.lt_trans (by assumption) ?_)); done) | (refine Nat.ne_of_gt ?_; (repeat (first | assumption | refine Nat.lt_trans (by assumption) ?_)); done) | ((repeat (first | assumption | refine Nat.lt_trans (by assumption) ?_)); done)) | omega)⟩, ?_, rfl, hj⟩
    · rintro k s' ⟨i, ys, nD, news₁, gs, H, tk, m₁, rfl, hi, rfl, hst', F', N', hadr, hJ⟩ Qb E9 hQb
      have noff : ∀ q ∈ news₁, q.1 ∉ fp := fun q hq => by
        have : q.1 ∈ news₁.map (·.1) := List.mem_map_of_mem hq
        rw [hadr] at this
        obtain ⟨q', hq', e⟩ := List.mem_map.mp this
        rw [← e]
        exact hnf q' hq'
      have noff' : ∀ q ∈ (D, lsO ys nD) :: (news₁ ++ fix), q.1 ∉ wr := fun q hq => by
        rcases List.mem_cons.mp hq with rfl | hq
        · exact hDw
        · rcases List.mem_append.mp hq with hq | hq
          · exact fun hb => noff q hq (Wk.sub _ hb)
          · exact hfw q hq
      have pass : ∀ h₂ : Heap, (∀ b o, b ∉ wr → H.get? b = some o → h₂.get? b = some o) → Fr g C h₂ m₁ ∧ News g C h₂ ((D, lsO ys nD) :: (news₁ ++ fix)) := fun h₂ hk =>
        ⟨⟨F'.ns.at' fun o e => hk _ o hCw e, fun b o e => hk b o (fun hb => by rw [g_no b (.inr hb)] at e; cases e) (F'.keep b o e), F'.above⟩, fun q hq => ⟨hk _ _ (noff' q hq) (N' q hq).1, (N' q hq).2⟩⟩
      by_cases hlt : i < n
      · refine Wk.item i _ _ _ hlt hst' fun v h₂ tk₂ hP hst₂ hk₂ => ?_
        obtain ⟨F₂, N₂⟩ := pass h₂ hk₂
        refine wpAny_assign_Name (wpAny_storeName_local (env := compEnvC scope cl C env) (lookup_relabel_local hx) F₂.ns (fun h₃ hn₃ hs₃ => ?_) (by simp [compEnvC, relabel, hkind]))
        have F₃ : Fr g C h₃ (fun y => if y = x then some v else m₁ y) := F₂.set hn₃ hs₃
        have N₃ : News g C h₃ ((D, lsO ys nD) :: (news₁ ++ fix)) := N₂.set hs₃
        have Nown : News g C h₃ (ownOf g fp h₃) := news_ownOf hCf
        have hst₃ : St (i + 1) h₃ := Wk.frame _ _ _ hst₂ fun b hb o e => (hs₃.2 b fun q => hCf ((show b = C from q) ▸ hb)).trans e
        have up : ∀ h₄ : Heap, (∀ b o, g.get? b = some o → h₄.get? b = some o) → (∀ q ∈ ownOf g fp h₃, h₄.get? q.1 = some q.2) → St (i + 1) h₄ := fun h₄ k1 k2 => by
          refine Wk.frame _ _ _ hst₃ fun b hb o e => ?_
          cases hn : g.get? b with
          | none => exact k2 _ (mem_ownOf hb hn e)
          | some o' =>
            have := F₃.keep b o' hn
            rw [e] at this
            cases this
            exact k1 b o hn
        have all : News g C h₃ ((D, lsO ys nD) :: (news₁ ++ (fix ++ ownOf g fp h₃))) := fun q hq => by
          rcases List.mem_cons.mp hq with rfl | hq
          · exact N₃ _ (.head _)
          · rcases List.mem_append.mp hq with hq | hq
            · exact N₃ _ (.tail _ (List.mem_append_left _ hq))
            · rcases List.mem_append.mp hq with hq | hq
              · exact N₃ _ (.tail _ (List.mem_append_right _ hq))
              · exact Nown _ hq
        refine wpAny_mono (turn g C D i v ys nD news₁ gs h₃ _ m₁ (ownOf g fp h₃) _ hlt hP hJ hadr ownOf_sub lt_new (fun q hq => hfpD _ (ownOf_sub q hq)) (ltN (by (first | (with_reducible first | assumption | exact Nat.le_trans (by assumption) (by decide) | exact Nat.lt_of_le_of_lt (by assumption) (by decide) | (refine Nat.ne_of_lt ?_; (repeat (first | assumption | refine Nat.lt_trans (by assumption) ?_)); done) | (refine Nat.ne_of_gt ?_; (repeat (first | assumption | refine Nat.lt_trans (by assumption) ?_)); done) | ((repeat (first | assumption | refine Nat.lt_trans (by assumption) ?_)); done)) | omega))) stay FG F₃ all) (fun ok s₃ hok => ?_) fun _ _ e => e
        cases ok with
        | false =>
          simp only [Bool.false_eq_true, if_false] at hok ⊢
          obtain ⟨h₄, gs', tk', m', news₂, rfl, F₄, N₄, ha₄, hJ₄⟩ := hok
          exact hQb _ ⟨n + 1 - (i + 1), dec_lt hlt, i + 1, ys, nD, news₂, gs', h₄, tk', m', rfl, hlt, rfl, up h₄ F₄.keep fun q hq => (N₄ q (.tail _ (List.mem_append_right _ (List.mem_append_right _ hq)))).1, F₄, fun q hq => N₄ q (mem3 hq), ha₄, hJ₄⟩
        | true =>
          simp only [if_true] at hok ⊢
          refine wpAny_mono hok (fun y s₄ hy => ?_) fun _ _ e => e
          obtain ⟨h₄, gs', tk', m', news₂, rfl, F₄, N₄, ha₄, hJ₄⟩ := hy
          have hD4 := (N₄ _ (.head _)).1
          refine wpAny_list_append_plain (hsz := by have := hjl _ _ _ _ hJ; rw [sizeLine_eq]; simp; (first | (with_reducible first | assumption | exact Nat.le_trans (by assumption) (by decide) | exact Nat.lt_of_le_of_lt (by assumption) (by decide) | (refine Nat.ne_of_lt ?_; (repeat (first | assumption | refine Nat.lt_trans (by assumption) ?_)); done) | (refine Nat.ne_of_gt ?_; (repeat (first | assumption | refine Nat.lt_trans (by assumption) ?_)); done) | ((repeat (first | assumption | refine Nat.lt_trans (by assumption) ?_)); done)) | omega)) (items := ys.toArray) ⟨nD, hD4⟩ fun h₅ hl₅ hs₅ => ?_
          obtain ⟨n5, hD5⟩ := hl₅
          have e5 : ys.toArray.push y = (ys ++ [y]).toArray := by simp
          rw [e5] at hD5
          have nD' : ∀ q ∈ news₂ ++ (fix ++ ownOf g fp h₃), q.1 ≠ D := fun q hq => by
            rcases List.mem_append.mp hq with hq | hq
            · have : q.1 ∈ news₂.map (·.1) := List.mem_map_of_mem hq
              rw [ha₄] at this
              obtain ⟨q', hq', e⟩ := List.mem_map.mp this
              have := ltN (lt_new q' (List.mem_append_left _ hq'))
              rw [← e]
              exact neN (by (first | (with_reducible first | assumption | exact Nat.le_trans (by assumption) (by decide) | exact Nat.lt_of_le_of_lt (by assumption) (by decide) | (refine Nat.ne_of_lt ?_; (repeat (first | assumption | refine Nat.lt_trans (by assumption) ?_)); done) | (refine Nat.ne_of_gt ?_; (repeat (first | assumption | refine Nat.lt_trans (by assumption) ?_)); done) | ((repeat (first | assumption | refine Nat.lt_trans (by assumption) ?_)); done)) | omega))
            · rcases List.mem_append.mp hq with hq | hq
              · have := ltN (lt_new q (List.mem_append_right _ hq)); exact neN (by (first | (with_reducible first | assumption | exact Nat.le_trans (by assumption) (by decide) | exact Nat.lt_of_le_of_lt (by assumption) (by decide) | (refine Nat.ne_of_lt ?_; (repeat (first | assumption | refine Nat.lt_trans (by assumption) ?_)); done) | (refine Nat.ne_of_gt ?_; (repeat (first | assumption | refine Nat.lt_trans (by assumption) ?_)); done) | ((repeat (first | assumption | refine Nat.lt_trans (by assumption) ?_)); done)) | omega))
              · have := hfpD _ (ownOf_sub q hq); exact neN (by (first | (with_reducible first | assumption | exact Nat.le_trans (by assumption) (by decide) | exact Nat.lt_of_le_of_lt (by assumption) (by decide) | (refine Nat.ne_of_lt ?_; (repeat (first | assumption | refine Nat.lt_trans (by assumption) ?_)); done) | (refine Nat.ne_of_gt ?_; (repeat (first | assumption | refine Nat.lt_trans (by assumption) ?_)); done) | ((repeat (first | assumption | refine Nat.lt_trans (by assumption) ?_)); done)) | omega))
          have F₅ : Fr g C h₅ m' := F₄.change hs₅ (neN (by (first | (with_reducible first | assumption | exact Nat.le_trans (by assumption) (by decide) | exact Nat.lt_of_le_of_lt (by assumption) (by decide) | (refine Nat.ne_of_lt ?_; (repeat (first | assumption | refine Nat.lt_trans (by assumption) ?_)); done) | (refine Nat.ne_of_gt ?_; (repeat (first | assumption | refine Nat.lt_trans (by assumption) ?_)); done) | ((repeat (first | assumption | refine Nat.lt_trans (by assumption) ?_)); done)) | omega))) (g_new D (Nat.le_refl _))
          have N₅ : ∀ q ∈ news₂ ++ (fix ++ ownOf g fp h₃), h₅.get? q.1 = some q.2 ∧ q.1 ≠ C ∧ g.get? q.1 = none := fun q hq =>
            ⟨(hs₅.2 q.1 (nD' q hq)).trans (N₄ q (.tail _ hq)).1, (N₄ q (.tail _ hq)).2⟩
          refine hQb _ ⟨n + 1 - (i + 1), dec_lt hlt, i + 1, ys ++ [y], n5, news₂, gs', h₅, tk', m', rfl, hlt, rfl, up h₅ F₅.keep (fun q hq => (N₅ q (List.mem_append_right _ (List.mem_append_right _ hq))).1), F₅, fun q hq => ?_, ha₄, hJ₄⟩
          rcases List.mem_cons.mp hq with rfl | hq
          · exact ⟨hD5, (N₄ _ (.head _)).2⟩
          · exact N₅ q (by rw [← List.append_assoc]; exact List.mem_append_left _ hq)
      · have hin : i = n := sub_end (by assumption) hlt
        subst hin
        refine Wk.done _ _ _ hst' fun h₂ tk₂ hk₂ => ?_
        obtain ⟨F₂, N₂⟩ := pass h₂ hk₂
        refine hR9 _ _ ⟨m₁, F₂.ns, fun h₃ hs₃ => ?_⟩
        have keep3 : ∀ b o, b ≠ C → h₂.get? b = some o → h₃.get? b = some o := fun b o hb e => (hs₃.2 b hb).trans e
        refine done D ys nD news₁ gs h₃ tk₂ hJ hadr lt_new ⟨⟨oL, esL, epL, keep3 L oL (neN (by have := ltN (hDd ▸ Heap.lt_size hL : L < D); (first | (with_reducible first | assumption | exact Nat.le_trans (by assumption) (by decide) | exact Nat.lt_of_le_of_lt (by assumption) (by decide) | (refine Nat.ne_of_lt ?_; (repeat (first | assumption | refine Nat.lt_trans (by assumption) ?_)); done) | (refine Nat.ne_of_gt ?_; (repeat (first | assumption | refine Nat.lt_trans (by assumption) ?_)); done) | ((repeat (first | assumption | refine Nat.lt_trans (by assumption) ?_)); done)) | omega))) (F₂.keep L oL hLg), hLr⟩, fun b o e => keep3 b o (neN (by have := ltN (hDd ▸ Heap.lt_size (F.keep b o e) : b < D); (first | (with_reducible first | assumption | exact Nat.le_trans (by assumption) (by decide) | exact Nat.lt_of_le_of_lt (by assumption) (by decide) | (refine Nat.ne_of_lt ?_; (repeat (first | assumption | refine Nat.lt_trans (by assumption) ?_)); done) | (refine Nat.ne_of_gt ?_; (repeat (first | assumption | refine Nat.lt_trans (by assumption) ?_)); done) | ((repeat (first | assumption | refine Nat.lt_trans (by assumption) ?_)); done)) | omega))) (F₂.keep b o (stay b o e)), F.above⟩ ?_
        intro q hq
        have q2 := N₂ q hq
        refine ⟨keep3 _ _ q2.2.1 q2.1, fun e => ?_, ?_⟩
        · rw [e, hLg] at q2
          cases q2.2.2
        · cases hc : h₀.get? q.1 with
          | none => rfl
          | some o =>
            rw [stay _ _ hc] at q2
            cases q2.2.2
    · intro q hq
      rcases List.mem_cons.mp hq with rfl | hq
      · exact ⟨hDo, neN (by (first | (with_reducible first | assumption | exact Nat.le_trans (by assumption) (by decide) | exact Nat.lt_of_le_of_lt (by assumption) (by decide) | (refine Nat.ne_of_lt ?_; (repeat (first | assumption | refine Nat.lt_trans (by assumption) ?_)); done) | (refine Nat.ne_of_gt ?_; (repeat (first | assumption | refine Nat.lt_trans (by assumption) ?_)); done) | ((repeat (first | assumption | refine Nat.lt_trans (by assumption) ?_)); done)) | omega)), g_new D (Nat.le_refl _)⟩
      · exact ⟨old _ _ (N q hq).1, neN (by have := ltN (lt_new q hq); (first | (with_reducible first | assumption | exact Nat.le_trans (by assumption) (by decide) | exact Nat.lt_of_le_of_lt (by assumption) (by decide) | (refine Nat.ne_of_lt ?_; (repeat (first | assumption | refine Nat.lt_trans (by assumption) ?_)); done) | (refine Nat.ne_of_gt ?_; (repeat (first | assumption | refine Nat.lt_trans (by assumption) ?_)); done) | ((repeat (first | assumption | refine Nat.lt_trans (by assumption) ?_)); done)) | omega)), g_no _ (.inl (List.mem_map_of_mem hq))⟩
  exact codeAny_compStart_list (loop _ rfl) (Wk.self 0 _ _ _ (Wk.frame _ _ _ hst fun b _ o e => old b o e) (loop _ rfl))
end comp
end Mine
namespace Mine
section comp2
variable {prog : Program} {w : World} {A : Around} {E : Value → Shared → Prop} {s : Shared} {env : Env} {h₀ : Heap} {L : Addr} {m : Str → Option Value}
theorem compRange {elt : Expr} {x : Str} {ifs : List Expr} {scope : Scope} {cl : List (Str × Addr)} {Q : Value → Shared → Prop} {r : Addr} {a b : Int} {t u v : Tok} {n : Nat} (news fix : List (Addr × Obj)) (J : Nat → List Value → List (Addr × Obj) → Array GenState → Prop)
    (hh : A.handled = none) (hr : IsRange s.heap r a b 1 t u v) (hsmall : Builtin.Range.small a b 1 = true) (hn : Builtin.Range.rangeSize a b 1 = (n : Int)) (hsz : n ≤ 10000) (F : Fr h₀ L s.heap m) (N : News h₀ L s.heap (news ++ fix))
    (hj : J 0 [] news s.gens) (hjl : ∀ i ys nx gs, J i ys nx gs → ys.length ≤ i)
    (turn : ∀ (g : Heap) (C D : Addr) (i : Nat) (tv : Tok) (ys : List Value) (nD : Nat) (news₁ : List (Addr × Obj)) (gs : Array GenState) (h : Heap) (tk : Nat) (m₁ : Str → Option Value) (own : List (Addr × Obj)) (E' : Value → Shared → Prop), i < n → J i ys news₁ gs → news₁.map (·.1) = news.map (·.1) →
      (∀ q ∈ own, ∀ p ∈ news ++ fix, p.1 < q.1) → (∀ q ∈ news ++ fix, q.1 < D) → (∀ q ∈ own, q.1 < D) → D < C → h₀.StaysIn g → Fr h₀ L g m →
      Fr g C h (fun y => if y = x then some (.int (a + i) tv) else m₁ y) → News g C h ((D, lsO ys nD) :: (news₁ ++ (fix ++ own))) →
      wpAny (model prog w) A (forIn ifs true fun c r => if r = true then do let ok ← isTrue c (compEnvC scope cl C env) (eval c (compEnvC scope cl C env)); pure (ForInStep.yield ok) else pure (ForInStep.yield r))
        (fun ok s₃ => if ok = true then wpAny (model prog w) A (eval elt (compEnvC scope cl C env)) (fun y s₄ => CompEnd g C D (fix ++ own) (news.map (·.1)) (J (i + 1)) s.drawn s.os ys nD (ys ++ [y]) s₄) E' s₃
          else CompEnd g C D (fix ++ own) (news.map (·.1)) (J (i + 1)) s.drawn s.os ys nD ys s₃) E' ⟨h, gs, s.drawn, tk, s.os⟩)
    (done : ∀ (D : Addr) (ys : List Value) (nD : Nat) (news₁ : List (Addr × Obj)) (gs : Array GenState) (h' : Heap) (tk : Nat), J n ys news₁ gs → news₁.map (·.1) = news.map (·.1) → (∀ q ∈ news ++ fix, q.1 < D) → Fr h₀ L h' m → News h₀ L h' ((D, lsO ys nD) :: (news₁ ++ fix)) → Q (.ref D) ⟨h', gs, s.drawn, tk, s.os⟩) :
    wpAny (model prog w) A (pyIter (.ref r)) (fun it s₂ => CompAt prog w A h₀ L m env scope cl x ifs elt Q it s₂) E s := by
  refine wpAny_pyIter_range hr hsmall ?_
  have off : ∀ q ∈ news ++ fix, q.1 ≠ s.heap.objs.size := fun q hq => Nat.ne_of_lt (Heap.lt_size (N q hq).1)
  refine ⟨s.heap.objs.size, [s.heap.objs.size], [s.heap.objs.size], n, _, _, news, fix, J, rfl, (Walks.range hh _ a 1 n).bound, hsz, (by show IsRangeIter _ _ _ _ _; rw [hn]; simpa using Heap.get?_push_size _ rfl), ?_, ?_, ?_, ?_, ?_, F.push _, (fun q hq => ⟨Heap.get?_push_of_some _ (N q hq).1, (N q hq).2⟩), hj, hjl, ?_, ?_⟩
  · intro b hb
    rw [List.mem_singleton.mp hb, Heap.size_push]
    exact Nat.lt_succ_self _
  · intro b hb
    rw [List.mem_singleton.mp hb]
    exact next_is_new F
  · intro hb
    exact absurd F.ns.lt ((List.mem_singleton.mp hb) ▸ Nat.lt_irrefl _)
  · intro q hq hb
    exact off q (List.mem_append_left _ hq) (List.mem_singleton.mp hb)
  · intro q hq hb
    exact off q (List.mem_append_right _ hq) (List.mem_singleton.mp hb)
  · rintro g C D i v ys nD news₁ gs h tk m₁ own E' hi ⟨_, tv, rfl⟩ hJ hadr hown hlt hlo hDC st FG F₁ N₁
    rw [Int.mul_one] at F₁
    exact turn g C D i tv ys nD news₁ gs h tk m₁ own E' hi hJ hadr (fun q hq p hp => by rw [List.mem_singleton.mp (hown q hq)]; exact Heap.lt_size (N p hp).1) hlt hlo hDC st FG F₁ N₁
  · exact done
theorem compStr {elt : Expr} {x : Str} {ifs : List Expr} {scope : Scope} {cl : List (Str × Addr)} {Q : Value → Shared → Prop} {tx : Str} {t : Tok} (news fix : List (Addr × Obj)) (J : Nat → List Value → List (Addr × Obj) → Array GenState → Prop)
    (hh : A.handled = none) (hsz : tx.cps.size ≤ 10000) (F : Fr h₀ L s.heap m) (N : News h₀ L s.heap (news ++ fix))
    (hj : J 0 [] news s.gens) (hjl : ∀ i ys nx gs, J i ys nx gs → ys.length ≤ i)
    (turn : ∀ (g : Heap) (C D : Addr) (i : Nat) (ch : Nat) (tv : Tok) (ys : List Value) (nD : Nat) (news₁ : List (Addr × Obj)) (gs : Array GenState) (h : Heap) (tk : Nat) (m₁ : Str → Option Value) (own : List (Addr × Obj)) (E' : Value → Shared → Prop), tx.cps[i]? = some ch → J i ys news₁ gs → news₁.map (·.1) = news.map (·.1) →
      (∀ q ∈ own, ∀ p ∈ news ++ fix, p.1 < q.1) → (∀ q ∈ news ++ fix, q.1 < D) → (∀ q ∈ own, q.1 < D) → D < C → h₀.StaysIn g → Fr h₀ L g m →
      Fr g C h (fun y => if y = x then some (.str ⟨#[ch]⟩ tv) else m₁ y) → News g C h ((D, lsO ys nD) :: (news₁ ++ (fix ++ own))) →
      wpAny (model prog w) A (forIn ifs true fun c r => if r = true then do let ok ← isTrue c (compEnvC scope cl C env) (eval c (compEnvC scope cl C env)); pure (ForInStep.yield ok) else pure (ForInStep.yield r))
        (fun ok s₃ => if ok = true then wpAny (model prog w) A (eval elt (compEnvC scope cl C env)) (fun y s₄ => CompEnd g C D (fix ++ own) (news.map (·.1)) (J (i + 1)) s.drawn s.os ys nD (ys ++ [y]) s₄) E' s₃
          else CompEnd g C D (fix ++ own) (news.map (·.1)) (J (i + 1)) s.drawn s.os ys nD ys s₃) E' ⟨h, gs, s.drawn, tk, s.os⟩)
    (done : ∀ (D : Addr) (ys : List Value) (nD : Nat) (news₁ : List (Addr × Obj)) (gs : Array GenState) (h' : Heap) (tk : Nat), J tx.cps.size ys news₁ gs → news₁.map (·.1) = news.map (·.1) → (∀ q ∈ news ++ fix, q.1 < D) → Fr h₀ L h' m → News h₀ L h' ((D, lsO ys nD) :: (news₁ ++ fix)) → Q (.ref D) ⟨h', gs, s.drawn, tk, s.os⟩) :
    wpAny (model prog w) A (pyIter (.str tx t)) (fun it s₂ => CompAt prog w A h₀ L m env scope cl x ifs elt Q it s₂) E s := by
  refine wpAny_pyIter_str fun o St WS hst => ?_
  have off : ∀ q ∈ news ++ fix, q.1 ≠ s.heap.objs.size := fun q hq => Nat.ne_of_lt (Heap.lt_size (N q hq).1)
  refine ⟨s.heap.objs.size, [s.heap.objs.size], [s.heap.objs.size], tx.cps.size, _, _, news, fix, J, rfl, WS A hh, hsz, hst, ?_, ?_, ?_, ?_, ?_, F.push _, (fun q hq => ⟨Heap.get?_push_of_some _ (N q hq).1, (N q hq).2⟩), hj, hjl, ?_, ?_⟩
  · intro b hb
    rw [List.mem_singleton.mp hb, Heap.size_push]
    exact Nat.lt_succ_self _
  · intro b hb
    rw [List.mem_singleton.mp hb]
    exact next_is_new F
  · intro hb
    exact absurd F.ns.lt ((List.mem_singleton.mp hb) ▸ Nat.lt_irrefl _)
  · intro q hq hb
    exact off q (List.mem_append_left _ hq) (List.mem_singleton.mp hb)
  · intro q hq hb
    exact off q (List.mem_append_right _ hq) (List.mem_singleton.mp hb)
  · rintro g C D i v ys nD news₁ gs h tk m₁ own E' hi ⟨ch, tv, hc, rfl⟩ hJ hadr hown hlt hlo hDC st FG F₁ N₁
    exact turn g C D i ch tv ys nD news₁ gs h tk m₁ own E' hc hJ hadr (fun q hq p hp => by rw [List.mem_singleton.mp (hown q hq)]; exact Heap.lt_size (N p hp).1) hlt hlo hDC st FG F₁ N₁
  · exact done
theorem compList {elt : Expr} {x : Str} {ifs : List Expr} {scope : Scope} {cl : List (Str × Addr)} {Q : Value → Shared → Prop} {ax : Addr} {vs : List Value} (news fix : List (Addr × Obj)) (J : Nat → List Value → List (Addr × Obj) → Array GenState → Prop)
    (hh : A.handled = none) (hl : s.heap.IsList ax vs.toArray) (hax : ∀ q ∈ news, q.1 ≠ ax) (hsz : vs.length ≤ 10000) (F : Fr h₀ L s.heap m) (N : News h₀ L s.heap (news ++ fix))
    (hj : J 0 [] news s.gens) (hjl : ∀ i ys nx gs, J i ys nx gs → ys.length ≤ i)
    (turn : ∀ (g : Heap) (C D : Addr) (i : Nat) (v : Value) (ys : List Value) (nD : Nat) (news₁ : List (Addr × Obj)) (gs : Array GenState) (h : Heap) (tk : Nat) (m₁ : Str → Option Value) (own : List (Addr × Obj)) (E' : Value → Shared → Prop), vs[i]? = some v → J i ys news₁ gs → news₁.map (·.1) = news.map (·.1) →
      (∀ q ∈ own, q.1 = ax ∨ ∀ p ∈ news ++ fix, p.1 < q.1) → (∀ q ∈ news ++ fix, q.1 < D) → (∀ q ∈ own, q.1 < D) → D < C → h₀.StaysIn g → Fr h₀ L g m →
      Fr g C h (fun y => if y = x then some v else m₁ y) → News g C h ((D, lsO ys nD) :: (news₁ ++ (fix ++ own))) →
      wpAny (model prog w) A (forIn ifs true fun c r => if r = true then do let ok ← isTrue c (compEnvC scope cl C env) (eval c (compEnvC scope cl C env)); pure (ForInStep.yield ok) else pure (ForInStep.yield r))
        (fun ok s₃ => if ok = true then wpAny (model prog w) A (eval elt (compEnvC scope cl C env)) (fun y s₄ => CompEnd g C D (fix ++ own) (news.map (·.1)) (J (i + 1)) s.drawn s.os ys nD (ys ++ [y]) s₄) E' s₃
          else CompEnd g C D (fix ++ own) (news.map (·.1)) (J (i + 1)) s.drawn s.os ys nD ys s₃) E' ⟨h, gs, s.drawn, tk, s.os⟩)
    (done : ∀ (D : Addr) (ys : List Value) (nD : Nat) (news₁ : List (Addr × Obj)) (gs : Array GenState) (h' : Heap) (tk : Nat), J vs.length ys news₁ gs → news₁.map (·.1) = news.map (·.1) → (∀ q ∈ news ++ fix, q.1 < D) → Fr h₀ L h' m → News h₀ L h' ((D, lsO ys nD) :: (news₁ ++ fix)) → Q (.ref D) ⟨h', gs, s.drawn, tk, s.os⟩) :
    wpAny (model prog w) A (pyIter (.ref ax)) (fun it s₂ => CompAt prog w A h₀ L m env scope cl x ifs elt Q it s₂) E s := by
  refine wpAny_pyIter_list hl ?_
  have off : ∀ q ∈ news ++ fix, q.1 ≠ s.heap.objs.size := fun q hq => Nat.ne_of_lt (Heap.lt_size (N q hq).1)
  obtain ⟨ol, hol, hlr⟩ := id hl
  have hlt := Heap.lt_size hol
  refine ⟨s.heap.objs.size, [s.heap.objs.size, ax], [s.heap.objs.size], vs.toArray.size, _, _, news, fix, J, rfl, Walks.list hh s.heap.objs.size ax (Nat.ne_of_lt hlt) vs.toArray, (by simpa using hsz), ⟨⟨_, Heap.get?_push_size _ rfl, rfl, rfl⟩, hl.at fun o e => Heap.get?_push_of_some _ e⟩, ?_, ?_, ?_, ?_, ?_, F.push _, (fun q hq => ⟨Heap.get?_push_of_some _ (N q hq).1, (N q hq).2⟩), hj, hjl, ?_, ?_⟩
  · intro b hb
    rcases List.mem_cons.mp hb with rfl | hb
    · rw [Heap.size_push]
      exact Nat.lt_succ_self _
    · rw [List.mem_singleton.mp hb, Heap.size_push]
      exact Nat.lt_succ_of_lt hlt
  · intro b hb
    rw [List.mem_singleton.mp hb]
    exact next_is_new F
  · intro hb
    exact absurd F.ns.lt ((List.mem_singleton.mp hb) ▸ Nat.lt_irrefl _)
  · intro q hq hb
    rcases List.mem_cons.mp hb with e | hb
    · exact off q (List.mem_append_left _ hq) e
    · exact hax q hq (List.mem_singleton.mp hb)
  · intro q hq hb
    exact off q (List.mem_append_right _ hq) (List.mem_singleton.mp hb)
  · rintro g C D i v ys nD news₁ gs h tk m₁ own E' hi hP hJ hadr hown hlt hlo hDC st FG F₁ N₁
    refine turn g C D i v ys nD news₁ gs h tk m₁ own E' (by simpa using hP) hJ hadr (fun q hq => ?_) hlt hlo hDC st FG F₁ N₁
    rcases List.mem_cons.mp (hown q hq) with e | hb
    · exact .inr fun p hp => by rw [e]; exact Heap.lt_size (N p hp).1
    · exact .inl (List.mem_singleton.mp hb)
  · intro D ys nD news₁ gs h' tk hJ
    exact done D ys nD news₁ gs h' tk (by simpa using hJ)
end comp2
end Mine
namespace Mine
theorem compGF {prog : Program} {w : World} {A : Around} {E : Value → Shared → Prop} {s : Shared} {env : Env} {h₀ : Heap} {L : Addr} {m : Str → Option Value} {elt iter : Expr} {x : Str} {px : Pos} {ifs : List Expr} {scope : Scope} {cl : List (Str × Addr)} {pos : Pos} {Q : Value → Shared → Prop}
    (hF9 : Fr h₀ L s.heap m) (hclos : closureFor scope env = pure cl) (hcell : ∀ y ∈ scope.names, y.2 ≠ .cell) (hkind : scope.kind = .function)
    (hnames : ∀ y ∈ scope.names, y.2 = .local → scope.names.lookup y.1 = some .local) (hx : scope.names.lookup x = some .local)
    (h : wpAny (model prog w) A (eval iter env) (fun xv s₁ => wpAny (model prog w) A (pyIter xv) (fun it s₂ => CompAt prog w A h₀ L m env scope cl x ifs elt Q it s₂) E s₁) E s)
    (hs : ∀ x, foldedSetIterable iter env x = pure x := by intro _; rfl) :
    wpAny (model prog w) A (eval (.ListComp elt [⟨.Name x px, iter, ifs, 0⟩] scope pos) env) Q E s := compG hclos hcell hkind hnames hx h hs
section names
variable {M : Model} {A : Around} {E : Value → Shared → Prop} {s : Shared} {h₀ : Heap} {L : Addr} {news : List (Addr × Obj)} {env : Env} {x : Str} {pos : Pos} {c : Addr} {o : Obj} {v : Value} {Q : Value → Shared → Prop}
theorem nameCell (hk : env.scope.kind = .function) (hx : env.kindOf x = some .cell) (hc : env.cells.lookup x = some c) (N : News h₀ L s.heap news) (hm : (c, o) ∈ news) (hd : o.data = .cell (some v)) (h : Q v s)
    (hb : (x == Str.ofString "__debug__") = false := by decide) : wpAny M A (eval (.Name x pos) env) Q E s :=
  wpAny_Name (wpAny_loadName_cell hk hx hc ⟨o, (N _ hm).1, hd⟩ h) hb
theorem nameFree (hk : env.scope.kind = .function) (hx : env.kindOf x = some .free) (hc : env.cells.lookup x = some c) (N : News h₀ L s.heap news) (hm : (c, o) ∈ news) (hd : o.data = .cell (some v)) (h : Q v s)
    (hb : (x == Str.ofString "__debug__") = false := by decide) (hn : (x == Str.ofString "__classdict__") = false := by decide) : wpAny M A (eval (.Name x pos) env) Q E s :=
  wpAny_Name (wpAny_loadName_free hk hx hc ⟨o, (N _ hm).1, hd⟩ h hn) hb
end names
end Mine
end
local macro_rules | `(tactic| walk_at $s:str) => if ["exec For Name Call cons nil", "exec For Name Name cons nil"].contains s.getString then `(tactic| (k_here; (rename Fr _ _ _ _ => lF'); (with_unfolding_all refine For_invVF lF' rfl rfl ?_); k_whole)) else if s.getString == "eval ListComp" then `(tactic| ((rename Fr _ _ _ _ => lF'); (with_unfolding_all refine compGF lF' rfl (by decide) rfl (by decide) rfl ?_))) else Lean.Macro.throwUnsupported
local macro_rules | `(tactic| walk_at $s:str) => if ["call ref", "compareOp NotEq ref ref", "compareOp Eq ref ref", "call builtin:str.count", "compareOp NotEq int int", "call type:enumerate", "call builtin:sum", "call builtin:len", "call builtin:len cons nil", "compareOp Eq int int", "binaryOp Pow int int", "GoodB", "pyIter ref", "eval ListComp", "exec Assign cons ListComp", "InvEndN", "call builtin:list.pop", "call builtin:list.append", "call type:zip", "WhileStep", "exec For Name Name cons nil", "call builtin:iter", "exec While Compare cons nil", "call type:list", "call builtin:str.join", "pyIter str", "call builtin:str.split", "binaryOp FloorDiv int int", "inplaceOp Mult int int", "binaryOp Mult int int", "getMethod ref", "exec For Tuple Call cons nil", "exec If Name", "subscriptTail", "delItem", "truthy str", "call builtin:str.find", "call builtin:str.split", "exec If BoolOp", "callWith ref", "setAttr ref", "exec If Compare cons nil"].contains s.getString then `(tactic| refine holdAt (k := $s) (by with_reducible assumption) ?_) else Lean.Macro.throwUnsupported
section
open PySem PySem.W PyProof.Rows Mine
set_option Elab.async false
set_option maxRecDepth 100000
set_option maxHeartbeats 1500000
namespace Mine
def collF (a b : Str) : Int := b2i (decide (b.cps.toList < a.cps.toList)) - b2i (decide (a.cps.toList < b.cps.toList))
theorem strcoll_c {w : World} {mean} {mg mb} (a b : Str) (ta tb : Tok) (news : List (Addr × Obj)) :
  MClaim w mean mg mb 28 news [.str a ta, .str b tb] 2 (fun s Q h₀ L m => ∀ (t : Tok) (h' : Heap) (tk' : Nat), Fr h₀ L h' m → News h₀ L h' news → Q (.int (collF a b) t) { s with heap := h', toks := tk' }) := by
  dsimp only [MClaim, PRG]; k_fill; intro dp un h₀ L m s Q E F₀ X₀ N₀ T₀ hroom hunits hret
  refine wpAny_call ?_
  k_dflt (refine' enterP ?k2 ?k3 ?k4 ?k5 ?k6 ?k7 ?k8 ?k9 ?kB ?_ ?c2 ?c3 ?c4 ?c5; (case k2 => k_asm); (case k3 => k_asm); (case k4 => k_asm); (case k5 => k_asm); (case k6 => k_is); (case k7 => k_is); (case k8 => exact rm0 hroom); (case k9 => exact BindsTo.of_eq rfl); (case c5 => decide); (case kB => exact locs rfl); (case c2 => exact rfl); (case c3 => exact rfl); (case c4 => exact rfl); k_whole; intro _ _ _ _ _ _ _ _; (try dsimp only); (try k_fold))
  rename Fr _ _ _ _ => F
  replace F := (show Fr _ _ _ (fun y => List.lookup y [(Str.ofString "b", Value.str b tb), (Str.ofString "a", Value.str a ta)]) from F)
  k_steps
  exact hret _ _ _ (by k_asm) (by k_asm)

def gaussA (u : Int) : Nat → Int
  | 0 => 1
  | i + 1 => gaussA u i * (64 ^ (u - i).toNat - 1)
def gaussB : Nat → Int
  | 0 => 1
  | i + 1 => gaussB i * (64 ^ (i + 1) - 1)
def gaussF (u l : Int) : Int := if l < 0 ∨ u < l then 0 else Int.fdiv (gaussA u l.toNat) (gaussB l.toNat)
theorem fits_ok {b : Int} (h0 : 0 ≤ b) (h1 : b < 2 ^ 62) : Builtin.Range.rangeFitsLong b = true := by
  unfold Builtin.Range.rangeFitsLong; simp; (first | (with_reducible first | assumption | exact Nat.le_trans (by assumption) (by decide) | exact Nat.lt_of_le_of_lt (by assumption) (by decide) | (refine Nat.ne_of_lt ?_; (repeat (first | assumption | refine Nat.lt_trans (by assumption) ?_)); done) | (refine Nat.ne_of_gt ?_; (repeat (first | assumption | refine Nat.lt_trans (by assumption) ?_)); done) | ((repeat (first | assumption | refine Nat.lt_trans (by assumption) ?_)); done)) | omega)
theorem size_ft {a b : Int} : Builtin.Range.rangeSize a b 1 = ((b - a).toNat : Int) := by
  unfold Builtin.Range.rangeSize
  rw [if_pos (by decide)]
  split
  · rename_i h
    rw [Int.ediv_one, Int.sub_add_cancel]; exact (Int.toNat_of_nonneg (Int.sub_nonneg_of_le (Int.le_of_lt h))).symm
  · rename_i h
    rw [Int.toNat_eq_zero.mpr (Int.sub_nonpos_of_le (Int.not_lt.mp h))]; rfl
theorem size_to {b : Int} (_ : 0 ≤ b) : Builtin.Range.rangeSize 0 b 1 = (b.toNat : Int) := by
  rw [size_ft, Int.sub_zero]
theorem small_ft {a b : Int} (ha : 0 ≤ a) (h0 : 0 ≤ b) (h1 : b < 2 ^ 62) (h2 : a < 2 ^ 62) : Builtin.Range.small a b 1 = true := by
  unfold Builtin.Range.small
  have h : (((b - a).toNat : Nat) : Int) < 2 ^ 62 := Int.lt_of_le_of_lt (by (first | (with_reducible first | assumption | exact Nat.le_trans (by assumption) (by decide) | exact Nat.lt_of_le_of_lt (by assumption) (by decide) | (refine Nat.ne_of_lt ?_; (repeat (first | assumption | refine Nat.lt_trans (by assumption) ?_)); done) | (refine Nat.ne_of_gt ?_; (repeat (first | assumption | refine Nat.lt_trans (by assumption) ?_)); done) | ((repeat (first | assumption | refine Nat.lt_trans (by assumption) ?_)); done)) | omega)) h1
  have e1 : Builtin.Range.rangeFitsLong 1 = true := by decide
  have e2 : Builtin.Range.rangeFitsLong (b + (1 - 1)) = true := fits_ok (Int.le_trans h0 (Int.le_of_eq (Int.add_zero b).symm)) (Int.lt_of_le_of_lt (Int.le_of_eq (Int.add_zero b)) h1)
  rw [size_ft, fits_ok ha h2, fits_ok h0 h1, fits_ok (Int.natCast_nonneg _) h, if_pos (by decide), e1, e2, Bool.or_true]
  rfl
theorem small_to {b : Int} (h0 : 0 ≤ b) (h1 : b < 2 ^ 62) : Builtin.Range.small 0 b 1 = true := small_ft (by decide) h0 h1 (by decide)
theorem small_l {a : Int} {b n : Nat} (ha : 0 ≤ a) (h2 : a < 2 ^ 62) (hb : b ≤ n) (hn : (n : Int) < 2 ^ 62) : Builtin.Range.small a (b : Int) 1 = true :=
  small_ft ha (Int.natCast_nonneg _) (Int.lt_of_le_of_lt (Int.ofNat_le.mpr hb) hn) h2
theorem size_l {b : Nat} : Builtin.Range.rangeSize 0 (b : Int) 1 = (b : Int) := size_to (Int.natCast_nonneg _)
theorem size_l1 {b : Nat} : Builtin.Range.rangeSize 1 (b : Int) 1 = ((b - 1 : Nat) : Int) := by
  rw [size_ft]; exact congrArg Nat.cast (Int.toNat_sub b 1)
theorem mulOk64 {x : Int} {n : Nat} (h : n ≤ 9) : IntMulOk x (64 ^ n - 1) := by
  refine IntMulOk.of_right (intBits_le_64 ?_ ?_)
  all_goals (rcases n with _ | _ | _ | _ | _ | _ | _ | _ | _ | _ | n) <;> first | (first | (with_reducible first | assumption | exact Nat.le_trans (by assumption) (by decide) | exact Nat.lt_of_le_of_lt (by assumption) (by decide) | (refine Nat.ne_of_lt ?_; (repeat (first | assumption | refine Nat.lt_trans (by assumption) ?_)); done) | (refine Nat.ne_of_gt ?_; (repeat (first | assumption | refine Nat.lt_trans (by assumption) ?_)); done) | ((repeat (first | assumption | refine Nat.lt_trans (by assumption) ?_)); done)) | omega) | decide
theorem gaussB_ne (i : Nat) : gaussB i ≠ 0 := by
  induction i with
  | zero => decide
  | succ i ih =>
    unfold gaussB
    have : (64 : Int) ^ (i + 1) ≥ 64 := by
      rw [Int.pow_succ]
      have : (64 : Int) ^ i ≥ 1 := Int.pow_pos (by decide)
      (first | (with_reducible first | assumption | exact Nat.le_trans (by assumption) (by decide) | exact Nat.lt_of_le_of_lt (by assumption) (by decide) | (refine Nat.ne_of_lt ?_; (repeat (first | assumption | refine Nat.lt_trans (by assumption) ?_)); done) | (refine Nat.ne_of_gt ?_; (repeat (first | assumption | refine Nat.lt_trans (by assumption) ?_)); done) | ((repeat (first | assumption | refine Nat.lt_trans (by assumption) ?_)); done)) | omega)
    exact Int.mul_ne_zero ih (by (first | (with_reducible first | assumption | exact Nat.le_trans (by assumption) (by decide) | exact Nat.lt_of_le_of_lt (by assumption) (by decide) | (refine Nat.ne_of_lt ?_; (repeat (first | assumption | refine Nat.lt_trans (by assumption) ?_)); done) | (refine Nat.ne_of_gt ?_; (repeat (first | assumption | refine Nat.lt_trans (by assumption) ?_)); done) | ((repeat (first | assumption | refine Nat.lt_trans (by assumption) ?_)); done)) | omega))
theorem gaussB_log (i : Nat) (h : i ≤ 9) : (gaussB i).natAbs.log2 < 9000 := by
  rcases i with _ | _ | _ | _ | _ | _ | _ | _ | _ | _ | n <;> first | decide | (first | (with_reducible first | assumption | exact Nat.le_trans (by assumption) (by decide) | exact Nat.lt_of_le_of_lt (by assumption) (by decide) | (refine Nat.ne_of_lt ?_; (repeat (first | assumption | refine Nat.lt_trans (by assumption) ?_)); done) | (refine Nat.ne_of_gt ?_; (repeat (first | assumption | refine Nat.lt_trans (by assumption) ?_)); done) | ((repeat (first | assumption | refine Nat.lt_trans (by assumption) ?_)); done)) | omega)
theorem gauss_c {w : World} {mean} {mg mb} (a b : Int) (ta tb : Tok) (news : List (Addr × Obj)) (h0 : 0 ≤ a) (h8 : a ≤ 8) :
  MClaim w mean mg mb 120 news [.int a ta, .int b tb] 2 (fun s Q h₀ L m => ∀ (t : Tok) (h' : Heap) (tk' : Nat), Fr h₀ L h' m → News h₀ L h' news → Q (.int (gaussF a b) t) { s with heap := h', toks := tk' }) := by
  dsimp only [MClaim, PRG]; k_fill; intro dp un h₀ L m s Q E F₀ X₀ N₀ T₀ hroom hunits hret
  have k1 := held "pyIter ref"
  have k2 := held "InvEndN"
  have k3 := held "inplaceOp Mult int int"
  have k4 := held "binaryOp FloorDiv int int"
  refine wpAny_call ?_
  k_dflt (refine' enterP ?k2 ?k3 ?k4 ?k5 ?k6 ?k7 ?k8 ?k9 ?kB ?_ ?c2 ?c3 ?c4 ?c5; (case k2 => k_asm); (case k3 => k_asm); (case k4 => k_asm); (case k5 => k_asm); (case k6 => k_is); (case k7 => k_is); (case k8 => exact rm0 hroom); (case k9 => exact BindsTo.of_eq rfl); (case c5 => decide); (case kB => exact locs rfl); (case c2 => exact rfl); (case c3 => exact rfl); (case c4 => exact rfl); k_whole; intro _ _ _ _ _ _ _ _; (try dsimp only); (try k_fold))
  rename Fr _ _ _ _ => F
  replace F := (show Fr _ _ _ (fun y => List.lookup y [(Str.ofString "lower", Value.int b tb), (Str.ofString "upper", Value.int a ta)]) from F)
  refine quiet ?_
  intro Q9 hQ9
  k_steps
  all_goals try (refine hQ9 _ _ ?_; k_steps)
  · have e : gaussF a b = 0 := by unfold gaussF; rw [if_pos]; (first | (with_reducible first | assumption | exact Nat.le_trans (by assumption) (by decide) | exact Nat.lt_of_le_of_lt (by assumption) (by decide) | (refine Nat.ne_of_lt ?_; (repeat (first | assumption | refine Nat.lt_trans (by assumption) ?_)); done) | (refine Nat.ne_of_gt ?_; (repeat (first | assumption | refine Nat.lt_trans (by assumption) ?_)); done) | ((repeat (first | assumption | refine Nat.lt_trans (by assumption) ?_)); done)) | omega)
    rw [e] at hret
    exact hret _ _ _ (by k_asm) (by k_asm)
  · have e : gaussF a b = 0 := by unfold gaussF; rw [if_pos]; (first | (with_reducible first | assumption | exact Nat.le_trans (by assumption) (by decide) | exact Nat.lt_of_le_of_lt (by assumption) (by decide) | (refine Nat.ne_of_lt ?_; (repeat (first | assumption | refine Nat.lt_trans (by assumption) ?_)); done) | (refine Nat.ne_of_gt ?_; (repeat (first | assumption | refine Nat.lt_trans (by assumption) ?_)); done) | ((repeat (first | assumption | refine Nat.lt_trans (by assumption) ?_)); done)) | omega)
    rw [e] at hret
    exact hret _ _ _ (by k_asm) (by k_asm)
  · refine unhold ?_
    rename IsRange _ _ _ _ _ _ _ _ => hr
    refine' kst_range (σ := Nat × Tok × Tok) (n := b.toNat) (fun _ => news) (fun c => [(Str.ofString "above", .int (gaussA a c.1) c.2.1), (Str.ofString "below", .int (gaussB c.1) c.2.2)]) (fun _ => True) [] (fun pre c => c.1 = pre.length) (0, ?tx, ?ty) rfl hr ?small ?size (by k_asm) (by k_asm) trivial ?hk rfl ?turn ?done
    case hk => exact List.forall_mem_cons.mpr ⟨by with_unfolding_all rfl, List.forall_mem_cons.mpr ⟨by with_unfolding_all rfl, List.forall_mem_nil _⟩⟩
    case small => exact small_to (by (first | (with_reducible first | assumption | exact Nat.le_trans (by assumption) (by decide) | exact Nat.lt_of_le_of_lt (by assumption) (by decide) | (refine Nat.ne_of_lt ?_; (repeat (first | assumption | refine Nat.lt_trans (by assumption) ?_)); done) | (refine Nat.ne_of_gt ?_; (repeat (first | assumption | refine Nat.lt_trans (by assumption) ?_)); done) | ((repeat (first | assumption | refine Nat.lt_trans (by assumption) ?_)); done)) | omega)) (by (first | (with_reducible first | assumption | exact Nat.le_trans (by assumption) (by decide) | exact Nat.lt_of_le_of_lt (by assumption) (by decide) | (refine Nat.ne_of_lt ?_; (repeat (first | assumption | refine Nat.lt_trans (by assumption) ?_)); done) | (refine Nat.ne_of_gt ?_; (repeat (first | assumption | refine Nat.lt_trans (by assumption) ?_)); done) | ((repeat (first | assumption | refine Nat.lt_trans (by assumption) ?_)); done)) | omega))
    case size => exact size_to (by (first | (with_reducible first | assumption | exact Nat.le_trans (by assumption) (by decide) | exact Nat.lt_of_le_of_lt (by assumption) (by decide) | (refine Nat.ne_of_lt ?_; (repeat (first | assumption | refine Nat.lt_trans (by assumption) ?_)); done) | (refine Nat.ne_of_gt ?_; (repeat (first | assumption | refine Nat.lt_trans (by assumption) ?_)); done) | ((repeat (first | assumption | refine Nat.lt_trans (by assumption) ?_)); done)) | omega))
    case turn =>
      rintro ⟨i, t1, t2⟩ pre k t u h tk own hk hlt hoff - hp F N
      dsimp only [kstB] at hp F N ⊢
      obtain rfl : k = (i : Int) := by (first | (with_reducible first | assumption | exact Nat.le_trans (by assumption) (by decide) | exact Nat.lt_of_le_of_lt (by assumption) (by decide) | (refine Nat.ne_of_lt ?_; (repeat (first | assumption | refine Nat.lt_trans (by assumption) ?_)); done) | (refine Nat.ne_of_gt ?_; (repeat (first | assumption | refine Nat.lt_trans (by assumption) ?_)); done) | ((repeat (first | assumption | refine Nat.lt_trans (by assumption) ?_)); done)) | omega)
      refine quiet ?_
      intro Q8 hQ8
      k_steps
      refine unhold ?_
      refine imul_int ?_ (mulOk64 (by (first | (with_reducible first | assumption | exact Nat.le_trans (by assumption) (by decide) | exact Nat.lt_of_le_of_lt (by assumption) (by decide) | (refine Nat.ne_of_lt ?_; (repeat (first | assumption | refine Nat.lt_trans (by assumption) ?_)); done) | (refine Nat.ne_of_gt ?_; (repeat (first | assumption | refine Nat.lt_trans (by assumption) ?_)); done) | ((repeat (first | assumption | refine Nat.lt_trans (by assumption) ?_)); done)) | omega)))
      k_steps
      refine unhold ?_
      refine imul_int ?_ (mulOk64 (by (first | (with_reducible first | assumption | exact Nat.le_trans (by assumption) (by decide) | exact Nat.lt_of_le_of_lt (by assumption) (by decide) | (refine Nat.ne_of_lt ?_; (repeat (first | assumption | refine Nat.lt_trans (by assumption) ?_)); done) | (refine Nat.ne_of_gt ?_; (repeat (first | assumption | refine Nat.lt_trans (by assumption) ?_)); done) | ((repeat (first | assumption | refine Nat.lt_trans (by assumption) ?_)); done)) | omega)))
      k_steps
      refine hQ8 _ _ ?_
      k_steps
      refine unhold ?_
      refine kst_end (i + 1, _, _) (by k_asm) (by k_asm) (fun p hp => List.mem_append_left _ hp) (fun p hp => List.mem_append_right _ hp) rfl trivial (List.forall_mem_cons.mpr ⟨by with_unfolding_all rfl, List.forall_mem_cons.mpr ⟨by with_unfolding_all rfl, List.forall_mem_nil _⟩⟩) ?_ ?_
      · intro z h1 h2 _
        have h3 := h2 _ (.head _)
        have h4 := h2 _ (.tail _ (.head _))
        dsimp only at h3 h4
        simp [h1, h3, h4]
      · simp only [List.length_append, List.length_singleton, hp]
    case done =>
      rintro ⟨i, t1, t2⟩ u h tk - hp F N
      dsimp only [kstB] at hp F N ⊢
      rw [rangeKs_length] at hp
      have hB := gaussB_ne i
      have hL := gaussB_log i (by (first | (with_reducible first | assumption | exact Nat.le_trans (by assumption) (by decide) | exact Nat.lt_of_le_of_lt (by assumption) (by decide) | (refine Nat.ne_of_lt ?_; (repeat (first | assumption | refine Nat.lt_trans (by assumption) ?_)); done) | (refine Nat.ne_of_gt ?_; (repeat (first | assumption | refine Nat.lt_trans (by assumption) ?_)); done) | ((repeat (first | assumption | refine Nat.lt_trans (by assumption) ?_)); done)) | omega))
      k_steps
      refine unhold ?_
      refine floordiv_int (by assumption) ?_ (Or.inl (PyProof.noPylong_of_log2 (by assumption)))
      k_steps
      refine hQ9 _ _ ?_
      k_steps
      · have e : gaussF a b = Int.fdiv (gaussA a i) (gaussB i) := by unfold gaussF; rw [if_neg (by (first | (with_reducible first | assumption | exact Nat.le_trans (by assumption) (by decide) | exact Nat.lt_of_le_of_lt (by assumption) (by decide) | (refine Nat.ne_of_lt ?_; (repeat (first | assumption | refine Nat.lt_trans (by assumption) ?_)); done) | (refine Nat.ne_of_gt ?_; (repeat (first | assumption | refine Nat.lt_trans (by assumption) ?_)); done) | ((repeat (first | assumption | refine Nat.lt_trans (by assumption) ?_)); done)) | omega)), hp]
        rw [e] at hret
        exact hret _ _ _ (by k_asm) (by k_asm)
end Mine
end
section
open PySem PySem.W PyProof.Rows Mine
set_option Elab.async false
set_option maxRecDepth 100000
set_option maxHeartbeats 8000000
namespace Mine
open Builtin Builtin.Str in
def find4 (x y : PySem.Str) (i j : Int) : Int := match occurrences x y (fromIndex x.length i) (min (fromIndex x.length j) x.length) 1 with | k :: _ => (k : Int) | [] => -1
open Builtin Builtin.Str in
theorem gives_find4 (x y : PySem.Str) (i j : Int) (t u v v' : Tok) : Gives («str.find» ⟨[.str x t, .str y u, .int i v, .int j v'], []⟩) (.int (find4 x y i j)) := by
  show Gives (match occurrences x y (fromIndex x.length i) (min (fromIndex x.length j) x.length) 1 with | i :: _ => retInt i | [] => (do rule "str.find.not-found"; retInt (-1))) _
  unfold find4
  cases occurrences x y (fromIndex x.length i) (min (fromIndex x.length j) x.length) 1 with
  | nil => exact .rule (.of_eq rfl)
  | cons k _ => exact .of_eq rfl
theorem call_find4 {prog : Program} {w : World} {A : Around} {E : Value → Shared → Prop} {s : Shared} {x y : PySem.Str} {t u v v' : Tok} {i j : Int} {Q : Value → Shared → Prop}
    (hq : Q (.int (find4 x y i j) s.toks) { s with toks := s.toks + 1 }) : wpAny (model prog w) A (call (.builtin "str.find") [.str x t, .str y u, .int i v, .int j v']) Q E s :=
  call_gives F.slot_str_find (typeIs_str _ _ _) F.entry_str_find (F.args_str_find_4 _ _ _ _) (gives_find4 x y i j t u v v') hq
theorem iter_vals {prog : Program} {w : World} {A : Around} {E : Value → Shared → Prop} {s : Shared} {env : Env} {h₀ : Heap} {x : PySem.Str} {body : List Stmt} {Q : Flow → Shared → Prop}
    {l : Addr} {vs : List Value} {nn : Nat} {m₀ : PySem.Str → Option Value} {news : List (Addr × Obj)} (J : Nat → (PySem.Str → Option Value) → List (Addr × Obj) → Prop)
    (hh : A.handled = none) (hl : s.heap.get? l = some (listOf vs.toArray nn)) (hlL : l ≠ env.locals) (hln : ∀ q ∈ news, q.1 ≠ l) (F : Fr h₀ env.locals s.heap m₀) (N : News h₀ env.locals s.heap news) (hj : J 0 m₀ news)
    (turn : ∀ i v m₁ news₁ h tk own, vs[i]? = some v → news₁.map (·.1) = news.map (·.1) → OwnOff own (news.map (·.1)) → J i m₁ news₁ → Fr h₀ env.locals h (fun y => if y = x then some v else m₁ y) → News h₀ env.locals h (news₁ ++ own) →
      wpAny (model prog w) A (execs body env) (InvPostN h₀ env.locals (J (i + 1)) own (news.map (·.1)) { s with heap := h, toks := tk } Q) E { s with heap := h, toks := tk })
    (done : ∀ m₁ news₁ h tk, J vs.length m₁ news₁ → Fr h₀ env.locals h m₁ → News h₀ env.locals h news₁ → Q .next { s with heap := h, toks := tk }) :
    wpAny (model prog w) A (pyIter (.ref l)) (fun it s₂ => LoopAtV prog w A h₀ env x body Q E it s₂) E s := by
  have hls : s.heap.IsList l vs.toArray := ⟨_, hl, rfl, nn, rfl⟩
  have hlt := Heap.lt_size hl
  refine wpAny_pyIter_list hls ?_
  refine loop_invN J (Walks.list hh s.heap.objs.size l (Nat.ne_of_lt hlt) vs.toArray) ?_ ?_ ?_ ?_ ⟨⟨_, Heap.get?_push_size _ rfl, rfl, rfl⟩, hls.at fun o e => Heap.get?_push_of_some _ e⟩ (F.push _) (fun p hp => ⟨Heap.get?_push_of_some _ (N p hp).1, (N p hp).2⟩) hj ?_ ?_
  · intro hm
    rcases List.mem_cons.mp hm with e | hm
    · exact absurd F.ns.lt (e ▸ Nat.lt_irrefl _)
    · exact hlL (List.mem_singleton.mp hm).symm
  · intro b hb
    rw [List.mem_singleton.mp hb]
    exact next_is_new F
  · intro p hp hI
    exact absurd (Heap.lt_size (N p hp).1) ((List.mem_singleton.mp hI) ▸ Nat.lt_irrefl _)
  · intro p hp hI
    rcases List.mem_cons.mp hI with e | hm
    · exact absurd (Heap.lt_size (N p hp).1) (e ▸ Nat.lt_irrefl _)
    · exact hln p hp (List.mem_singleton.mp hm)
  · intro i v m₁ news₁ h tk own _ hP
    exact turn i v m₁ news₁ h tk own (by simpa using hP)
  · intro m₁ news₁ h tk hJ
    exact done m₁ news₁ h tk (by simpa using hJ)
theorem delL_last : ∀ (r : List Value) (v : Value), ki_delL (r ++ [v]) r.length = some r
  | [], _ => rfl
  | x :: r, v => by show (match ki_delL (r ++ [v]) r.length with | some q => some (x :: q) | none => none) = _; rw [delL_last r v]
section led
variable {prog : Program} {w : World} {A : Around} {E : Value → Shared → Prop} {s : Shared} {h₀ : Heap} {L l : Addr} {m : PySem.Str → Option Value} {news : List (Addr × Obj)} {vs : List Value} {n : Nat}
theorem isList_led (N : News h₀ L s.heap news) (hm : (l, listOf vs.toArray n) ∈ news) : s.heap.IsList l vs.toArray := ⟨_, (N _ hm).1, rfl, n, rfl⟩
theorem len_led {Q : Value → Shared → Prop} (N : News h₀ L s.heap news) (hm : (l, listOf vs.toArray n) ∈ news) (hz : vs.length ≤ 1000) (h : Q (.int (vs.length : Int) (s.toks + 1)) { s with toks := s.toks + 1 + 1 }) :
    wpAny (model prog w) A (call (.builtin "len") [.ref l]) Q E s :=
  len_list (isList_led N hm) (by simp; omega) (by simpa using h)
theorem item_led {Q : Value → Shared → Prop} {value slice : Expr} {k : Int} {u : Tok} {v : Value} (N : News h₀ L s.heap news) (hm : (l, listOf vs.toArray n) ∈ news) (h0 : 0 ≤ k) (hk : k < 1000) (hx : vs[k.toNat]? = some v) (h : Q v s)
    (hs : subscripted slice false (.ref l) (.int k u) = operate [.ref l, .int k u] (getItem (.ref l) (.int k u)) := by with_unfolding_all rfl) : wpAny (model prog w) A (subscriptTail value slice (.ref l) (.int k u)) Q E s :=
  tail_any (isList_led N hm).typeIs slot_list_getitem.lookup (wpAny_getItem_list (isList_led N hm) h0 (by omega) (by simpa using hx) h) hs
theorem last_led {Q : Value → Shared → Prop} {value slice : Expr} {u : Tok} {v : Value} {r : List Value} (N : News h₀ L s.heap news) (hm : (l, listOf (r ++ [v]).toArray n) ∈ news) (h : Q v s)
    (hs : subscripted slice false (.ref l) (.int (-1) u) = operate [.ref l, .int (-1) u] (getItem (.ref l) (.int (-1) u)) := by with_unfolding_all rfl) : wpAny (model prog w) A (subscriptTail value slice (.ref l) (.int (-1) u)) Q E s :=
  tail_any (isList_led N hm).typeIs slot_list_getitem.lookup (wpAny_getItem_list_neg (isList_led N hm) (by decide) (by simp; omega) (by decide) (by
    have : (-1 + (((r ++ [v]).toArray.size : Nat) : Int)).toNat = r.length := by simp; omega
    rw [this]; simp) h) hs
theorem del_first_led {Q : Unit → Shared → Prop} {u : Tok} {v : Value} {r : List Value} {news' : List (Addr × Obj)} (F : Fr h₀ L s.heap m) (N : News h₀ L s.heap news) (U : Upd l (listOf (v :: r).toArray n) (listOf r.toArray (n + 1)) news news') (hz : r.length ≤ 1000)
    (h : ∀ h', Fr h₀ L h' m → News h₀ L h' news' → Q () { s with heap := h' }) : wpAny (model prog w) A (delItem (.ref l) (.int 0 u)) Q E s :=
  ki_del F N (by decide) (k := 0) (by simp [seqIndex?]) (q := r) (by rfl) U (by simp [sizeLine_eq]; omega) h
theorem del_last_led {Q : Unit → Shared → Prop} {u : Tok} {v : Value} {r : List Value} {news' : List (Addr × Obj)} (F : Fr h₀ L s.heap m) (N : News h₀ L s.heap news) (U : Upd l (listOf (r ++ [v]).toArray n) (listOf r.toArray (n + 1)) news news') (hz : r.length ≤ 1000)
    (h : ∀ h', Fr h₀ L h' m → News h₀ L h' news' → Q () { s with heap := h' }) : wpAny (model prog w) A (delItem (.ref l) (.int (-1) u)) Q E s :=
  ki_del F N (by decide) (k := r.length) (by simp [seqIndex?]; omega) (q := r) (by simpa using delL_last r v) U (by simp [sizeLine_eq]; omega) h
end led
def findsF (got : PySem.Str) (ep : Int) : List PySem.Str → Int → Bool
  | [], _ => true
  | w :: r, sp => if find4 got w sp ep < 0 then false else findsF got ep r (find4 got w sp ep + w.length)
def ellF (p : PySem.Str) (mid : List PySem.Str) (z : PySem.Str) (got : PySem.Str) : Bool :=
  if p.length ≠ 0 ∧ Txt.startswith got p = false then false
  else if z.length ≠ 0 ∧ Txt.endswith got z = false then false
  else if (got.length : Int) - z.length < p.length then false
  else findsF got ((got.length : Int) - z.length) ((if p.length = 0 then [p] else []) ++ mid ++ (if z.length = 0 then [z] else [])) p.length
end Mine
end
section
open PySem PySem.W PyProof.Rows Mine
set_option Elab.async false
set_option maxRecDepth 100000
set_option maxHeartbeats 1500000
namespace Mine
local macro_rules | `(tactic| walk_at "eval Name") => `(tactic| (with_unfolding_all refine' nameCell ?k1 ?k2 ?k3 ?k4 ?k5 ?k6 ?_; (case k1 => exact rfl); (case k2 => exact rfl); (case k3 => exact rfl); (case k4 => k_asm); (case k5 => k_mem); (case k6 => assumption)))
theorem ints_snoc {ys : List Value} {l : List Int} {a : Int} {t : Tok} (h : IntsAre ys l) : IntsAre (ys ++ [Value.int a t]) (l ++ [a]) := by
  induction h with
  | nil => exact .cons _ _ .nil
  | cons n t _ ih => exact .cons _ _ ih
def fallAt (word : Str) (k : Nat) : Bool := decide ((Txt.item word (1 + (k : Int))).cps.toList < (Txt.item word (1 + (k : Int) - 1)).cps.toList)
def dropsF (word : Str) (i : Nat) : List Int := ((List.range i).filter (fallAt word)).map fun (k : Nat) => (1 : Int) + (k : Int)
theorem dropsF_t {word : Str} {i : Nat} (h : (Txt.item word (1 + (i : Int))).cps.toList < (Txt.item word (1 + (i : Int) - 1)).cps.toList) : dropsF word (i + 1) = dropsF word i ++ [1 + (i : Int)] := by
  have e : fallAt word i = true := decide_eq_true h
  simp [dropsF, List.range_succ, e]
theorem dropsF_f {word : Str} {i : Nat} (h : ¬ (Txt.item word (1 + (i : Int))).cps.toList < (Txt.item word (1 + (i : Int) - 1)).cps.toList) : dropsF word (i + 1) = dropsF word i := by
  have e : fallAt word i = false := decide_eq_false h
  simp [dropsF, List.range_succ, e]
theorem dropsF_le (word : Str) (i : Nat) : (dropsF word i).length ≤ i := by
  unfold dropsF
  rw [List.length_map]
  exact Nat.le_trans (List.length_filter_le _ _) (by simp)
theorem drops_c {w : World} {mean} {mg mb} (word : Str) (ta : Tok) (news : List (Addr × Obj)) (hz : word.length ≤ 50) :
  MClaim w mean mg mb 125 news [.str word ta] 2 (fun s Q h₀ L m => ∀ (D : Addr) (ys : List Value) (nD : Nat) (h' : Heap) (tk' : Nat), IntsAre ys (dropsF word (word.length - 1)) → (∀ q ∈ news, q.1 < D) → Fr h₀ L h' m → News h₀ L h' ((D, lsO ys nD) :: news) → Q (.ref D) { s with heap := h', toks := tk' }) := by
  dsimp only [MClaim, PRG]; k_fill; intro dp un h₀ L m s Q E F₀ X₀ N₀ T₀ hroom hunits hret
  have k1 := held "pyIter ref"
  refine wpAny_call ?_
  k_dflt (refine' enterC ?k2 ?k3 ?k4 ?k5 ?k6 ?k7 ?k8 ?k9 ?kB ?kD ?_ ?c2 ?c3 ?c4; (case k2 => k_asm); (case k3 => k_asm); (case k4 => k_asm); (case k5 => k_asm); (case k6 => k_is); (case k7 => k_is); (case k8 => exact rm0 hroom); (case k9 => exact BindsTo.of_eq rfl); (case kB => exact rfl); (case kD => decide +kernel); (case c2 => exact rfl); (case c3 => exact rfl); (case c4 => exact rfl); k_whole; intro _ _ _ _ _ _ N' Y' _ _ _; k_cells Y'; (try simp only [List.cons_append, List.nil_append] at N'); (try dsimp only); (try k_fold))
  refine quiet ?_
  intro Q9 hQ9
  k_steps
  all_goals try (refine hQ9 _ _ ?_; k_steps)
  refine unhold ?_
  rename IsRange _ _ _ _ _ _ _ _ => hr
  rename News _ _ _ _ => N1
  rename Fr _ _ _ _ => F1
  refine compRange (n := word.length - 1) [] _ (fun i ys nx gs => nx = [] ∧ gs = s.gens ∧ IntsAre ys (dropsF word i)) rfl hr ?small ?size (by omega) F1 N1 ⟨rfl, rfl, .nil⟩ ?len ?turn ?done
  case small => exact small_l (by decide) (by decide) hz (by decide)
  case size => exact size_l1
  case len =>
    rintro i ys nx gs ⟨-, -, hy⟩
    rw [hy.length]
    exact dropsF_le _ _
  case turn =>
    rintro g C D i tv ys nD news₁ gs h tk m₁ own E' hi ⟨rfl, rfl, hys⟩ - hown hlt hlo hDC st FG F N
    have X1 := (by assumption : (hd.heap_1 w.params).In _).keeps st
    have T1 := (by assumption : Top topProg looseT mean mg mb _).keeps st
    dsimp only [List.nil_append] at N ⊢
    k_steps
    all_goals try (refine hQ9 _ _ ?_; k_steps)
    all_goals try k_data
    · exact ⟨_, _, _, _, [], rfl, F, N, rfl, rfl, rfl, by rw [dropsF_t (by assumption)]; exact ints_snoc hys⟩
    · exact ⟨_, _, _, _, [], rfl, F, N, rfl, rfl, rfl, by rw [dropsF_f (by assumption)]; exact hys⟩
  case done =>
    rintro D ys nD news₁ gs h' tk ⟨rfl, rfl, hys⟩ - hlt F N
    dsimp only [List.nil_append] at N hlt ⊢
    k_steps
    all_goals try (refine hQ9 _ _ ?_; k_steps)
    exact hret _ _ _ _ _ hys (fun q hq => hlt q (.tail _ hq)) (by k_asm) (fun q hq => (by assumption : News h₀ L _ _) q (by rcases List.mem_cons.mp hq with rfl | hq; exact .head _; exact .tail _ (.tail _ hq)))
end Mine
end
section
open PySem PySem.W PyProof.Rows Mine
set_option Elab.async false
set_option maxRecDepth 100000
set_option maxHeartbeats 1500000
namespace Mine

def inQ (c : Nat) : Bool := !(Builtin.Str.occurrences (Str.ofString "\"\\") { cps := #[c] } 0 (Str.ofString "\"\\").length 1).isEmpty
def bareS (c : Nat) : Str := Str.ofString "\\" ++ { cps := #[c] }
def quoteS (c : Nat) : Str := if inQ c then bareS c else { cps := #[c] }
theorem len_bareS (c : Nat) : (bareS c).length = 2 := by
  unfold bareS; rw [Str.length_append]; rfl
theorem len_quoteS (c : Nat) : (quoteS c).length ≤ 2 := by
  unfold quoteS
  split
  · rw [len_bareS]; exact Nat.le_refl _
  · exact Nat.le_succ _
def writtenF (word : Str) (way : Int) : Str :=
  if way.fmod 2 = 0 then Str.ofString "\"" ++ Txt.join (Str.ofString "") (word.cps.toList.map quoteS) ++ Str.ofString "\""
  else Txt.join (Str.ofString "") (word.cps.toList.map bareS) ++ Txt.item (Str.ofString "\n\t\r ") ((way.fdiv 2).fmod 4)
theorem strs_snoc {ys : List Value} {l : List Str} {a : Str} {t : Tok} (h : StrsAre ys l) : StrsAre (ys ++ [Value.str a t]) (l ++ [a]) := by
  induction h with
  | nil => exact .cons _ _ .nil
  | cons n t _ ih => exact .cons _ _ ih
theorem strs_len {ys : List Value} {l : List Str} (h : StrsAre ys l) : ys.length = l.length := by
  induction h with
  | nil => rfl
  | cons n t _ ih => simp [ih]
theorem take_snoc {α β : Type} {l : List α} {i : Nat} {a : α} (f : α → β) (h : l[i]? = some a) : (l.take (i + 1)).map f = (l.take i).map f ++ [f a] := by
  rw [List.take_add_one, h]; simp
theorem sum_le2 {f : Nat → Str} (hf : ∀ c, (f c).length ≤ 2) (l : List Nat) : ((l.map f).map (·.length)).sum ≤ 2 * l.length := by
  induction l with
  | nil => simp
  | cons a l ih => have := hf a; simp only [List.map_cons, List.sum_cons, List.length_cons] at *; (first | (with_reducible first | assumption | exact Nat.le_trans (by assumption) (by decide) | exact Nat.lt_of_le_of_lt (by assumption) (by decide) | (refine Nat.ne_of_lt ?_; (repeat (first | assumption | refine Nat.lt_trans (by assumption) ?_)); done) | (refine Nat.ne_of_gt ?_; (repeat (first | assumption | refine Nat.lt_trans (by assumption) ?_)); done) | ((repeat (first | assumption | refine Nat.lt_trans (by assumption) ?_)); done)) | omega)
theorem size_len (word : Str) : word.cps.toList.length = word.length := by simp [Str.length]
theorem written_c {w : World} {mean} {mg mb} (word : Str) (way : Int) (ta tb : Tok) (news : List (Addr × Obj)) (h1 : 1 ≤ word.length) (h2 : word.length ≤ 5) (h3 : 0 ≤ way) (h4 : way < 1000000000) :
  MClaim w mean mg mb 96 news [.str word ta, .int way tb] 3 (fun s Q h₀ L m => ∀ (t : Tok) (h' : Heap) (tk' : Nat), Fr h₀ L h' m → News h₀ L h' news → Q (.str (writtenF word way) t) { s with heap := h', toks := tk' }) := by
  dsimp only [MClaim, PRG]; k_fill; intro dp un h₀ L m s Q E F₀ X₀ N₀ T₀ hroom hunits hret
  have k1 := held "pyIter ref"
  have k2 := held "pyIter str"
  refine wpAny_call ?_
  k_dflt (refine' enterP ?k2 ?k3 ?k4 ?k5 ?k6 ?k7 ?k8 ?k9 ?kB ?_ ?c2 ?c3 ?c4 ?c5; (case k2 => k_asm); (case k3 => k_asm); (case k4 => k_asm); (case k5 => k_asm); (case k6 => k_is); (case k7 => k_is); (case k8 => exact rm0 hroom); (case k9 => exact BindsTo.of_eq rfl); (case c5 => decide); (case kB => exact locs rfl); (case c2 => exact rfl); (case c3 => exact rfl); (case c4 => exact rfl); k_whole; intro _ _ _ _ _ _ _ _; (try dsimp only); (try k_fold))
  rename Fr _ _ _ _ => F
  replace F := (show Fr _ _ _ (fun y => List.lookup y [(Str.ofString "way", Value.int way tb), (Str.ofString "word", Value.str word ta)]) from F)
  refine quiet ?_
  intro Q9 hQ9
  k_steps
  all_goals try (refine hQ9 _ _ ?_; k_steps)
  all_goals try k_data
  · refine unhold ?_
    have hwl := size_len word
    have hws : word.cps.size = word.length := rfl
    refine compStr [] news (fun i ys nx gs => nx = [] ∧ gs = s.gens ∧ StrsAre ys ((word.cps.toList.take i).map quoteS)) rfl ?size (by k_asm) (by k_asm) ⟨rfl, rfl, .nil⟩ ?len ?turn ?done
    case size => (first | (with_reducible first | assumption | exact Nat.le_trans (by assumption) (by decide) | exact Nat.lt_of_le_of_lt (by assumption) (by decide) | (refine Nat.ne_of_lt ?_; (repeat (first | assumption | refine Nat.lt_trans (by assumption) ?_)); done) | (refine Nat.ne_of_gt ?_; (repeat (first | assumption | refine Nat.lt_trans (by assumption) ?_)); done) | ((repeat (first | assumption | refine Nat.lt_trans (by assumption) ?_)); done)) | omega)
    case len =>
      rintro i ys nx gs ⟨-, -, hy⟩
      rw [strs_len hy]
      simp
      (first | (with_reducible first | assumption | exact Nat.le_trans (by assumption) (by decide) | exact Nat.lt_of_le_of_lt (by assumption) (by decide) | (refine Nat.ne_of_lt ?_; (repeat (first | assumption | refine Nat.lt_trans (by assumption) ?_)); done) | (refine Nat.ne_of_gt ?_; (repeat (first | assumption | refine Nat.lt_trans (by assumption) ?_)); done) | ((repeat (first | assumption | refine Nat.lt_trans (by assumption) ?_)); done)) | omega)
    case turn =>
      rintro g C D i ch tv ys nD news₁ gs h tk m₁ own E' hi ⟨rfl, rfl, hys⟩ - hown hlt hlo hDC st FG F N
      have X1 := (by assumption : (hd.heap_1 w.params).In _).keeps st
      have T1 := (by assumption : Top topProg looseT mean mg mb _).keeps st
      dsimp only [List.nil_append] at N ⊢
      k_steps
      all_goals try (refine hQ9 _ _ ?_; k_steps)
      all_goals try k_data
      · refine ⟨_, _, _, _, [], rfl, by k_asm, by k_asm, rfl, rfl, rfl, ?_⟩
        have e : quoteS ch = { cps := #[ch] } := by
          have hq : (Builtin.Str.occurrences (Str.ofString "\"\\") { cps := #[ch] } 0 (Str.ofString "\"\\").length 1).isEmpty = true := by assumption
          unfold quoteS inQ
          rw [hq]
          rfl
        rw [take_snoc quoteS (by simpa using hi), e]
        exact strs_snoc hys
      · refine ⟨_, _, _, _, [], rfl, by k_asm, by k_asm, rfl, rfl, rfl, ?_⟩
        have e : quoteS ch = bareS ch := by
          have hq : (Builtin.Str.occurrences (Str.ofString "\"\\") { cps := #[ch] } 0 (Str.ofString "\"\\").length 1).isEmpty = false := by assumption
          unfold quoteS inQ
          rw [hq]
          rfl
        rw [take_snoc quoteS (by simpa using hi), e]
        exact strs_snoc hys
    case done =>
      rintro D ys nD news₁ gs h' tk ⟨rfl, rfl, hys⟩ - hlt F N
      rw [List.take_of_length_le (by (first | (with_reducible first | assumption | exact Nat.le_trans (by assumption) (by decide) | exact Nat.lt_of_le_of_lt (by assumption) (by decide) | (refine Nat.ne_of_lt ?_; (repeat (first | assumption | refine Nat.lt_trans (by assumption) ?_)); done) | (refine Nat.ne_of_gt ?_; (repeat (first | assumption | refine Nat.lt_trans (by assumption) ?_)); done) | ((repeat (first | assumption | refine Nat.lt_trans (by assumption) ?_)); done)) | omega))] at hys
      dsimp only [List.nil_append] at N hlt ⊢
      k_steps
      all_goals try (refine hQ9 _ _ ?_; k_steps)
      refine' join_list (isList_led N (.head _)) hys (hold ?_) ?_
      · refine unhold ?_
        have := sum_le2 (f := quoteS) (fun c => len_quoteS c) word.cps.toList
        have e0 : (Str.ofString "").length = 0 := rfl
        rw [e0]; (first | (with_reducible first | assumption | exact Nat.le_trans (by assumption) (by decide) | exact Nat.lt_of_le_of_lt (by assumption) (by decide) | (refine Nat.ne_of_lt ?_; (repeat (first | assumption | refine Nat.lt_trans (by assumption) ?_)); done) | (refine Nat.ne_of_gt ?_; (repeat (first | assumption | refine Nat.lt_trans (by assumption) ?_)); done) | ((repeat (first | assumption | refine Nat.lt_trans (by assumption) ?_)); done)) | omega)
      · intro t' k'
        have hjl : (Txt.join (Str.ofString "") (word.cps.toList.map quoteS)).length ≤ 20 := by
          have h := StrLaws.join_length_le (Str.ofString "") (word.cps.toList.map quoteS)
          have e := StrLaws.glued_eq_join (Str.ofString "") (word.cps.toList.map quoteS)
          have q := sum_le2 (f := quoteS) (fun c => len_quoteS c) word.cps.toList
          have e0 : (Str.ofString "").length = 0 := rfl
          rw [← e, e0] at h
          exact Nat.le_trans h (by (first | (with_reducible first | assumption | exact Nat.le_trans (by assumption) (by decide) | exact Nat.lt_of_le_of_lt (by assumption) (by decide) | (refine Nat.ne_of_lt ?_; (repeat (first | assumption | refine Nat.lt_trans (by assumption) ?_)); done) | (refine Nat.ne_of_gt ?_; (repeat (first | assumption | refine Nat.lt_trans (by assumption) ?_)); done) | ((repeat (first | assumption | refine Nat.lt_trans (by assumption) ?_)); done)) | omega))
        dsimp only
        k_steps
        all_goals try (refine hQ9 _ _ ?_; k_steps)
        have e : writtenF word way = Str.ofString "\"" ++ Txt.join (Str.ofString "") (word.cps.toList.map quoteS) ++ Str.ofString "\"" := by
          unfold writtenF; rw [if_pos (by assumption)]
        rw [e] at hret
        exact hret _ _ _ (by k_asm) (news_t (by k_asm))
  · have hw : word = Str.ofString "" := beq_iff_eq.mp (by assumption)
    rw [hw] at h1
    exact absurd h1 (by decide)
  · refine unhold ?_
    have hwl := size_len word
    have hws : word.cps.size = word.length := rfl
    refine compStr [] news (fun i ys nx gs => nx = [] ∧ gs = s.gens ∧ StrsAre ys ((word.cps.toList.take i).map bareS)) rfl ?size (by k_asm) (by k_asm) ⟨rfl, rfl, .nil⟩ ?len ?turn ?done
    case size => (first | (with_reducible first | assumption | exact Nat.le_trans (by assumption) (by decide) | exact Nat.lt_of_le_of_lt (by assumption) (by decide) | (refine Nat.ne_of_lt ?_; (repeat (first | assumption | refine Nat.lt_trans (by assumption) ?_)); done) | (refine Nat.ne_of_gt ?_; (repeat (first | assumption | refine Nat.lt_trans (by assumption) ?_)); done) | ((repeat (first | assumption | refine Nat.lt_trans (by assumption) ?_)); done)) | omega)
    case len =>
      rintro i ys nx gs ⟨-, -, hy⟩
      rw [strs_len hy]
      simp
      (first | (with_reducible first | assumption | exact Nat.le_trans (by assumption) (by decide) | exact Nat.lt_of_le_of_lt (by assumption) (by decide) | (refine Nat.ne_of_lt ?_; (repeat (first | assumption | refine Nat.lt_trans (by assumption) ?_)); done) | (refine Nat.ne_of_gt ?_; (repeat (first | assumption | refine Nat.lt_trans (by assumption) ?_)); done) | ((repeat (first | assumption | refine Nat.lt_trans (by assumption) ?_)); done)) | omega)
    case turn =>
      rintro g C D i ch tv ys nD news₁ gs h tk m₁ own E' hi ⟨rfl, rfl, hys⟩ - hown hlt hlo hDC st FG F N
      have X1 := (by assumption : (hd.heap_1 w.params).In _).keeps st
      have T1 := (by assumption : Top topProg looseT mean mg mb _).keeps st
      dsimp only [List.nil_append] at N ⊢
      k_steps
      all_goals try (refine hQ9 _ _ ?_; k_steps)
      all_goals try k_data
      refine ⟨_, _, _, _, [], rfl, by k_asm, by k_asm, rfl, rfl, rfl, ?_⟩
      rw [take_snoc bareS (by simpa using hi)]
      exact strs_snoc hys
    case done =>
      rintro D ys nD news₁ gs h' tk ⟨rfl, rfl, hys⟩ - hlt F N
      rw [List.take_of_length_le (by (first | (with_reducible first | assumption | exact Nat.le_trans (by assumption) (by decide) | exact Nat.lt_of_le_of_lt (by assumption) (by decide) | (refine Nat.ne_of_lt ?_; (repeat (first | assumption | refine Nat.lt_trans (by assumption) ?_)); done) | (refine Nat.ne_of_gt ?_; (repeat (first | assumption | refine Nat.lt_trans (by assumption) ?_)); done) | ((repeat (first | assumption | refine Nat.lt_trans (by assumption) ?_)); done)) | omega))] at hys
      dsimp only [List.nil_append] at N hlt ⊢
      k_steps
      all_goals try (refine hQ9 _ _ ?_; k_steps)
      refine' join_list (isList_led N (.head _)) hys (hold ?_) ?_
      · refine unhold ?_
        have := sum_le2 (f := bareS) (fun c => Nat.le_of_eq (len_bareS c)) word.cps.toList
        have e0 : (Str.ofString "").length = 0 := rfl
        rw [e0]; (first | (with_reducible first | assumption | exact Nat.le_trans (by assumption) (by decide) | exact Nat.lt_of_le_of_lt (by assumption) (by decide) | (refine Nat.ne_of_lt ?_; (repeat (first | assumption | refine Nat.lt_trans (by assumption) ?_)); done) | (refine Nat.ne_of_gt ?_; (repeat (first | assumption | refine Nat.lt_trans (by assumption) ?_)); done) | ((repeat (first | assumption | refine Nat.lt_trans (by assumption) ?_)); done)) | omega)
      · intro t' k'
        have hjl : (Txt.join (Str.ofString "") (word.cps.toList.map bareS)).length ≤ 20 := by
          have h := StrLaws.join_length_le (Str.ofString "") (word.cps.toList.map bareS)
          have e := StrLaws.glued_eq_join (Str.ofString "") (word.cps.toList.map bareS)
          have q := sum_le2 (f := bareS) (fun c => Nat.le_of_eq (len_bareS c)) word.cps.toList
          have e0 : (Str.ofString "").length = 0 := rfl
          rw [← e, e0] at h
          exact Nat.le_trans h (by (first | (with_reducible first | assumption | exact Nat.le_trans (by assumption) (by decide) | exact Nat.lt_of_le_of_lt (by assumption) (by decide) | (refine Nat.ne_of_lt ?_; (repeat (first | assumption | refine Nat.lt_trans (by assumption) ?_)); done) | (refine Nat.ne_of_gt ?_; (repeat (first | assumption | refine Nat.lt_trans (by assumption) ?_)); done) | ((repeat (first | assumption | refine Nat.lt_trans (by assumption) ?_)); done)) | omega))
        dsimp only
        k_steps
        all_goals try (refine hQ9 _ _ ?_; k_steps)
        have e : writtenF word way = Txt.join (Str.ofString "") (word.cps.toList.map bareS) ++ Txt.item (Str.ofString "\n\t\r ") ((way.fdiv 2).fmod 4) := by
          unfold writtenF; rw [if_neg (by assumption)]
        rw [e] at hret
        exact hret _ _ _ (by k_asm) (news_t (by k_asm))
end Mine
end
local macro_rules | `(tactic| k_all) => `(tactic| first | assumption | exact LtAll.ne (by assumption) | exact LtAll.neg (by assumption) (by omega) | (intro p hp; first | (have := ltN ((by assumption : LtAll _ _) p hp); exact neN (by omega))))
section
open PySem PySem.W PyProof.Rows Mine
set_option Elab.async false
set_option maxRecDepth 100000
set_option maxHeartbeats 1500000
namespace Mine
def chVals (l : List (Nat × Tok)) : List Value := l.map fun p => .str ⟨#[p.1]⟩ p.2
theorem chVals_len (l : List (Nat × Tok)) : (chVals l).length = l.length := by simp [chVals]
theorem chVals_cons (p : Nat × Tok) (l : List (Nat × Tok)) : chVals (p :: l) = .str ⟨#[p.1]⟩ p.2 :: chVals l := rfl
theorem list_str_led {prog : Program} {w : World} {A : Around} {E : Value → Shared → Prop} {s : Shared} {h₀ : Heap} {L : Addr} {m : Str → Option Value} {Q : Value → Shared → Prop} {x : Str} {t : Tok} {news : List (Addr × Obj)} (hh : A.handled = none) (F : Fr h₀ L s.heap m) (N : News h₀ L s.heap news)
    (hsz : x.length ≤ 10000)
    (h : ∀ (D : Addr) (l : List (Nat × Tok)) (c : Nat) (h' : Heap) (tk : Nat), l.map (·.1) = x.cps.toList → LtAll D news → Fr h₀ L h' m → News h₀ L h' ((D, PySem.W.listOf (chVals l).toArray c) :: news) → Q (.ref D) { s with heap := h', toks := tk }) :
    wpAny (model prog w) A (call (.type "list") [.str x t]) Q E s := by
  refine call_list_str hh x t (hn := by rw [sizeLine_eq]; show x.length ≤ _; (first | (with_reducible first | assumption | exact Nat.le_trans (by assumption) (by decide) | exact Nat.lt_of_le_of_lt (by assumption) (by decide) | (refine Nat.ne_of_lt ?_; (repeat (first | assumption | refine Nat.lt_trans (by assumption) ?_)); done) | (refine Nat.ne_of_gt ?_; (repeat (first | assumption | refine Nat.lt_trans (by assumption) ?_)); done) | ((repeat (first | assumption | refine Nat.lt_trans (by assumption) ?_)); done)) | omega)) fun h' tk acc' c' hk hS' hacc => ?_
  have key : ∃ l : List (Nat × Tok), l.map (·.1) = x.cps.toList ∧ acc'.toList = chVals l := by
    have hlen := hacc.1
    have hit := hacc.2
    have gen : ∀ (vs : List Value) (cs : List Nat), vs.length = cs.length → (∀ (j : Nat) v, vs[j]? = some v → ∃ c u, cs[j]? = some c ∧ v = .str ⟨#[c]⟩ u) → ∃ l : List (Nat × Tok), l.map (·.1) = cs ∧ vs = chVals l := by
      intro vs
      induction vs with
      | nil => intro cs hl _; cases cs with | nil => exact ⟨[], rfl, rfl⟩ | cons => cases hl
      | cons v vs ih =>
        intro cs hl hv
        cases cs with
        | nil => cases hl
        | cons c cs =>
          obtain ⟨c', u, hc, hv0⟩ := hv 0 v rfl
          cases hc
          obtain ⟨l, h1, h2⟩ := ih cs (by simpa using hl) (fun j v' hj => hv (j + 1) v' (by simpa using hj))
          exact ⟨(c, u) :: l, by simp [h1], by rw [chVals_cons, ← h2, hv0]⟩
    refine gen acc'.toList x.cps.toList (by simpa using hlen) fun j v hj => ?_
    obtain ⟨c, u, hc, rfl⟩ := hit j v (by simpa using hj)
    exact ⟨c, u, by simpa using hc, rfl⟩
  obtain ⟨l, h1, h2⟩ := key
  have hlt : LtAll s.heap.objs.size news := fun p hp => Heap.lt_size (N p hp).1
  refine h _ l c' h' tk h1 hlt (F.keeps hk) ?_
  intro p hp
  rcases List.mem_cons.mp hp with rfl | hp
  · refine ⟨?_, ?_, ?_⟩
    · have e : acc' = (chVals l).toArray := by rw [← h2]
      rw [e] at hS'
      exact hS'
    · have := F.ns.lt
      exact Nat.ne_of_gt this
    · cases e : h₀.get? s.heap.objs.size with
      | none => rfl
      | some o => exact absurd (Heap.lt_size (F.keep _ _ e)) (Nat.lt_irrefl _)
  · exact ⟨hk _ _ (N p hp).1, (N p hp).2⟩
theorem pop_led {prog : Program} {w : World} {A : Around} {E : Value → Shared → Prop} {s : Shared} {h₀ : Heap} {L D : Addr} {m : Str → Option Value} {Q : Value → Shared → Prop} {news news' : List (Addr × Obj)} {vs : List Value} {n : Nat} {i : Int} {u : Tok} {v : Value} (F : Fr h₀ L s.heap m) (N : News h₀ L s.heap news)
    (U : Upd D (PySem.W.listOf vs.toArray n) (PySem.W.listOf (vs.eraseIdx i.toNat).toArray (n + 1)) news news') (h0 : 0 ≤ i) (hlen : vs.length ≤ 1000) (hv : vs[i.toNat]? = some v)
    (h : ∀ h', Fr h₀ L h' m → News h₀ L h' news' → Q v { s with heap := h' }) : wpAny (model prog w) A (call (.builtin "list.pop") [.ref D, .int i u]) Q E s := by
  have cut : ∀ (l : List Value) (k : Nat) (y : Value), l[k]? = some y → kl_cut l k = some (l.take k, y, l.drop (k + 1)) := by
    intro l
    induction l with
    | nil => intro k y h; cases h
    | cons a l ih =>
      intro k y h
      cases k with
      | zero => cases h; rfl
      | succ k =>
        have := ih k y (by simpa using h)
        show (match kl_cut l k with | some (p, y, q) => some (a :: p, y, q) | none => none) = _
        rw [this]; rfl
  obtain ⟨hlt, -⟩ := List.getElem?_eq_some_iff.mp hv
  have e : vs.eraseIdx i.toNat = vs.take i.toNat ++ vs.drop (i.toNat + 1) := List.eraseIdx_eq_take_drop_succ ..
  rw [e] at U
  refine kl_popAt F N (k := i.toNat) (p := vs.take i.toNat) (q := vs.drop (i.toNat + 1)) (y := v) ?_ ?_ ?_ U ?_ h
  · unfold Builtin.List.listFitsIndex; simp; (first | (with_reducible first | assumption | exact Nat.le_trans (by assumption) (by decide) | exact Nat.lt_of_le_of_lt (by assumption) (by decide) | (refine Nat.ne_of_lt ?_; (repeat (first | assumption | refine Nat.lt_trans (by assumption) ?_)); done) | (refine Nat.ne_of_gt ?_; (repeat (first | assumption | refine Nat.lt_trans (by assumption) ?_)); done) | ((repeat (first | assumption | refine Nat.lt_trans (by assumption) ?_)); done)) | omega)
  · exact seqIndex_of h0 (by simp only [List.size_toArray]; (first | (with_reducible first | assumption | exact Nat.le_trans (by assumption) (by decide) | exact Nat.lt_of_le_of_lt (by assumption) (by decide) | (refine Nat.ne_of_lt ?_; (repeat (first | assumption | refine Nat.lt_trans (by assumption) ?_)); done) | (refine Nat.ne_of_gt ?_; (repeat (first | assumption | refine Nat.lt_trans (by assumption) ?_)); done) | ((repeat (first | assumption | refine Nat.lt_trans (by assumption) ?_)); done)) | omega))
  · exact cut _ _ _ (by simpa using hv)
  · simp [sizeLine_eq]; (first | (with_reducible first | assumption | exact Nat.le_trans (by assumption) (by decide) | exact Nat.lt_of_le_of_lt (by assumption) (by decide) | (refine Nat.ne_of_lt ?_; (repeat (first | assumption | refine Nat.lt_trans (by assumption) ?_)); done) | (refine Nat.ne_of_gt ?_; (repeat (first | assumption | refine Nat.lt_trans (by assumption) ?_)); done) | ((repeat (first | assumption | refine Nat.lt_trans (by assumption) ?_)); done)) | omega)
theorem eraseIdx_map' {α β : Type} (f : α → β) : ∀ (l : List α) (i : Nat), (l.map f).eraseIdx i = (l.eraseIdx i).map f
  | [], _ => rfl
  | _ :: _, 0 => rfl
  | a :: l, i + 1 => by simp [eraseIdx_map' f l i]
def pickF : Nat → List Nat → Int → List Nat
  | 0, _, _ => []
  | n + 1, ws, k => ws.getD (k.fmod ws.length).toNat 0 :: pickF n (ws.eraseIdx (k.fmod ws.length).toNat) (k.fdiv ws.length)

def menu8 : List Nat := [9, 10, 32, 34, 35, 77, 92, 122]
def pickS (k : Int) : Str := ⟨(pickF 5 menu8 k).toArray⟩
theorem picked_c {w : World} {mean} {mg mb} (k : Int) (ta : Tok) (news : List (Addr × Obj)) (h0 : 0 ≤ k) (h8 : k < 1000000000) :
  MClaim w mean mg mb 103 news [.int k ta] 2 (fun s Q h₀ L m => ∀ (t : Tok) (h' : Heap) (tk' : Nat), Fr h₀ L h' m → News h₀ L h' news → Q (.str (pickS k) t) { s with heap := h', toks := tk' }) := by
  dsimp only [MClaim, PRG]; k_fill; intro dp un h₀ L m s Q E F₀ X₀ N₀ T₀ hroom hunits hret
  have k1 := held "pyIter ref"
  have k2 := held "InvEndN"
  have k3 := held "call builtin:len cons nil"
  have k4 := held "call builtin:list.pop"
  have k5 := held "call type:list"
  refine wpAny_call ?_
  k_dflt (refine' enterP ?k2 ?k3 ?k4 ?k5 ?k6 ?k7 ?k8 ?k9 ?kB ?_ ?c2 ?c3 ?c4 ?c5; (case k2 => k_asm); (case k3 => k_asm); (case k4 => k_asm); (case k5 => k_asm); (case k6 => k_is); (case k7 => k_is); (case k8 => exact rm0 hroom); (case k9 => exact BindsTo.of_eq rfl); (case c5 => decide); (case kB => exact locs rfl); (case c2 => exact rfl); (case c3 => exact rfl); (case c4 => exact rfl); k_whole; intro _ _ _ _ _ _ _ _; (try dsimp only); (try k_fold))
  rename Fr _ _ _ _ => F
  replace F := (show Fr _ _ _ (fun y => List.lookup y [(Str.ofString "number", Value.int k ta)]) from F)
  refine quiet ?_
  intro Q9 hQ9
  k_steps
  all_goals try (refine hQ9 _ _ ?_; k_steps)
  refine unhold ?_
  refine list_str_led rfl (by k_asm) (by k_asm) (by decide) ?_
  intro D l8 c8 h1 tk1 hl8 hD F1 N1
  replace hl8 := (show List.map (fun x : Nat × Tok => x.1) _ = menu8 from hl8)
  have hl8n : l8.length = 8 := by rw [← List.length_map (f := fun x : Nat × Tok => x.1), hl8]; rfl
  dsimp only
  k_steps
  all_goals try (refine hQ9 _ _ ?_; k_steps)
  refine unhold ?_
  rename IsRange _ _ _ _ _ _ _ _ => hr
  refine' kst_range (σ := List (Nat × Tok) × Nat × Str × Int × Tok × Tok) (n := 5) (fun c => (D, PySem.W.listOf (chVals c.1).toArray c.2.1) :: news) (fun c => [(Str.ofString "picked", .str c.2.2.1 c.2.2.2.2.1), (Str.ofString "number", .int c.2.2.2.1 c.2.2.2.2.2), (Str.ofString "signs", .ref D)]) (fun c => 0 ≤ c.2.2.2.1 ∧ c.2.2.2.1 < 1000000000) [Str.ofString "count"]
    (fun pre c => c.1.length = 8 - pre.length ∧ c.2.2.1.length = pre.length ∧ c.2.2.1.cps.toList ++ pickF (5 - pre.length) (c.1.map (·.1)) c.2.2.2.1 = pickF 5 menu8 k) (l8, c8, Str.ofString "", k, ?tx, ?ty) rfl hr (by decide) (by decide) (by k_asm) (by k_asm) ⟨h0, h8⟩ ?hk ⟨hl8n, rfl, by rw [hl8]; rfl⟩ ?turn ?done
  case hk => exact List.forall_mem_cons.mpr ⟨by with_unfolding_all rfl, List.forall_mem_cons.mpr ⟨by with_unfolding_all rfl, List.forall_mem_cons.mpr ⟨by with_unfolding_all rfl, List.forall_mem_nil _⟩⟩⟩
  case turn =>
    rintro ⟨l, n, pk, num, t1, t2⟩ pre k' t u h tk own hk hlt hoff ⟨f0, f1⟩ ⟨p1, p2, p3⟩ F N
    dsimp only [kstB] at f0 f1 p1 p2 p3 F N ⊢
    rw [List.cons_append] at N
    have hpos : 0 < l.length := p1 ▸ Nat.sub_pos_of_lt (Nat.lt_trans hlt (by decide))
    have hne : ∀ p ∈ news ++ own, p.1 ≠ D := fun p hp => (List.mem_append.mp hp).elim (fun q => hD.ne p q) (fun q => hoff p q D (by simp))
    have hi0 : 0 ≤ num.fmod l.length := Int.fmod_nonneg_of_pos _ (Int.natCast_pos.mpr hpos)
    have hi1 : num.fmod l.length < l.length := Int.fmod_lt_of_pos _ (Int.natCast_pos.mpr hpos)
    obtain ⟨i, hi⟩ : ∃ i : Nat, num.fmod l.length = (i : Int) := ⟨_, (Int.toNat_of_nonneg hi0).symm⟩
    have hil : i < l.length := Int.ofNat_lt.mp (hi ▸ hi1)
    refine quiet ?_
    intro Q8 hQ8
    k_steps
    refine unhold ?_
    refine len_led (by k_asm) (by k_mem) (by simp only [chVals_len]; (first | (with_reducible first | assumption | exact Nat.le_trans (by assumption) (by decide) | exact Nat.lt_of_le_of_lt (by assumption) (by decide) | (refine Nat.ne_of_lt ?_; (repeat (first | assumption | refine Nat.lt_trans (by assumption) ?_)); done) | (refine Nat.ne_of_gt ?_; (repeat (first | assumption | refine Nat.lt_trans (by assumption) ?_)); done) | ((repeat (first | assumption | refine Nat.lt_trans (by assumption) ?_)); done)) | omega)) ?_
    try simp only [chVals_len]
    k_steps
    refine unhold ?_
    refine pop_led (vs := chVals l) (n := n) (v := .str ⟨#[l[i].1]⟩ l[i].2) (by k_asm) (by k_asm) (.head hne) hi0 (by rw [chVals_len]; (first | (with_reducible first | assumption | exact Nat.le_trans (by assumption) (by decide) | exact Nat.lt_of_le_of_lt (by assumption) (by decide) | (refine Nat.ne_of_lt ?_; (repeat (first | assumption | refine Nat.lt_trans (by assumption) ?_)); done) | (refine Nat.ne_of_gt ?_; (repeat (first | assumption | refine Nat.lt_trans (by assumption) ?_)); done) | ((repeat (first | assumption | refine Nat.lt_trans (by assumption) ?_)); done)) | omega)) ?_ ?_
    · rw [hi]; simp [chVals, hil]
    intro h' F' N'
    rw [hi] at N'
    have hst : (⟨#[l[i].1]⟩ : Str).length = 1 := rfl
    have her : (chVals l).eraseIdx ((i : Int)).toNat = chVals (l.eraseIdx i) := by
      simp only [chVals, Int.toNat_natCast, eraseIdx_map']
    rw [her] at N'
    dsimp only
    k_steps
    all_goals try (refine hQ8 _ _ ?_; k_steps)
    all_goals try (refine hQ9 _ _ ?_; k_steps)
    refine unhold ?_
    have hd0 : 0 ≤ num.fdiv l.length := Int.fdiv_nonneg f0 (by (first | (with_reducible first | assumption | exact Nat.le_trans (by assumption) (by decide) | exact Nat.lt_of_le_of_lt (by assumption) (by decide) | (refine Nat.ne_of_lt ?_; (repeat (first | assumption | refine Nat.lt_trans (by assumption) ?_)); done) | (refine Nat.ne_of_gt ?_; (repeat (first | assumption | refine Nat.lt_trans (by assumption) ?_)); done) | ((repeat (first | assumption | refine Nat.lt_trans (by assumption) ?_)); done)) | omega))
    have hd1 : num.fdiv l.length ≤ num := by
      have := Int.mul_fdiv_add_fmod num l.length
      have h2 : (l.length : Int) * num.fdiv l.length ≥ 1 * num.fdiv l.length := Int.mul_le_mul_of_nonneg_right (by (first | (with_reducible first | assumption | exact Nat.le_trans (by assumption) (by decide) | exact Nat.lt_of_le_of_lt (by assumption) (by decide) | (refine Nat.ne_of_lt ?_; (repeat (first | assumption | refine Nat.lt_trans (by assumption) ?_)); done) | (refine Nat.ne_of_gt ?_; (repeat (first | assumption | refine Nat.lt_trans (by assumption) ?_)); done) | ((repeat (first | assumption | refine Nat.lt_trans (by assumption) ?_)); done)) | omega)) hd0
      (first | (with_reducible first | assumption | exact Nat.le_trans (by assumption) (by decide) | exact Nat.lt_of_le_of_lt (by assumption) (by decide) | (refine Nat.ne_of_lt ?_; (repeat (first | assumption | refine Nat.lt_trans (by assumption) ?_)); done) | (refine Nat.ne_of_gt ?_; (repeat (first | assumption | refine Nat.lt_trans (by assumption) ?_)); done) | ((repeat (first | assumption | refine Nat.lt_trans (by assumption) ?_)); done)) | omega)
    refine kst_end (l.eraseIdx i, n + 1, pk ++ ⟨#[l[i].1]⟩, num.fdiv l.length, _, _) (by k_asm) (by k_asm) (fun p hp => ?_) (fun p hp => .tail _ (List.mem_append_right _ hp)) rfl ⟨hd0, by dsimp only; (first | (with_reducible first | assumption | exact Nat.le_trans (by assumption) (by decide) | exact Nat.lt_of_le_of_lt (by assumption) (by decide) | (refine Nat.ne_of_lt ?_; (repeat (first | assumption | refine Nat.lt_trans (by assumption) ?_)); done) | (refine Nat.ne_of_gt ?_; (repeat (first | assumption | refine Nat.lt_trans (by assumption) ?_)); done) | ((repeat (first | assumption | refine Nat.lt_trans (by assumption) ?_)); done)) | omega)⟩ (List.forall_mem_cons.mpr ⟨by with_unfolding_all rfl, List.forall_mem_cons.mpr ⟨by with_unfolding_all rfl, List.forall_mem_cons.mpr ⟨by with_unfolding_all rfl, List.forall_mem_nil _⟩⟩⟩) ?_ ?_
    · rcases List.mem_cons.mp hp with rfl | hp
      · exact .head _
      · exact .tail _ (List.mem_append_left _ hp)
    · intro z h1 h2 h3
      have g1 := h2 _ (.head _)
      have g2 := h2 _ (.tail _ (.head _))
      have g3 := h2 _ (.tail _ (.tail _ (.head _)))
      have g4 : z ≠ Str.ofString "count" := by
        intro e; rw [e] at h3; revert h3; decide
      dsimp only at g1 g2 g3
      simp [h1, g1, g2, g3, g4]
    · dsimp only
      refine ⟨?_, ?_, ?_⟩
      · rw [List.length_eraseIdx_of_lt hil, p1, List.length_append]; rfl
      · rw [Str.length_append, hst, p2, List.length_append]; rfl
      · rw [← p3]
        have e5 : 5 - pre.length = (5 - (pre ++ [k']).length) + 1 := by rw [List.length_append]; exact (Nat.sub_add_cancel (Nat.sub_pos_of_lt hlt)).symm
        rw [e5]
        conv => rhs; rw [pickF]
        simp only [List.length_map, hi, Int.toNat_natCast]
        have eg : (List.map (fun x : Nat × Tok => x.1) l).getD i 0 = l[i].1 := by simp [List.getD, hil]
        rw [eg, eraseIdx_map']
        show (pk.cps ++ #[l[i].1]).toList ++ _ = _
        simp
  case done =>
    rintro ⟨l, n, pk, num, t1, t2⟩ u h tk ⟨f0, f1⟩ ⟨p1, p2, p3⟩ F N
    dsimp only [kstB] at f0 f1 p1 p2 p3 F N ⊢
    rw [rangeKs_length] at p3
    k_steps
    all_goals try (refine hQ9 _ _ ?_; k_steps)
    have e : pickS k = pk := by
      unfold pickS
      rw [← p3]
      simp [pickF]
    rw [e] at hret
    exact hret _ _ _ (by k_asm) (news_t (by k_asm))
end Mine
end
section
open PySem PySem.W PyProof.Rows Mine
set_option Elab.async false
set_option maxRecDepth 100000
set_option maxHeartbeats 1500000
namespace Mine
section enterS
variable {prog : Program} {w : World} {A : Around} {s : Shared} {h₀ : Heap} {L : Addr} {m : Str → Option Value} {news : List (Addr × Obj)} {K : Frag} {p : Program} {loose : List Str} {mean : ExcName → Option Value} {mg mb : Str → Option Value} {R : Result → Shared → Prop}
theorem enterPS {name qual : Str} {params : Arguments} {body : List Stmt} {scope : Scope} {dV kV doc pm cdv ct oc : Value} {an od : Option Addr} {osl : Array (Option Value)} {f : Addr} {args : Args} {binds : List (Str × Value)}
    (F : Fr h₀ L s.heap m) (X₀ : K.In h₀) (N : News h₀ L s.heap news) (T : Top p loose mean mg mb h₀)
    (ho : K.lookup f = some ⟨oc, od, .func (fnOf name qual params body scope dV kV doc pm an cdv ct), osl⟩) (hcd : codeIn K cdv qual = true) (hroom : A.depth < recursionLimit)
    (hbind : BindsTo s (fnOf name qual params body scope dV kV doc pm an cdv ct) args binds) (hloc : ∀ y ∈ binds, scope.names.lookup y.1 = some .local)
    (h : ∀ g L' h₁, h₀.StaysIn g → Fr g L' h₁ (fun y => binds.reverse.lookup y) → News g L' h₁ news → K.In g → Top p loose mean mg mb g → LtAll L' news →
      wpAny (model prog w) (A.deeper (envOf qual scope L' f cdv)) (execs body (envOf qual scope L' f cdv))
        (fun fl s' => LeaveK h₀ L m g R (match fl with | .ret v => v | _ => .none) s')
        (fun e s' => wpAny (model prog w) (A.deeper (envOf qual scope L' f cdv)) (leaving (envOf qual scope L' f cdv) e) (fun _ s'' => R (.error e) s'') (fun e' s'' => R (.error e') s'') s')
        { s with heap := h₁, toks := s.toks + binds.length })
    (hco : scope.isCoroutine = false) (hgen : scope.isGenerator = false) (hk : scope.kind = .function)
    (hcell : ∀ x ∈ scope.names, x.2 ≠ .cell) : codeAny (model prog w) A (.call (.ref f) args) R s := by
  obtain ⟨st, lv⟩ := back_out (R := R) F N
  have X := X₀.keeps F.keep
  refine codeAny_call_def (fd := fnOf name qual params body scope dV kV doc pm an cdv ct) (body := body) (binds := binds) hroom (X _ _ ho) rfl (T.nolimit.keeps F.keep) (codeRec_of X hcd) rfl hbind hcell hloc (fun h₁ hns hk₁ => ?_) hco hgen hk
  refine wpAny_mono (h _ s.heap.objs.size h₁ st ⟨hns, fun b o e => hk₁ b o (of_hideAll _ e), Nat.le_of_eq (hideAll_size _ _)⟩ ?_ (X₀.keeps st) (T.keeps st) (fun q hq => Heap.lt_size (N q hq).1)) (fun fl s' hl => lv _ _ hl) fun _ _ y => y
  exact fun q hq => ⟨hk₁ _ _ (N q hq).1, Nat.ne_of_lt (Heap.lt_size (N q hq).1), hideAll_none _ (List.mem_map_of_mem hq)⟩
end enterS
section enum
variable {prog : Program} {w : World} {A : Around} {E : Value → Shared → Prop} {s : Shared} {env : Env} {h₀ : Heap} {body : List Stmt} {Q : Flow → Shared → Prop}
theorem enum_inv {a b : Str} {pa pb tp : Pos} {kk : Nat} {l : Addr} {vs : List Value} {m₀ : Str → Option Value} {news : List (Addr × Obj)} (J : Nat → (Str → Option Value) → List (Addr × Obj) → Prop)
    (hh : A.handled = none) (ha : env.kindOf a = some .local) (hb : env.kindOf b = some .local) (hp : (env.scope.kind == .class || (env.scope.kind == .module && env.locals != env.globals)) = false)
    (hl : s.heap.IsList l vs.toArray) (hlL : l ≠ env.locals) (F : Fr h₀ env.locals s.heap m₀) (N : News h₀ env.locals s.heap news) (hj : J 0 m₀ news)
    (turn : ∀ i v t m₁ news₁ h tk own, vs[i]? = some v → J i m₁ news₁ → news₁.map (·.1) = news.map (·.1) → (∀ p ∈ own, p.1 = l ∨ ∀ q ∈ news, q.1 < p.1) → Fr h₀ env.locals h (fun z => if z = b then some v else if z = a then some (.int (i : Nat) t) else m₁ z) → News h₀ env.locals h (news₁ ++ own) →
      wpAny (model prog w) A (execs body env) (InvPostN h₀ env.locals (J (i + 1)) own (news.map (·.1)) { s with heap := h, toks := tk } Q) E { s with heap := h, toks := tk })
    (done : ∀ m₁ news₁ h tk, J vs.length m₁ news₁ → Fr h₀ env.locals h m₁ → News h₀ env.locals h news₁ → Q .next { s with heap := h, toks := tk }) :
    wpAny (model prog w) A (call (.type "enumerate") [.ref l]) (fun xv s₁ => wpAny (model prog w) A (pyIter xv) (fun it s₂ => TurnsAt prog w A h₀ env (.Tuple [.Name a pa, .Name b pb] kk tp) body Q E it s₂) E s₁) E s := by
  obtain ⟨ol, hol, hlr⟩ := id hl
  have hlt : l < s.heap.objs.size := Heap.lt_size hol
  have hLs : env.locals < s.heap.objs.size := F.ns.lt
  refine call_enumerate_list hl fun h' hE hI hsz hk => ?_
  refine wpAny_pyIter_enum hE ?_
  have lt_new : ∀ p ∈ news, p.1 < s.heap.objs.size := fun p hp => Heap.lt_size (N p hp).1
  obtain ⟨I, hIe⟩ : ∃ I : Nat, s.heap.objs.size = I := ⟨_, rfl⟩
  rw [hIe] at hE hI hsz hlt hLs lt_new
  rw [hIe]
  have fresh : ∀ b : Addr, I ≤ b → h₀.get? b = none := fun b hb => ktu_new F (by rw [hIe]; exact hb)
  have hwr : ∀ b ∈ [I + 1, I], h₀.get? b = none := fun b hb => by
    rcases List.mem_cons.mp hb with rfl | hb
    · exact fresh _ (Nat.le_succ _)
    · rw [List.mem_singleton.mp hb]; exact fresh _ (Nat.le_refl _)
  have nwr : ∀ p : Addr × Obj, p.1 < I → p.1 ∉ [I + 1, I] := fun p hp hb => by
    rcases List.mem_cons.mp hb with e | hb
    · rw [e] at hp; exact absurd hp (Nat.not_lt.mpr (Nat.le_succ _))
    · rw [List.mem_singleton.mp hb] at hp; exact absurd hp (Nat.lt_irrefl _)
  refine ⟨I + 1, [I + 1, I, l], [I + 1, I], vs.toArray.size, _, _, _, m₀, news, (fun i m nx => nx.map (·.1) = news.map (·.1) ∧ J i m nx), rfl, KTurns.ofWalksU (WalksT.enumerate hh (I + 1) I l (Nat.succ_ne_self _) (ktu_ne 1 hlt) (Nat.ne_of_lt hlt) vs.toArray).toU, ?_, hwr, fun p hp => nwr p (lt_new p hp), ⟨⟨_, hE⟩, hI, hl.at fun o e => hk _ _ e⟩, F.keeps hk, N.grown hk, ⟨rfl, hj⟩, ?_, ?_⟩
  · intro hb
    rcases List.mem_cons.mp hb with e | hb
    · rw [e] at hLs; exact absurd hLs (Nat.not_lt.mpr (Nat.le_succ _))
    · rcases List.mem_cons.mp hb with e | hb
      · rw [e] at hLs; exact absurd hLs (Nat.lt_irrefl _)
      · exact hlL (List.mem_singleton.mp hb).symm
  · rintro i v m₁ news₁ h₁ tk₁ own hin ⟨T, vals, rfl, ⟨t, x, hx, rfl⟩, hT⟩ ⟨hadr, hJ⟩ hoff hown hget hall hst F₁ N₁
    refine kcp_assign (m := m₁) hh hT ha hb hp F₁.ns fun h₂ tk₂ hn₂ hk₂ => ?_
    have F₂ : Fr h₀ env.locals h₂ (fun z => if z = b then some x else if z = a then some (.int i t) else m₁ z) := ⟨hn₂, fun c o e => hk₂ c o (fun q => by have := F.above; have z := Heap.lt_size e; rw [q] at z; exact absurd z (Nat.not_lt.mpr this)) (F₁.keep c o e), F.above⟩
    have N₂ : News h₀ env.locals h₂ (news₁ ++ own) := fun q hq => by
      have q1 := N₁ q (by rcases List.mem_append.mp hq with h | h; exact List.mem_append_right _ h; exact List.mem_append_left _ h)
      exact ⟨hk₂ _ _ q1.2.1 q1.1, q1.2⟩
    refine wpAny_mono (turn i x t m₁ news₁ h₂ tk₂ own (by simpa using hx) hJ hadr (fun p hp => ?_) F₂ N₂) (fun f s₃ h₃ => ?_) fun _ _ e => e
    · rcases List.mem_cons.mp (hown p hp) with e | hb
      · exact .inr fun q hq => by rw [e]; exact Nat.lt_succ_of_lt (lt_new q hq)
      · rcases List.mem_cons.mp hb with e | hb
        · exact .inr fun q hq => by rw [e]; exact lt_new q hq
        · exact .inl (List.mem_singleton.mp hb)
    · have fin : InvEndN h₀ env.locals (J (i + 1)) own (news.map (·.1)) { s with heap := h₂, toks := tk₂ } s₃ → LoopStepU h₀ env.locals [I + 1, I] own (fun m nx => nx.map (·.1) = news.map (·.1) ∧ J (i + 1) m nx) { s with heap := h₁, toks := tk₁ } .next s₃ := by
        rintro ⟨h', tk, m', news', nx, e, F', N', hn, ho, had, hJ'⟩
        refine ⟨rfl, h', tk, m', nx, e, F', fun p hp => ?_, fun p hp => ?_, had, hJ'⟩
        · rcases List.mem_append.mp hp with hp | hp
          · exact N' p (ho p hp)
          · exact N' p (hn p hp)
        · have : p.1 ∈ nx.map (·.1) := List.mem_map_of_mem hp
          rw [had] at this
          obtain ⟨q, hq, e⟩ := List.mem_map.mp this
          exact nwr p (by rw [← e]; exact lt_new q hq)
      cases f with
      | ret v => exact h₃
      | brk => exact h₃
      | next => exact .next (fin h₃)
      | cont => exact .cont (fin h₃)
  · rintro h'' tk m' news' F' N' - ⟨_, hJ⟩
    exact done m' news' h'' tk (by simpa using hJ) F' N'
end enum
end Mine
end
section
open PySem PySem.W PyProof.Rows Mine
set_option Elab.async false
set_option maxRecDepth 100000
set_option maxHeartbeats 1500000
namespace Mine
theorem frB {h₀ h : Heap} {L : Addr} {m : Str → Option Value} (ps : List (Str × Value)) (h1 : ∀ p ∈ ps, m p.1 = some p.2) (F : Fr h₀ L h m) : Fr h₀ L h (kstB m ps) := by
  have e : kstB m ps = m := funext fun z => kstB_eq h1 fun _ => rfl
  rw [e]; exact F
theorem mem_app {α : Type} {a : α} {l l' : List α} : ∀ p ∈ a :: l, p ∈ a :: (l ++ l') := fun p hp => (List.mem_cons.mp hp).elim (fun e => e ▸ .head _) (fun h => .tail _ (List.mem_append_left _ h))
theorem ints_at {ys : List Value} {l : List Int} (h : IntsAre ys l) {i : Nat} {v : Value} (hv : ys[i]? = some v) : ∃ k t, v = .int k t ∧ l[i]? = some k := by
  induction h generalizing i with
  | nil => cases hv
  | cons n t _ ih =>
    cases i with
    | zero => cases hv; exact ⟨_, _, rfl, rfl⟩
    | succ i => exact ih (by simpa using hv)
theorem sums_c {w : World} {mean} {mg mb} (X S : Addr) (vs : List Value) (ns : List Int) (hi : IntsAre vs ns) (hz : vs.length ≤ 63) (a b c : Int) (ta tb tc : Tok) (n : Nat) (news : List (Addr × Obj)) (hoff : ∀ q ∈ news, q.1 ≠ S) (ha : 0 ≤ a) (hb : 0 ≤ b) (hc : 0 ≤ c) (ha1 : a ≤ 1000) (hb1 : b ≤ 1000) (hc1 : c ≤ 1000) :
  MClaim w mean mg mb 84 ((S, W.listOf #[.int a ta, .int b tb, .int c tc] n) :: news) [.ref X, .ref S] 2 (fun s Q h₀ L m => h₀.IsList X vs.toArray ∧ ∀ (a b c : Int) (ta tb tc : Tok) (n : Nat) (h' : Heap) (tk' : Nat), 0 ≤ a → 0 ≤ b → 0 ≤ c → a < 1000000000 → b < 1000000000 → c < 1000000000 → Fr h₀ L h' m → News h₀ L h' ((S, W.listOf #[.int a ta, .int b tb, .int c tc] n) :: news) → Q (.ref S) { s with heap := h', toks := tk' }) := by
  dsimp only [MClaim, PRG]; k_fill; intro dp un h₀ L m s Q E F₀ X₀ N₀ T₀ hroom hunits hret
  have k1 := held "call type:enumerate"
  have k2 := held "InvEndN"
  have k3 := held "exec For Tuple Call cons nil"
  obtain ⟨hX, hret⟩ := hret
  refine wpAny_call ?_
  k_dflt (refine' enterPS ?k2 ?k3 ?k4 ?k5 ?k6 ?k7 ?k8 ?k9 ?kB ?_ ?c2 ?c3 ?c4 ?c5; (case k2 => k_asm); (case k3 => k_asm); (case k4 => k_asm); (case k5 => k_asm); (case k6 => k_is); (case k7 => k_is); (case k8 => exact rm0 hroom); (case k9 => exact BindsTo.of_eq rfl); (case c5 => decide); (case kB => exact locs rfl); (case c2 => exact rfl); (case c3 => exact rfl); (case c4 => exact rfl); k_whole; intro _ _ _ _ _ _ _ _ _; (try dsimp only); (try k_fold))
  rename Fr _ _ _ _ => F
  replace F := (show Fr _ _ _ (fun y => List.lookup y [(Str.ofString "sums", Value.ref S), (Str.ofString "script", Value.ref X)]) from F)
  rename Heap.StaysIn _ _ => st
  have hX' := hX.at fun o e => st _ _ e
  refine quiet ?_
  intro Q9 hQ9
  k_steps
  refine unhold ?_
  k_here
  rename Fr _ _ _ _ => lF'
  with_unfolding_all refine For_turns lF' ?_
  k_steps
  refine unhold ?_
  rename News _ _ _ _ => N1
  rename Fr _ _ _ _ => F1
  rename IntsAre _ (List.take 60 ns) => hI
  rename _ ∧ AllLt _ news => hlt
  rename Addr => D
  rename List Value => ws'
  refine enum_inv (news := (S, W.listOf #[.int a ta, .int b tb, .int c tc] n) :: news) (fun i m₁ nx => ∃ (a b c : Int) (ta tb tc : Tok) (n : Nat), nx = (S, W.listOf #[.int a ta, .int b tb, .int c tc] n) :: news ∧ m₁ (Str.ofString "sums") = some (.ref S) ∧ 0 ≤ a ∧ 0 ≤ b ∧ 0 ≤ c ∧ a ≤ 1000 + 1000003 * (i : Int) ∧ b ≤ 1000 + 1000003 * (i : Int) ∧ c ≤ 1000 + 1000003 * (i : Int)) rfl ?h1 ?h2 ?h3 (isList_led N1 (.head _)) ?h4 F1 (news_t N1) ⟨a, b, c, ta, tb, tc, n, rfl, ?h5, ha, hb, hc, ?_, ?_, ?_⟩ ?turn ?done
  case h1 => rfl
  case h2 => rfl
  case h3 => rfl
  case h4 => exact (N1 _ (.head _)).2.1
  case h5 => with_unfolding_all rfl
  case turn =>
    rintro i v t m₁ news₁ h tk own hvi ⟨a, b, c, ta, tb, tc, n, rfl, e1, ha, hb, hc, ha1, hb1, hc1⟩ hadr hown F N
    obtain ⟨k, tv, rfl, hk⟩ := ints_at hI hvi
    have hil := (List.getElem?_eq_some_iff.mp hvi).1
    have hne : ∀ p ∈ news ++ own, p.1 ≠ S := by
      intro p hp
      rcases List.mem_append.mp hp with hp | hp
      · exact hoff p hp
      · rcases hown p hp with e | e
        · rw [e]; exact Nat.ne_of_gt hlt.1
        · exact Nat.ne_of_gt (e _ (.head _))
    replace F := frB [(Str.ofString "number", .int k tv), (Str.ofString "place", .int (i : Nat) t), (Str.ofString "sums", Value.ref S)] (List.forall_mem_cons.mpr ⟨by with_unfolding_all rfl, List.forall_mem_cons.mpr ⟨by with_unfolding_all rfl, List.forall_mem_cons.mpr ⟨by with_unfolding_all exact e1, List.forall_mem_nil _⟩⟩⟩) F
    dsimp only [kstB] at F N ⊢
    rw [List.cons_append] at N
    have k0 : 0 ≤ k.fmod 1000003 := Int.fmod_nonneg_of_pos _ (by (first | (with_reducible first | assumption | exact Nat.le_trans (by assumption) (by decide) | exact Nat.lt_of_le_of_lt (by assumption) (by decide) | (refine Nat.ne_of_lt ?_; (repeat (first | assumption | refine Nat.lt_trans (by assumption) ?_)); done) | (refine Nat.ne_of_gt ?_; (repeat (first | assumption | refine Nat.lt_trans (by assumption) ?_)); done) | ((repeat (first | assumption | refine Nat.lt_trans (by assumption) ?_)); done)) | omega))
    have k1 : k.fmod 1000003 < 1000003 := Int.fmod_lt_of_pos _ (by (first | (with_reducible first | assumption | exact Nat.le_trans (by assumption) (by decide) | exact Nat.lt_of_le_of_lt (by assumption) (by decide) | (refine Nat.ne_of_lt ?_; (repeat (first | assumption | refine Nat.lt_trans (by assumption) ?_)); done) | (refine Nat.ne_of_gt ?_; (repeat (first | assumption | refine Nat.lt_trans (by assumption) ?_)); done) | ((repeat (first | assumption | refine Nat.lt_trans (by assumption) ?_)); done)) | omega))
    have r0 : 0 ≤ (i : Int).fmod 3 := Int.fmod_nonneg_of_pos _ (by (first | (with_reducible first | assumption | exact Nat.le_trans (by assumption) (by decide) | exact Nat.lt_of_le_of_lt (by assumption) (by decide) | (refine Nat.ne_of_lt ?_; (repeat (first | assumption | refine Nat.lt_trans (by assumption) ?_)); done) | (refine Nat.ne_of_gt ?_; (repeat (first | assumption | refine Nat.lt_trans (by assumption) ?_)); done) | ((repeat (first | assumption | refine Nat.lt_trans (by assumption) ?_)); done)) | omega))
    have r1 : (i : Int).fmod 3 < 3 := Int.fmod_lt_of_pos _ (by (first | (with_reducible first | assumption | exact Nat.le_trans (by assumption) (by decide) | exact Nat.lt_of_le_of_lt (by assumption) (by decide) | (refine Nat.ne_of_lt ?_; (repeat (first | assumption | refine Nat.lt_trans (by assumption) ?_)); done) | (refine Nat.ne_of_gt ?_; (repeat (first | assumption | refine Nat.lt_trans (by assumption) ?_)); done) | ((repeat (first | assumption | refine Nat.lt_trans (by assumption) ?_)); done)) | omega))
    refine quiet ?_
    intro Q8 hQ8
    k_steps
    all_goals try (refine hQ8 _ _ ?_; k_steps)
    all_goals try (refine hQ9 _ _ ?_; k_steps)
    have r3 : (i : Int).fmod 3 = 0 ∨ (i : Int).fmod 3 = 1 ∨ (i : Int).fmod 3 = 2 := by (first | (with_reducible first | assumption | exact Nat.le_trans (by assumption) (by decide) | exact Nat.lt_of_le_of_lt (by assumption) (by decide) | (refine Nat.ne_of_lt ?_; (repeat (first | assumption | refine Nat.lt_trans (by assumption) ?_)); done) | (refine Nat.ne_of_gt ?_; (repeat (first | assumption | refine Nat.lt_trans (by assumption) ?_)); done) | ((repeat (first | assumption | refine Nat.lt_trans (by assumption) ?_)); done)) | omega)
    dsimp only
    rcases r3 with e | e | e
    · simp only [e, show [a, b, c].getD (0 : Int).toNat 0 = a from rfl]
      refine ki_set (q := [.int (a + k.fmod 1000003) _, .int b tb, .int c tc]) (by assumption) (by assumption) (by decide) (by decide) rfl (.head hne) ?_
      intro h' F' N'
      k_steps
      all_goals try (refine hQ8 _ _ ?_; k_steps)
      all_goals try (refine hQ9 _ _ ?_; k_steps)
      refine unhold ?_
      refine ⟨_, _, _, _, (S, W.listOf #[.int (a + k.fmod 1000003) _, .int b tb, .int c tc] n) :: news, rfl, by k_asm, by k_asm, mem_app, fun p hp => .tail _ (List.mem_append_right _ hp), hadr, a + k.fmod 1000003, b, c, _, _, _, _, rfl, ?_, by (first | (with_reducible first | assumption | exact Nat.le_trans (by assumption) (by decide) | exact Nat.lt_of_le_of_lt (by assumption) (by decide) | (refine Nat.ne_of_lt ?_; (repeat (first | assumption | refine Nat.lt_trans (by assumption) ?_)); done) | (refine Nat.ne_of_gt ?_; (repeat (first | assumption | refine Nat.lt_trans (by assumption) ?_)); done) | ((repeat (first | assumption | refine Nat.lt_trans (by assumption) ?_)); done)) | omega), hb, hc, by (first | (with_reducible first | assumption | exact Nat.le_trans (by assumption) (by decide) | exact Nat.lt_of_le_of_lt (by assumption) (by decide) | (refine Nat.ne_of_lt ?_; (repeat (first | assumption | refine Nat.lt_trans (by assumption) ?_)); done) | (refine Nat.ne_of_gt ?_; (repeat (first | assumption | refine Nat.lt_trans (by assumption) ?_)); done) | ((repeat (first | assumption | refine Nat.lt_trans (by assumption) ?_)); done)) | omega), by (first | (with_reducible first | assumption | exact Nat.le_trans (by assumption) (by decide) | exact Nat.lt_of_le_of_lt (by assumption) (by decide) | (refine Nat.ne_of_lt ?_; (repeat (first | assumption | refine Nat.lt_trans (by assumption) ?_)); done) | (refine Nat.ne_of_gt ?_; (repeat (first | assumption | refine Nat.lt_trans (by assumption) ?_)); done) | ((repeat (first | assumption | refine Nat.lt_trans (by assumption) ?_)); done)) | omega), by (first | (with_reducible first | assumption | exact Nat.le_trans (by assumption) (by decide) | exact Nat.lt_of_le_of_lt (by assumption) (by decide) | (refine Nat.ne_of_lt ?_; (repeat (first | assumption | refine Nat.lt_trans (by assumption) ?_)); done) | (refine Nat.ne_of_gt ?_; (repeat (first | assumption | refine Nat.lt_trans (by assumption) ?_)); done) | ((repeat (first | assumption | refine Nat.lt_trans (by assumption) ?_)); done)) | omega)⟩
      with_unfolding_all rfl
    · simp only [e, show [a, b, c].getD (1 : Int).toNat 0 = b from rfl]
      refine ki_set (q := [.int a ta, .int (b + k.fmod 1000003) _, .int c tc]) (by assumption) (by assumption) (by decide) (by decide) rfl (.head hne) ?_
      intro h' F' N'
      k_steps
      all_goals try (refine hQ8 _ _ ?_; k_steps)
      all_goals try (refine hQ9 _ _ ?_; k_steps)
      refine unhold ?_
      refine ⟨_, _, _, _, (S, W.listOf #[.int a ta, .int (b + k.fmod 1000003) _, .int c tc] n) :: news, rfl, by k_asm, by k_asm, mem_app, fun p hp => .tail _ (List.mem_append_right _ hp), hadr, a, b + k.fmod 1000003, c, _, _, _, _, rfl, ?_, ha, by (first | (with_reducible first | assumption | exact Nat.le_trans (by assumption) (by decide) | exact Nat.lt_of_le_of_lt (by assumption) (by decide) | (refine Nat.ne_of_lt ?_; (repeat (first | assumption | refine Nat.lt_trans (by assumption) ?_)); done) | (refine Nat.ne_of_gt ?_; (repeat (first | assumption | refine Nat.lt_trans (by assumption) ?_)); done) | ((repeat (first | assumption | refine Nat.lt_trans (by assumption) ?_)); done)) | omega), hc, by (first | (with_reducible first | assumption | exact Nat.le_trans (by assumption) (by decide) | exact Nat.lt_of_le_of_lt (by assumption) (by decide) | (refine Nat.ne_of_lt ?_; (repeat (first | assumption | refine Nat.lt_trans (by assumption) ?_)); done) | (refine Nat.ne_of_gt ?_; (repeat (first | assumption | refine Nat.lt_trans (by assumption) ?_)); done) | ((repeat (first | assumption | refine Nat.lt_trans (by assumption) ?_)); done)) | omega), by (first | (with_reducible first | assumption | exact Nat.le_trans (by assumption) (by decide) | exact Nat.lt_of_le_of_lt (by assumption) (by decide) | (refine Nat.ne_of_lt ?_; (repeat (first | assumption | refine Nat.lt_trans (by assumption) ?_)); done) | (refine Nat.ne_of_gt ?_; (repeat (first | assumption | refine Nat.lt_trans (by assumption) ?_)); done) | ((repeat (first | assumption | refine Nat.lt_trans (by assumption) ?_)); done)) | omega), by (first | (with_reducible first | assumption | exact Nat.le_trans (by assumption) (by decide) | exact Nat.lt_of_le_of_lt (by assumption) (by decide) | (refine Nat.ne_of_lt ?_; (repeat (first | assumption | refine Nat.lt_trans (by assumption) ?_)); done) | (refine Nat.ne_of_gt ?_; (repeat (first | assumption | refine Nat.lt_trans (by assumption) ?_)); done) | ((repeat (first | assumption | refine Nat.lt_trans (by assumption) ?_)); done)) | omega)⟩
      with_unfolding_all rfl
    · simp only [e, show [a, b, c].getD (2 : Int).toNat 0 = c from rfl]
      refine ki_set (q := [.int a ta, .int b tb, .int (c + k.fmod 1000003) _]) (by assumption) (by assumption) (by decide) (by decide) rfl (.head hne) ?_
      intro h' F' N'
      k_steps
      all_goals try (refine hQ8 _ _ ?_; k_steps)
      all_goals try (refine hQ9 _ _ ?_; k_steps)
      refine unhold ?_
      refine ⟨_, _, _, _, (S, W.listOf #[.int a ta, .int b tb, .int (c + k.fmod 1000003) _] n) :: news, rfl, by k_asm, by k_asm, mem_app, fun p hp => .tail _ (List.mem_append_right _ hp), hadr, a, b, c + k.fmod 1000003, _, _, _, _, rfl, ?_, ha, hb, by (first | (with_reducible first | assumption | exact Nat.le_trans (by assumption) (by decide) | exact Nat.lt_of_le_of_lt (by assumption) (by decide) | (refine Nat.ne_of_lt ?_; (repeat (first | assumption | refine Nat.lt_trans (by assumption) ?_)); done) | (refine Nat.ne_of_gt ?_; (repeat (first | assumption | refine Nat.lt_trans (by assumption) ?_)); done) | ((repeat (first | assumption | refine Nat.lt_trans (by assumption) ?_)); done)) | omega), by (first | (with_reducible first | assumption | exact Nat.le_trans (by assumption) (by decide) | exact Nat.lt_of_le_of_lt (by assumption) (by decide) | (refine Nat.ne_of_lt ?_; (repeat (first | assumption | refine Nat.lt_trans (by assumption) ?_)); done) | (refine Nat.ne_of_gt ?_; (repeat (first | assumption | refine Nat.lt_trans (by assumption) ?_)); done) | ((repeat (first | assumption | refine Nat.lt_trans (by assumption) ?_)); done)) | omega), by (first | (with_reducible first | assumption | exact Nat.le_trans (by assumption) (by decide) | exact Nat.lt_of_le_of_lt (by assumption) (by decide) | (refine Nat.ne_of_lt ?_; (repeat (first | assumption | refine Nat.lt_trans (by assumption) ?_)); done) | (refine Nat.ne_of_gt ?_; (repeat (first | assumption | refine Nat.lt_trans (by assumption) ?_)); done) | ((repeat (first | assumption | refine Nat.lt_trans (by assumption) ?_)); done)) | omega), by (first | (with_reducible first | assumption | exact Nat.le_trans (by assumption) (by decide) | exact Nat.lt_of_le_of_lt (by assumption) (by decide) | (refine Nat.ne_of_lt ?_; (repeat (first | assumption | refine Nat.lt_trans (by assumption) ?_)); done) | (refine Nat.ne_of_gt ?_; (repeat (first | assumption | refine Nat.lt_trans (by assumption) ?_)); done) | ((repeat (first | assumption | refine Nat.lt_trans (by assumption) ?_)); done)) | omega)⟩
      with_unfolding_all rfl
  case done =>
    rintro m₁ news₁ h tk ⟨a, b, c, ta, tb, tc, n, rfl, e1, ha, hb, hc, ha1, hb1, hc1⟩ F N
    replace F := frB [(Str.ofString "sums", Value.ref S)] (List.forall_mem_cons.mpr ⟨e1, List.forall_mem_nil _⟩) F
    dsimp only [kstB] at F N ⊢
    have hw : ws'.length ≤ 60 := by rw [hI.length]; (first | (with_reducible first | assumption | exact Nat.le_trans (by assumption) (by decide) | exact Nat.lt_of_le_of_lt (by assumption) (by decide) | (refine Nat.ne_of_lt ?_; (repeat (first | assumption | refine Nat.lt_trans (by assumption) ?_)); done) | (refine Nat.ne_of_gt ?_; (repeat (first | assumption | refine Nat.lt_trans (by assumption) ?_)); done) | ((repeat (first | assumption | refine Nat.lt_trans (by assumption) ?_)); done)) | omega)
    k_steps
    all_goals try (refine hQ9 _ _ ?_; k_steps)
    exact hret a b c ta tb tc n _ _ ha hb hc (by (first | (with_reducible first | assumption | exact Nat.le_trans (by assumption) (by decide) | exact Nat.lt_of_le_of_lt (by assumption) (by decide) | (refine Nat.ne_of_lt ?_; (repeat (first | assumption | refine Nat.lt_trans (by assumption) ?_)); done) | (refine Nat.ne_of_gt ?_; (repeat (first | assumption | refine Nat.lt_trans (by assumption) ?_)); done) | ((repeat (first | assumption | refine Nat.lt_trans (by assumption) ?_)); done)) | omega)) (by (first | (with_reducible first | assumption | exact Nat.le_trans (by assumption) (by decide) | exact Nat.lt_of_le_of_lt (by assumption) (by decide) | (refine Nat.ne_of_lt ?_; (repeat (first | assumption | refine Nat.lt_trans (by assumption) ?_)); done) | (refine Nat.ne_of_gt ?_; (repeat (first | assumption | refine Nat.lt_trans (by assumption) ?_)); done) | ((repeat (first | assumption | refine Nat.lt_trans (by assumption) ?_)); done)) | omega)) (by (first | (with_reducible first | assumption | exact Nat.le_trans (by assumption) (by decide) | exact Nat.lt_of_le_of_lt (by assumption) (by decide) | (refine Nat.ne_of_lt ?_; (repeat (first | assumption | refine Nat.lt_trans (by assumption) ?_)); done) | (refine Nat.ne_of_gt ?_; (repeat (first | assumption | refine Nat.lt_trans (by assumption) ?_)); done) | ((repeat (first | assumption | refine Nat.lt_trans (by assumption) ?_)); done)) | omega)) (by k_asm) (by k_asm)
  all_goals (first | (with_reducible first | assumption | exact Nat.le_trans (by assumption) (by decide) | exact Nat.lt_of_le_of_lt (by assumption) (by decide) | (refine Nat.ne_of_lt ?_; (repeat (first | assumption | refine Nat.lt_trans (by assumption) ?_)); done) | (refine Nat.ne_of_gt ?_; (repeat (first | assumption | refine Nat.lt_trans (by assumption) ?_)); done) | ((repeat (first | assumption | refine Nat.lt_trans (by assumption) ?_)); done)) | omega)
end Mine
end
section
open PySem PySem.W PyProof.Rows Mine PySem.Calls Builtin Builtin.ObjectAttr
set_option Elab.async false
set_option maxRecDepth 100000
set_option maxHeartbeats 1500000
namespace Mine
theorem slot_fn_setattr : Slot "function" "__setattr__" "object.__setattr__" :=
  .of (owner := "object") (n := "__setattr__") (by rw [typeLookup_type, builtinLookup_eq_fast]; kernel_rfl) (by decide +kernel) (by decide +kernel) (by decide +kernel)
    (by first | exact .inl (by decide +kernel) | exact .inr (by decide +kernel)) (by rw [isSubtype_type]; kernel_rfl)
theorem fn_no_read : typeLookup (.type "function") (Str.ofString "read") = pure none := by rw [typeLookup_type, builtinLookup_eq_fast]; kernel_rfl
theorem fn_mro : mroOf (.type "function") = pure [.type "function", .type "object"] := by kernel_rfl
theorem fn_passes (self : Value) : refuseLoop self "__setattr__" [.type "function", .type "object"] = pure () := by
  unfold refuseLoop
  kernel_rfl

abbrev fnObj (fd : FuncData) (d : Option Addr) : Obj := { cls := .type "function", dict := d, data := .func fd }
section
variable {prog : Program} {w : World} {A : Around} {E : Value → Shared → Prop} {s : Shared} {h₀ : Heap} {L f : Addr} {m : Str → Option Value} {news : List (Addr × Obj)} {g : Obj → List (Addr × Obj)} {fd : FuncData} {v : Value} {Q : Unit → Shared → Prop}
theorem args_fn_setattr (a b c : Value) : argsOk "object.__setattr__" ⟨[a, b, c], []⟩ := PySem.F.store_object.args a b c
theorem fn_setattr (F : Fr h₀ L s.heap m) (N : News h₀ L s.heap news) (U : UpdF f (fnObj fd none) news g)
    (h : ∀ dx h' tk t, LtAll dx news → Fr h₀ L h' m → News h₀ L h' ((dx, dictOf [⟨PyData.keyHash w.params (Str.ofString "read"), .str (Str.ofString "read") t, v⟩] 1) :: g (fnObj fd (some dx))) → Q () { s with heap := h', toks := tk }) :
    wpAny (model prog w) A (setAttr (.ref f) (Str.ofString "read") v) Q E s := by
  obtain ⟨own, rest, rfl, hg, h1, h2⟩ := U.split
  have hm := N (f, fnObj fd none) (List.mem_append_right _ (.head _))
  have hfo := hm.1
  unfold setAttr
  refine wpAny_bind (wpAny_mkText (wpAny_bind ?_))
  have hT : Shared.TypeIs { s with toks := s.toks + 1 } (.ref f) "function" := ⟨_, hfo, rfl⟩
  refine wpAny_callSpecial?_slot (name := Str.ofString "__setattr__") hT slot_fn_setattr (wpAny_call_entry slot_fn_setattr hT PySem.F.store_object.entry ?_ (args_fn_setattr _ _ _))
  obtain ⟨hh, gg, dr, t, os⟩ := s
  dsimp only at hT hfo ⊢
  have L1 : Looks (model prog w) hh (typeOf (.ref f)) (.type "function") := (Looks.ld hfo).andThen .now
  rw [osa_eq, refuse_eq]
  refine wpAny_bind (wpAny_bind (L1.at (wpAny_bind ?_)))
  rw [fn_mro]
  refine wpAny_pure ?_
  rw [fn_passes]
  refine wpAny_pure (wpAny_bind (L1.at (wpAny_bind ?_)))
  rw [fn_no_read]
  refine wpAny_pure (wpAny_bind (wpAny_pure ?_))
  show wpAny _ _ (storeInOwnDict (.ref f) (.type "function") _ _ v false) _ _ _
  unfold storeInOwnDict
  refine wpAny_bind (wpAny_pure ?_)
  show wpAny _ _ ((instanceDict f true) >>= _) _ _ _
  refine wpAny_bind ?_
  unfold instanceDict
  refine wpAny_bind (wpAny_loadPart_at hfo ?_)
  have ht : typeHasDict (.type "function") = true := by decide +kernel
  have hz : finalisedInACycleAlone "function" = false := by decide +kernel
  show wpAny _ _ (if (!true || !typeHasDict (.type "function")) = true then pure none else (do
            let d ← alloc { cls := Value.type "dict", data := Data.dict #[] }
            update f fun o => { cls := o.cls, dict := some d, data := o.data, slots := o.slots }
            dictMade (.type "function") f d)) _ _ _
  rw [ht, if_neg (by decide)]
  refine wpAny_bind (wpAny_alloc' ?_)
  have hf1 : (hh.push { cls := Value.type "dict", data := Data.dict #[] }).get? f = some (fnObj fd none) := Heap.get?_push_of_some _ hfo
  have hlt : f < hh.objs.size := Heap.lt_size hfo
  refine wpAny_bind (wpAny_update' hf1 ?_)
  unfold dictMade
  dsimp only
  rw [hz, if_neg (by decide)]
  refine wpAny_bind (wpAny_pure (wpAny_pure ?_))
  show wpAny _ _ (storeInDict hh.objs.size (.str (Str.ofString "read") t) (Str.ofString "read") v) _ _ _
  generalize hH : ((hh.push { cls := Value.type "dict", data := Data.dict #[] }).update f fun o => { cls := o.cls, dict := some hh.objs.size, data := o.data, slots := o.slots }) = H
  have hne : hh.objs.size ≠ f := Nat.ne_of_gt hlt
  have hD : H.get? hh.objs.size = some (dictOf [] 0) := by rw [← hH]; exact (Heap.get?_update_ne _ _ _ _ hne).trans (Heap.get?_push_size _ rfl)
  have hF : H.get? f = some (fnObj fd (some hh.objs.size)) := by rw [← hH]; exact Heap.get?_update_self _ hf1 rfl
  have hO : ∀ b o, b ≠ f → hh.get? b = some o → H.get? b = some o := fun b o hb e => by rw [← hH]; exact (Heap.get?_update_ne _ _ _ _ hb).trans (Heap.get?_push_of_some _ e)
  unfold storeInDict newKeyGuard
  refine wpAny_bind (wpAny_pure (wpAny_bind ?_))
  unfold nsSet
  refine wpAny_bind (wpAny_bind (wpAny_askSetting (wpAny_pure (wpAny_bind (wpAny_mkText (wpAny_bind (wpAny_loadPart hD ?_)))))))
  dsimp only
  rw [if_neg (by decide)]
  refine wpAny_updatePart hD ?_
  dsimp only
  generalize hK : H.update hh.objs.size _ = K
  have hDK : K.get? hh.objs.size = some (dictOf [⟨PyData.keyHash w.params (Str.ofString "read"), .str (Str.ofString "read") (t + 1), v⟩] 1) := by rw [← hK]; exact Heap.get?_update_self _ hD rfl
  have hOK : ∀ b o, b ≠ hh.objs.size → H.get? b = some o → K.get? b = some o := fun b o hb e => by rw [← hK]; exact (Heap.get?_update_ne _ _ _ _ hb).trans e
  refine wpAny_bind (wpAny_lookBehind hDK (pastItsLine_dict (by rw [List.size_toArray, sizeLine_eq]; simp)) ?_)
  refine wpAny_pure ⟨_, rfl, wpAny_pure ?_⟩
  have all : ∀ b o, b ≠ f → hh.get? b = some o → K.get? b = some o := fun b o hb e => hOK b o (Nat.ne_of_lt (Heap.lt_size e)) (hO b o hb e)
  have hLs := F.ns.lt
  have fresh : h₀.get? hh.objs.size = none := next_is_new F
  refine h hh.objs.size K _ (t + 1) (fun q hq => Heap.lt_size (N q hq).1) ⟨?_, fun b o e => all b o (fun q => ?_) (F.keep b o e), F.above⟩ ?_
  · obtain ⟨oL, es, ep, a1, a2, a3⟩ := F.ns
    exact ⟨oL, es, ep, all L oL (Ne.symm hm.2.1) a1, a2, a3⟩
  · have := hm.2.2
    rw [← q, e] at this
    cases this
  · rw [hg]
    intro q hq
    rcases List.mem_cons.mp hq with rfl | hq
    · exact ⟨hDK, Nat.ne_of_gt hLs, fresh⟩
    · rcases List.mem_append.mp hq with hq | hq
      · have n := N q (List.mem_append_left _ hq)
        exact ⟨all _ _ (h1 q hq) n.1, n.2⟩
      · rcases List.mem_cons.mp hq with rfl | hq
        · exact ⟨hOK _ _ (Ne.symm hne) hF, hm.2⟩
        · have n := N q (List.mem_append_right _ (.tail _ hq))
          exact ⟨all _ _ (h2 q hq) n.1, n.2⟩
end
section
variable {prog : Program} {w : World} {A : Around} {E : Value → Shared → Prop} {s : Shared} {f dx a : Addr} {fd : FuncData} {hk : Int} {t : Tok} {n : Nat}
theorem slot_fn_getattribute : Slot "function" "__getattribute__" "object.__getattribute__" :=
  .of (owner := "object") (n := "__getattribute__") (by rw [typeLookup_type, builtinLookup_eq_fast]; kernel_rfl) (by decide +kernel) (by decide +kernel) (by decide +kernel)
    (by first | exact .inl (by decide +kernel) | exact .inr (by decide +kernel)) (by rw [isSubtype_type]; kernel_rfl)
theorem fn_no_getattr : typeLookup (.type "function") (Str.ofString "__getattr__") = pure none := by rw [typeLookup_type, builtinLookup_eq_fast]; kernel_rfl
theorem canon_ga : (Manifest.canonical "object.__getattribute__" != "object.__getattribute__") = false := by decide +kernel
theorem fn_getread {expr : Bool} {Q : Value → Shared → Prop} (hf : s.heap.get? f = some (fnObj fd (some dx))) (hd : s.heap.get? dx = some (dictOf [⟨hk, .str (Str.ofString "read") t, .ref a⟩] n)) (h : Q (.ref a) { s with toks := s.toks + 1 }) :
    wpAny (model prog w) A (getAttr (.ref f) (Str.ofString "read") expr) Q E s := by
  obtain ⟨hh, g, d, tk, os⟩ := s
  dsimp only at hf hd h ⊢
  have L1 : Looks (model prog w) hh (typeOf (.ref f)) (.type "function") := (Looks.ld hf).andThen .now
  have hT : Shared.TypeIs ⟨hh, g, d, tk + 1, os⟩ (.ref f) "function" := ⟨_, hf, rfl⟩
  unfold getAttr
  refine wpAny_bind (wpAny_mkText ?_)
  unfold getAttrBy
  refine wpAny_holding (wpAny_bind (L1.at (wpAny_bind ?_)))
  refine (Looks.of_pure slot_fn_getattribute.lookup).at ?_
  show wpAny _ _ (getAttrByItsOwn (.ref f) (.str (Str.ofString "read") tk) (.type "function") (.builtin "object.__getattribute__") true expr) _ _ _
  unfold getAttrByItsOwn
  refine wpAny_bind (wpAny_pure (wpAny_bind (wpAny_attempt (wpAny_holding ?_))))
  show wpAny _ _ (callGetattribute (.ref f) (.str (Str.ofString "read") tk) (.builtin "object.__getattribute__") expr) _ _ _
  have e : callGetattribute (.ref f) (.str (Str.ofString "read") tk) (.builtin "object.__getattribute__") expr = boundAndCalled (.builtin "object.__getattribute__") (.ref f) (.str (Str.ofString "read") tk) := by
    unfold callGetattribute; rw [if_neg (by simp [onTheHeap])]
  rw [e]
  unfold boundAndCalled
  refine wpAny_bind ((Looks.of_pure (slot_fn_getattribute.bind (.ref f))).at ?_)
  dsimp only [List.cons_append, List.nil_append]
  refine wpAny_call_entry slot_fn_getattribute hT F.entry_object_getattribute ?_ (F.args_object_getattribute_2 _ _)
  unfold Builtin.«object.__getattribute__»
  have L2 : Looks (model prog w) hh (ObjectAttr.find (.ref f) (.type "function") (Str.ofString "read")) (.value (.ref a)) := by
    unfold ObjectAttr.find
    refine (Looks.of_pure fn_no_read).andThen (Looks.now.andThen (Looks.now.andThen ?_))
    show Looks _ _ (ownThenClass (.ref f) (Str.ofString "read") none none) _
    unfold ownThenClass
    have L3 : Looks (model prog w) hh (inOwnDict (Str.ofString "read") (.ref f)) (some (.ref a)) := by
      show Looks _ _ (ObjectAttr.ownDict f >>= inDict (Str.ofString "read")) _
      have L4 : Looks (model prog w) hh (ObjectAttr.ownDict f) (some dx) := by
        unfold ObjectAttr.ownDict
        refine (Looks.ld (part := some headPart) hf).andThen ?_
        show Looks _ _ (instanceDict f false) _
        unfold instanceDict
        exact (Looks.ld hf).andThen .now
      refine L4.andThen ?_
      show Looks _ _ (nsGet dx (Str.ofString "read")) _
      unfold nsGet
      refine (Looks.ld hd).andThen (Looks.of_pure (nsLook_of ?_))
      rfl
    exact L3.andThen (Looks.tag .now)
  refine wpAny_bind (wpAny_pure (wpAny_bind (wpAny_pure (wpAny_bind (L1.at (wpAny_bind (L2.at ?_)))))))
  exact wpAny_pure ⟨_, rfl, wpAny_pure h⟩
theorem fn_getMethod {pl : Sem Bool} {Q : Value × List Value → Shared → Prop} (hf : s.heap.get? f = some (fnObj fd (some dx))) (hd : s.heap.get? dx = some (dictOf [⟨hk, .str (Str.ofString "read") t, .ref a⟩] n)) (h : Q (.ref a, []) { s with toks := s.toks + 1 }) :
    wpAny (model prog w) A (getMethod (.ref f) (Str.ofString "read") pl) Q E s := by
  have hT : Shared.TypeIs s (.ref f) "function" := ⟨_, hf, rfl⟩
  unfold getMethod
  dsimp only
  refine wpAny_bind (wpAny_specialOf hT slot_fn_getattribute.lookup ?_)
  dsimp only
  rw [canon_ga, if_neg (by decide)]
  refine wpAny_bind (wpAny_specialOf hT fn_no_getattr ?_)
  rw [if_neg (by decide)]
  refine wpAny_bind (wpAny_specialOf hT fn_no_read ?_)
  dsimp only
  exact wpAny_bind (fn_getread hf hd (wpAny_pure h))
end
end Mine
end
section
open PySem PySem.W PyProof.Rows Mine
set_option Elab.async false
set_option maxRecDepth 100000
set_option maxHeartbeats 1500000
namespace Mine
section enterS
variable {prog : Program} {w : World} {A : Around} {s : Shared} {h₀ : Heap} {L : Addr} {m : Str → Option Value} {news : List (Addr × Obj)} {K : Frag} {p : Program} {loose : List Str} {mean : ExcName → Option Value} {mg mb : Str → Option Value} {R : Result → Shared → Prop}
theorem enterCS {name qual : Str} {params : Arguments} {body : List Stmt} {scope : Scope} {dV kV doc pm cdv ct oc : Value} {an od : Option Addr} {osl : Array (Option Value)} {f : Addr} {args : Args} {binds : List (Str × Value)}
    (F : Fr h₀ L s.heap m) (X₀ : K.In h₀) (N : News h₀ L s.heap news) (T : Top p loose mean mg mb h₀)
    (ho : K.lookup f = some ⟨oc, od, .func (fnOf name qual params body scope dV kV doc pm an cdv ct), osl⟩) (hcd : codeIn K cdv qual = true) (hroom : A.depth < recursionLimit)
    (hbind : BindsTo s (fnOf name qual params body scope dV kV doc pm an cdv ct) args binds) (hkind : (binds.all fun y => scope.names.lookup y.1 == some .local || scope.names.lookup y.1 == some .cell) = true)
    (hnd : ((cellsFrom 0 scope.names []).map (·.1)).Nodup)
    (h : ∀ g L' h₁ tk cells, h₀.StaysIn g → Fr g L' h₁ (bindL (envOfC qual scope L' f cdv).kindOf binds fun _ => none) → News g L' h₁ (cells ++ news) →
      CellsAre (bindC (envOfC qual scope L' f cdv).kindOf binds fun _ => none) (cellsFrom (L' + 1) scope.names []) cells → K.In g → Top p loose mean mg mb g → LtAll L' news →
      wpAny (model prog w) (A.deeper (envOfC qual scope L' f cdv)) (execs body (envOfC qual scope L' f cdv))
        (fun fl s' => LeaveK h₀ L m g R (match fl with | .ret v => v | _ => .none) s')
        (fun e s' => wpAny (model prog w) (A.deeper (envOfC qual scope L' f cdv)) (leaving (envOfC qual scope L' f cdv) e) (fun _ s'' => R (.error e) s'') (fun e' s'' => R (.error e') s'') s')
        { s with heap := h₁, toks := tk })
    (hco : scope.isCoroutine = false) (hgen : scope.isGenerator = false) (hk : scope.kind = .function) : codeAny (model prog w) A (.call (.ref f) args) R s := by
  obtain ⟨st, lv⟩ := back_out (R := R) F N
  have X := X₀.keeps F.keep
  refine codeAny_call_function hroom (X _ _ ho) rfl hco hgen rfl (codeRec_of X hcd) (hbind _ _ _ _ ?_)
  refine wpAny_newFunctionEnv_cells hk (kindsX hkind _) fun env' he s' x => ?_
  subst he
  refine ⟨(T.nolimit.keeps F.keep).keeps x.toInCall.keep, codeAny_func ?_⟩
  obtain ⟨h₁, tk, rfl, _⟩ := x.done
  have hk₁ := x.toInCall.keep
  obtain ⟨cells, NC, Y⟩ := Cl.news (h₀ := s.heap) (Nat.le_refl _) fun n c hm => ⟨x.cell n c (lookup_of_mem_nodup (cellsFrom_names scope.names 0 (s.heap.objs.size + 1) [] [] rfl ▸ hnd) hm), x.above n c hm⟩
  refine wpAny_mono (h _ s.heap.objs.size h₁ tk cells st ⟨x.toInCall.ns, fun b o e => hk₁ b o (of_hideAll _ e), Nat.le_of_eq (hideAll_size _ _)⟩ (fun q hq => ?_) Y (X₀.keeps st) (T.keeps st) (fun q hq => Heap.lt_size (N q hq).1)) (fun fl s' hl => lv _ _ hl) fun _ _ y => y
  rcases List.mem_append.mp hq with hq | hq
  · refine ⟨(NC q hq).1, (NC q hq).2.1, ?_⟩
    cases hc : (hideAll s.heap (news.map (·.1))).get? q.1 with
    | none => rfl
    | some o =>
      have := of_hideAll _ hc
      rw [(NC q hq).2.2] at this
      cases this
  · exact ⟨hk₁ _ _ (N q hq).1, Nat.ne_of_lt (Heap.lt_size (N q hq).1), hideAll_none _ (List.mem_map_of_mem hq)⟩
theorem enterL {name qual : Str} {params : Arguments} {body : Expr} {scope : Scope} {cl : List (Str × Addr)} {pm ctv : Value} {c' : Addr} {f : Addr} {args : Args} {binds : List (Str × Value)}
    (F : Fr h₀ L s.heap m) (X₀ : K.In h₀) (N : News h₀ L s.heap news) (T : Top p loose mean mg mb h₀)
    (ho : (f, kla_obj name qual params body scope cl pm c' ctv) ∈ news) (hcd : s.heap.CodeRec (.ref c') qual) (hroom : A.depth < recursionLimit)
    (hbind : bindArgs (kla_fn name qual params body scope cl pm (.ref c') ctv) args = pure binds) (hloc : ∀ y ∈ binds, scope.names.lookup y.1 = some .local)
    (h : ∀ g L' h₁, h₀.StaysIn g → Fr g L' h₁ (fun y => binds.reverse.lookup y) → News g L' h₁ news → K.In g → Top p loose mean mg mb g → LtAll L' news →
      wpAny (model prog w) (A.deeper (envX qual scope L' f (.ref c') cl)) (eval body (envX qual scope L' f (.ref c') cl))
        (fun v s' => LeaveK h₀ L m g R v s')
        (fun e s' => wpAny (model prog w) (A.deeper (envX qual scope L' f (.ref c') cl)) (leaving (envX qual scope L' f (.ref c') cl) e) (fun _ s'' => R (.error e) s'') (fun e' s'' => R (.error e') s'') s')
        { s with heap := h₁, toks := s.toks + binds.length })
    (hco : scope.isCoroutine = false) (hgen : scope.isGenerator = false) (hk : scope.kind = .function)
    (hcell : ∀ x ∈ scope.names, x.2 ≠ .cell) : codeAny (model prog w) A (.call (.ref f) args) R s := by
  obtain ⟨st, lv⟩ := back_out (R := R) F N
  refine kla_callFunE hroom (N _ ho).1 rfl hco hgen rfl hcd ?_
  rw [hbind]
  refine wpAny_pure (wpAny_newFunctionEnv hcell hloc (fun h₁ hns hsb => ⟨((T.nolimit).keeps F.keep).fresh _ hsb, ?_⟩) hk)
  show codeAny _ _ (.expr body (envX qual scope s.heap.objs.size f (.ref c') cl)) _ _
  have hk₁ : ∀ b o, s.heap.get? b = some o → h₁.get? b = some o := fun b o e => hsb.extBut b o (Nat.ne_of_lt (Heap.lt_size e)) (Heap.get?_push_of_some _ e)
  exact kla_codeExpr (wpAny_mono (h _ s.heap.objs.size h₁ st ⟨hns, fun b o e => hk₁ b o (of_hideAll _ e), Nat.le_of_eq (hideAll_size _ _)⟩
    (fun p hp => ⟨hk₁ _ _ (N p hp).1, Nat.ne_of_lt (Heap.lt_size (N p hp).1), hideAll_none _ (List.mem_map_of_mem hp)⟩) (X₀.keeps st) (T.keeps st) (fun q hq => Heap.lt_size (N q hq).1)) (fun v s' hl => lv _ _ hl) fun _ _ y => y)
end enterS
theorem forgetC {M : Model} {A : Around} {c : Code} {R : Result → Shared → Prop} {s : Shared} {dp un : Nat} (hh : A.handled = none) (hd : A.depth ≤ dp) (hu : A.units ≤ un) (h : codeAny M (AB dp un) c R s) : codeAny M A c R s :=
  fun Γ p hc hΓ => h Γ p hc ⟨hΓ.1.trans hh, Nat.le_trans hΓ.2.1 hd, fun _ e => (nomatch e), fun _ e => (nomatch e), Nat.le_trans hΓ.2.2.2.2 hu⟩
theorem weight_cls (x : Addr) (l : List Value) : (Code.builtin "type.__call__" ⟨.ref x :: l, []⟩).weight = 1 := by kernel_rfl
theorem units_cls (x : Addr) (l : List Value) : (Code.builtin "type.__call__" ⟨.ref x :: l, []⟩).cUnits = 1 := by kernel_rfl
theorem news_c {h₀ h : Heap} {L : Addr} {a : Addr × Obj} {l l' : List (Addr × Obj)} (N : News h₀ L h l) (hm : a ∈ l) (N' : News h₀ L h l') : News h₀ L h (a :: l') := fun q hq => by
  rcases List.mem_cons.mp hq with rfl | hq
  · exact N _ hm
  · exact N' q hq
theorem join_one (c : Nat) : Txt.join (Str.ofString "") [⟨#[c]⟩] = ⟨#[c]⟩ := by rfl
theorem join_nil' : Txt.join (Str.ofString "") [] = Str.ofString "" := by rfl
theorem chVals_nil : chVals [] = [] := rfl
theorem LtAll.tl {d : Addr} {a : Addr × Obj} {l : List (Addr × Obj)} (h : LtAll d (a :: l)) : LtAll d l := fun q hq => h q (.tail _ hq)
theorem LtAll.hd {d : Addr} {a : Addr × Obj} {l : List (Addr × Obj)} (h : LtAll d (a :: l)) : @LT.lt Nat _ a.1 d := h a (.head _)
theorem LtAll.of {d : Addr} {l : List (Addr × Obj)} (h : AllLt d l) : LtAll d l := by
  induction l with
  | nil => exact fun q hq => nomatch hq
  | cons a l ih => exact fun q hq => (List.mem_cons.mp hq).elim (fun e => e ▸ h.1) (ih h.2 q)
structure LexP where
  (cc D c1 f1 c2 f2 dx dd x pb : Addr)
  (oc1 oc2 o2 t86 oc : Obj)
  fd1 : FuncData
  (tr t1 t2 t3 t4 tw : Tok)
abbrev lexLed (w : World) (P : LexP) (line : Int) (tl : Tok) (l : List (Nat × Tok)) (c : Nat) (pbs : List Value) (n : Nat) (news : List (Addr × Obj)) : List (Addr × Obj) :=
  (P.D, W.listOf (chVals l).toArray c) :: (P.pb, W.listOf pbs.toArray n) ::
  (P.dd, dictOf [⟨PyData.keyHash w.params (Str.ofString "lineno"), .str (Str.ofString "lineno") P.t1, .int line tl⟩, ⟨PyData.keyHash w.params (Str.ofString "instream"), .str (Str.ofString "instream") P.t2, .ref P.f1⟩, ⟨PyData.keyHash w.params (Str.ofString "whitespace"), .str (Str.ofString "whitespace") P.t3, .str (Str.ofString "\n\t\r ") P.tw⟩, ⟨PyData.keyHash w.params (Str.ofString "pushback"), .str (Str.ofString "pushback") P.t4, .ref P.pb⟩] 4) ::
  (P.x, instObj 73 P.dd) :: (P.dx, dictOf [⟨PyData.keyHash w.params (Str.ofString "read"), .str (Str.ofString "read") P.tr, .ref P.f2⟩] 1) :: (P.f2, P.o2) :: (P.c2, P.oc2) :: (P.f1, fnObj P.fd1 (some P.dx)) :: (P.c1, P.oc1) :: (P.cc, P.oc) :: (86, P.t86) :: news
abbrev lexAdr (P : LexP) : List Addr := [P.D, P.pb, P.dd, P.x, P.dx, P.f2, P.c2, P.f1, P.c1, P.cc, 86]
def headS (l : List (Nat × Tok)) : Str := match l with | [] => Str.ofString "" | p :: _ => ⟨#[p.1]⟩
def ReadOk (w : World) (mean : ExcName → Option Value) (mg mb : Str → Option Value) (P : LexP) : Prop :=
  ∀ (line : Int) (tl : Tok) (l : List (Nat × Tok)) (c : Nat) (pbs : List Value) (n : Nat) (news : List (Addr × Obj)) (t : Tok), l.length ≤ 100 → OwnOff news (lexAdr P) → (∀ q ∈ news, q.1 ≠ 86) →
    MClaim w mean mg mb P.f2 (lexLed w P line tl l c pbs n news) [.int 1 t] 2 (fun s Q h₀ L m => ∀ (t' : Tok) (c' : Nat) (h' : Heap) (tk' : Nat), Fr h₀ L h' m → News h₀ L h' (lexLed w P line tl l.tail c' pbs n news) → Q (.str (headS l) t') { s with heap := h', toks := tk' })
structure LexOk (w : World) (mean : ExcName → Option Value) (mg mb : Str → Option Value) (P : LexP) (news : List (Addr × Obj)) : Prop where
  l1 : @LT.lt Nat _ 86 P.cc
  l2 : @LT.lt Nat _ P.cc P.D
  l3 : @LT.lt Nat _ P.D P.c1
  l4 : @LT.lt Nat _ P.c1 P.f1
  l5 : @LT.lt Nat _ P.f1 P.c2
  l6 : @LT.lt Nat _ P.c2 P.f2
  l7 : @LT.lt Nat _ P.f2 P.dx
  l8 : @LT.lt Nat _ P.dx P.dd
  l9 : @LT.lt Nat _ P.dd P.x
  lA : @LT.lt Nat _ P.x P.pb
  n1 : OwnOff news (lexAdr P)
  n2 : ∀ q ∈ news, q.1 ≠ 86
  oc : P.oc.data = .cell (some (.ref P.D))
  o2f : ∃ fd, P.o2 = fnObj fd none
  rd : ReadOk w mean mg mb P
theorem lex_off {news : List (Addr × Obj)} {cc D c1 f1 c2 f2 dx dd x pb : Addr} (h : ∀ q ∈ news, @LT.lt Nat _ q.1 cc) (h86 : ∀ q ∈ news, q.1 ≠ 86) (l2 : @LT.lt Nat _ cc D) (l3 : @LT.lt Nat _ D c1) (l4 : @LT.lt Nat _ c1 f1) (l5 : @LT.lt Nat _ f1 c2) (l6 : @LT.lt Nat _ c2 f2) (l7 : @LT.lt Nat _ f2 dx) (l8 : @LT.lt Nat _ dx dd) (l9 : @LT.lt Nat _ dd x) (lA : @LT.lt Nat _ x pb) : OwnOff news [D, pb, dd, x, dx, f2, c2, f1, c1, cc, 86] := by
  intro q hq a ha
  have z1 := h q hq
  have z2 := Nat.lt_trans z1 l2
  have z3 := Nat.lt_trans z2 l3
  have z4 := Nat.lt_trans z3 l4
  have z5 := Nat.lt_trans z4 l5
  have z6 := Nat.lt_trans z5 l6
  have z7 := Nat.lt_trans z6 l7
  have z8 := Nat.lt_trans z7 l8
  have z9 := Nat.lt_trans z8 l9
  have zA := Nat.lt_trans z9 lA
  simp only [List.mem_cons, List.not_mem_nil, or_false] at ha
  rcases ha with rfl | rfl | rfl | rfl | rfl | rfl | rfl | rfl | rfl | rfl | rfl
  · exact Nat.ne_of_lt z2
  · exact Nat.ne_of_lt zA
  · exact Nat.ne_of_lt z8
  · exact Nat.ne_of_lt z9
  · exact Nat.ne_of_lt z7
  · exact Nat.ne_of_lt z6
  · exact Nat.ne_of_lt z5
  · exact Nat.ne_of_lt z4
  · exact Nat.ne_of_lt z3
  · exact Nat.ne_of_lt z1
  · exact h86 q hq
theorem lex_neD {news : List (Addr × Obj)} {cc D c1 f1 c2 f2 dx dd x pb : Addr} {o1 o2 o3 o4 o5 o6 o7 o8 o9 oA : Obj} (h : ∀ q ∈ news, q.1 ≠ D) (h0 : @LT.lt Nat _ 86 D) (l2 : @LT.lt Nat _ cc D) (l3 : @LT.lt Nat _ D c1) (l4 : @LT.lt Nat _ c1 f1) (l5 : @LT.lt Nat _ f1 c2) (l6 : @LT.lt Nat _ c2 f2) (l7 : @LT.lt Nat _ f2 dx) (l8 : @LT.lt Nat _ dx dd) (l9 : @LT.lt Nat _ dd x) (lA : @LT.lt Nat _ x pb) :
    ∀ p ∈ (pb, o1) :: (dd, o2) :: (x, o3) :: (dx, o4) :: (f2, o5) :: (c2, o6) :: (f1, o7) :: (c1, o8) :: (cc, o9) :: ((86 : Addr), oA) :: news, p.1 ≠ D :=
  have z4 := Nat.lt_trans l3 l4
  have z5 := Nat.lt_trans z4 l5
  have z6 := Nat.lt_trans z5 l6
  have z7 := Nat.lt_trans z6 l7
  have z8 := Nat.lt_trans z7 l8
  have z9 := Nat.lt_trans z8 l9
  have zA := Nat.lt_trans z9 lA
  List.forall_mem_cons.mpr ⟨Nat.ne_of_gt zA, List.forall_mem_cons.mpr ⟨Nat.ne_of_gt z8, List.forall_mem_cons.mpr ⟨Nat.ne_of_gt z9, List.forall_mem_cons.mpr ⟨Nat.ne_of_gt z7, List.forall_mem_cons.mpr ⟨Nat.ne_of_gt z6, List.forall_mem_cons.mpr ⟨Nat.ne_of_gt z5, List.forall_mem_cons.mpr ⟨Nat.ne_of_gt z4, List.forall_mem_cons.mpr ⟨Nat.ne_of_gt l3, List.forall_mem_cons.mpr ⟨Nat.ne_of_lt l2, List.forall_mem_cons.mpr ⟨Nat.ne_of_lt h0, h⟩⟩⟩⟩⟩⟩⟩⟩⟩⟩
theorem lexer_c {w : World} {mean} {mg mb} (text : Str) (tt : Tok) (news : List (Addr × Obj)) (hz : text.length ≤ 100) (h86 : ∀ q ∈ news, q.1 ≠ 86) :
  MClaim w mean mg mb 91 ((86, tabObj #[]) :: news) [.str text tt] 4 (fun s Q h₀ L m => CodeHd h₀ 90 86 ∧ ∀ (P : LexP) (tl : Tok) (l : List (Nat × Tok)) (c : Nat) (h' : Heap) (tk' : Nat), LexOk w mean mg mb P news → (∃ ps, P.t86 = tabObj ps) → l.map (·.1) = text.cps.toList →
    Fr h₀ L h' m → News h₀ L h' (lexLed w P 1 tl l c [] 0 news) → Q (.ref P.x) { s with heap := h', toks := tk' }) := by
  dsimp only [MClaim, PRG]; k_fill; intro dp un h₀ L m s Q E F₀ X₀ N₀ T₀ hroom hunits hret
  have k1 := held "call type:list"
  have k2 := held "pyIter ref"
  have k3 := held "call builtin:list.pop"
  have k4 := held "call builtin:str.join"
  have k5 := held "call builtin:len cons nil"
  have k6 := held "setAttr ref"
  obtain ⟨hcode, hret⟩ := hret
  refine wpAny_call ?_
  k_dflt (refine' enterCS ?k2 ?k3 ?k4 ?k5 ?k6 ?k7 ?k8 ?k9 ?kB ?kD ?_ ?c2 ?c3 ?c4; (case k2 => k_asm); (case k3 => k_asm); (case k4 => k_asm); (case k5 => k_asm); (case k6 => k_is); (case k7 => k_is); (case k8 => exact rm0 hroom); (case k9 => exact BindsTo.of_eq rfl); (case kB => exact rfl); (case kD => decide +kernel); (case c2 => exact rfl); (case c3 => exact rfl); (case c4 => exact rfl); k_whole; intro _ _ _ _ _ _ _ N' Y' _ _ _; k_cells Y'; (try simp only [List.cons_append, List.nil_append] at N'); (try dsimp only); (try k_fold))
  refine quiet ?_
  intro Q9 hQ9
  k_steps
  all_goals try (refine hQ9 _ _ ?_; k_steps)
  refine unhold ?_
  rename Fr _ _ _ _ => F
  replace F := (show Fr _ _ _ (fun y => if y = Str.ofString "text" then some (Value.str text tt) else none) from F)
  refine list_str_led rfl (by assumption) (by assumption) (by (first | (with_reducible first | assumption | exact Nat.le_trans (by assumption) (by decide) | exact Nat.lt_of_le_of_lt (by assumption) (by decide) | (refine Nat.ne_of_lt ?_; (repeat (first | assumption | refine Nat.lt_trans (by assumption) ?_)); done) | (refine Nat.ne_of_gt ?_; (repeat (first | assumption | refine Nat.lt_trans (by assumption) ?_)); done) | ((repeat (first | assumption | refine Nat.lt_trans (by assumption) ?_)); done)) | omega)) ?_
  intro D l8 c8 h1 tk1 hl8 hD F1 N1
  rename Obj => oC
  rename oC.data = _ => dC
  replace dC := (show oC.data = Data.cell none from dC)
  rename LtAll _ ((86, tabObj #[]) :: news) => l1
  have lL : LtAll _ news := fun q hq => l1 q (.tail _ hq)
  have lD : LtAll D news := fun q hq => hD q (.tail _ (.tail _ hq))
  have f1 := l1.hd
  have f2 := hD.hd
  have f3 : @LT.lt Nat _ 86 D := hD.tl.hd
  dsimp only at f1 f2
  rename Heap.StaysIn _ _ => st
  have hC2 := CodeHd.keeps hcode st
  have hl8n : l8.length = text.length := by rw [← List.length_map (f := fun x : Nat × Tok => x.1), hl8]; rfl
  dsimp only
  k_steps
  all_goals try (refine hQ9 _ _ ?_; k_steps)
  refine unhold ?_
  rename _ ∧ _ ∧ _ ∧ _ ∧ _ ∧ AllLt _ news => q1
  obtain ⟨q1, q2, q3, q4, q5, q6⟩ := q1
  clear k6
  refine' fn_setattr ?F ?N ?U ?_
  case F => k_asm
  case N => k_asm
  case U => k_updF
  intro dx h' tk t lx F' N'
  try dsimp only at N'
  have lxn : LtAll dx news := lx.tl.tl.tl.tl.tl.tl.tl
  k_steps
  all_goals try (refine hQ9 _ _ ?_; k_steps)
  k_dflt (refine' call_cls ?F ?X ?N ?hm ?hi ?hf ?_)
  case F => k_asm
  case X => k_asm
  case N => k_asm
  case hm => k_is
  case hi => k_is
  case hf => k_is
  intro x dd h' F' N' l1' l2'
  refine forgetC (dp := dp + 2) (un := un + 4) rfl ?hd ?hu ?_
  case hd => show dp + 1 + (Code.builtin "type.__call__" ⟨[.ref 73, .ref _], []⟩).weight ≤ dp + 2; rw [weight_cls]; (first | (with_reducible first | assumption | exact Nat.le_trans (by assumption) (by decide) | exact Nat.lt_of_le_of_lt (by assumption) (by decide) | (refine Nat.ne_of_lt ?_; (repeat (first | assumption | refine Nat.lt_trans (by assumption) ?_)); done) | (refine Nat.ne_of_gt ?_; (repeat (first | assumption | refine Nat.lt_trans (by assumption) ?_)); done) | ((repeat (first | assumption | refine Nat.lt_trans (by assumption) ?_)); done)) | omega)
  case hu => show un + 3 + (Code.builtin "type.__call__" ⟨[.ref 73, .ref _], []⟩).cUnits ≤ un + 4; rw [units_cls]; (first | (with_reducible first | assumption | exact Nat.le_trans (by assumption) (by decide) | exact Nat.lt_of_le_of_lt (by assumption) (by decide) | (refine Nat.ne_of_lt ?_; (repeat (first | assumption | refine Nat.lt_trans (by assumption) ?_)); done) | (refine Nat.ne_of_gt ?_; (repeat (first | assumption | refine Nat.lt_trans (by assumption) ?_)); done) | ((repeat (first | assumption | refine Nat.lt_trans (by assumption) ?_)); done)) | omega)
  have e1 := LtAll.hd l1'
  have e2 := lx.hd
  dsimp only at e1 e2
  have ldn : LtAll dd news := LtAll.tl (LtAll.tl (LtAll.tl (LtAll.tl (LtAll.tl (LtAll.tl (LtAll.tl (LtAll.tl l1')))))))
  have e3 := ltN l2'
  (refine' enterP ?k2 ?k3 ?k4 ?k5 ?k6 ?k7 ?k8 ?k9 ?kB ?_ ?c2 ?c3 ?c4 ?c5; (case k2 => k_asm); (case k3 => k_asm); (case k4 => k_asm); (case k5 => k_asm); (case k6 => k_is); (case k7 => k_is); (case k8 => (dsimp only; (first | (with_reducible first | assumption | exact Nat.le_trans (by assumption) (by decide) | exact Nat.lt_of_le_of_lt (by assumption) (by decide) | (refine Nat.ne_of_lt ?_; (repeat (first | assumption | refine Nat.lt_trans (by assumption) ?_)); done) | (refine Nat.ne_of_gt ?_; (repeat (first | assumption | refine Nat.lt_trans (by assumption) ?_)); done) | ((repeat (first | assumption | refine Nat.lt_trans (by assumption) ?_)); done)) | omega))); (case k9 => exact BindsTo.of_eq rfl); (case c5 => decide); (case kB => exact locs rfl); (case c2 => exact rfl); (case c3 => exact rfl); (case c4 => exact rfl); k_whole; intro _ _ _ _ _ _ _ _; (try dsimp only); (try k_fold))
  rename Fr _ _ _ _ => F
  rename LtAll _ ((x, _) :: _) => l9
  have e4 := l9.hd
  dsimp only at e4
  k_steps
  all_goals try (refine hQ9 _ _ ?_; k_steps)
  rename News h₀ _ _ _ => N9
  refine hret ⟨_, _, _, _, _, _, _, _, _, _, _, _, _, _, _, _, _, _, _, _, _, _⟩ _ _ _ _ _ ?_ ⟨_, rfl⟩ hl8 (by k_asm) (news_c N9 (.tail _ (.tail _ (.tail _ (.tail _ (.tail _ (.tail _ (.tail _ (.tail _ (.head _))))))))) (news_c N9 (.head _) (news_c N9 (.tail _ (.tail _ (.head _))) (news_c N9 (.tail _ (.head _)) (news_c N9 (.tail _ (.tail _ (.tail _ (.head _)))) (news_c N9 (.tail _ (.tail _ (.tail _ (.tail _ (.head _))))) (news_c N9 (.tail _ (.tail _ (.tail _ (.tail _ (.tail _ (.head _)))))) (news_c N9 (.tail _ (.tail _ (.tail _ (.tail _ (.tail _ (.tail _ (.head _))))))) (news_c N9 (.tail _ (.tail _ (.tail _ (.tail _ (.tail _ (.tail _ (.tail _ (.head _)))))))) (news_t (news_t (news_t (news_t (news_t (news_t (news_t (news_t (news_t N9))))))))))))))))))
  rename D < _ ∧ _ ∧ _ ∧ AllLt _ news => r1
  rename x < _ ∧ _ => r2
  obtain ⟨r1, r1b, r1c, -⟩ := r1
  obtain ⟨r2, -⟩ := r2
  refine ⟨?_, ?_, ?_, ?_, ?_, ?_, ?_, ?_, ?_, ?_, ?_, h86, by assumption, ⟨_, rfl⟩, ?_⟩
  all_goals try (dsimp only; (first | (with_reducible first | assumption | exact Nat.le_trans (by assumption) (by decide) | exact Nat.lt_of_le_of_lt (by assumption) (by decide) | (refine Nat.ne_of_lt ?_; (repeat (first | assumption | refine Nat.lt_trans (by assumption) ?_)); done) | (refine Nat.ne_of_gt ?_; (repeat (first | assumption | refine Nat.lt_trans (by assumption) ?_)); done) | ((repeat (first | assumption | refine Nat.lt_trans (by assumption) ?_)); done)) | omega))
  · exact lex_off (fun q hq => Nat.lt_succ_of_lt (ltN (lL q hq))) h86 (by omega) (by omega) (by omega) (by omega) (by omega) (by omega) (by omega) (by omega) (by omega)
  · intro line tl l c pbs n news t hl hn h8
    rcases l with _ | ⟨⟨ch, tch⟩, r⟩
    all_goals dsimp only [MClaim, lexLed, chVals_cons, chVals_nil, headS, List.tail]
    · k_fill; intro dp un h₀ L m s Q E F₀ X₀ N₀ T₀ hroom hunits hret
      refine wpAny_call ?_
      refine' enterL ?k1 ?k2 ?k3 ?k4 ?k5 ?k6 ?k7 ?k8 ?k9 ?_ ?c2 ?c3 ?c4 ?c5
      case k1 => k_asm
      case k2 => k_asm
      case k3 => k_asm
      case k4 => k_asm
      case k5 => k_mem
      case k6 => exact codeRec_news N₀ (by k_mem) (by assumption) (by assumption)
      case k7 => dsimp only; (first | (with_reducible first | assumption | exact Nat.le_trans (by assumption) (by decide) | exact Nat.lt_of_le_of_lt (by assumption) (by decide) | (refine Nat.ne_of_lt ?_; (repeat (first | assumption | refine Nat.lt_trans (by assumption) ?_)); done) | (refine Nat.ne_of_gt ?_; (repeat (first | assumption | refine Nat.lt_trans (by assumption) ?_)); done) | ((repeat (first | assumption | refine Nat.lt_trans (by assumption) ?_)); done)) | omega)
      case k8 => rfl
      case k9 => exact locs rfl
      case c2 => rfl
      case c3 => rfl
      case c4 => rfl
      case c5 => decide
      intro g' L' h' st' F' N' X' T' l1
      refine quiet ?_
      intro Q8 hQ8
      k_steps
      refine unhold ?_
      refine len_led (by k_asm) (by k_mem) (by simp only [chVals_len, List.length_cons, List.length_nil] at *; (first | (with_reducible first | assumption | exact Nat.le_trans (by assumption) (by decide) | exact Nat.lt_of_le_of_lt (by assumption) (by decide) | (refine Nat.ne_of_lt ?_; (repeat (first | assumption | refine Nat.lt_trans (by assumption) ?_)); done) | (refine Nat.ne_of_gt ?_; (repeat (first | assumption | refine Nat.lt_trans (by assumption) ?_)); done) | ((repeat (first | assumption | refine Nat.lt_trans (by assumption) ?_)); done)) | omega)) ?_
      try simp only [chVals_len, List.length_nil]
      k_steps
      all_goals try (refine hQ8 _ _ ?_; k_steps)
      all_goals try (refine hQ9 _ _ ?_; k_steps)
      refine unhold ?_
      rename IsRange _ _ _ _ _ _ _ _ => hr
      rw [if_pos (by decide)] at hr
      replace hr := (show IsRange _ _ 0 0 1 _ _ _ from hr)
      rename News g' L' _ _ => N1
      rename Fr g' L' _ _ => F1
      refine compRange (n := 0) [] _ (fun i ys nx gs => gs = s.gens ∧ ys = [] ∧ nx = []) rfl hr (by decide) (by decide) (by (first | (with_reducible first | assumption | exact Nat.le_trans (by assumption) (by decide) | exact Nat.lt_of_le_of_lt (by assumption) (by decide) | (refine Nat.ne_of_lt ?_; (repeat (first | assumption | refine Nat.lt_trans (by assumption) ?_)); done) | (refine Nat.ne_of_gt ?_; (repeat (first | assumption | refine Nat.lt_trans (by assumption) ?_)); done) | ((repeat (first | assumption | refine Nat.lt_trans (by assumption) ?_)); done)) | omega)) F1 N1 ⟨rfl, rfl, rfl⟩ ?len ?turn ?done
      case len =>
        rintro i ys nx gs ⟨-, rfl, -⟩
        exact Nat.zero_le _
      case turn =>
        intro g C D2 i tv ys nD news₁ gs h tk m₁ own E' hi
        exact absurd hi (Nat.not_lt_zero _)
      case done =>
        rintro D2 ys nD news₁ gs h' tk ⟨rfl, rfl, rfl⟩ - hlt F N
        dsimp only [List.nil_append, List.cons_append] at N hlt ⊢
        k_steps
        all_goals try (refine hQ8 _ _ ?_; k_steps)
        all_goals try (refine hQ9 _ _ ?_; k_steps)
        refine unhold ?_
        refine join_list (ys := []) (isList_led N (.head _)) .nil (by decide) ?_
        intro t' k'
        rw [join_nil']
        k_steps
        all_goals try (refine hQ8 _ _ ?_; k_steps)
        all_goals try (refine hQ9 _ _ ?_; k_steps)
        exact hret _ _ _ _ (by k_asm) (news_t (by k_asm))
    k_fill; intro dp un h₀ L m s Q E F₀ X₀ N₀ T₀ hroom hunits hret
    refine wpAny_call ?_
    refine' enterL ?k1 ?k2 ?k3 ?k4 ?k5 ?k6 ?k7 ?k8 ?k9 ?_ ?c2 ?c3 ?c4 ?c5
    case k1 => k_asm
    case k2 => k_asm
    case k3 => k_asm
    case k4 => k_asm
    case k5 => k_mem
    case k6 => exact codeRec_news N₀ (by k_mem) (by assumption) (by assumption)
    case k7 => dsimp only; (first | (with_reducible first | assumption | exact Nat.le_trans (by assumption) (by decide) | exact Nat.lt_of_le_of_lt (by assumption) (by decide) | (refine Nat.ne_of_lt ?_; (repeat (first | assumption | refine Nat.lt_trans (by assumption) ?_)); done) | (refine Nat.ne_of_gt ?_; (repeat (first | assumption | refine Nat.lt_trans (by assumption) ?_)); done) | ((repeat (first | assumption | refine Nat.lt_trans (by assumption) ?_)); done)) | omega)
    case k8 => rfl
    case k9 => exact locs rfl
    case c2 => rfl
    case c3 => rfl
    case c4 => rfl
    case c5 => decide
    intro g' L' h' st' F' N' X' T' l1
    refine quiet ?_
    intro Q7 hQ7
    k_steps
    refine unhold ?_
    refine len_led (by k_asm) (by k_mem) (by simp only [chVals_len, List.length_cons, List.length_nil] at *; (first | (with_reducible first | assumption | exact Nat.le_trans (by assumption) (by decide) | exact Nat.lt_of_le_of_lt (by assumption) (by decide) | (refine Nat.ne_of_lt ?_; (repeat (first | assumption | refine Nat.lt_trans (by assumption) ?_)); done) | (refine Nat.ne_of_gt ?_; (repeat (first | assumption | refine Nat.lt_trans (by assumption) ?_)); done) | ((repeat (first | assumption | refine Nat.lt_trans (by assumption) ?_)); done)) | omega)) ?_
    try simp only [chVals_len, List.length_nil]
    k_steps
    all_goals try (refine hQ7 _ _ ?_; k_steps)
    all_goals try (refine hQ8 _ _ ?_; k_steps)
    all_goals try (refine hQ9 _ _ ?_; k_steps)
    refine unhold ?_
    rename IsRange _ _ _ _ _ _ _ _ => hr
    rw [if_neg (by simp only [List.length_cons]; (first | (with_reducible first | assumption | exact Nat.le_trans (by assumption) (by decide) | exact Nat.lt_of_le_of_lt (by assumption) (by decide) | (refine Nat.ne_of_lt ?_; (repeat (first | assumption | refine Nat.lt_trans (by assumption) ?_)); done) | (refine Nat.ne_of_gt ?_; (repeat (first | assumption | refine Nat.lt_trans (by assumption) ?_)); done) | ((repeat (first | assumption | refine Nat.lt_trans (by assumption) ?_)); done)) | omega))] at hr
    rename News g' L' _ _ => N1
    rename Fr g' L' _ _ => F1
    rw [← List.singleton_append] at N1
    refine compRange (n := 1) _ _ (fun i ys nx gs => gs = s.gens ∧ ((i = 0 ∧ ys = [] ∧ nx = [(D, W.listOf (Value.str ⟨#[ch]⟩ tch :: chVals r).toArray c)]) ∨ (i = 1 ∧ ys = [Value.str ⟨#[ch]⟩ tch] ∧ nx = [(D, W.listOf (chVals r).toArray (c + 1))]))) rfl hr (by decide) (by decide) (by (first | (with_reducible first | assumption | exact Nat.le_trans (by assumption) (by decide) | exact Nat.lt_of_le_of_lt (by assumption) (by decide) | (refine Nat.ne_of_lt ?_; (repeat (first | assumption | refine Nat.lt_trans (by assumption) ?_)); done) | (refine Nat.ne_of_gt ?_; (repeat (first | assumption | refine Nat.lt_trans (by assumption) ?_)); done) | ((repeat (first | assumption | refine Nat.lt_trans (by assumption) ?_)); done)) | omega)) F1 N1 ⟨rfl, .inl ⟨rfl, rfl, rfl⟩⟩ ?len ?turn ?done
    case len =>
      rintro i ys nx gs ⟨-, ⟨-, rfl, -⟩ | ⟨rfl, rfl, -⟩⟩
      · exact Nat.zero_le _
      · exact Nat.le_refl _
    case turn =>
      rintro g C D2 i tv ys nD news₁ gs h tk m₁ own E' hi ⟨rfl, ⟨rfl, rfl, rfl⟩ | ⟨rfl, -, -⟩⟩ - hown hlt hlo hDC st FG F N
      · have X1 := X'.keeps st
        have T1 := T'.keeps st
        dsimp only [List.nil_append, List.cons_append] at N ⊢
        have hD2 := ltN (hlt (D, _) (.head _))
        have hne : ∀ p ∈ news ++ own, p.1 ≠ D := by
          intro p hp
          rcases List.mem_append.mp hp with hp | hp
          · exact hn.ne (by k_mem) p hp
          · have := ltN (hown p hp (D, _) (.head _))
            exact neN (by (first | (with_reducible first | assumption | exact Nat.le_trans (by assumption) (by decide) | exact Nat.lt_of_le_of_lt (by assumption) (by decide) | (refine Nat.ne_of_lt ?_; (repeat (first | assumption | refine Nat.lt_trans (by assumption) ?_)); done) | (refine Nat.ne_of_gt ?_; (repeat (first | assumption | refine Nat.lt_trans (by assumption) ?_)); done) | ((repeat (first | assumption | refine Nat.lt_trans (by assumption) ?_)); done)) | omega))
        k_steps
        all_goals try (refine hQ7 _ _ ?_; k_steps)
        all_goals try (refine hQ8 _ _ ?_; k_steps)
        all_goals try (refine hQ9 _ _ ?_; k_steps)
        refine unhold ?_
        refine pop_led (vs := Value.str ⟨#[ch]⟩ tch :: chVals r) (n := c) (v := .str ⟨#[ch]⟩ tch) (by k_asm) (by k_asm) (.tail (neN (Nat.ne_of_gt hD2)) (.head (lex_neD hne (by omega) (by omega) (by omega) (by omega) (by omega) (by omega) (by omega) (by omega) (by omega) (by omega)))) (by decide) (by simp only [List.length_cons, chVals_len] at *; (first | (with_reducible first | assumption | exact Nat.le_trans (by assumption) (by decide) | exact Nat.lt_of_le_of_lt (by assumption) (by decide) | (refine Nat.ne_of_lt ?_; (repeat (first | assumption | refine Nat.lt_trans (by assumption) ?_)); done) | (refine Nat.ne_of_gt ?_; (repeat (first | assumption | refine Nat.lt_trans (by assumption) ?_)); done) | ((repeat (first | assumption | refine Nat.lt_trans (by assumption) ?_)); done)) | omega)) rfl ?_
        intro h' F' N'
        refine ⟨_, _, _, _, [(D, W.listOf (chVals r).toArray (c + 1))], rfl, by k_asm, by k_asm, rfl, rfl, .inr ⟨rfl, rfl, rfl⟩⟩
      · exact absurd hi (by decide)
    case done =>
      rintro D2 ys nD news₁ gs h' tk ⟨rfl, ⟨h0, -, -⟩ | ⟨-, rfl, rfl⟩⟩ - hlt F N
      · cases h0
      dsimp only [List.nil_append, List.cons_append] at N hlt ⊢
      k_steps
      all_goals try (refine hQ7 _ _ ?_; k_steps)
      all_goals try (refine hQ8 _ _ ?_; k_steps)
      all_goals try (refine hQ9 _ _ ?_; k_steps)
      refine unhold ?_
      refine join_list (ys := [⟨#[ch]⟩]) (isList_led N (.head _)) (.cons _ _ .nil) (show 1 + 1 * 0 ≤ 16777216 by decide) ?_
      intro t' k'
      rw [join_one]
      k_steps
      all_goals try (refine hQ7 _ _ ?_; k_steps)
      all_goals try (refine hQ8 _ _ ?_; k_steps)
      all_goals try (refine hQ9 _ _ ?_; k_steps)
      exact hret _ _ _ _ (by k_asm) (news_t (by k_asm))
end Mine
end
local macro_rules | `(tactic| k_all) => `(tactic| first | assumption | exact OwnOff.ne (by assumption) (by k_mem))
section
open PySem PySem.W PyProof.Rows Mine
set_option Elab.async false
set_option maxRecDepth 100000
set_option maxHeartbeats 1500000
namespace Mine
abbrev CClaim (w : World) (mean : ExcName → Option Value) (mg mb : Str → Option Value) (f : Addr) (news : List (Addr × Obj)) (vs : List Value) (k : Nat) (Ret : (Shared → (Result → Shared → Prop) → Heap → Addr → (Str → Option Value) → Prop)) : Prop :=
  ∀ (dp un : Nat) (h₀ : Heap) (L : Addr) (m : Str → Option Value) (s : Shared) (R : Result → Shared → Prop),
    Fr h₀ L s.heap m → (hd.heap_1 w.params).In h₀ → News h₀ L s.heap news → Top topProg looseT mean mg mb h₀ →
    dp + k < recursionLimit → un + 10 * k < cLine → Ret s R h₀ L m →
      codeAny (model PRG w) (AB dp un) (.call (.ref f) ⟨vs, []⟩) R s
def nlF (l : List (Nat × Tok)) : Int := match l with | [] => 0 | p :: _ => if p.1 = 10 then 1 else 0
theorem nl_t {l : List (Nat × Tok)} (h : (headS l == Str.ofString "\n") = true) : nlF l = 1 := by
  have h := beq_iff_eq.mp h
  cases l with
  | nil => exact absurd h (by decide)
  | cons p r =>
    have e : p.1 = 10 := by
      have h2 : (⟨#[p.1]⟩ : Str).cps.toList = (Str.ofString "\n").cps.toList := congrArg (fun s : Str => s.cps.toList) h
      have h3 : [p.1] = [10] := h2
      exact List.cons.inj h3 |>.1
    unfold nlF
    dsimp only
    rw [if_pos e]
theorem nl_f {l : List (Nat × Tok)} (h : (headS l == Str.ofString "\n") = false) : nlF l = 0 := by
  cases l with
  | nil => rfl
  | cons p r =>
    have e : p.1 ≠ 10 := by
      intro e
      have h2 : headS (p :: r) = Str.ofString "\n" := by show (⟨#[p.1]⟩ : Str) = _; rw [e]; rfl
      rw [h2] at h
      exact absurd h (by decide)
    unfold nlF
    dsimp only
    rw [if_neg e]
theorem rchar_c {w : World} {mean} {mg mb} (P : LexP) (news : List (Addr × Obj)) (hP : LexOk w mean mg mb P news) (line : Int) (tl : Tok) (l : List (Nat × Tok)) (c : Nat) (pbs : List Value) (n : Nat) (hl : l.length ≤ 100) :
  CClaim w mean mg mb 56 (lexLed w P line tl l c pbs n news) [.ref P.x] 4 (fun s R h₀ L m => ∀ (t' tl' : Tok) (c' : Nat) (h' : Heap) (tk' : Nat), Fr h₀ L h' m → News h₀ L h' (lexLed w P (line + nlF l) tl' l.tail c' pbs n news) → R (.ok (.ret (.str (headS l) t'))) { s with heap := h', toks := tk' }) := by
  obtain ⟨cc, D, c1, f1, c2, f2, dx, dd, x, pb, oc1, oc2, o2, t86, oc, fd1, tr, t1, t2, t3, t4, tw⟩ := P
  obtain ⟨l1, l2, l3, l4, l5, l6, l7, l8, l9, lA, n1, n2, hoc, ⟨fd2, ho2⟩, rd⟩ := hP
  dsimp only at l1 l2 l3 l4 l5 l6 l7 l8 l9 lA n1 hoc
  dsimp only at ho2
  subst ho2
  dsimp only [CClaim, PRG, lexLed]; k_fill; intro dp un h₀ L m s R F₀ X₀ N₀ T₀ hroom hunits hret
  have k1 := held "getMethod ref"
  have k2 := held "call ref"
  have k3 := held "callWith ref"
  k_dflt (refine' enterPS ?k2 ?k3 ?k4 ?k5 ?k6 ?k7 ?k8 ?k9 ?kB ?_ ?c2 ?c3 ?c4 ?c5; (case k2 => k_asm); (case k3 => k_asm); (case k4 => k_asm); (case k5 => k_asm); (case k6 => k_is); (case k7 => k_is); (case k8 => exact rm0 hroom); (case k9 => exact BindsTo.of_eq rfl); (case c5 => decide); (case kB => exact locs rfl); (case c2 => exact rfl); (case c3 => exact rfl); (case c4 => exact rfl); k_whole; intro _ _ _ _ _ _ _ _ _; (try dsimp only); (try k_fold))
  rename Fr _ _ _ _ => F
  replace F := (show Fr _ _ _ (fun y => List.lookup y [(Str.ofString "self", Value.ref x)]) from F)
  refine quiet ?_
  intro Q9 hQ9
  k_steps
  all_goals try (refine hQ9 _ _ ?_; k_steps)
  refine unhold ?_
  rename News _ _ _ _ => N1
  refine fn_getMethod (N1 (f1, fnObj fd1 (some dx)) (by k_mem)).1 (N1 (dx, dictOf [⟨PyData.keyHash w.params (Str.ofString "read"), .str (Str.ofString "read") tr, .ref f2⟩] 1) (by k_mem)).1 ?_
  dsimp only
  k_steps
  refine unhold ?_
  clear k3
  first
  | (refine' callWith_F ?k1 ?_; (case k1 => exact FnAt.of (by k_asm) (by k_mem)); k_whole)
  | (refine' callWith_F0 ?k1 ?_; (case k1 => exact FnAt.of (by k_asm) (by k_mem)); k_whole; try dsimp only [List.nil_append, List.cons_append])
  k_steps
  refine unhold ?_
  refine' forgetA rfl (Nat.le_refl _) (Nat.le_refl _) (rd line tl l c pbs n news _ hl n1 n2 _ _ _ _ _ _ _ _ ?F ?X ?N ?T ?hr ?hu ?_)
  case F => k_asm
  case X => k_asm
  case N => k_asm
  case T => k_asm
  case hr => exact rmm hroom (by decide)
  case hu => exact rmm hunits (by decide)
  intro t' c' h' tk' F' N'
  dsimp only [lexLed] at N'
  clear rd
  k_steps
  all_goals try (refine hQ9 _ _ ?_; k_steps)
  · have e : nlF l = 1 := nl_t (by assumption)
    rw [e] at hret
    exact hret _ _ _ _ _ (by k_asm) (by k_asm)
  · have e : nlF l = 0 := nl_f (by assumption)
    rw [e, Int.add_zero] at hret
    exact hret _ _ _ _ _ (by k_asm) (by k_asm)
end Mine
end
section
open PySem PySem.W PyProof.Rows Mine PySem.Calls Builtin
set_option Elab.async false
set_option maxRecDepth 100000
set_option maxHeartbeats 1500000
namespace Mine
theorem slot_ci_next : Slot "callable_iterator" "__next__" "callable_iterator.__next__" :=
  .of (owner := "callable_iterator") (n := "__next__") (by rw [typeLookup_type, builtinLookup_eq_fast]; kernel_rfl) (by decide +kernel) (by decide +kernel) (by decide +kernel)
    (by first | exact .inl (by decide +kernel) | exact .inr (by decide +kernel)) (by rw [isSubtype_type]; kernel_rfl)
theorem slot_ci_iter : Slot "callable_iterator" "__iter__" "callable_iterator.__iter__" :=
  .of (owner := "callable_iterator") (n := "__iter__") (by rw [typeLookup_type, builtinLookup_eq_fast]; kernel_rfl) (by decide +kernel) (by decide +kernel) (by decide +kernel)
    (by first | exact .inl (by decide +kernel) | exact .inr (by decide +kernel)) (by rw [isSubtype_type]; kernel_rfl)
theorem entry_ci_next : entryFor table "callable_iterator.__next__" = some Builtin.«callable_iterator.__next__» := entryFor_of_fast (by kernel_rfl)
theorem entry_ci_iter : entryFor table "callable_iterator.__iter__" = some Builtin.«dict_keyiterator.__iter__» :=
  entryFor_alias (id' := "dict_keyiterator.__iter__") (by kernel_rfl) rfl (by decide +kernel) (by kernel_rfl)
theorem args_ci_next (a : Value) : argsOk "callable_iterator.__next__" ⟨[a], []⟩ := by unfold argsOk; kernel_rfl
theorem args_ci_iter (a : Value) : argsOk "callable_iterator.__iter__" ⟨[a], []⟩ := by unfold argsOk; kernel_rfl
abbrev ciObj (f s : Value) (b : Bool) : Obj := { cls := .type "callable_iterator", data := .fields #[f, s, .bool b] }
section
variable {M : Model} {A : Around} {E : Value → Shared → Prop} {s : Shared}
theorem wpAny_callBorrowed {f : Value} {pos : List Value} {Q : Value → Shared → Prop}
    (hc : codeAny M A (.call f ⟨pos, []⟩) (fun r s' => match r with | .ok (.ret v) => Q v s' | .ok _ => False | .error e => E e s') s) : wpAny M A (callBorrowed f pos) Q E s := fun Γ p hΓ => by
  unfold callBorrowed
  rw [Sem.wp_call]
  have h := hc _ p rfl (hΓ.enter (.call f ⟨pos, []⟩) none p (by intro x; cases x))
  refine wpCode_mono ?_ h
  intro r s h
  cases r with
  | error e => exact h
  | ok fl => cases fl <;> exact h
end
section
variable {prog : Program} {w : World} {A : Around} {E : Value → Shared → Prop} {s : Shared}
theorem wpAny_stopIt {α : Type} {P : α → Shared → Prop} (hh : A.handled = none) (h : ∀ h' e, (∀ b o, s.heap.get? b = some o → h'.get? b = some o) → (∃ o, h'.get? e = some o ∧ o.cls = .type "StopIteration") → E (.ref e) { s with heap := h' }) :
    wpAny (model prog w) A (Builtin.SmallTypes.stopIteration : Sem α) P E s := by
  unfold Builtin.SmallTypes.stopIteration
  refine wpAny_bind ?_
  simp only [newExc, newTuple]
  refine wpAny_bind (wpAny_newObj_type ?_ (by size_fits))
  refine wpAny_bind (m := firstArgMember _ _) (wpAny_of_eq (a := Value.none) (by first | rfl | (simp only [firstArgMember]; rfl)) ?_)
  refine wpAny_newObj_type ?_ (by size_fits)
  simp only [raiseNew]
  refine wpAny_bind (wpAny_bind (wpAny_handled ?_))
  rw [hh]
  refine wpAny_pure ?_
  refine wpAny_throw ?_
  exact h _ _ (fun b o hb => Heap.get?_push_of_some _ (Heap.get?_push_of_some _ hb)) ⟨_, Heap.get?_push_size _ rfl, rfl⟩
theorem stop_tail {e : Addr} {Q : Option Value → Shared → Prop} (hT : ∃ o, s.heap.get? e = some o ∧ o.cls = .type "StopIteration") (h : Q none s) :
    wpAny (model prog w) A (do if ← isInstance (.ref e) (.type "StopIteration") then pure none else throw (.ref e)) Q E s := by
  refine wpAny_bind (wpAny_isInstance (T := "StopIteration") (b := true) hT isSubtype_stop ?_)
  exact wpAny_pure h
theorem ci_ended {it : Addr} {f v : Value} {Q : Option Value → Shared → Prop} (hh : A.handled = none) (hit : s.heap.get? it = some (ciObj f v true))
    (h : ∀ h', (∀ b o, s.heap.get? b = some o → h'.get? b = some o) → Q none { s with heap := h' }) : wpAny (model prog w) A (pyNext (.ref it)) Q E s := by
  have hT : s.TypeIs (.ref it) "callable_iterator" := ⟨_, hit, rfl⟩
  unfold pyNext
  refine wpAny_bind (wpAny_attempt (wpAny_callSpecial?_slot (name := Str.ofString "__next__") hT slot_ci_next
    (wpAny_call_entry slot_ci_next hT entry_ci_next ?_ (args_ci_next _))))
  unfold Builtin.«callable_iterator.__next__»
  refine wpAny_bind (wpAny_pure ?_)
  dsimp only
  refine wpAny_bind (wpAny_field hit rfl (i := 2) (x := .bool true) rfl ?_)
  rw [if_pos (by decide)]
  refine wpAny_bind (wpAny_rule (wpAny_bind ?_))
  refine wpAny_stopIt (A := A.in1) hh fun h' e hk hT' => ?_
  exact stop_tail hT' (h _ hk)
theorem ci_next {it mo f x : Addr} {ts : Tok} {fo : Obj} {fd : FuncData} {Q : Option Value → Shared → Prop} (hh : A.handled = none)
    (hit : s.heap.get? it = some (ciObj (.ref mo) (.str (Str.ofString "") ts) false)) (hmo : s.heap.get? mo = some (methodObj (.ref f) (.ref x))) (hf : s.heap.get? f = some fo) (hfd : fo.data = .func fd)
    (h : codeAny (model prog w) A.in1 (.call (.ref f) ⟨[.ref x], []⟩) (fun r s' => ∃ st t, r = .ok (.ret (.str st t)) ∧ s'.heap.get? it = some (ciObj (.ref mo) (.str (Str.ofString "") ts) false) ∧ s'.heap.get? mo = some (methodObj (.ref f) (.ref x)) ∧ s'.heap.get? f = some fo ∧
      (st ≠ Str.ofString "" → Q (some (.str st t)) s') ∧ (st = Str.ofString "" → ∀ h', h'.get? it = some (ciObj .none .none true) → (∀ b o, b ≠ it → s'.heap.get? b = some o → h'.get? b = some o) → Q none { s' with heap := h' })) s) :
    wpAny (model prog w) A (pyNext (.ref it)) Q E s := by
  have hT : s.TypeIs (.ref it) "callable_iterator" := ⟨_, hit, rfl⟩
  unfold pyNext
  refine wpAny_bind (wpAny_attempt (wpAny_callSpecial?_slot (name := Str.ofString "__next__") hT slot_ci_next
    (wpAny_call_entry slot_ci_next hT entry_ci_next ?_ (args_ci_next _))))
  unfold Builtin.«callable_iterator.__next__»
  refine wpAny_bind (wpAny_pure ?_)
  dsimp only
  refine wpAny_bind (wpAny_field hit rfl (i := 2) (x := .bool false) rfl ?_)
  rw [if_neg (by decide)]
  refine wpAny_bind (wpAny_field hit rfl (i := 0) (x := .ref mo) rfl ?_)
  refine wpAny_bind (wpAny_attempt ?_)
  have borrow : ∀ s' : Shared, s'.heap.get? mo = some (methodObj (.ref f) (.ref x)) → s'.heap.get? f = some fo → ∀ (A : Around) (P : Bool → Shared → Prop) (E : Value → Shared → Prop), P true s' → wpAny (model prog w) A (borrowsExactly (.ref mo)) P E s' := by
    intro s' hm hf' A P E hp
    unfold borrowsExactly
    dsimp only
    refine wpAny_bind (wpAny_load hm ?_)
    dsimp only
    rw [if_pos (by decide)]
    show wpAny _ _ (load f >>= _) _ _ _
    refine wpAny_bind (wpAny_load hf' ?_)
    rw [hfd]
    exact wpAny_pure hp
  unfold callOutOfASlot
  refine wpAny_bind (borrow s hmo hf _ _ _ ?_)
  rw [if_pos rfl]
  refine wpAny_callBorrowed (method_call hmo (codeAny_mono h fun r s' hr => ?_))
  obtain ⟨st, t, rfl, hit', hmo', hf', h1, h2⟩ := hr
  dsimp only
  refine wpAny_bind (wpAny_field hit' rfl (i := 2) (x := .bool false) rfl ?_)
  rw [if_neg (by decide)]
  refine wpAny_bind (wpAny_field hit' rfl (i := 1) (x := .str (Str.ofString "") ts) rfl ?_)
  refine wpAny_bind (wpAny_holding (wpAny_eqBool_str ?_))
  by_cases he : st = Str.ofString ""
  · have e1 : decide (Str.ofString "" = st) = true := decide_eq_true he.symm
    rw [e1, if_neg (by decide)]
    refine wpAny_bind (wpAny_rule (wpAny_bind ?_))
    show wpAny _ _ (field (.ref it) 0 >>= fun o => slotLetsGo "callable_iterator.__next__" o _ >>= fun _ => setField (.ref it) 0 .none >>= fun _ => setField (.ref it) 1 .none >>= fun _ => setField (.ref it) 2 (.bool true)) _ _ _
    refine wpAny_bind (wpAny_field hit' rfl (i := 0) (x := .ref mo) rfl (wpAny_bind ?_))
    unfold slotLetsGo
    dsimp only
    refine wpAny_bind (borrow s' hmo' hf' _ _ _ ?_)
    rw [if_pos rfl]
    refine wpAny_pure ?_
    refine wpAny_bind (wpAny_setField_rec hit' (by simp) fun ha e0 k0 => ?_)
    refine wpAny_bind (wpAny_setField_rec e0 (by simp) fun hb e1 k1 => ?_)
    refine wpAny_setField_rec e1 (by simp) fun hc e2 k2 => ?_
    refine wpAny_stopIt (A := A.in1) hh fun h' e hk hT' => ?_
    refine stop_tail hT' (h2 he h' (hk _ _ e2) fun b o hb' ho => hk _ _ ?_)
    exact (k2.2 b hb').trans ((k1.2 b hb').trans ((k0.2 b hb').trans ho))
  · have e1 : decide (Str.ofString "" = st) = false := decide_eq_false fun e => he e.symm
    rw [e1, if_pos (by decide)]
    exact wpAny_pure ⟨_, rfl, wpAny_pure (h1 he)⟩
theorem ci_iter {it : Addr} {f v : Value} {b : Bool} {Q : Value → Shared → Prop} (hit : s.heap.get? it = some (ciObj f v b)) (h : Q (.ref it) s) : wpAny (model prog w) A (pyIter (.ref it)) Q E s := by
  have hT : s.TypeIs (.ref it) "callable_iterator" := ⟨_, hit, rfl⟩
  refine wpAny_pyIter_slot hT slot_ci_iter (wpAny_call_entry slot_ci_iter hT entry_ci_iter ?_ (args_ci_iter _))
  show wpAny _ _ (ret (.ref it)) _ _ s
  exact wpAny_pure ⟨_, rfl, "callable_iterator", _, hT, slot_ci_next.lookup, h⟩
theorem entry_iter : entryFor table "iter" = some Builtin.«iter» := entryFor_of_fast (by kernel_rfl)
theorem plain_iter : plainId "iter" = true := by decide +kernel
theorem args_iter2 (a b : Value) : argsOk "iter" ⟨[a, b], []⟩ := by unfold argsOk; kernel_rfl
theorem meth_call : typeLookup (.type "method") (Str.ofString "__call__") = pure (some (.builtin "method.__call__")) := by rw [typeLookup_type, builtinLookup_eq_fast]; kernel_rfl
theorem ci_make {h₀ : Heap} {L mo : Addr} {f x : Value} {y : Str} {t : Tok} {m : Str → Option Value} {news : List (Addr × Obj)} {Q : Value → Shared → Prop} (F : Fr h₀ L s.heap m) (N : News h₀ L s.heap news) (hmo : s.heap.get? mo = some (methodObj f x))
    (h : ∀ it h', LtAll it news → @LT.lt Nat _ mo it → Fr h₀ L h' m → News h₀ L h' ((it, ciObj (.ref mo) (.str y t) false) :: news) → Q (.ref it) { s with heap := h' }) :
    wpAny (model prog w) A (call (.builtin "iter") [.ref mo, .str y t]) Q E s := by
  have hT : s.TypeIs (.ref mo) "method" := ⟨_, hmo, rfl⟩
  refine call_function_entry (by decide +kernel) plain_iter entry_iter (args_iter2 _ _) ?_
  unfold Builtin.«iter»
  refine wpAny_bind (wpAny_pure ?_)
  dsimp only
  refine wpAny_bind (wpAny_specialOf hT meth_call ?_)
  rw [if_neg (by decide)]
  refine wpAny_bind (wpAny_rule (wpAny_bind ?_))
  unfold newFields
  refine wpAny_newObj_type ?_ (by size_fits)
  refine wpAny_pure ⟨_, rfl, ?_⟩
  exact h _ _ (fun q hq => Heap.lt_size (N q hq).1) (Heap.lt_size hmo) (F.push _) (N.push F _)
end
end Mine
end
section
open PySem PySem.W PyProof.Rows Mine
set_option Elab.async false
set_option maxRecDepth 100000
set_option maxHeartbeats 1500000
namespace Mine
theorem rest_ne {w : World} {mean mg mb} {P : LexP} {news : List (Addr × Obj)} (h : LexOk w mean mg mb P news) {o1 o2 o3 o4 o5 o6 o7 o8 o9 : Obj} : ∀ p ∈ (P.dd, o1) :: (P.x, o2) :: (P.dx, o3) :: (P.f2, o4) :: (P.c2, o5) :: (P.f1, o6) :: (P.c1, o7) :: (P.cc, o8) :: ((86 : Addr), o9) :: news, p.1 ≠ P.pb :=
  have e1 := Nat.lt_trans h.l9 h.lA
  have e2 := Nat.lt_trans h.l8 e1
  have e3 := Nat.lt_trans h.l7 e2
  have e4 := Nat.lt_trans h.l6 e3
  have e5 := Nat.lt_trans h.l5 e4
  have e6 := Nat.lt_trans h.l4 e5
  have e7 := Nat.lt_trans h.l2 (Nat.lt_trans h.l3 e6)
  List.forall_mem_cons.mpr ⟨Nat.ne_of_lt e1, List.forall_mem_cons.mpr ⟨Nat.ne_of_lt h.lA, List.forall_mem_cons.mpr ⟨Nat.ne_of_lt e2, List.forall_mem_cons.mpr ⟨Nat.ne_of_lt e3, List.forall_mem_cons.mpr ⟨Nat.ne_of_lt e4, List.forall_mem_cons.mpr ⟨Nat.ne_of_lt e5, List.forall_mem_cons.mpr ⟨Nat.ne_of_lt e6, List.forall_mem_cons.mpr ⟨Nat.ne_of_lt e7, List.forall_mem_cons.mpr ⟨Nat.ne_of_lt (Nat.lt_trans h.l1 e7), fun q hq => h.n1 q hq _ (.tail _ (.head _))⟩⟩⟩⟩⟩⟩⟩⟩⟩
theorem D_ne {w : World} {mean mg mb} {P : LexP} {news : List (Addr × Obj)} (h : LexOk w mean mg mb P news) : P.D ≠ P.pb :=
  Nat.ne_of_lt (Nat.lt_trans h.l3 (Nat.lt_trans h.l4 (Nat.lt_trans h.l5 (Nat.lt_trans h.l6 (Nat.lt_trans h.l7 (Nat.lt_trans h.l8 (Nat.lt_trans h.l9 h.lA)))))))
theorem pop_c {w : World} {mean} {mg mb} (P : LexP) (news : List (Addr × Obj)) (hP : LexOk w mean mg mb P news) (line : Int) (tl : Tok) (l : List (Nat × Tok)) (c : Nat) (v : Value) (r : List Value) (n : Nat) (hz : r.length ≤ 500) :
  MClaim w mean mg mb 63 (lexLed w P line tl l c (v :: r) n news) [.ref P.x] 3 (fun s Q h₀ L m => ∀ (h' : Heap) (tk' : Nat), Fr h₀ L h' m → News h₀ L h' (lexLed w P line tl l c r (n + 1) news) → Q v { s with heap := h', toks := tk' }) := by
  have hP0 := hP
  obtain ⟨cc, D, c1, f1, c2, f2, dx, dd, x, pb, oc1, oc2, o2, t86, oc, fd1, tr, t1, t2, t3, t4, tw⟩ := P
  obtain ⟨l1, l2, l3, l4, l5, l6, l7, l8, l9, lA, n1, n2, hoc, ⟨fd2, ho2⟩, rd⟩ := hP
  dsimp only at l1 l2 l3 l4 l5 l6 l7 l8 l9 lA n1 hoc
  dsimp only at ho2
  subst ho2
  clear rd
  dsimp only [MClaim, PRG, lexLed]; k_fill; intro dp un h₀ L m s Q E F₀ X₀ N₀ T₀ hroom hunits hret
  have k1 := held "call builtin:list.pop"
  refine wpAny_call ?_
  k_dflt (refine' enterPS ?k2 ?k3 ?k4 ?k5 ?k6 ?k7 ?k8 ?k9 ?kB ?_ ?c2 ?c3 ?c4 ?c5; (case k2 => k_asm); (case k3 => k_asm); (case k4 => k_asm); (case k5 => k_asm); (case k6 => k_is); (case k7 => k_is); (case k8 => exact rm0 hroom); (case k9 => exact BindsTo.of_eq rfl); (case c5 => decide); (case kB => exact locs rfl); (case c2 => exact rfl); (case c3 => exact rfl); (case c4 => exact rfl); k_whole; intro _ _ _ _ _ _ _ _ _; (try dsimp only); (try k_fold))
  rename Fr _ _ _ _ => F
  replace F := (show Fr _ _ _ (fun y => List.lookup y [(Str.ofString "self", Value.ref x)]) from F)
  refine quiet ?_
  intro Q9 hQ9
  k_steps
  all_goals try (refine hQ9 _ _ ?_; k_steps)
  refine wpAny_truthy_list (isList_led (vs := v :: r) (by k_asm) (by k_mem)) (by simp only [List.size_toArray, List.length_cons]; omega) ?_
  rw [if_pos (by rfl)]
  k_steps
  all_goals try (refine hQ9 _ _ ?_; k_steps)
  refine unhold ?_
  refine pop_led (vs := v :: r) (n := n) (v := v) (by k_asm) (by k_asm) (.tail (D_ne hP0) (.head (rest_ne hP0))) (by decide) (by simp only [List.length_cons]; omega) rfl ?_
  intro h' F' N'
  k_steps
  all_goals try (refine hQ9 _ _ ?_; k_steps)
  exact hret _ _ (by k_asm) (by k_asm)
theorem push_c {w : World} {mean} {mg mb} (P : LexP) (news : List (Addr × Obj)) (hP : LexOk w mean mg mb P news) (line : Int) (tl : Tok) (l : List (Nat × Tok)) (c : Nat) (v : Value) (r : List Value) (n : Nat) (hz : r.length ≤ 500) :
  MClaim w mean mg mb 70 (lexLed w P line tl l c r n news) [.ref P.x, v] 3 (fun s Q h₀ L m => ∀ (n : Nat) (h' : Heap) (tk' : Nat), Fr h₀ L h' m → News h₀ L h' (lexLed w P line tl l c (r ++ [v]) n news) → Q .none { s with heap := h', toks := tk' }) := by
  have hP0 := hP
  obtain ⟨cc, D, c1, f1, c2, f2, dx, dd, x, pb, oc1, oc2, o2, t86, oc, fd1, tr, t1, t2, t3, t4, tw⟩ := P
  obtain ⟨l1, l2, l3, l4, l5, l6, l7, l8, l9, lA, n1, n2, hoc, ⟨fd2, ho2⟩, rd⟩ := hP
  dsimp only at l1 l2 l3 l4 l5 l6 l7 l8 l9 lA n1 hoc
  dsimp only at ho2
  subst ho2
  clear rd
  dsimp only [MClaim, PRG, lexLed]; k_fill; intro dp un h₀ L m s Q E F₀ X₀ N₀ T₀ hroom hunits hret
  have k1 := held "call builtin:list.append"
  refine wpAny_call ?_
  k_dflt (refine' enterPS ?k2 ?k3 ?k4 ?k5 ?k6 ?k7 ?k8 ?k9 ?kB ?_ ?c2 ?c3 ?c4 ?c5; (case k2 => k_asm); (case k3 => k_asm); (case k4 => k_asm); (case k5 => k_asm); (case k6 => k_is); (case k7 => k_is); (case k8 => exact rm0 hroom); (case k9 => exact BindsTo.of_eq rfl); (case c5 => decide); (case kB => exact locs rfl); (case c2 => exact rfl); (case c3 => exact rfl); (case c4 => exact rfl); k_whole; intro _ _ _ _ _ _ _ _ _; (try dsimp only); (try k_fold))
  rename Fr _ _ _ _ => F
  replace F := (show Fr _ _ _ (fun y => List.lookup y [(Str.ofString "token", v), (Str.ofString "self", Value.ref x)]) from F)
  refine quiet ?_
  intro Q9 hQ9
  k_steps
  all_goals try (refine hQ9 _ _ ?_; k_steps)
  refine unhold ?_
  refine append_K (n := n) (its := r.toArray) (by k_asm) (by k_asm) (.tail (D_ne hP0) (.head (rest_ne hP0))) ?_ (by simp only [PySem.sizeLine_eq, List.size_toArray]; omega)
  intro h' F' N'
  simp only [List.push_toArray] at N'
  k_steps
  all_goals try (refine hQ9 _ _ ?_; k_steps)
  exact hret _ _ _ (by k_asm) (by k_asm)
end Mine
end
section
open PySem PySem.W PyProof.Rows Mine
set_option Elab.async false
set_option maxRecDepth 100000
set_option maxHeartbeats 3000000
namespace Mine
section
variable {prog : Program} {w : World} {A : Around} {E : Value → Shared → Prop} {s : Shared} {env : Env}
def More (I : Nat → Shared → Prop) (n : Nat) (s : Shared) : Prop := ∃ k, k < n ∧ I k s
theorem For_ask {x : Str} {px pos : Pos} {iter : Expr} {body : List Stmt} {Q : Flow → Shared → Prop} {it : Addr} (I : Nat → Shared → Prop)
    (h : wpAny (model prog w) A (eval iter env) (fun xv s₁ => wpAny (model prog w) A (pyIter xv) (fun iv s₂ => iv = .ref it ∧ ∃ n, I n s₂) E s₁) E s)
    (turn : ∀ n s', I n s' → ∀ Qb : Flow → Shared → Prop, (∀ f s₃, (match f with
        | .next => More I n s₃
        | .cont => More I n s₃
        | .brk => Q .next s₃
        | .ret v => Q (.ret v) s₃) → Qb f s₃) → wpAny (model prog w) A (pyNext (.ref it)) (fun r s₁ => match r with
      | none => Q .next s₁
      | some v => wpAny (model prog w) A (storeName env x v) (fun _ s₂ => wpAny (model prog w) A (execs body env) Qb E s₂) E s₁) E s')
    (hs : ∀ x, foldedSetIterable iter env x = pure x := by intro _; rfl) (hE : PassesOwn (model prog w) A env E := by passes_own) :
    wpAny (model prog w) A (exec (.For (.Name x px) iter body [] pos) env) Q E s := by
  refine wpAny_For (wpAny_mono h (fun xv s₁ h₁ => wpAny_mono h₁ (fun iv s₂ h₂ => ?_) fun _ _ z => z) fun _ _ z => z) hs
  obtain ⟨rfl, n, hn⟩ := h₂
  refine codeAny_forLoop (R := fun r s' => match r with | .ok f => Q f s' | .error e => cameBackBy (model prog w) A env E e s') I ?_ n hn
  intro k s' hk
  refine wpAny_passesOwn hE (wpAny_mono (turn k s' hk _ fun _ _ h => h) (fun r s₁ hr => ?_) fun _ _ z => z)
  cases r with
  | none => exact wpAny_execs_nil hr
  | some v =>
    refine wpAny_passesOwn hE (wpAny_assign_Name (wpAny_mono hr (fun _ s₂ h₂ => ?_) fun _ _ z => z))
    refine wpAny_passesOwn hE (wpAny_mono h₂ (fun f s₃ h₃ => ?_) fun _ _ z => z)
    cases f <;> exact h₃
end
def isWs (c : Nat) : Bool := !(Builtin.Str.occurrences (Str.ofString "\n\t\r ") { cps := #[c] } 0 (Str.ofString "\n\t\r ").length 1).isEmpty
def ch1 (c : Nat) : Str := { cps := #[c] }
def lexQ : List (Nat × Tok) → Str → Str × List (Nat × Tok)
  | [], t => (t, [])
  | p :: l, t => if p.1 = 34 then (t, l) else if p.1 = 92 then (match l with
      | [] => (t ++ Str.ofString "", [])
      | q :: r => lexQ r (t ++ ch1 q.1)) else lexQ l (t ++ ch1 p.1)
def lexB : List (Nat × Tok) → Str → Str × List (Nat × Tok)
  | [], t => (t, [])
  | p :: l, t => if isWs p.1 then (t, l) else if p.1 = 92 then (match l with
      | [] => (t ++ Str.ofString "", [])
      | q :: r => lexB r (t ++ ch1 q.1)) else lexB l (t ++ ch1 p.1)
def lexT : List (Nat × Tok) → Str × List (Nat × Tok)
  | [] => (Str.ofString "", [])
  | p :: l => if isWs p.1 then lexT l else if p.1 = 34 then lexQ l (Str.ofString "") else if p.1 = 92 then lexB l.tail (Str.ofString "" ++ headS l) else lexB l (Str.ofString "" ++ ch1 p.1)
def nlc (l : List (Nat × Tok)) : Int := match l with | [] => 0 | p :: r => (if p.1 = 10 then 1 else 0) + nlc r
theorem nlc_step (l : List (Nat × Tok)) : nlc l = nlF l + nlc l.tail := by
  cases l with
  | nil => rfl
  | cons p r => rfl
theorem lexQ_esc (l : List (Nat × Tok)) (t : Str) : (match l with | [] => (t ++ Str.ofString "", []) | q :: r => lexQ r (t ++ ch1 q.1)) = lexQ l.tail (t ++ headS l) := by
  cases l <;> rfl
theorem lexB_esc (l : List (Nat × Tok)) (t : Str) : (match l with | [] => (t ++ Str.ofString "", []) | q :: r => lexB r (t ++ ch1 q.1)) = lexB l.tail (t ++ headS l) := by
  cases l <;> rfl
theorem ws_t {c : Nat} (h : (Builtin.Str.occurrences (Str.ofString "\n\t\r ") (ch1 c) 0 (Str.ofString "\n\t\r ").length 1).isEmpty = false) : isWs c = true := by
  have h' : (Builtin.Str.occurrences (Str.ofString "\n\t\r ") { cps := #[c] } 0 (Str.ofString "\n\t\r ").length 1).isEmpty = false := h
  unfold isWs; rw [h']; rfl
theorem ws_f {c : Nat} (h : (Builtin.Str.occurrences (Str.ofString "\n\t\r ") (ch1 c) 0 (Str.ofString "\n\t\r ").length 1).isEmpty = true) : isWs c = false := by
  have h' : (Builtin.Str.occurrences (Str.ofString "\n\t\r ") { cps := #[c] } 0 (Str.ofString "\n\t\r ").length 1).isEmpty = true := h
  unfold isWs; rw [h']; rfl
theorem ch1_inj {a b : Nat} (h : ch1 a = ch1 b) : a = b := by
  have h2 : (ch1 a).cps.toList = (ch1 b).cps.toList := congrArg (fun s : Str => s.cps.toList) h
  have h3 : [a] = [b] := h2
  exact (List.cons.inj h3).1
theorem quo_t {c : Nat} (h : (ch1 c == Str.ofString "\"") = true) : c = 34 := ch1_inj (beq_iff_eq.mp h)
theorem quo_f {c : Nat} (h : (ch1 c == Str.ofString "\"") = false) : c ≠ 34 := fun e => by rw [e] at h; exact absurd h (by decide)
theorem bsl_t {c : Nat} (h : (ch1 c == Str.ofString "\\") = true) : c = 92 := ch1_inj (beq_iff_eq.mp h)
theorem bsl_f {c : Nat} (h : (ch1 c == Str.ofString "\\") = false) : c ≠ 92 := fun e => by rw [e] at h; exact absurd h (by decide)
theorem lexT_ws {p : Nat × Tok} {r : List (Nat × Tok)} (h : isWs p.1 = true) : lexT (p :: r) = lexT r := by
  conv => lhs; unfold lexT
  rw [if_pos h]
theorem lexT_q {p : Nat × Tok} {r : List (Nat × Tok)} (h : isWs p.1 = false) (h2 : p.1 = 34) : lexT (p :: r) = lexQ r (Str.ofString "") := by
  conv => lhs; unfold lexT
  rw [if_neg (by rw [h]; decide), if_pos h2]
theorem lexT_e {p : Nat × Tok} {r : List (Nat × Tok)} (h : isWs p.1 = false) (h2 : p.1 ≠ 34) (h3 : p.1 = 92) : lexT (p :: r) = lexB r.tail (Str.ofString "" ++ headS r) := by
  conv => lhs; unfold lexT
  rw [if_neg (by rw [h]; decide), if_neg h2, if_pos h3]
theorem lexT_b {p : Nat × Tok} {r : List (Nat × Tok)} (h : isWs p.1 = false) (h2 : p.1 ≠ 34) (h3 : p.1 ≠ 92) : lexT (p :: r) = lexB r (Str.ofString "" ++ ch1 p.1) := by
  conv => lhs; unfold lexT
  rw [if_neg (by rw [h]; decide), if_neg h2, if_neg h3]
theorem lexQ_t {p : Nat × Tok} {r : List (Nat × Tok)} {t : Str} (h : p.1 = 34) : lexQ (p :: r) t = (t, r) := by
  conv => lhs; unfold lexQ
  rw [if_pos h]
theorem lexQ_e {p : Nat × Tok} {r : List (Nat × Tok)} {t : Str} (h : p.1 ≠ 34) (h2 : p.1 = 92) : lexQ (p :: r) t = lexQ r.tail (t ++ headS r) := by
  conv => lhs; unfold lexQ
  rw [if_neg h, if_pos h2]
  exact lexQ_esc r t
theorem lexQ_b {p : Nat × Tok} {r : List (Nat × Tok)} {t : Str} (h : p.1 ≠ 34) (h2 : p.1 ≠ 92) : lexQ (p :: r) t = lexQ r (t ++ ch1 p.1) := by
  conv => lhs; unfold lexQ
  rw [if_neg h, if_neg h2]
theorem lexB_t {p : Nat × Tok} {r : List (Nat × Tok)} {t : Str} (h : isWs p.1 = true) : lexB (p :: r) t = (t, r) := by
  conv => lhs; unfold lexB
  rw [if_pos h]
theorem lexB_e {p : Nat × Tok} {r : List (Nat × Tok)} {t : Str} (h : isWs p.1 = false) (h2 : p.1 = 92) : lexB (p :: r) t = lexB r.tail (t ++ headS r) := by
  conv => lhs; unfold lexB
  rw [if_neg (by rw [h]; decide), if_pos h2]
  exact lexB_esc r t
theorem lexB_b {p : Nat × Tok} {r : List (Nat × Tok)} {t : Str} (h : isWs p.1 = false) (h2 : p.1 ≠ 92) : lexB (p :: r) t = lexB r (t ++ ch1 p.1) := by
  conv => lhs; unfold lexB
  rw [if_neg (by rw [h]; decide), if_neg h2]
theorem nlc_cons (p : Nat × Tok) (r : List (Nat × Tok)) : nlc (p :: r) = nlF (p :: r) + nlc r := rfl
theorem nlc_c {x y : Int} {p : Nat × Tok} {r : List (Nat × Tok)} (h : x + nlc (p :: r) = y) : x + nlF (p :: r) + nlc r = y := (Int.add_assoc _ _ _).trans h
theorem nlc_s {x y : Int} {r : List (Nat × Tok)} (h : x + nlc r = y) : x + nlF r + nlc r.tail = y := by
  rw [Int.add_assoc, ← nlc_step]; exact h
theorem nlc_e {x y : Int} {r : List (Nat × Tok)} (h : x + nlc r = y) : y - nlc r = x := by
  rw [← h]; exact Int.add_sub_cancel _ _
theorem nlc_0 {x y : Int} (h : x + nlc [] = y) : x = y := (Int.add_zero x).symm.trans h
theorem tl_le : ∀ (l : List (Nat × Tok)), l.tail.length ≤ l.length
  | [] => Nat.le_refl _
  | _ :: _ => Nat.le_succ _
theorem headS_len (l : List (Nat × Tok)) : (headS l).length ≤ 1 := by cases l <;> exact (by first | exact Nat.zero_le _ | exact Nat.le_refl _)
theorem headS_tail (l : List (Nat × Tok)) : (headS l).length + l.tail.length = l.length := by
  cases l with
  | nil => rfl
  | cons p r => show 1 + r.length = r.length + 1; omega
theorem ch1_len (c : Nat) : (ch1 c).length = 1 := rfl
end Mine
end
section
open PySem PySem.W PyProof.Rows Mine PySem.Calls Builtin Builtin.Str Builtin.Int
set_option Elab.async false
set_option maxRecDepth 100000
set_option maxHeartbeats 3000000
namespace Mine
theorem asc_no_len : typeLookup (.type "str_ascii_iterator") (Str.ofString "__len__") = pure none := by rw [typeLookup_type, builtinLookup_eq_fast]; kernel_rfl
theorem asc_hint : typeLookup (.type "str_ascii_iterator") (Str.ofString "__length_hint__") = pure (some (.builtin "str_ascii_iterator.__length_hint__")) := by rw [typeLookup_type, builtinLookup_eq_fast]; kernel_rfl
theorem asc_split : splitId "str_ascii_iterator.__length_hint__" = some ("str_ascii_iterator", "__length_hint__") := by decide +kernel
theorem asc_self : isSubtype (.type "str_ascii_iterator") (.type "str_ascii_iterator") = pure true := by rw [isSubtype_type]; kernel_rfl
theorem signs_of : ∀ (l : List (Str × Tok)) (cs : List Nat), l.length = cs.length → (∀ (j : Nat) p, l[j]? = some p → ∃ c, cs[j]? = some c ∧ p.1 = ch1 c) → l.map (·.1) = cs.map ch1
  | [], [], _, _ => rfl
  | [], _ :: _, h, _ => by cases h
  | _ :: _, [], h, _ => by cases h
  | p :: l, c :: cs, h, hv => by
    obtain ⟨c', hc, e⟩ := hv 0 p rfl
    cases hc
    have ih := signs_of l cs (by simpa using h) fun j p hj => hv (j + 1) p (by simpa using hj)
    simp only [List.map_cons, e, ih]
theorem sum_ch1 (cs : List Nat) : ((cs.map ch1).map (·.length)).sum = cs.length := by
  induction cs with
  | nil => rfl
  | cons c cs ih => simp only [List.map_cons, List.sum_cons, ih, ch1_len, List.length_cons]; omega
section
variable {prog : Program} {w : World} {A : Around} {E : Value → Shared → Prop} {s : Shared}
theorem collect_asc {I : Addr} {x : Str} {t : Tok} {Q : List Value → Shared → Prop} (hh : A.handled = none) (hst : s.heap.IsStrIter I "str_ascii_iterator" x t 0) (hn : x.cps.size ≤ 10000)
    (hQ : ∀ s' acc, (∀ b o, b ≠ I → s.heap.get? b = some o → s'.heap.get? b = some o) → s'.gens = s.gens → s'.drawn = s.drawn → s'.os = s.os → ItemsOf (SignAt x) acc x.cps.size → Q acc.toList s') :
    wpAny (model prog w) A (collect (.ref I)) Q E s := by
  have hI : I < s.heap.objs.size := let ⟨_, ho, _⟩ := hst; Heap.lt_size ho
  have hSI : s.heap.objs.size ≠ I := Nat.ne_of_gt hI
  unfold collect
  refine wpAny_bind (wpAny_runValue (codeAny_builtin F.entry_proto_collect ?_))
  rw [Around.under_plainId F.plain_proto_collect _]
  show wpAny _ A.in1 (newList [] >>= fun l => again (.builtin "list.__iadd__" ⟨[l, .ref I], []⟩)) _ _ s
  refine wpAny_bind (wpAny_newObj_type ?_)
  refine wpAny_pure ⟨plainId_quiet F.plain_list_iadd _, codeAny_builtin F.entry_list_iadd ?_⟩
  rw [Around.under_plainId F.plain_list_iadd _]
  generalize hH : s.heap.push { cls := .type "list", data := .seq ([] : List Value).toArray } = H
  have hst₁ : H.IsStrIter I "str_ascii_iterator" x t 0 := let ⟨o, ho, r⟩ := hst; ⟨o, hH ▸ Heap.get?_push_of_some _ ho, r⟩
  have hS₁ : H.get? s.heap.objs.size = some { cls := .type "list", data := .seq ([] : List Value).toArray } := hH ▸ Heap.get?_push_size _ rfl
  have hT : Shared.TypeIs { s with heap := H } (.ref I) "str_ascii_iterator" := let ⟨o, ho, hc, _⟩ := hst₁; ⟨o, ho, hc⟩
  show wpAny _ A.in1 (Builtin.List.listExtendWith (.ref s.heap.objs.size) (.ref I) (.ref s.heap.objs.size)) _ _ _
  unfold Builtin.List.listExtendWith
  refine wpAny_bind (wpAny_typeOf hT ?_)
  have h1 : Builtin.List.listSameRef (.ref s.heap.objs.size) (.ref I) = false := by simp [Builtin.List.listSameRef, hSI]
  have h2 : (Value.type "str_ascii_iterator" == Value.type "list") = false := by decide
  have h3 : (Value.type "str_ascii_iterator" == Value.type "tuple") = false := by decide
  simp only [h1, h2, h3, Bool.or_false, Bool.false_eq_true, if_false]
  refine wpAny_bind (wpAny_pyIter_striter_ascii hst₁ ?_)
  refine wpAny_bind (wpAny_holding ?_)
  unfold Builtin.List.listLengthHint
  refine wpAny_bind (wpAny_specialOf hT asc_no_len ?_)
  show wpAny _ A.in1 (specialOf (Value.ref I) (Str.ofString "__length_hint__") >>= _) _ _ _
  refine wpAny_bind (wpAny_specialOf hT asc_hint ?_)
  dsimp only
  rw [asc_split]
  dsimp only
  refine wpAny_bind (wpAny_isInstance (T := "str_ascii_iterator") (b := true) hT asc_self ?_)
  rw [if_neg (by decide), if_pos (by decide +kernel), if_neg (by decide)]
  refine wpAny_pure ?_
  rw [if_neg (by decide)]
  have hSf : s.heap.objs.size ∉ [I] := fun hm => hSI (List.mem_singleton.mp hm)
  have W := Walks.strAscii (prog := prog) (w := w) (A := A.in1) hh I x t
  refine wpAny_pure ⟨plainId_quiet F.plain_extend_loop _, codeAny_extend_loopS W.toS (by unfold sizeLine; omega) _ hSf _ x.cps.size 0 _ _ _ rfl (Nat.zero_le _) hst₁ hS₁ (ItemsOf.nil _) fun s' acc' c' hm hS' hacc => ?_⟩
  show wpAny _ A (load s.heap.objs.size >>= _) _ _ s'
  refine wpAny_bind (wpAny_load hS' ?_)
  refine wpAny_pure (hQ s' acc' (fun b ob hb e => hm.heap b ob (fun hb' => ?_) (hH ▸ Heap.get?_push_of_some _ e)) hm.gens hm.drawn hm.os hacc)
  rcases List.mem_cons.mp hb' with h | h
  · exact absurd (Heap.lt_size e) (h ▸ Nat.lt_irrefl _)
  · exact hb (List.mem_singleton.mp h)
theorem join_tree_str (sep : Str) (t : Tok) (y : Str) (u : Tok) : «str.join» ⟨[.str sep t, .str y u], []⟩ = (do
    let it ← (pyIter (.str y u)).tryCatch fun e => do
        if ← isInstance e (.type "TypeError") then rule "str.join.not-iterable"; raiseError "TypeError" "can only join an iterable" else throw e
    let items ← collect it
    joinTail sep items) := rfl
theorem join_str {x y : Str} {t u : Tok} {Q : Value → Shared → Prop} (hh : A.handled = none) (ha : y.cps.all (· < 128) = true) (hy : y.length ≤ 100) (hx : x.length ≤ 16)
    (h : ∀ h' t' k, (∀ b o, s.heap.get? b = some o → h'.get? b = some o) → Q (.str (Txt.join x (y.cps.toList.map ch1)) t') { s with heap := h', toks := k }) :
    wpAny (model prog w) A (call (.builtin "str.join") [.str x t, .str y u]) Q E s := by
  refine wpAny_call (codeAny_call_builtin F.slot_str_join.plain F.entry_str_join (F.slot_str_join.check _ _ _ _ _ _ _ _ (typeIs_str _ _ _) (F.args_str_join_2 _ _) ?_))
  rw [join_tree_str]
  refine wpAny_bind (wpAny_tryCatch (wpAny_pyIter_ascii ha ?_))
  have hy' : y.cps.size ≤ 100 := hy
  refine wpAny_bind (collect_asc (x := y) (t := u) hh ⟨_, Heap.get?_push_size _ rfl, rfl, rfl⟩ (by omega) fun s' acc hk hg hd ho hacc => ?_)
  obtain ⟨l, hl⟩ := exists_strValues acc.toList fun v hv => by
    obtain ⟨j, hj, rfl⟩ := Array.mem_iff_getElem.mp (Array.mem_toList_iff.mp hv)
    obtain ⟨c, u, hc, e⟩ := hacc.2 j _ (Array.getElem?_eq_getElem hj)
    exact ⟨_, _, e⟩
  have hlm : l.map (·.1) = y.cps.toList.map ch1 := by
    refine signs_of l _ ?_ fun j p hj => ?_
    · have e1 : (strValues l).length = acc.toList.length := by rw [hl]
      have e2 : (strValues l).length = l.length := by simp [strValues]
      rw [← e2, e1]
      simp [hacc.1]
    · have e3 : (strValues l)[j]? = some (.str p.1 p.2) := by unfold strValues; rw [List.getElem?_map, hj]; rfl
      rw [hl] at e3
      obtain ⟨c, u, hc, e⟩ := hacc.2 j _ (by simpa using e3)
      injection e with e4 _
      exact ⟨c, by simpa using hc, e4⟩
  have hok : JoinOk x (l.map (·.1)) = true := by
    rw [hlm]
    refine joinOk_of ?_
    rw [sum_ch1, List.length_map]
    have e5 : y.cps.toList.length ≤ 100 := by simpa using hy'
    have e6 : y.cps.toList.length * x.length ≤ 100 * 16 := Nat.mul_le_mul e5 hx
    omega
  rw [← hl]
  unfold JoinOk at hok
  rw [Bool.not_eq_true'] at hok
  have g : Gives (joinTail x (strValues l)) (joinMade x l) := by
    have g0 := gives_joinTail x l hok
    cases l with
    | nil => exact g0
    | cons p r => cases r with
      | nil => exact g0
      | cons q r' => exact g0
  refine g prog w A (wants Q E) s' (post_join l ⟨joinFit_length hok, fun t' k => ?_⟩)
  obtain ⟨hp, gg, dd, tk, os⟩ := s'
  dsimp only at hg hd ho hk
  subst hg hd ho
  rw [hlm]
  exact h hp t' k fun b o e => hk b o (fun q => absurd (Heap.lt_size e) (q ▸ Nat.lt_irrefl _)) (Heap.get?_push_of_some _ e)
end
end Mine
end
section
open PySem PySem.W PyProof.Rows Mine
set_option Elab.async false
set_option maxRecDepth 100000
set_option maxHeartbeats 1500000
namespace Mine
section
variable {p z got : Str} {mid : List Str}
theorem ell_f1 (h1 : (p.length : Int) ≠ 0) (h2 : Txt.startswith got p = false) : ellF p mid z got = false := by
  unfold ellF; rw [if_pos ⟨by (first | (with_reducible first | assumption | exact Nat.le_trans (by assumption) (by decide) | exact Nat.lt_of_le_of_lt (by assumption) (by decide) | (refine Nat.ne_of_lt ?_; (repeat (first | assumption | refine Nat.lt_trans (by assumption) ?_)); done) | (refine Nat.ne_of_gt ?_; (repeat (first | assumption | refine Nat.lt_trans (by assumption) ?_)); done) | ((repeat (first | assumption | refine Nat.lt_trans (by assumption) ?_)); done)) | omega), h2⟩]
theorem ell_f2 (h1 : p.length = 0 ∨ Txt.startswith got p = true) (h3 : (z.length : Int) ≠ 0) (h4 : Txt.endswith got z = false) : ellF p mid z got = false := by
  unfold ellF
  rw [if_neg, if_pos ⟨by (first | (with_reducible first | assumption | exact Nat.le_trans (by assumption) (by decide) | exact Nat.lt_of_le_of_lt (by assumption) (by decide) | (refine Nat.ne_of_lt ?_; (repeat (first | assumption | refine Nat.lt_trans (by assumption) ?_)); done) | (refine Nat.ne_of_gt ?_; (repeat (first | assumption | refine Nat.lt_trans (by assumption) ?_)); done) | ((repeat (first | assumption | refine Nat.lt_trans (by assumption) ?_)); done)) | omega), h4⟩]
  rintro ⟨a, b⟩
  rcases h1 with h | h
  · exact a h
  · rw [h] at b; cases b
theorem ell_f0 (h1 : p.length = 0 ∨ Txt.startswith got p = true) (h2 : z.length = 0 ∨ Txt.endswith got z = true) : ellF p mid z got = if (got.length : Int) - z.length < p.length then false
    else findsF got ((got.length : Int) - z.length) ((if p.length = 0 then [p] else []) ++ mid ++ (if z.length = 0 then [z] else [])) p.length := by
  unfold ellF
  rw [if_neg, if_neg]
  · rintro ⟨a, b⟩
    rcases h2 with h | h
    · exact a h
    · rw [h] at b; cases b
  · rintro ⟨a, b⟩
    rcases h1 with h | h
    · exact a h
    · rw [h] at b; cases b
theorem ell_f3 (h1 : p.length = 0 ∨ Txt.startswith got p = true) (h2 : z.length = 0 ∨ Txt.endswith got z = true) (h3 : (got.length : Int) - z.length < p.length) : ellF p mid z got = false := by
  rw [ell_f0 h1 h2, if_pos h3]
end
theorem ell_lst {h₀ h : Heap} {L D : Addr} {a : Addr × Obj} {news : List (Addr × Obj)} {VS : List Value} {n : Nat} {p z : Str} {t0 tz : Tok} {lm : List (Str × Tok)} (_N : News h₀ L h (a :: (D, W.listOf VS.toArray n) :: news))
    (hc : (p.length = 0 ∧ z.length = 0 ∧ VS = Value.str p t0 :: (strValues lm ++ [Value.str z tz])) ∨ (p.length = 0 ∧ z.length ≠ 0 ∧ VS = Value.str p t0 :: strValues lm) ∨ (p.length ≠ 0 ∧ z.length = 0 ∧ VS = strValues lm ++ [Value.str z tz]) ∨ (p.length ≠ 0 ∧ z.length ≠ 0 ∧ VS = strValues lm)) :
    ∃ lst, VS = strValues lst ∧ lst.map (·.1) = (if p.length = 0 then [p] else []) ++ lm.map (·.1) ++ (if z.length = 0 then [z] else []) := by
  rcases hc with ⟨h1, h2, rfl⟩ | ⟨h1, h2, rfl⟩ | ⟨h1, h2, rfl⟩ | ⟨h1, h2, rfl⟩
  · exact ⟨(p, t0) :: (lm ++ [(z, tz)]), by simp [strValues], by simp [h1, h2]⟩
  · exact ⟨(p, t0) :: lm, by simp [strValues], by simp [h1, h2]⟩
  · exact ⟨lm ++ [(z, tz)], by simp [strValues], by simp [h1, h2]⟩
  · exact ⟨lm, by simp [strValues], by simp [h1, h2]⟩
theorem strv_get {l : List (Str × Tok)} {i : Nat} {v : Value} (h : (strValues l)[i]? = some v) : ∃ w t, v = Value.str w t ∧ l[i]? = some (w, t) := by
  unfold strValues at h
  rw [List.getElem?_map] at h
  cases e : l[i]? with
  | none => rw [e] at h; cases h
  | some x => rw [e] at h; cases h; exact ⟨_, _, rfl, rfl⟩
theorem drop_get {α : Type} {l : List α} {i : Nat} {a : α} (h : l[i]? = some a) : l.drop i = a :: l.drop (i + 1) := by
  obtain ⟨hl, rfl⟩ := List.getElem?_eq_some_iff.mp h
  exact List.drop_eq_getElem_cons hl
theorem finds_eq {got : Str} {X : List Str} {a b c d : Int} (h : a = b) (h' : c = d) : findsF got a X c = findsF got b X d := by subst h h'; rfl
theorem shape_of {l : List (Str × Tok)} {p z : Str} {mid : List Str} (e : l.map (·.1) = p :: (mid ++ [z])) : ∃ t0 lm tz, l = (p, t0) :: (lm ++ [(z, tz)]) ∧ lm.map (·.1) = mid := by
  cases l with
  | nil => cases e
  | cons a l =>
    obtain ⟨a1, t0⟩ := a
    rw [List.map_cons] at e
    injection e with e1 e2
    obtain ⟨lf, l2, rfl, h1, h2⟩ := List.map_eq_append_iff.mp e2
    obtain ⟨a2, rfl, rfl⟩ := List.map_eq_singleton_iff.mp h2
    subst h1
    exact ⟨t0, lf, a2.2, by simp only [← e1], rfl⟩
theorem ell_c {w : World} {mean} {mg mb} (want got : Str) (ta tb : Tok) (news : List (Addr × Obj)) (hz : want.length ≤ 50) (hy : got.length ≤ 50) (p : Str) (mid : List Str) (z : Str) (hsp : Txt.split want (Str.ofString "...") = p :: (mid ++ [z])) (hin : (Builtin.Str.occurrences want (Str.ofString "...") 0 want.length 1).isEmpty = false) (hpl : p.length ≤ 50) (hzl : z.length ≤ 50) (hml : mid.length ≤ 50) (hmx : ∀ x ∈ mid, x.length ≤ 50) :
  MClaim w mean mg mb 21 news [.str want ta, .str got tb] 2 (fun s Q h₀ L m => ∀ (h' : Heap) (tk' : Nat), Fr h₀ L h' m → News h₀ L h' news → Q (.bool (ellF p mid z got)) { s with heap := h', toks := tk' }) := by
  dsimp only [MClaim, PRG]; k_fill; intro dp un h₀ L m s Q E F₀ X₀ N₀ T₀ hroom hunits hret
  have k1 := held "pyIter ref"
  have k2 := held "InvEndN"
  have k3 := held "exec If Name"
  have k4 := held "subscriptTail"
  have k5 := held "delItem"
  have k7 := held "call builtin:str.find"
  have k8 := held "call builtin:str.split"
  have k9 := held "call builtin:len cons nil"
  refine wpAny_call ?_
  k_dflt (refine' enterP ?k2 ?k3 ?k4 ?k5 ?k6 ?k7 ?k8 ?k9 ?kB ?_ ?c2 ?c3 ?c4 ?c5; (case k2 => k_asm); (case k3 => k_asm); (case k4 => k_asm); (case k5 => k_asm); (case k6 => k_is); (case k7 => k_is); (case k8 => exact rm0 hroom); (case k9 => exact BindsTo.of_eq rfl); (case c5 => decide); (case kB => exact locs rfl); (case c2 => exact rfl); (case c3 => exact rfl); (case c4 => exact rfl); k_whole; intro gg LL _ _ _ _ _ _; (try dsimp only); (try k_fold))
  rename Fr _ _ _ _ => F
  replace F := (show Fr _ _ _ (fun y => List.lookup y [(Str.ofString "got", Value.str got tb), (Str.ofString "want", Value.str want ta)]) from F)
  refine quiet ?_
  intro Q9 hQ9
  k_steps
  all_goals try (refine hQ9 _ _ ?_; k_steps)
  refine unhold ?_
  refine KSpl.split1 (by k_asm) (by k_asm) (by decide) ?_ (by rw [sizeLine_eq]; (first | (with_reducible first | assumption | exact Nat.le_trans (by assumption) (by decide) | exact Nat.lt_of_le_of_lt (by assumption) (by decide) | (refine Nat.ne_of_lt ?_; (repeat (first | assumption | refine Nat.lt_trans (by assumption) ?_)); done) | (refine Nat.ne_of_gt ?_; (repeat (first | assumption | refine Nat.lt_trans (by assumption) ?_)); done) | ((repeat (first | assumption | refine Nat.lt_trans (by assumption) ?_)); done)) | omega))
  intro D l h1 kk e a1 F1 N1 l1
  rw [hsp] at e
  obtain ⟨t0, lm, tz, rfl, rfl⟩ := shape_of e
  clear e a1
  have hlm : (lm.map (·.1)).length = lm.length := List.length_map ..
  replace N1 := (show News _ _ _ ((D, W.listOf (Value.str p t0 :: (strValues lm ++ [Value.str z tz])).toArray 0) :: news) from by simpa [strValues] using N1)
  have hlen : lm.length ≤ 100 := by (first | (with_reducible first | assumption | exact Nat.le_trans (by assumption) (by decide) | exact Nat.lt_of_le_of_lt (by assumption) (by decide) | (refine Nat.ne_of_lt ?_; (repeat (first | assumption | refine Nat.lt_trans (by assumption) ?_)); done) | (refine Nat.ne_of_gt ?_; (repeat (first | assumption | refine Nat.lt_trans (by assumption) ?_)); done) | ((repeat (first | assumption | refine Nat.lt_trans (by assumption) ?_)); done)) | omega)
  replace l1 : LtAll D news := l1
  dsimp only
  k_steps
  refine unhold ?_
  refine len_led (by k_asm) (by k_mem) (by simp only [List.length_cons, List.length_append, List.length_map, List.length_nil, strValues]; (first | (with_reducible first | assumption | exact Nat.le_trans (by assumption) (by decide) | exact Nat.lt_of_le_of_lt (by assumption) (by decide) | (refine Nat.ne_of_lt ?_; (repeat (first | assumption | refine Nat.lt_trans (by assumption) ?_)); done) | (refine Nat.ne_of_gt ?_; (repeat (first | assumption | refine Nat.lt_trans (by assumption) ?_)); done) | ((repeat (first | assumption | refine Nat.lt_trans (by assumption) ?_)); done)) | omega)) ?_
  try simp only [List.length_cons, List.length_append, List.length_map, List.length_nil, strValues, Nat.zero_add, Int.natCast_add, Int.natCast_one]
  clear k9
  k_steps
  refine unhold ?_
  refine' item_led ?N ?m ?a ?b ?c ?_
  case N => k_asm
  case m => k_mem
  case a => decide
  case b => decide
  case c => rfl
  k_steps
  refine unhold ?_
  refine quiet ?_
  intro QA hQA
  have hA : ∀ (h' : Heap) (tk' : Nat) (m' : Str → Option Value) (lf : List (Str × Tok)) (n1 : Nat) (t1 te : Tok), (p.length = 0 ∨ Txt.startswith got p = true) → lf.map (·.1) = (if p.length = 0 then [p] else []) ++ lm.map (·.1) →
      Fr gg LL h' m' → News gg LL h' ((D, W.listOf (strValues lf ++ [Value.str z tz]).toArray n1) :: news) →
      m' (Str.ofString "startpos") = some (Value.int p.length t1) → m' (Str.ofString "endpos") = some (Value.int got.length te) → m' (Str.ofString "got") = some (Value.str got tb) → m' (Str.ofString "ws") = some (Value.ref D) → QA .next { s with heap := h', toks := tk' } := by
    intro h' tk' m' lf n1 t1 te c1 hl F N e1 e2 e3 e4
    have hl1 : lf.length ≤ 101 := by
      have := congrArg List.length hl
      rw [List.length_map, List.length_append, List.length_map] at this
      split at this <;> simp only [List.length_cons, List.length_nil] at this <;> (first | (with_reducible first | assumption | exact Nat.le_trans (by assumption) (by decide) | exact Nat.lt_of_le_of_lt (by assumption) (by decide) | (refine Nat.ne_of_lt ?_; (repeat (first | assumption | refine Nat.lt_trans (by assumption) ?_)); done) | (refine Nat.ne_of_gt ?_; (repeat (first | assumption | refine Nat.lt_trans (by assumption) ?_)); done) | ((repeat (first | assumption | refine Nat.lt_trans (by assumption) ?_)); done)) | omega)
    replace F := frB [(Str.ofString "startpos", Value.int p.length t1), (Str.ofString "endpos", Value.int got.length te), (Str.ofString "got", Value.str got tb), (Str.ofString "ws", Value.ref D)] (List.forall_mem_cons.mpr ⟨e1, List.forall_mem_cons.mpr ⟨e2, List.forall_mem_cons.mpr ⟨e3, List.forall_mem_cons.mpr ⟨e4, List.forall_mem_nil _⟩⟩⟩⟩) F
    dsimp only [kstB] at F
    clear e1 e2 e3 e4
    refine hQA _ _ ?_
    dsimp only
    k_steps
    refine unhold ?_
    refine' last_led (r := strValues lf) ?N ?m ?_
    case N => k_asm
    case m => k_mem
    k_steps
    refine unhold ?_
    refine quiet ?_
    intro QB hQB
    have hB : ∀ (h' : Heap) (tk' : Nat) (m' : Str → Option Value) (lst : List (Str × Tok)) (n2 : Nat) (ep : Int) (t1 te : Tok), (z.length = 0 ∨ Txt.endswith got z = true) → lst.map (·.1) = (if p.length = 0 then [p] else []) ++ lm.map (·.1) ++ (if z.length = 0 then [z] else []) → ep = (got.length : Int) - z.length →
        Fr gg LL h' m' → News gg LL h' ((D, W.listOf (strValues lst).toArray n2) :: news) →
        m' (Str.ofString "startpos") = some (Value.int p.length t1) → m' (Str.ofString "endpos") = some (Value.int ep te) → m' (Str.ofString "got") = some (Value.str got tb) → m' (Str.ofString "ws") = some (Value.ref D) → QB .next { s with heap := h', toks := tk' } := by
      intro h' tk' m' lst n2 ep t1 te c2 hws hep F N e1 e2 e3 e4
      replace F := frB [(Str.ofString "startpos", Value.int p.length t1), (Str.ofString "endpos", Value.int ep te), (Str.ofString "got", Value.str got tb), (Str.ofString "ws", Value.ref D)] (List.forall_mem_cons.mpr ⟨e1, List.forall_mem_cons.mpr ⟨e2, List.forall_mem_cons.mpr ⟨e3, List.forall_mem_cons.mpr ⟨e4, List.forall_mem_nil _⟩⟩⟩⟩) F
      dsimp only [kstB] at F
      clear e1 e2 e3 e4
      subst hep
      have e := ell_f0 (p := p) (z := z) (got := got) (mid := lm.map (·.1)) c1 c2
      refine hQB _ _ ?_
      dsimp only
      k_steps
      · rw [if_pos (by (first | (with_reducible first | assumption | exact Nat.le_trans (by assumption) (by decide) | exact Nat.lt_of_le_of_lt (by assumption) (by decide) | (refine Nat.ne_of_lt ?_; (repeat (first | assumption | refine Nat.lt_trans (by assumption) ?_)); done) | (refine Nat.ne_of_gt ?_; (repeat (first | assumption | refine Nat.lt_trans (by assumption) ?_)); done) | ((repeat (first | assumption | refine Nat.lt_trans (by assumption) ?_)); done)) | omega))] at e
        rw [e] at hret
        refine hQ9 _ _ ?_
        k_steps
        exact hret _ _ (by k_asm) (by first | exact news_t (news_t (by assumption)) | exact news_t (by assumption) | k_asm)
      · rw [if_neg (by (first | (with_reducible first | assumption | exact Nat.le_trans (by assumption) (by decide) | exact Nat.lt_of_le_of_lt (by assumption) (by decide) | (refine Nat.ne_of_lt ?_; (repeat (first | assumption | refine Nat.lt_trans (by assumption) ?_)); done) | (refine Nat.ne_of_gt ?_; (repeat (first | assumption | refine Nat.lt_trans (by assumption) ?_)); done) | ((repeat (first | assumption | refine Nat.lt_trans (by assumption) ?_)); done)) | omega))] at e
        rw [e] at hret
        clear e
        refine unhold ?_
        rename Fr gg LL _ _ => F9
        rename News gg LL _ _ => N9
        have hall : ∀ x ∈ lst.map (·.1), x.length ≤ 50 := by
          rw [hws]
          intro x hx
          rcases List.mem_append.mp hx with hx | hx
          · rcases List.mem_append.mp hx with hx | hx
            · split at hx
              · rw [List.mem_singleton.mp hx]; exact hpl
              · cases hx
            · exact hmx x hx
          · split at hx
            · rw [List.mem_singleton.mp hx]; exact hzl
            · cases hx
        rw [← hws] at hret
        clear hws
        refine iter_vals (news := news) (vs := strValues lst) (fun i m nx => nx = news ∧ ∃ sp t ep te, m (Str.ofString "startpos") = some (Value.int sp t) ∧ m (Str.ofString "endpos") = some (Value.int ep te) ∧ m (Str.ofString "got") = some (Value.str got tb) ∧ ep = (got.length : Int) - z.length ∧ findsF got ep ((lst.map (·.1)).drop i) sp = findsF got ((got.length : Int) - z.length) (lst.map (·.1)) p.length) rfl (N9 _ (.head _)).1 (N9 _ (.head _)).2.1 (LtAll.ne l1) F9 (news_t N9) ⟨rfl, _, _, _, _, by with_unfolding_all rfl, by with_unfolding_all rfl, by with_unfolding_all rfl, by (first | (with_reducible first | assumption | exact Nat.le_trans (by assumption) (by decide) | exact Nat.lt_of_le_of_lt (by assumption) (by decide) | (refine Nat.ne_of_lt ?_; (repeat (first | assumption | refine Nat.lt_trans (by assumption) ?_)); done) | (refine Nat.ne_of_gt ?_; (repeat (first | assumption | refine Nat.lt_trans (by assumption) ?_)); done) | ((repeat (first | assumption | refine Nat.lt_trans (by assumption) ?_)); done)) | omega), ?h0⟩ ?turn ?done
        case h0 => exact finds_eq rfl rfl
        case turn =>
          rintro i v m₁ news₁ h tk own hvi hadr hoff ⟨rfl, sp, t, ep, te, e1, e2, e3, e4, e5⟩ F N
          obtain ⟨wd, tw, rfl, hwd⟩ := strv_get hvi
          have hwl : wd.length ≤ 50 := hall wd (List.mem_map.mpr ⟨_, List.mem_of_getElem? hwd, rfl⟩)
          have hdr : (lst.map (·.1)).drop i = wd :: (lst.map (·.1)).drop (i + 1) := drop_get (by rw [List.getElem?_map, hwd]; rfl)
          rw [hdr] at e5
          replace F := kst_fr (x := Str.ofString "w") (m₀ := m₁) (stored := []) (ps := [(Str.ofString "startpos", Value.int sp t), (Str.ofString "endpos", Value.int ep te), (Str.ofString "got", Value.str got tb)]) (List.forall_mem_cons.mpr ⟨e1, List.forall_mem_cons.mpr ⟨e2, List.forall_mem_cons.mpr ⟨e3, List.forall_mem_nil _⟩⟩⟩) (fun _ _ _ _ => rfl) F
          dsimp only [kstB] at F N ⊢
          refine quiet ?_
          intro Q8 hQ8
          k_steps
          refine unhold ?_
          refine call_find4 ?_
          k_steps
          all_goals try (refine hQ8 _ _ ?_; k_steps)
          all_goals try (refine hQ9 _ _ ?_; k_steps)
          · have e6 : findsF got ((got.length : Int) - z.length) (lst.map (·.1)) p.length = false := by
              rw [← e5]; unfold findsF; rw [if_pos (by assumption)]
            rw [e6] at hret
            exact hret _ _ (by k_asm) (news_l (by k_asm))
          · refine unhold ?_
            refine ⟨_, _, _, _, _, rfl, by k_asm, by k_asm, fun p hp => List.mem_append_left _ hp, fun p hp => List.mem_append_right _ hp, hadr, rfl, _, _, _, _, by with_unfolding_all rfl, by with_unfolding_all rfl, by with_unfolding_all rfl, e4, ?_⟩
            rw [← e5]
            conv => rhs; unfold findsF
            rw [if_neg (by assumption)]
        case done =>
          rintro m₁ news₁ h tk ⟨rfl, sp, t, ep, te, e1, e2, e3, e4, e5⟩ F N
          have e6 : findsF got ((got.length : Int) - z.length) (lst.map (·.1)) p.length = true := by
            rw [← e5, List.drop_eq_nil_of_le (by simp [strValues])]; rfl
          rw [e6] at hret
          dsimp only
          k_steps
          all_goals try (refine hQ9 _ _ ?_; k_steps)
          exact hret _ _ (by k_asm) (by first | exact news_t (news_t (by assumption)) | exact news_t (by assumption) | k_asm)
    refine wpAny_If ?_
    k_steps
    · refine unhold ?_
      refine' del_last_led (r := strValues lf) ?F ?N ?U ?z ?_
      case F => k_asm
      case N => k_asm
      case U => k_upd
      case z => simp only [List.length_cons, List.length_append, List.length_map, List.length_nil, strValues]; (first | (with_reducible first | assumption | exact Nat.le_trans (by assumption) (by decide) | exact Nat.lt_of_le_of_lt (by assumption) (by decide) | (refine Nat.ne_of_lt ?_; (repeat (first | assumption | refine Nat.lt_trans (by assumption) ?_)); done) | (refine Nat.ne_of_gt ?_; (repeat (first | assumption | refine Nat.lt_trans (by assumption) ?_)); done) | ((repeat (first | assumption | refine Nat.lt_trans (by assumption) ?_)); done)) | omega)
      intro h' F' N'
      k_steps
      exact hB _ _ _ lf _ _ _ _ (by first | (left; (first | (with_reducible first | assumption | exact Nat.le_trans (by assumption) (by decide) | exact Nat.lt_of_le_of_lt (by assumption) (by decide) | (refine Nat.ne_of_lt ?_; (repeat (first | assumption | refine Nat.lt_trans (by assumption) ?_)); done) | (refine Nat.ne_of_gt ?_; (repeat (first | assumption | refine Nat.lt_trans (by assumption) ?_)); done) | ((repeat (first | assumption | refine Nat.lt_trans (by assumption) ?_)); done)) | omega)) | (right; assumption)) (by rw [hl, if_neg (show ¬ z.length = 0 by (first | (with_reducible first | assumption | exact Nat.le_trans (by assumption) (by decide) | exact Nat.lt_of_le_of_lt (by assumption) (by decide) | (refine Nat.ne_of_lt ?_; (repeat (first | assumption | refine Nat.lt_trans (by assumption) ?_)); done) | (refine Nat.ne_of_gt ?_; (repeat (first | assumption | refine Nat.lt_trans (by assumption) ?_)); done) | ((repeat (first | assumption | refine Nat.lt_trans (by assumption) ?_)); done)) | omega)), List.append_nil]) rfl (by k_asm) (by k_asm) (by with_unfolding_all rfl) (by with_unfolding_all rfl) (by with_unfolding_all rfl) (by with_unfolding_all rfl)
    · refine hQB _ _ ?_
      refine hQ9 _ _ ?_
      k_steps
      have e : ellF p (lm.map (·.1)) z got = false := ell_f2 c1 (by assumption) (by assumption)
      rw [e] at hret
      exact hret _ _ (by k_asm) (by first | exact news_t (news_t (by assumption)) | exact news_t (by assumption) | k_asm)
    · exact hB _ _ _ (lf ++ [(z, tz)]) _ (got.length : Int) _ _ (by first | (left; (first | (with_reducible first | assumption | exact Nat.le_trans (by assumption) (by decide) | exact Nat.lt_of_le_of_lt (by assumption) (by decide) | (refine Nat.ne_of_lt ?_; (repeat (first | assumption | refine Nat.lt_trans (by assumption) ?_)); done) | (refine Nat.ne_of_gt ?_; (repeat (first | assumption | refine Nat.lt_trans (by assumption) ?_)); done) | ((repeat (first | assumption | refine Nat.lt_trans (by assumption) ?_)); done)) | omega)) | (right; assumption)) (by rw [List.map_append, hl, if_pos (show z.length = 0 by (first | (with_reducible first | assumption | exact Nat.le_trans (by assumption) (by decide) | exact Nat.lt_of_le_of_lt (by assumption) (by decide) | (refine Nat.ne_of_lt ?_; (repeat (first | assumption | refine Nat.lt_trans (by assumption) ?_)); done) | (refine Nat.ne_of_gt ?_; (repeat (first | assumption | refine Nat.lt_trans (by assumption) ?_)); done) | ((repeat (first | assumption | refine Nat.lt_trans (by assumption) ?_)); done)) | omega))]; rfl) (by (first | (with_reducible first | assumption | exact Nat.le_trans (by assumption) (by decide) | exact Nat.lt_of_le_of_lt (by assumption) (by decide) | (refine Nat.ne_of_lt ?_; (repeat (first | assumption | refine Nat.lt_trans (by assumption) ?_)); done) | (refine Nat.ne_of_gt ?_; (repeat (first | assumption | refine Nat.lt_trans (by assumption) ?_)); done) | ((repeat (first | assumption | refine Nat.lt_trans (by assumption) ?_)); done)) | omega)) (by k_asm) (by simp only [strValues, List.map_append, List.map_cons, List.map_nil] at *; k_asm) (by with_unfolding_all rfl) (by with_unfolding_all rfl) (by with_unfolding_all rfl) (by with_unfolding_all rfl)
  refine wpAny_If ?_
  k_steps
  · refine unhold ?_
    refine' del_first_led ?F ?N ?U ?z ?_
    case F => k_asm
    case N => k_asm
    case U => k_upd
    case z => simp only [List.length_cons, List.length_append, List.length_map, List.length_nil, strValues]; (first | (with_reducible first | assumption | exact Nat.le_trans (by assumption) (by decide) | exact Nat.lt_of_le_of_lt (by assumption) (by decide) | (refine Nat.ne_of_lt ?_; (repeat (first | assumption | refine Nat.lt_trans (by assumption) ?_)); done) | (refine Nat.ne_of_gt ?_; (repeat (first | assumption | refine Nat.lt_trans (by assumption) ?_)); done) | ((repeat (first | assumption | refine Nat.lt_trans (by assumption) ?_)); done)) | omega)
    intro h' F' N'
    k_steps
    exact hA _ _ _ lm _ _ _ (by first | (left; (first | (with_reducible first | assumption | exact Nat.le_trans (by assumption) (by decide) | exact Nat.lt_of_le_of_lt (by assumption) (by decide) | (refine Nat.ne_of_lt ?_; (repeat (first | assumption | refine Nat.lt_trans (by assumption) ?_)); done) | (refine Nat.ne_of_gt ?_; (repeat (first | assumption | refine Nat.lt_trans (by assumption) ?_)); done) | ((repeat (first | assumption | refine Nat.lt_trans (by assumption) ?_)); done)) | omega)) | (right; assumption)) (by rw [if_neg (show ¬ p.length = 0 by (first | (with_reducible first | assumption | exact Nat.le_trans (by assumption) (by decide) | exact Nat.lt_of_le_of_lt (by assumption) (by decide) | (refine Nat.ne_of_lt ?_; (repeat (first | assumption | refine Nat.lt_trans (by assumption) ?_)); done) | (refine Nat.ne_of_gt ?_; (repeat (first | assumption | refine Nat.lt_trans (by assumption) ?_)); done) | ((repeat (first | assumption | refine Nat.lt_trans (by assumption) ?_)); done)) | omega)), List.nil_append]) (by k_asm) (by first | k_asm | exact news_t (by assumption)) (by with_unfolding_all rfl) (by with_unfolding_all rfl) (by with_unfolding_all rfl) (by with_unfolding_all rfl)
  · refine hQA _ _ ?_
    refine hQ9 _ _ ?_
    k_steps
    have e : ellF p (lm.map (·.1)) z got = false := ell_f1 (by assumption) (by assumption)
    rw [e] at hret
    exact hret _ _ (by k_asm) (by first | exact news_t (news_t (by assumption)) | exact news_t (by assumption) | k_asm)
  · exact hA _ _ _ ((p, t0) :: lm) _ _ _ (by first | (left; (first | (with_reducible first | assumption | exact Nat.le_trans (by assumption) (by decide) | exact Nat.lt_of_le_of_lt (by assumption) (by decide) | (refine Nat.ne_of_lt ?_; (repeat (first | assumption | refine Nat.lt_trans (by assumption) ?_)); done) | (refine Nat.ne_of_gt ?_; (repeat (first | assumption | refine Nat.lt_trans (by assumption) ?_)); done) | ((repeat (first | assumption | refine Nat.lt_trans (by assumption) ?_)); done)) | omega)) | (right; assumption)) (by rw [if_pos (show p.length = 0 by (first | (with_reducible first | assumption | exact Nat.le_trans (by assumption) (by decide) | exact Nat.lt_of_le_of_lt (by assumption) (by decide) | (refine Nat.ne_of_lt ?_; (repeat (first | assumption | refine Nat.lt_trans (by assumption) ?_)); done) | (refine Nat.ne_of_gt ?_; (repeat (first | assumption | refine Nat.lt_trans (by assumption) ?_)); done) | ((repeat (first | assumption | refine Nat.lt_trans (by assumption) ?_)); done)) | omega))]; rfl) (by k_asm) (by first | k_asm | exact news_t (by assumption)) (by rw [show (p.length : Int) = 0 by (first | (with_reducible first | assumption | exact Nat.le_trans (by assumption) (by decide) | exact Nat.lt_of_le_of_lt (by assumption) (by decide) | (refine Nat.ne_of_lt ?_; (repeat (first | assumption | refine Nat.lt_trans (by assumption) ?_)); done) | (refine Nat.ne_of_gt ?_; (repeat (first | assumption | refine Nat.lt_trans (by assumption) ?_)); done) | ((repeat (first | assumption | refine Nat.lt_trans (by assumption) ?_)); done)) | omega)]; with_unfolding_all rfl) (by with_unfolding_all rfl) (by with_unfolding_all rfl) (by with_unfolding_all rfl)
end Mine
end
section
open PySem PySem.W PyProof.Rows Mine
set_option Elab.async false
set_option maxRecDepth 100000
set_option maxHeartbeats 1500000
namespace Mine
theorem ell1_c {w : World} {mean} {mg mb} (want got : Str) (ta tb : Tok) (news : List (Addr × Obj)) (hz : want.length ≤ 50) (hin : (Builtin.Str.occurrences want (Str.ofString "...") 0 want.length 1).isEmpty = true) :
  MClaim w mean mg mb 21 news [.str want ta, .str got tb] 2 (fun s Q h₀ L m => ∀ (h' : Heap) (tk' : Nat), Fr h₀ L h' m → News h₀ L h' news → Q (.bool (want == got)) { s with heap := h', toks := tk' }) := by
  dsimp only [MClaim, PRG]; k_fill; intro dp un h₀ L m s Q E F₀ X₀ N₀ T₀ hroom hunits hret
  refine wpAny_call ?_
  k_dflt (refine' enterP ?k2 ?k3 ?k4 ?k5 ?k6 ?k7 ?k8 ?k9 ?kB ?_ ?c2 ?c3 ?c4 ?c5; (case k2 => k_asm); (case k3 => k_asm); (case k4 => k_asm); (case k5 => k_asm); (case k6 => k_is); (case k7 => k_is); (case k8 => exact rm0 hroom); (case k9 => exact BindsTo.of_eq rfl); (case c5 => decide); (case kB => exact locs rfl); (case c2 => exact rfl); (case c3 => exact rfl); (case c4 => exact rfl); k_whole; intro _ _ _ _ _ _ _ _; (try dsimp only); (try k_fold))
  rename Fr _ _ _ _ => F
  replace F := (show Fr _ _ _ (fun y => List.lookup y [(Str.ofString "got", Value.str got tb), (Str.ofString "want", Value.str want ta)]) from F)
  k_steps
  all_goals exact hret _ _ (by k_asm) (by k_asm)
end Mine
end
section
open PySem PySem.W PyProof.Rows Mine Builtin.Str
set_option maxRecDepth 100000
set_option maxHeartbeats 3000000
namespace Mine
def mapS (f : Nat → Nat) (x : Str) : Str := ⟨(x.cps.toList.map f).toArray⟩
theorem mapS_length (f : Nat → Nat) (x : Str) : (mapS f x).length = x.length := by simp [mapS, Str.length]
theorem map_eq_iff (f : Nat → Nat) : ∀ (a b : List Nat), (∀ x ∈ a, ∀ y ∈ b, f x = f y → x = y) → (a.map f = b.map f ↔ a = b)
  | [], [], _ => by simp
  | [], _ :: _, _ => by simp
  | _ :: _, [], _ => by simp
  | x :: a, y :: b, h => by
    have ih := map_eq_iff f a b fun x hx y hy => h x (.tail _ hx) y (.tail _ hy)
    simp only [List.map_cons, List.cons.injEq, ih]
    constructor
    · rintro ⟨h1, h2⟩; exact ⟨h x (.head _) y (.head _) h1, h2⟩
    · rintro ⟨rfl, h2⟩; exact ⟨rfl, h2⟩
theorem subAt_map {f : Nat → Nat} {x y : Str} (h : ∀ a ∈ x.cps.toList, ∀ b ∈ y.cps.toList, f a = f b → a = b) (i : Nat) : subAt (mapS f x) (mapS f y) i = subAt x y i := by
  rw [StrLaws.subAt_eq, StrLaws.subAt_eq, mapS_length]
  have e : ((mapS f x).cps.toList.drop i).take y.length = ((x.cps.toList.drop i).take y.length).map f := by simp [mapS]
  have e2 : (mapS f y).cps.toList = y.cps.toList.map f := by simp [mapS]
  rw [e, e2]
  have k := map_eq_iff f ((x.cps.toList.drop i).take y.length) y.cps.toList fun a ha b hb => h a (List.mem_of_mem_drop (List.mem_of_mem_take ha)) b hb
  rw [Bool.eq_iff_iff]
  simp only [beq_iff_eq]
  exact k
theorem occ_map {f : Nat → Nat} {x y : Str} (h : ∀ a ∈ x.cps.toList, ∀ b ∈ y.cps.toList, f a = f b → a = b) (lo hi limit : Nat) : occurrences (mapS f x) (mapS f y) lo hi limit = occurrences x y lo hi limit := by
  rw [StrLaws.occ_eq, StrLaws.occ_eq]
  have e : StrLaws.occBody (mapS f x) (mapS f y) hi limit = StrLaws.occBody x y hi limit := by
    funext i st
    unfold StrLaws.occBody
    rw [subAt_map h, mapS_length]
  rw [e]
def mu (c : Nat) : Nat := if c = 46 then 46 else 97
theorem mu_dot (c : Nat) (h : c ≠ 46) : mu c = 97 := if_neg h
theorem occ_dots (l : List Nat) (lo hi limit : Nat) : occurrences ⟨l.toArray⟩ (Str.ofString "...") lo hi limit = occurrences ⟨(l.map mu).toArray⟩ (Str.ofString "...") lo hi limit := by
  have h := occ_map (f := mu) (x := ⟨l.toArray⟩) (y := Str.ofString "...") (fun a _ b hb e => by
    have hb : b = 46 := by
      have : (Str.ofString "...").cps.toList = [46, 46, 46] := rfl
      rw [this] at hb
      simpa using hb
    subst hb
    unfold mu at e
    split at e
    · assumption
    · cases e) lo hi limit
  rw [← h]
  rfl
def dotsS (a : Bool) : Str := if a then Str.ofString "..." else Str.ofString ""
def wantS (a : Bool) (cs : List Nat) (b : Bool) : Str := dotsS a ++ Txt.join (Str.ofString "...") (cs.map ch1) ++ dotsS b
def partsS (a : Bool) (cs : List Nat) (b : Bool) : List Str := (if a then [Str.ofString ""] else []) ++ cs.map ch1 ++ (if b then [Str.ofString ""] else [])
theorem kind_dots (x : Str) : decide (Builtin.Str.strKind x < Builtin.Str.strKind (Str.ofString "...")) = false := by
  have e : Builtin.Str.strKind (Str.ofString "...") = 1 := by decide +kernel
  rw [e]
  unfold Builtin.Str.strKind
  split
  · rfl
  · split <;> rfl
theorem split_of {l : List Nat} {cuts : List Nat} {ps : List Str} (h3 : 3 ≤ l.length) (ho : occurrences ⟨l.toArray⟩ (Str.ofString "...") 0 l.length (l.length + 1) = cuts) (hc : cuts.isEmpty = false) (hp : partsBetween ⟨l.toArray⟩ cuts 3 = ps) :
    Txt.split ⟨l.toArray⟩ (Str.ofString "...") = ps := by
  have hl : (⟨l.toArray⟩ : Str).length = l.length := by simp [Str.length]
  have hd : (Str.ofString "...").length = 3 := rfl
  unfold Txt.split
  rw [kind_dots, hl, hd, ho, hc, decide_eq_false (by omega), if_neg (by decide), if_neg (by decide)]
  exact hp
theorem split_1_01 {c0 : Nat} (h0 : c0 ≠ 46) : Txt.split (wantS false [c0] true) (Str.ofString "...") = partsS false [c0] true ∧ (occurrences (wantS false [c0] true) (Str.ofString "...") 0 (wantS false [c0] true).length 1).isEmpty = false := by
  have e : wantS false [c0] true = ⟨[c0, 46, 46, 46].toArray⟩ := by kernel_rfl
  rw [e]
  refine ⟨split_of (cuts := [1]) (by simp) ?_ rfl (by kernel_rfl), ?_⟩
  · rw [occ_dots]
    show occurrences ⟨[mu c0, mu 46, mu 46, mu 46].toArray⟩ (Str.ofString "...") 0 4 5 = _
    rw [mu_dot _ h0]
    decide +kernel
  · rw [occ_dots]
    show (occurrences ⟨[mu c0, mu 46, mu 46, mu 46].toArray⟩ (Str.ofString "...") 0 4 1).isEmpty = _
    rw [mu_dot _ h0]
    decide +kernel
theorem split_1_10 {c0 : Nat} (h0 : c0 ≠ 46) : Txt.split (wantS true [c0] false) (Str.ofString "...") = partsS true [c0] false ∧ (occurrences (wantS true [c0] false) (Str.ofString "...") 0 (wantS true [c0] false).length 1).isEmpty = false := by
  have e : wantS true [c0] false = ⟨[46, 46, 46, c0].toArray⟩ := by kernel_rfl
  rw [e]
  refine ⟨split_of (cuts := [0]) (by simp) ?_ rfl (by kernel_rfl), ?_⟩
  · rw [occ_dots]
    show occurrences ⟨[mu 46, mu 46, mu 46, mu c0].toArray⟩ (Str.ofString "...") 0 4 5 = _
    rw [mu_dot _ h0]
    decide +kernel
  · rw [occ_dots]
    show (occurrences ⟨[mu 46, mu 46, mu 46, mu c0].toArray⟩ (Str.ofString "...") 0 4 1).isEmpty = _
    rw [mu_dot _ h0]
    decide +kernel
theorem split_1_11 {c0 : Nat} (h0 : c0 ≠ 46) : Txt.split (wantS true [c0] true) (Str.ofString "...") = partsS true [c0] true ∧ (occurrences (wantS true [c0] true) (Str.ofString "...") 0 (wantS true [c0] true).length 1).isEmpty = false := by
  have e : wantS true [c0] true = ⟨[46, 46, 46, c0, 46, 46, 46].toArray⟩ := by kernel_rfl
  rw [e]
  refine ⟨split_of (cuts := [0, 4]) (by simp) ?_ rfl (by kernel_rfl), ?_⟩
  · rw [occ_dots]
    show occurrences ⟨[mu 46, mu 46, mu 46, mu c0, mu 46, mu 46, mu 46].toArray⟩ (Str.ofString "...") 0 7 8 = _
    rw [mu_dot _ h0]
    decide +kernel
  · rw [occ_dots]
    show (occurrences ⟨[mu 46, mu 46, mu 46, mu c0, mu 46, mu 46, mu 46].toArray⟩ (Str.ofString "...") 0 7 1).isEmpty = _
    rw [mu_dot _ h0]
    decide +kernel
theorem split_2_00 {c0 c1 : Nat} (h0 : c0 ≠ 46) (h1 : c1 ≠ 46) : Txt.split (wantS false [c0, c1] false) (Str.ofString "...") = partsS false [c0, c1] false ∧ (occurrences (wantS false [c0, c1] false) (Str.ofString "...") 0 (wantS false [c0, c1] false).length 1).isEmpty = false := by
  have e : wantS false [c0, c1] false = ⟨[c0, 46, 46, 46, c1].toArray⟩ := by kernel_rfl
  rw [e]
  refine ⟨split_of (cuts := [1]) (by simp) ?_ rfl (by kernel_rfl), ?_⟩
  · rw [occ_dots]
    show occurrences ⟨[mu c0, mu 46, mu 46, mu 46, mu c1].toArray⟩ (Str.ofString "...") 0 5 6 = _
    rw [mu_dot _ h0, mu_dot _ h1]
    decide +kernel
  · rw [occ_dots]
    show (occurrences ⟨[mu c0, mu 46, mu 46, mu 46, mu c1].toArray⟩ (Str.ofString "...") 0 5 1).isEmpty = _
    rw [mu_dot _ h0, mu_dot _ h1]
    decide +kernel
theorem split_2_01 {c0 c1 : Nat} (h0 : c0 ≠ 46) (h1 : c1 ≠ 46) : Txt.split (wantS false [c0, c1] true) (Str.ofString "...") = partsS false [c0, c1] true ∧ (occurrences (wantS false [c0, c1] true) (Str.ofString "...") 0 (wantS false [c0, c1] true).length 1).isEmpty = false := by
  have e : wantS false [c0, c1] true = ⟨[c0, 46, 46, 46, c1, 46, 46, 46].toArray⟩ := by kernel_rfl
  rw [e]
  refine ⟨split_of (cuts := [1, 5]) (by simp) ?_ rfl (by kernel_rfl), ?_⟩
  · rw [occ_dots]
    show occurrences ⟨[mu c0, mu 46, mu 46, mu 46, mu c1, mu 46, mu 46, mu 46].toArray⟩ (Str.ofString "...") 0 8 9 = _
    rw [mu_dot _ h0, mu_dot _ h1]
    decide +kernel
  · rw [occ_dots]
    show (occurrences ⟨[mu c0, mu 46, mu 46, mu 46, mu c1, mu 46, mu 46, mu 46].toArray⟩ (Str.ofString "...") 0 8 1).isEmpty = _
    rw [mu_dot _ h0, mu_dot _ h1]
    decide +kernel
theorem split_2_10 {c0 c1 : Nat} (h0 : c0 ≠ 46) (h1 : c1 ≠ 46) : Txt.split (wantS true [c0, c1] false) (Str.ofString "...") = partsS true [c0, c1] false ∧ (occurrences (wantS true [c0, c1] false) (Str.ofString "...") 0 (wantS true [c0, c1] false).length 1).isEmpty = false := by
  have e : wantS true [c0, c1] false = ⟨[46, 46, 46, c0, 46, 46, 46, c1].toArray⟩ := by kernel_rfl
  rw [e]
  refine ⟨split_of (cuts := [0, 4]) (by simp) ?_ rfl (by kernel_rfl), ?_⟩
  · rw [occ_dots]
    show occurrences ⟨[mu 46, mu 46, mu 46, mu c0, mu 46, mu 46, mu 46, mu c1].toArray⟩ (Str.ofString "...") 0 8 9 = _
    rw [mu_dot _ h0, mu_dot _ h1]
    decide +kernel
  · rw [occ_dots]
    show (occurrences ⟨[mu 46, mu 46, mu 46, mu c0, mu 46, mu 46, mu 46, mu c1].toArray⟩ (Str.ofString "...") 0 8 1).isEmpty = _
    rw [mu_dot _ h0, mu_dot _ h1]
    decide +kernel
theorem split_2_11 {c0 c1 : Nat} (h0 : c0 ≠ 46) (h1 : c1 ≠ 46) : Txt.split (wantS true [c0, c1] true) (Str.ofString "...") = partsS true [c0, c1] true ∧ (occurrences (wantS true [c0, c1] true) (Str.ofString "...") 0 (wantS true [c0, c1] true).length 1).isEmpty = false := by
  have e : wantS true [c0, c1] true = ⟨[46, 46, 46, c0, 46, 46, 46, c1, 46, 46, 46].toArray⟩ := by kernel_rfl
  rw [e]
  refine ⟨split_of (cuts := [0, 4, 8]) (by simp) ?_ rfl (by kernel_rfl), ?_⟩
  · rw [occ_dots]
    show occurrences ⟨[mu 46, mu 46, mu 46, mu c0, mu 46, mu 46, mu 46, mu c1, mu 46, mu 46, mu 46].toArray⟩ (Str.ofString "...") 0 11 12 = _
    rw [mu_dot _ h0, mu_dot _ h1]
    decide +kernel
  · rw [occ_dots]
    show (occurrences ⟨[mu 46, mu 46, mu 46, mu c0, mu 46, mu 46, mu 46, mu c1, mu 46, mu 46, mu 46].toArray⟩ (Str.ofString "...") 0 11 1).isEmpty = _
    rw [mu_dot _ h0, mu_dot _ h1]
    decide +kernel
theorem split_3_00 {c0 c1 c2 : Nat} (h0 : c0 ≠ 46) (h1 : c1 ≠ 46) (h2 : c2 ≠ 46) : Txt.split (wantS false [c0, c1, c2] false) (Str.ofString "...") = partsS false [c0, c1, c2] false ∧ (occurrences (wantS false [c0, c1, c2] false) (Str.ofString "...") 0 (wantS false [c0, c1, c2] false).length 1).isEmpty = false := by
  have e : wantS false [c0, c1, c2] false = ⟨[c0, 46, 46, 46, c1, 46, 46, 46, c2].toArray⟩ := by kernel_rfl
  rw [e]
  refine ⟨split_of (cuts := [1, 5]) (by simp) ?_ rfl (by kernel_rfl), ?_⟩
  · rw [occ_dots]
    show occurrences ⟨[mu c0, mu 46, mu 46, mu 46, mu c1, mu 46, mu 46, mu 46, mu c2].toArray⟩ (Str.ofString "...") 0 9 10 = _
    rw [mu_dot _ h0, mu_dot _ h1, mu_dot _ h2]
    decide +kernel
  · rw [occ_dots]
    show (occurrences ⟨[mu c0, mu 46, mu 46, mu 46, mu c1, mu 46, mu 46, mu 46, mu c2].toArray⟩ (Str.ofString "...") 0 9 1).isEmpty = _
    rw [mu_dot _ h0, mu_dot _ h1, mu_dot _ h2]
    decide +kernel
theorem split_3_01 {c0 c1 c2 : Nat} (h0 : c0 ≠ 46) (h1 : c1 ≠ 46) (h2 : c2 ≠ 46) : Txt.split (wantS false [c0, c1, c2] true) (Str.ofString "...") = partsS false [c0, c1, c2] true ∧ (occurrences (wantS false [c0, c1, c2] true) (Str.ofString "...") 0 (wantS false [c0, c1, c2] true).length 1).isEmpty = false := by
  have e : wantS false [c0, c1, c2] true = ⟨[c0, 46, 46, 46, c1, 46, 46, 46, c2, 46, 46, 46].toArray⟩ := by kernel_rfl
  rw [e]
  refine ⟨split_of (cuts := [1, 5, 9]) (by simp) ?_ rfl (by kernel_rfl), ?_⟩
  · rw [occ_dots]
    show occurrences ⟨[mu c0, mu 46, mu 46, mu 46, mu c1, mu 46, mu 46, mu 46, mu c2, mu 46, mu 46, mu 46].toArray⟩ (Str.ofString "...") 0 12 13 = _
    rw [mu_dot _ h0, mu_dot _ h1, mu_dot _ h2]
    decide +kernel
  · rw [occ_dots]
    show (occurrences ⟨[mu c0, mu 46, mu 46, mu 46, mu c1, mu 46, mu 46, mu 46, mu c2, mu 46, mu 46, mu 46].toArray⟩ (Str.ofString "...") 0 12 1).isEmpty = _
    rw [mu_dot _ h0, mu_dot _ h1, mu_dot _ h2]
    decide +kernel
theorem split_3_10 {c0 c1 c2 : Nat} (h0 : c0 ≠ 46) (h1 : c1 ≠ 46) (h2 : c2 ≠ 46) : Txt.split (wantS true [c0, c1, c2] false) (Str.ofString "...") = partsS true [c0, c1, c2] false ∧ (occurrences (wantS true [c0, c1, c2] false) (Str.ofString "...") 0 (wantS true [c0, c1, c2] false).length 1).isEmpty = false := by
  have e : wantS true [c0, c1, c2] false = ⟨[46, 46, 46, c0, 46, 46, 46, c1, 46, 46, 46, c2].toArray⟩ := by kernel_rfl
  rw [e]
  refine ⟨split_of (cuts := [0, 4, 8]) (by simp) ?_ rfl (by kernel_rfl), ?_⟩
  · rw [occ_dots]
    show occurrences ⟨[mu 46, mu 46, mu 46, mu c0, mu 46, mu 46, mu 46, mu c1, mu 46, mu 46, mu 46, mu c2].toArray⟩ (Str.ofString "...") 0 12 13 = _
    rw [mu_dot _ h0, mu_dot _ h1, mu_dot _ h2]
    decide +kernel
  · rw [occ_dots]
    show (occurrences ⟨[mu 46, mu 46, mu 46, mu c0, mu 46, mu 46, mu 46, mu c1, mu 46, mu 46, mu 46, mu c2].toArray⟩ (Str.ofString "...") 0 12 1).isEmpty = _
    rw [mu_dot _ h0, mu_dot _ h1, mu_dot _ h2]
    decide +kernel
theorem split_3_11 {c0 c1 c2 : Nat} (h0 : c0 ≠ 46) (h1 : c1 ≠ 46) (h2 : c2 ≠ 46) : Txt.split (wantS true [c0, c1, c2] true) (Str.ofString "...") = partsS true [c0, c1, c2] true ∧ (occurrences (wantS true [c0, c1, c2] true) (Str.ofString "...") 0 (wantS true [c0, c1, c2] true).length 1).isEmpty = false := by
  have e : wantS true [c0, c1, c2] true = ⟨[46, 46, 46, c0, 46, 46, 46, c1, 46, 46, 46, c2, 46, 46, 46].toArray⟩ := by kernel_rfl
  rw [e]
  refine ⟨split_of (cuts := [0, 4, 8, 12]) (by simp) ?_ rfl (by kernel_rfl), ?_⟩
  · rw [occ_dots]
    show occurrences ⟨[mu 46, mu 46, mu 46, mu c0, mu 46, mu 46, mu 46, mu c1, mu 46, mu 46, mu 46, mu c2, mu 46, mu 46, mu 46].toArray⟩ (Str.ofString "...") 0 15 16 = _
    rw [mu_dot _ h0, mu_dot _ h1, mu_dot _ h2]
    decide +kernel
  · rw [occ_dots]
    show (occurrences ⟨[mu 46, mu 46, mu 46, mu c0, mu 46, mu 46, mu 46, mu c1, mu 46, mu 46, mu 46, mu c2, mu 46, mu 46, mu 46].toArray⟩ (Str.ofString "...") 0 15 1).isEmpty = _
    rw [mu_dot _ h0, mu_dot _ h1, mu_dot _ h2]
    decide +kernel
theorem split_4_00 {c0 c1 c2 c3 : Nat} (h0 : c0 ≠ 46) (h1 : c1 ≠ 46) (h2 : c2 ≠ 46) (h3 : c3 ≠ 46) : Txt.split (wantS false [c0, c1, c2, c3] false) (Str.ofString "...") = partsS false [c0, c1, c2, c3] false ∧ (occurrences (wantS false [c0, c1, c2, c3] false) (Str.ofString "...") 0 (wantS false [c0, c1, c2, c3] false).length 1).isEmpty = false := by
  have e : wantS false [c0, c1, c2, c3] false = ⟨[c0, 46, 46, 46, c1, 46, 46, 46, c2, 46, 46, 46, c3].toArray⟩ := by kernel_rfl
  rw [e]
  refine ⟨split_of (cuts := [1, 5, 9]) (by simp) ?_ rfl (by kernel_rfl), ?_⟩
  · rw [occ_dots]
    show occurrences ⟨[mu c0, mu 46, mu 46, mu 46, mu c1, mu 46, mu 46, mu 46, mu c2, mu 46, mu 46, mu 46, mu c3].toArray⟩ (Str.ofString "...") 0 13 14 = _
    rw [mu_dot _ h0, mu_dot _ h1, mu_dot _ h2, mu_dot _ h3]
    decide +kernel
  · rw [occ_dots]
    show (occurrences ⟨[mu c0, mu 46, mu 46, mu 46, mu c1, mu 46, mu 46, mu 46, mu c2, mu 46, mu 46, mu 46, mu c3].toArray⟩ (Str.ofString "...") 0 13 1).isEmpty = _
    rw [mu_dot _ h0, mu_dot _ h1, mu_dot _ h2, mu_dot _ h3]
    decide +kernel
theorem split_4_01 {c0 c1 c2 c3 : Nat} (h0 : c0 ≠ 46) (h1 : c1 ≠ 46) (h2 : c2 ≠ 46) (h3 : c3 ≠ 46) : Txt.split (wantS false [c0, c1, c2, c3] true) (Str.ofString "...") = partsS false [c0, c1, c2, c3] true ∧ (occurrences (wantS false [c0, c1, c2, c3] true) (Str.ofString "...") 0 (wantS false [c0, c1, c2, c3] true).length 1).isEmpty = false := by
  have e : wantS false [c0, c1, c2, c3] true = ⟨[c0, 46, 46, 46, c1, 46, 46, 46, c2, 46, 46, 46, c3, 46, 46, 46].toArray⟩ := by kernel_rfl
  rw [e]
  refine ⟨split_of (cuts := [1, 5, 9, 13]) (by simp) ?_ rfl (by kernel_rfl), ?_⟩
  · rw [occ_dots]
    show occurrences ⟨[mu c0, mu 46, mu 46, mu 46, mu c1, mu 46, mu 46, mu 46, mu c2, mu 46, mu 46, mu 46, mu c3, mu 46, mu 46, mu 46].toArray⟩ (Str.ofString "...") 0 16 17 = _
    rw [mu_dot _ h0, mu_dot _ h1, mu_dot _ h2, mu_dot _ h3]
    decide +kernel
  · rw [occ_dots]
    show (occurrences ⟨[mu c0, mu 46, mu 46, mu 46, mu c1, mu 46, mu 46, mu 46, mu c2, mu 46, mu 46, mu 46, mu c3, mu 46, mu 46, mu 46].toArray⟩ (Str.ofString "...") 0 16 1).isEmpty = _
    rw [mu_dot _ h0, mu_dot _ h1, mu_dot _ h2, mu_dot _ h3]
    decide +kernel
theorem split_4_10 {c0 c1 c2 c3 : Nat} (h0 : c0 ≠ 46) (h1 : c1 ≠ 46) (h2 : c2 ≠ 46) (h3 : c3 ≠ 46) : Txt.split (wantS true [c0, c1, c2, c3] false) (Str.ofString "...") = partsS true [c0, c1, c2, c3] false ∧ (occurrences (wantS true [c0, c1, c2, c3] false) (Str.ofString "...") 0 (wantS true [c0, c1, c2, c3] false).length 1).isEmpty = false := by
  have e : wantS true [c0, c1, c2, c3] false = ⟨[46, 46, 46, c0, 46, 46, 46, c1, 46, 46, 46, c2, 46, 46, 46, c3].toArray⟩ := by kernel_rfl
  rw [e]
  refine ⟨split_of (cuts := [0, 4, 8, 12]) (by simp) ?_ rfl (by kernel_rfl), ?_⟩
  · rw [occ_dots]
    show occurrences ⟨[mu 46, mu 46, mu 46, mu c0, mu 46, mu 46, mu 46, mu c1, mu 46, mu 46, mu 46, mu c2, mu 46, mu 46, mu 46, mu c3].toArray⟩ (Str.ofString "...") 0 16 17 = _
    rw [mu_dot _ h0, mu_dot _ h1, mu_dot _ h2, mu_dot _ h3]
    decide +kernel
  · rw [occ_dots]
    show (occurrences ⟨[mu 46, mu 46, mu 46, mu c0, mu 46, mu 46, mu 46, mu c1, mu 46, mu 46, mu 46, mu c2, mu 46, mu 46, mu 46, mu c3].toArray⟩ (Str.ofString "...") 0 16 1).isEmpty = _
    rw [mu_dot _ h0, mu_dot _ h1, mu_dot _ h2, mu_dot _ h3]
    decide +kernel
theorem split_4_11 {c0 c1 c2 c3 : Nat} (h0 : c0 ≠ 46) (h1 : c1 ≠ 46) (h2 : c2 ≠ 46) (h3 : c3 ≠ 46) : Txt.split (wantS true [c0, c1, c2, c3] true) (Str.ofString "...") = partsS true [c0, c1, c2, c3] true ∧ (occurrences (wantS true [c0, c1, c2, c3] true) (Str.ofString "...") 0 (wantS true [c0, c1, c2, c3] true).length 1).isEmpty = false := by
  have e : wantS true [c0, c1, c2, c3] true = ⟨[46, 46, 46, c0, 46, 46, 46, c1, 46, 46, 46, c2, 46, 46, 46, c3, 46, 46, 46].toArray⟩ := by kernel_rfl
  rw [e]
  refine ⟨split_of (cuts := [0, 4, 8, 12, 16]) (by simp) ?_ rfl (by kernel_rfl), ?_⟩
  · rw [occ_dots]
    show occurrences ⟨[mu 46, mu 46, mu 46, mu c0, mu 46, mu 46, mu 46, mu c1, mu 46, mu 46, mu 46, mu c2, mu 46, mu 46, mu 46, mu c3, mu 46, mu 46, mu 46].toArray⟩ (Str.ofString "...") 0 19 20 = _
    rw [mu_dot _ h0, mu_dot _ h1, mu_dot _ h2, mu_dot _ h3]
    decide +kernel
  · rw [occ_dots]
    show (occurrences ⟨[mu 46, mu 46, mu 46, mu c0, mu 46, mu 46, mu 46, mu c1, mu 46, mu 46, mu 46, mu c2, mu 46, mu 46, mu 46, mu c3, mu 46, mu 46, mu 46].toArray⟩ (Str.ofString "...") 0 19 1).isEmpty = _
    rw [mu_dot _ h0, mu_dot _ h1, mu_dot _ h2, mu_dot _ h3]
    decide +kernel
theorem split_0 {c0 : Nat} (h0 : c0 ≠ 46) : (occurrences (wantS false [c0] false) (Str.ofString "...") 0 (wantS false [c0] false).length 1).isEmpty = true := by
  have e : wantS false [c0] false = ⟨[c0].toArray⟩ := by kernel_rfl
  rw [e, occ_dots]
  show (occurrences ⟨[mu c0].toArray⟩ (Str.ofString "...") 0 1 1).isEmpty = _
  rw [mu_dot _ h0]
  decide +kernel
theorem split_want {cs : List Nat} (hcs : ∀ c ∈ cs, c ≠ 46) (h1 : 1 ≤ cs.length) (h4 : cs.length ≤ 4) (a b : Bool) (hne : a = true ∨ b = true ∨ 2 ≤ cs.length) : Txt.split (wantS a cs b) (Str.ofString "...") = partsS a cs b ∧ (occurrences (wantS a cs b) (Str.ofString "...") 0 (wantS a cs b).length 1).isEmpty = false := by
  rcases cs with _ | ⟨c0, _ | ⟨c1, _ | ⟨c2, _ | ⟨c3, _ | ⟨c4, r⟩⟩⟩⟩⟩
  · exact absurd h1 (by decide)
  · cases a <;> cases b
    · simp at hne
    · exact split_1_01 (hcs _ (.head _))
    · exact split_1_10 (hcs _ (.head _))
    · exact split_1_11 (hcs _ (.head _))
  · cases a <;> cases b
    · exact split_2_00 (hcs _ (.head _)) (hcs _ (.tail _ (.head _)))
    · exact split_2_01 (hcs _ (.head _)) (hcs _ (.tail _ (.head _)))
    · exact split_2_10 (hcs _ (.head _)) (hcs _ (.tail _ (.head _)))
    · exact split_2_11 (hcs _ (.head _)) (hcs _ (.tail _ (.head _)))
  · cases a <;> cases b
    · exact split_3_00 (hcs _ (.head _)) (hcs _ (.tail _ (.head _))) (hcs _ (.tail _ (.tail _ (.head _))))
    · exact split_3_01 (hcs _ (.head _)) (hcs _ (.tail _ (.head _))) (hcs _ (.tail _ (.tail _ (.head _))))
    · exact split_3_10 (hcs _ (.head _)) (hcs _ (.tail _ (.head _))) (hcs _ (.tail _ (.tail _ (.head _))))
    · exact split_3_11 (hcs _ (.head _)) (hcs _ (.tail _ (.head _))) (hcs _ (.tail _ (.tail _ (.head _))))
  · cases a <;> cases b
    · exact split_4_00 (hcs _ (.head _)) (hcs _ (.tail _ (.head _))) (hcs _ (.tail _ (.tail _ (.head _)))) (hcs _ (.tail _ (.tail _ (.tail _ (.head _)))))
    · exact split_4_01 (hcs _ (.head _)) (hcs _ (.tail _ (.head _))) (hcs _ (.tail _ (.tail _ (.head _)))) (hcs _ (.tail _ (.tail _ (.tail _ (.head _)))))
    · exact split_4_10 (hcs _ (.head _)) (hcs _ (.tail _ (.head _))) (hcs _ (.tail _ (.tail _ (.head _)))) (hcs _ (.tail _ (.tail _ (.tail _ (.head _)))))
    · exact split_4_11 (hcs _ (.head _)) (hcs _ (.tail _ (.head _))) (hcs _ (.tail _ (.tail _ (.head _)))) (hcs _ (.tail _ (.tail _ (.tail _ (.head _)))))
  · simp at h4
end Mine
end
section
open PySem PySem.W PyProof.Rows Mine Builtin.Str
set_option maxRecDepth 100000
set_option maxHeartbeats 1000000
set_option linter.unusedSimpArgs false
namespace Mine
def sOf (l : List Nat) : Str := ⟨l.toArray⟩
theorem sOf_cps (x : Str) : sOf x.cps.toList = x := by unfold sOf; simp
theorem cps_sOf (l : List Nat) : (sOf l).cps.toList = l := by simp [sOf]
theorem sOf_len (l : List Nat) : (sOf l).length = l.length := by simp [sOf, Str.length]
theorem len_cps (x : Str) : x.cps.toList.length = x.length := by simp [Str.length]
theorem sOf_app (a b : List Nat) : sOf a ++ sOf b = sOf (a ++ b) := by
  show (⟨a.toArray ++ b.toArray⟩ : Str) = ⟨(a ++ b).toArray⟩
  simp
def madeL (sg : Nat) (wd : List Nat) (g : Nat) : List Nat := wd.take g ++ sg :: wd.drop g
def aheadL (sc md : List Nat) : Bool := !(md.headD 0 == sc.headD 0)
def behindL (sc : List Nat) (i : Nat) (md : List Nat) : Bool := !(md.getLastD 0 == sc.getD i 0)
def matchP (ps : List Str) (got : Str) : Bool := match ps with
  | [] => false
  | [x] => x == got
  | p :: q :: r => ellF p ((q :: r).dropLast) ((q :: r).getLastD p) got
def okL (sc : List Nat) (i : Nat) (md : List Nat) : Bool := matchP (partsS (aheadL sc md) (sc.take (i + 1)) (behindL sc i md)) (sOf md)
def genP (sc : List Nat) (i : Nat) (wd : List Nat) (g : Nat) : List (List Nat) := ((List.range g).map (madeL (sc.getD i 0) wd)).filter (okL sc i)
def genL (sc : List Nat) (i : Nat) (wd : List Nat) : List (List Nat) := genP sc i wd (wd.length + 1)
def mixL (fi sc : List Nat) : Nat → List (List Nat)
  | 0 => [fi]
  | i + 1 => (mixL fi sc i).flatMap (genL sc i)
theorem genP_t {sc wd : List Nat} {i g : Nat} (h : okL sc i (madeL (sc.getD i 0) wd g) = true) : genP sc i wd (g + 1) = genP sc i wd g ++ [madeL (sc.getD i 0) wd g] := by
  unfold genP
  rw [List.range_succ, List.map_append, List.filter_append]
  simp only [List.map_cons, List.map_nil, List.filter_cons, List.filter_nil, h, Bool.false_eq_true, if_false, if_true, List.append_nil]
theorem genP_f {sc wd : List Nat} {i g : Nat} (h : okL sc i (madeL (sc.getD i 0) wd g) = false) : genP sc i wd (g + 1) = genP sc i wd g := by
  unfold genP
  rw [List.range_succ, List.map_append, List.filter_append]
  simp only [List.map_cons, List.map_nil, List.filter_cons, List.filter_nil, h, Bool.false_eq_true, if_false, if_true, List.append_nil]
theorem genP_len (sc : List Nat) (i : Nat) (wd : List Nat) (g : Nat) : (genP sc i wd g).length ≤ g := by
  unfold genP
  refine Nat.le_trans (List.length_filter_le _ _) ?_
  simp
theorem madeL_len (sg : Nat) (wd : List Nat) (g : Nat) : (madeL sg wd g).length = wd.length + 1 := by
  unfold madeL
  simp only [List.length_append, List.length_cons, List.length_take, List.length_drop]
  (first | (with_reducible first | assumption | exact Nat.le_trans (by assumption) (by decide) | exact Nat.lt_of_le_of_lt (by assumption) (by decide) | (refine Nat.ne_of_lt ?_; (repeat (first | assumption | refine Nat.lt_trans (by assumption) ?_)); done) | (refine Nat.ne_of_gt ?_; (repeat (first | assumption | refine Nat.lt_trans (by assumption) ?_)); done) | ((repeat (first | assumption | refine Nat.lt_trans (by assumption) ?_)); done)) | omega)
theorem mixL_word {fi sc : List Nat} : ∀ (i : Nat), ∀ x ∈ mixL fi sc i, x.length = fi.length + i
  | 0, x, hx => by rw [List.mem_singleton.mp hx]; rfl
  | i + 1, x, hx => by
    obtain ⟨y, hy, hx⟩ := List.mem_flatMap.mp hx
    have ih := mixL_word i y hy
    unfold genL genP at hx
    obtain ⟨g, -, rfl⟩ := List.mem_map.mp (List.mem_filter.mp hx).1
    rw [madeL_len, ih]
    (first | (with_reducible first | assumption | exact Nat.le_trans (by assumption) (by decide) | exact Nat.lt_of_le_of_lt (by assumption) (by decide) | (refine Nat.ne_of_lt ?_; (repeat (first | assumption | refine Nat.lt_trans (by assumption) ?_)); done) | (refine Nat.ne_of_gt ?_; (repeat (first | assumption | refine Nat.lt_trans (by assumption) ?_)); done) | ((repeat (first | assumption | refine Nat.lt_trans (by assumption) ?_)); done)) | omega)
def bndB (a : Nat) : Nat → Nat
  | 0 => 1
  | i + 1 => bndB a i * (a + i + 1)
theorem mixL_len {fi sc : List Nat} (i : Nat) : (mixL fi sc i).length ≤ bndB fi.length i := by
  induction i with
  | zero => exact Nat.le_refl _
  | succ i ih =>
    show ((mixL fi sc i).flatMap (genL sc i)).length ≤ bndB fi.length i * (fi.length + i + 1)
    rw [List.length_flatMap]
    have key : ∀ (l : List (List Nat)), (∀ x ∈ l, x.length = fi.length + i) → (l.map fun a => (genL sc i a).length).sum ≤ l.length * (fi.length + i + 1) := by
      intro l
      induction l with
      | nil => intro _; simp
      | cons a l ih2 =>
        intro hl
        have h1 := ih2 fun x hx => hl x (.tail _ hx)
        have h2 : (genL sc i a).length ≤ a.length + 1 := genP_len ..
        have h3 := hl a (.head _)
        simp only [List.map_cons, List.sum_cons, List.length_cons]
        rw [Nat.add_mul, Nat.one_mul]
        (first | (with_reducible first | assumption | exact Nat.le_trans (by assumption) (by decide) | exact Nat.lt_of_le_of_lt (by assumption) (by decide) | (refine Nat.ne_of_lt ?_; (repeat (first | assumption | refine Nat.lt_trans (by assumption) ?_)); done) | (refine Nat.ne_of_gt ?_; (repeat (first | assumption | refine Nat.lt_trans (by assumption) ?_)); done) | ((repeat (first | assumption | refine Nat.lt_trans (by assumption) ?_)); done)) | omega)
    exact Nat.le_trans (key _ (mixL_word i)) (Nat.mul_le_mul_right _ ih)
theorem bnd_ok : ∀ a : Fin 6, ∀ i : Fin 6, 1 ≤ a.val → a.val + i.val ≤ 5 → bndB a.val i.val ≤ 120 := by decide
theorem bnd_ok4 : ∀ a : Fin 6, ∀ i : Fin 6, 1 ≤ a.val → a.val + i.val ≤ 4 → bndB a.val i.val ≤ 24 := by decide
theorem flat_len {sc : List Nat} {i B : Nat} : ∀ (l : List (List Nat)), (∀ x ∈ l, x.length + 1 ≤ B) → (l.flatMap (genL sc i)).length ≤ l.length * B
  | [], _ => by simp
  | a :: l, hl => by
    have h1 := flat_len (sc := sc) (i := i) l fun x hx => hl x (.tail _ hx)
    have h2 : (genL sc i a).length ≤ a.length + 1 := genP_len ..
    have h3 := hl a (.head _)
    rw [List.flatMap_cons, List.length_append, List.length_cons, Nat.add_mul, Nat.one_mul]
    (first | (with_reducible first | assumption | exact Nat.le_trans (by assumption) (by decide) | exact Nat.lt_of_le_of_lt (by assumption) (by decide) | (refine Nat.ne_of_lt ?_; (repeat (first | assumption | refine Nat.lt_trans (by assumption) ?_)); done) | (refine Nat.ne_of_gt ?_; (repeat (first | assumption | refine Nat.lt_trans (by assumption) ?_)); done) | ((repeat (first | assumption | refine Nat.lt_trans (by assumption) ?_)); done)) | omega)
theorem slice_to {x : Str} {g : Nat} (h : g ≤ x.length) : Txt.slice x none (some (g : Int)) = sOf (x.cps.toList.take g) := by
  have := eq_of_beq (slice_closes_to (x := x) (j := (g : Int)) ⟨by (first | (with_reducible first | assumption | exact Nat.le_trans (by assumption) (by decide) | exact Nat.lt_of_le_of_lt (by assumption) (by decide) | (refine Nat.ne_of_lt ?_; (repeat (first | assumption | refine Nat.lt_trans (by assumption) ?_)); done) | (refine Nat.ne_of_gt ?_; (repeat (first | assumption | refine Nat.lt_trans (by assumption) ?_)); done) | ((repeat (first | assumption | refine Nat.lt_trans (by assumption) ?_)); done)) | omega), by rw [len_cps]; (first | (with_reducible first | assumption | exact Nat.le_trans (by assumption) (by decide) | exact Nat.lt_of_le_of_lt (by assumption) (by decide) | (refine Nat.ne_of_lt ?_; (repeat (first | assumption | refine Nat.lt_trans (by assumption) ?_)); done) | (refine Nat.ne_of_gt ?_; (repeat (first | assumption | refine Nat.lt_trans (by assumption) ?_)); done) | ((repeat (first | assumption | refine Nat.lt_trans (by assumption) ?_)); done)) | omega)⟩)
  rw [this]
  simp [sOf]
theorem slice_from {x : Str} {g : Nat} (h : g ≤ x.length) : Txt.slice x (some (g : Int)) none = sOf (x.cps.toList.drop g) := by
  have := slice_from_eq (x := x) (i := (g : Int)) (b := (x.length : Int)) (by (first | (with_reducible first | assumption | exact Nat.le_trans (by assumption) (by decide) | exact Nat.lt_of_le_of_lt (by assumption) (by decide) | (refine Nat.ne_of_lt ?_; (repeat (first | assumption | refine Nat.lt_trans (by assumption) ?_)); done) | (refine Nat.ne_of_gt ?_; (repeat (first | assumption | refine Nat.lt_trans (by assumption) ?_)); done) | ((repeat (first | assumption | refine Nat.lt_trans (by assumption) ?_)); done)) | omega)) (by (first | (with_reducible first | assumption | exact Nat.le_trans (by assumption) (by decide) | exact Nat.lt_of_le_of_lt (by assumption) (by decide) | (refine Nat.ne_of_lt ?_; (repeat (first | assumption | refine Nat.lt_trans (by assumption) ?_)); done) | (refine Nat.ne_of_gt ?_; (repeat (first | assumption | refine Nat.lt_trans (by assumption) ?_)); done) | ((repeat (first | assumption | refine Nat.lt_trans (by assumption) ?_)); done)) | omega)) rfl
  rw [this]
  unfold sOf
  congr 2
  refine List.take_of_length_le ?_
  rw [List.length_drop, len_cps]
  (first | (with_reducible first | assumption | exact Nat.le_trans (by assumption) (by decide) | exact Nat.lt_of_le_of_lt (by assumption) (by decide) | (refine Nat.ne_of_lt ?_; (repeat (first | assumption | refine Nat.lt_trans (by assumption) ?_)); done) | (refine Nat.ne_of_gt ?_; (repeat (first | assumption | refine Nat.lt_trans (by assumption) ?_)); done) | ((repeat (first | assumption | refine Nat.lt_trans (by assumption) ?_)); done)) | omega)
theorem item_nat {x : Str} {i : Nat} (h : i < x.length) : Txt.item x (i : Int) = ch1 (x.cps.toList.getD i 0) := by
  unfold Txt.item Txt.charAt
  have e : seqIndex? (i : Int) x.length = some i := by
    unfold seqIndex?
    simp
    (first | (with_reducible first | assumption | exact Nat.le_trans (by assumption) (by decide) | exact Nat.lt_of_le_of_lt (by assumption) (by decide) | (refine Nat.ne_of_lt ?_; (repeat (first | assumption | refine Nat.lt_trans (by assumption) ?_)); done) | (refine Nat.ne_of_gt ?_; (repeat (first | assumption | refine Nat.lt_trans (by assumption) ?_)); done) | ((repeat (first | assumption | refine Nat.lt_trans (by assumption) ?_)); done)) | omega)
  rw [e]
  show ch1 _ = _
  congr 1
  simp [List.getD]
theorem item_last {x : Str} (h : 0 < x.length) : Txt.item x (-1) = ch1 (x.cps.toList.getLastD 0) := by
  unfold Txt.item Txt.charAt
  have e : seqIndex? (-1) x.length = some (x.length - 1) := by
    unfold seqIndex?
    simp
    (first | (with_reducible first | assumption | exact Nat.le_trans (by assumption) (by decide) | exact Nat.lt_of_le_of_lt (by assumption) (by decide) | (refine Nat.ne_of_lt ?_; (repeat (first | assumption | refine Nat.lt_trans (by assumption) ?_)); done) | (refine Nat.ne_of_gt ?_; (repeat (first | assumption | refine Nat.lt_trans (by assumption) ?_)); done) | ((repeat (first | assumption | refine Nat.lt_trans (by assumption) ?_)); done)) | omega)
  rw [e]
  show ch1 _ = _
  congr 1
  have hl : x.cps.toList ≠ [] := by
    intro e2
    have := len_cps x
    rw [e2] at this
    simp at this
    (first | (with_reducible first | assumption | exact Nat.le_trans (by assumption) (by decide) | exact Nat.lt_of_le_of_lt (by assumption) (by decide) | (refine Nat.ne_of_lt ?_; (repeat (first | assumption | refine Nat.lt_trans (by assumption) ?_)); done) | (refine Nat.ne_of_gt ?_; (repeat (first | assumption | refine Nat.lt_trans (by assumption) ?_)); done) | ((repeat (first | assumption | refine Nat.lt_trans (by assumption) ?_)); done)) | omega)
  rw [List.getLastD_eq_getLast?, List.getLast?_eq_getElem?]
  simp [Str.length]
theorem made_eq {wd second : Str} {i g : Nat} (hi : i < second.length) (hg : g ≤ wd.length) :
    Txt.slice wd none (some (g : Int)) ++ Txt.item second (i : Int) ++ Txt.slice wd (some (g : Int)) none = sOf (madeL (second.cps.toList.getD i 0) wd.cps.toList g) := by
  rw [slice_to hg, slice_from hg, item_nat hi]
  have e : ch1 (second.cps.toList.getD i 0) = sOf [second.cps.toList.getD i 0] := rfl
  rw [e, sOf_app, sOf_app]
  unfold madeL
  simp
theorem ch1_beq (a b : Nat) : (ch1 a == ch1 b) = (a == b) := by
  rw [Bool.eq_iff_iff, beq_iff_eq, beq_iff_eq]
  exact ⟨ch1_inj, fun e => e ▸ rfl⟩
theorem ahead_eq {md : List Nat} {second : Str} (h : 0 < md.length) (h2 : 0 < second.length) : (Txt.item (sOf md) 0 == Txt.item second 0) = !aheadL second.cps.toList md := by
  have e1 : Txt.item (sOf md) 0 = ch1 ((sOf md).cps.toList.getD 0 0) := item_nat (i := 0) (by rw [sOf_len]; exact h)
  have e2 : Txt.item second 0 = ch1 (second.cps.toList.getD 0 0) := item_nat (i := 0) h2
  rw [e1, e2, ch1_beq, cps_sOf]
  unfold aheadL
  rw [Bool.not_not]
  have e3 : ∀ l : List Nat, l.getD 0 0 = l.headD 0 := fun l => by cases l <;> rfl
  rw [e3, e3]
theorem behind_eq {md : List Nat} {second : Str} {i : Nat} (h : 0 < md.length) (hi : i < second.length) : (Txt.item (sOf md) (-1) == Txt.item second (i : Int)) = !behindL second.cps.toList i md := by
  rw [item_last (by rw [sOf_len]; exact h), item_nat hi, ch1_beq, cps_sOf]
  unfold behindL
  rw [Bool.not_not]
end Mine

namespace Mine
theorem wantS_len (a b : Bool) {cs : List Nat} (h4 : cs.length ≤ 4) : (wantS a cs b).length ≤ 50 := by
  rcases cs with _ | ⟨c0, _ | ⟨c1, _ | ⟨c2, _ | ⟨c3, _ | ⟨c4, r⟩⟩⟩⟩⟩
  · cases a <;> cases b <;> decide
  · cases a <;> cases b <;> exact Nat.le_of_ble_eq_true (by kernel_rfl)
  · cases a <;> cases b <;> exact Nat.le_of_ble_eq_true (by kernel_rfl)
  · cases a <;> cases b <;> exact Nat.le_of_ble_eq_true (by kernel_rfl)
  · cases a <;> cases b <;> exact Nat.le_of_ble_eq_true (by kernel_rfl)
  · simp at h4
theorem parts_shape (a b : Bool) {cs : List Nat} (h1 : 1 ≤ cs.length) (hne : a = true ∨ b = true ∨ 2 ≤ cs.length) : ∃ p q r, partsS a cs b = p :: q :: r := by
  rcases cs with _ | ⟨c0, _ | ⟨c1, r⟩⟩
  · simp at h1
  · cases a <;> cases b
    · simp at hne
    · exact ⟨_, _, _, rfl⟩
    · exact ⟨_, _, _, rfl⟩
    · exact ⟨_, _, _, rfl⟩
  · cases a <;> cases b <;> exact ⟨_, _, _, rfl⟩
theorem parts_len (a b : Bool) (cs : List Nat) : ∀ x ∈ partsS a cs b, x.length ≤ 1 := by
  intro x hx
  unfold partsS at hx
  have e : (Str.ofString "").length = 0 := rfl
  rcases List.mem_append.mp hx with hx | hx
  · rcases List.mem_append.mp hx with hx | hx
    · split at hx
      · rw [List.mem_singleton.mp hx, e]; exact Nat.zero_le _
      · cases hx
    · obtain ⟨c, -, rfl⟩ := List.mem_map.mp hx
      exact Nat.le_refl _
  · split at hx
    · rw [List.mem_singleton.mp hx, e]; exact Nat.zero_le _
    · cases hx
theorem parts_num (a b : Bool) (cs : List Nat) : (partsS a cs b).length ≤ cs.length + 2 := by
  unfold partsS
  cases a <;> cases b <;> simp
theorem last_split {α : Type} (p : α) : ∀ (l : List α), l ≠ [] → l = l.dropLast ++ [l.getLastD p] := by
  intro l h
  rw [List.getLastD_eq_getLast?, List.getLast?_eq_some_getLast h]
  exact (List.dropLast_concat_getLast h).symm
theorem ellw_c {w : World} {mean} {mg mb} (a b : Bool) (cs : List Nat) (hcs : ∀ c ∈ cs, c ≠ 46) (h1 : 1 ≤ cs.length) (h4 : cs.length ≤ 4) (got : Str) (ta tb : Tok) (news : List (Addr × Obj)) (hy : got.length ≤ 50) :
  MClaim w mean mg mb 21 news [.str (wantS a cs b) ta, .str got tb] 2 (fun s Q h₀ L m => ∀ (h' : Heap) (tk' : Nat), Fr h₀ L h' m → News h₀ L h' news → Q (.bool (matchP (partsS a cs b) got)) { s with heap := h', toks := tk' }) := by
  intro dp un h₀ L m s Q E F X N T hr hu hret
  by_cases hne : a = true ∨ b = true ∨ 2 ≤ cs.length
  · obtain ⟨p, q, r, e⟩ := parts_shape a b h1 hne
    obtain ⟨hs, hi⟩ := split_want hcs h1 h4 a b hne
    have hpl := parts_len a b cs
    have hpn := parts_num a b cs
    rw [e] at hpl hpn hret hs
    have hq := last_split p (q :: r) (by simp)
    refine ell_c (wantS a cs b) got ta tb news (wantS_len a b h4) hy p ((q :: r).dropLast) ((q :: r).getLastD p) (by rw [hs, ← hq]) hi ?_ ?_ ?_ ?_ dp un h₀ L m s Q E F X N T hr hu hret
    · have := hpl p (.head _); (first | (with_reducible first | assumption | exact Nat.le_trans (by assumption) (by decide) | exact Nat.lt_of_le_of_lt (by assumption) (by decide) | (refine Nat.ne_of_lt ?_; (repeat (first | assumption | refine Nat.lt_trans (by assumption) ?_)); done) | (refine Nat.ne_of_gt ?_; (repeat (first | assumption | refine Nat.lt_trans (by assumption) ?_)); done) | ((repeat (first | assumption | refine Nat.lt_trans (by assumption) ?_)); done)) | omega)
    · have hm : (q :: r).getLastD p ∈ q :: r := by
        have hm2 : (q :: r).getLastD p ∈ (q :: r).dropLast ++ [(q :: r).getLastD p] := List.mem_append_right _ (List.mem_singleton.mpr rfl)
        rw [← hq] at hm2
        exact hm2
      have := hpl _ (.tail _ hm)
      (first | (with_reducible first | assumption | exact Nat.le_trans (by assumption) (by decide) | exact Nat.lt_of_le_of_lt (by assumption) (by decide) | (refine Nat.ne_of_lt ?_; (repeat (first | assumption | refine Nat.lt_trans (by assumption) ?_)); done) | (refine Nat.ne_of_gt ?_; (repeat (first | assumption | refine Nat.lt_trans (by assumption) ?_)); done) | ((repeat (first | assumption | refine Nat.lt_trans (by assumption) ?_)); done)) | omega)
    · rw [List.length_dropLast]; simp only [List.length_cons] at hpn ⊢; (first | (with_reducible first | assumption | exact Nat.le_trans (by assumption) (by decide) | exact Nat.lt_of_le_of_lt (by assumption) (by decide) | (refine Nat.ne_of_lt ?_; (repeat (first | assumption | refine Nat.lt_trans (by assumption) ?_)); done) | (refine Nat.ne_of_gt ?_; (repeat (first | assumption | refine Nat.lt_trans (by assumption) ?_)); done) | ((repeat (first | assumption | refine Nat.lt_trans (by assumption) ?_)); done)) | omega)
    · intro x hx
      have := hpl x (.tail _ ((List.dropLast_sublist _).subset hx))
      (first | (with_reducible first | assumption | exact Nat.le_trans (by assumption) (by decide) | exact Nat.lt_of_le_of_lt (by assumption) (by decide) | (refine Nat.ne_of_lt ?_; (repeat (first | assumption | refine Nat.lt_trans (by assumption) ?_)); done) | (refine Nat.ne_of_gt ?_; (repeat (first | assumption | refine Nat.lt_trans (by assumption) ?_)); done) | ((repeat (first | assumption | refine Nat.lt_trans (by assumption) ?_)); done)) | omega)
  · rcases cs with _ | ⟨c0, _ | ⟨c1, r⟩⟩
    · simp at h1
    · cases a <;> cases b <;> simp at hne
      exact ell1_c _ got ta tb news (wantS_len _ _ h4) (split_0 (hcs c0 (.head _))) dp un h₀ L m s Q E F X N T hr hu hret
    · exact absurd (.inr (.inr (by simp))) hne
end Mine
end
section
open PySem PySem.W PyProof.Rows Mine Builtin.Str
set_option Elab.async false
set_option maxRecDepth 100000
set_option maxHeartbeats 1000000
namespace Mine
def Inj5 (f : Nat → Nat) : Prop := ∀ a, a < 5 → ∀ b, b < 5 → f a = f b → a = b
def Lt5 (l : List Nat) : Prop := ∀ c ∈ l, c < 5
theorem mapS_sOf (f : Nat → Nat) (l : List Nat) : mapS f (sOf l) = sOf (l.map f) := by simp [mapS, sOf]
theorem mapS_ch1 (f : Nat → Nat) (c : Nat) : mapS f (ch1 c) = ch1 (f c) := rfl
theorem mapS_nil (f : Nat → Nat) : mapS f (Str.ofString "") = Str.ofString "" := rfl
theorem inj_on {f : Nat → Nat} (hf : Inj5 f) {x y : Str} (hx : Lt5 x.cps.toList) (hy : Lt5 y.cps.toList) : ∀ a ∈ x.cps.toList, ∀ b ∈ y.cps.toList, f a = f b → a = b :=
  fun a ha b hb e => hf a (hx a ha) b (hy b hb) e
theorem beq_map {f : Nat → Nat} (hf : Inj5 f) {x y : Str} (hx : Lt5 x.cps.toList) (hy : Lt5 y.cps.toList) : (mapS f x == mapS f y) = (x == y) := by
  rw [Bool.eq_iff_iff, beq_iff_eq, beq_iff_eq]
  constructor
  · intro e
    have e2 : (mapS f x).cps.toList = (mapS f y).cps.toList := by rw [e]
    have e3 : x.cps.toList.map f = y.cps.toList.map f := by simpa [mapS] using e2
    have e4 := (map_eq_iff f _ _ (inj_on hf hx hy)).mp e3
    rw [← sOf_cps x, ← sOf_cps y, e4]
  · intro e; rw [e]
theorem starts_map {f : Nat → Nat} (hf : Inj5 f) {x y : Str} (hx : Lt5 x.cps.toList) (hy : Lt5 y.cps.toList) : Txt.startswith (mapS f x) (mapS f y) = Txt.startswith x y := by
  unfold Txt.startswith
  rw [subAt_map (inj_on hf hx hy), mapS_length, mapS_length]
theorem ends_map {f : Nat → Nat} (hf : Inj5 f) {x y : Str} (hx : Lt5 x.cps.toList) (hy : Lt5 y.cps.toList) : Txt.endswith (mapS f x) (mapS f y) = Txt.endswith x y := by
  unfold Txt.endswith
  rw [subAt_map (inj_on hf hx hy), mapS_length, mapS_length]
theorem find4_map {f : Nat → Nat} (hf : Inj5 f) {x y : Str} (hx : Lt5 x.cps.toList) (hy : Lt5 y.cps.toList) (i j : Int) : find4 (mapS f x) (mapS f y) i j = find4 x y i j := by
  unfold find4
  rw [occ_map (inj_on hf hx hy), mapS_length]
theorem finds_map {f : Nat → Nat} (hf : Inj5 f) {got : Str} (hg : Lt5 got.cps.toList) (ep : Int) : ∀ (ws : List Str) (sp : Int), (∀ x ∈ ws, Lt5 x.cps.toList) → findsF (mapS f got) ep (ws.map (mapS f)) sp = findsF got ep ws sp
  | [], _, _ => rfl
  | w :: r, sp, h => by
    have ih := fun sp => finds_map hf hg ep r sp fun x hx => h x (.tail _ hx)
    rw [List.map_cons]
    unfold findsF
    rw [find4_map hf hg (h w (.head _)), mapS_length, ih]
theorem ellF_map {f : Nat → Nat} (hf : Inj5 f) {p z got : Str} {mid : List Str} (hp : Lt5 p.cps.toList) (hz : Lt5 z.cps.toList) (hg : Lt5 got.cps.toList) (hm : ∀ x ∈ mid, Lt5 x.cps.toList) :
    ellF (mapS f p) (mid.map (mapS f)) (mapS f z) (mapS f got) = ellF p mid z got := by
  unfold ellF
  rw [starts_map hf hg hp, ends_map hf hg hz, mapS_length, mapS_length, mapS_length]
  have e : (if p.length = 0 then [mapS f p] else []) ++ mid.map (mapS f) ++ (if z.length = 0 then [mapS f z] else []) = ((if p.length = 0 then [p] else []) ++ mid ++ (if z.length = 0 then [z] else [])).map (mapS f) := by
    split <;> split <;> simp
  rw [e, finds_map hf hg]
  intro x hx
  rcases List.mem_append.mp hx with hx | hx
  · rcases List.mem_append.mp hx with hx | hx
    · split at hx
      · rw [List.mem_singleton.mp hx]; exact hp
      · cases hx
    · exact hm x hx
  · split at hx
    · rw [List.mem_singleton.mp hx]; exact hz
    · cases hx
theorem match_map {f : Nat → Nat} (hf : Inj5 f) {got : Str} (hg : Lt5 got.cps.toList) : ∀ (ps : List Str), (∀ x ∈ ps, Lt5 x.cps.toList) → matchP (ps.map (mapS f)) (mapS f got) = matchP ps got
  | [], _ => rfl
  | [x], h => beq_map hf (h x (.head _)) hg
  | p :: q :: r, h => by
    show ellF (mapS f p) ((q :: r).map (mapS f)).dropLast (((q :: r).map (mapS f)).getLastD (mapS f p)) (mapS f got) = ellF p (q :: r).dropLast ((q :: r).getLastD p) got
    have e1 : ((q :: r).map (mapS f)).dropLast = (q :: r).dropLast.map (mapS f) := by rw [List.map_dropLast]
    have e2 : ((q :: r).map (mapS f)).getLastD (mapS f p) = mapS f ((q :: r).getLastD p) := by
      rw [List.getLastD_eq_getLast?, List.getLastD_eq_getLast?, List.getLast?_map]
      cases (q :: r).getLast? <;> rfl
    rw [e1, e2]
    have hm : (q :: r).getLastD p ∈ q :: r := by
      have hm2 : (q :: r).getLastD p ∈ (q :: r).dropLast ++ [(q :: r).getLastD p] := List.mem_append_right _ (List.mem_singleton.mpr rfl)
      rw [← last_split p (q :: r) (by simp)] at hm2
      exact hm2
    exact ellF_map hf (h p (.head _)) (h _ (.tail _ hm)) hg fun x hx => h x (.tail _ ((List.dropLast_sublist _).subset hx))
theorem parts_map (f : Nat → Nat) (a : Bool) (cs : List Nat) (b : Bool) : partsS a (cs.map f) b = (partsS a cs b).map (mapS f) := by
  unfold partsS
  cases a <;> cases b <;> simp [mapS_ch1, mapS_nil, Function.comp_def]
theorem parts_lt {a : Bool} {cs : List Nat} {b : Bool} (h : Lt5 cs) : ∀ x ∈ partsS a cs b, Lt5 x.cps.toList := by
  have h0 : Lt5 (Str.ofString "").cps.toList := fun c hc => by cases hc
  have h1 : ∀ c ∈ cs, Lt5 (ch1 c).cps.toList := fun c hc d hd => by
    have : (ch1 c).cps.toList = [c] := rfl
    rw [this] at hd
    rw [List.mem_singleton.mp hd]
    exact h c hc
  intro x hx
  unfold partsS at hx
  rcases List.mem_append.mp hx with hx | hx
  · rcases List.mem_append.mp hx with hx | hx
    · split at hx
      · rw [List.mem_singleton.mp hx]; exact h0
      · cases hx
    · obtain ⟨c, hc, rfl⟩ := List.mem_map.mp hx
      exact h1 c hc
  · split at hx
    · rw [List.mem_singleton.mp hx]; exact h0
    · cases hx
theorem nat_beq (a b : Nat) : (a == b) = decide (a = b) := by
  rw [Bool.eq_iff_iff, beq_iff_eq, decide_eq_true_iff]
theorem inj_beq {f : Nat → Nat} (hf : Inj5 f) {a b : Nat} (ha : a < 5) (hb : b < 5) : (f a == f b) = (a == b) := by
  rw [Bool.eq_iff_iff, beq_iff_eq, beq_iff_eq]
  exact ⟨hf a ha b hb, fun e => e ▸ rfl⟩
theorem headD_map' (f : Nat → Nat) {l : List Nat} (h : 0 < l.length) (d : Nat) : (l.map f).headD d = f (l.headD d) := by
  cases l with
  | nil => cases h
  | cons a l => rfl
theorem lastD_map' (f : Nat → Nat) {l : List Nat} (h : 0 < l.length) (d : Nat) : (l.map f).getLastD d = f (l.getLastD d) := by
  rw [List.getLastD_eq_getLast?, List.getLastD_eq_getLast?, List.getLast?_map]
  cases e : l.getLast? with
  | none => rw [List.getLast?_eq_none_iff] at e; rw [e] at h; cases h
  | some a => rfl
theorem headD_mem {l : List Nat} (h : 0 < l.length) (d : Nat) : l.headD d ∈ l := by
  cases l with
  | nil => cases h
  | cons a l => exact .head _
theorem lastD_mem {l : List Nat} (h : 0 < l.length) (d : Nat) : l.getLastD d ∈ l := by
  have hne : l ≠ [] := by intro e; rw [e] at h; cases h
  rw [List.getLastD_eq_getLast?, List.getLast?_eq_some_getLast hne]
  exact List.getLast_mem hne
theorem getD_map' (f : Nat → Nat) {l : List Nat} {i : Nat} (h : i < l.length) (d : Nat) : (l.map f).getD i d = f (l.getD i d) := by
  simp [List.getD, h]
theorem getD_mem {l : List Nat} {i : Nat} (h : i < l.length) (d : Nat) : l.getD i d ∈ l := by
  have e : l.getD i d = l[i] := by simp [List.getD, h]
  rw [e]
  exact List.getElem_mem h
theorem okL_map {f : Nat → Nat} (hf : Inj5 f) {sc md : List Nat} (hs : Lt5 sc) (hm : Lt5 md) {i : Nat} (hi : i < sc.length) (h0 : 0 < md.length) : okL (sc.map f) i (md.map f) = okL sc i md := by
  unfold okL
  have e1 : aheadL (sc.map f) (md.map f) = aheadL sc md := by
    unfold aheadL
    rw [headD_map' f h0, headD_map' f (Nat.lt_of_le_of_lt (Nat.zero_le _) hi), inj_beq hf (hm _ (headD_mem h0 _)) (hs _ (headD_mem (Nat.lt_of_le_of_lt (Nat.zero_le _) hi) _))]
  have e2 : behindL (sc.map f) i (md.map f) = behindL sc i md := by
    unfold behindL
    rw [lastD_map' f h0, getD_map' f hi, inj_beq hf (hm _ (lastD_mem h0 _)) (hs _ (getD_mem hi _))]
  rw [e1, e2, ← List.map_take, parts_map, ← mapS_sOf]
  refine match_map hf ?_ _ (parts_lt fun c hc => hs c (List.mem_of_mem_take hc))
  rw [cps_sOf]
  exact hm
theorem madeL_map (f : Nat → Nat) (c : Nat) (wd : List Nat) (g : Nat) : madeL (f c) (wd.map f) g = (madeL c wd g).map f := by
  unfold madeL
  simp [List.map_take, List.map_drop]
theorem madeL_lt {c : Nat} {wd : List Nat} {g : Nat} (hc : c < 5) (hw : Lt5 wd) : Lt5 (madeL c wd g) := by
  intro x hx
  unfold madeL at hx
  rcases List.mem_append.mp hx with hx | hx
  · exact hw x (List.mem_of_mem_take hx)
  · rcases List.mem_cons.mp hx with rfl | hx
    · exact hc
    · exact hw x (List.mem_of_mem_drop hx)
theorem genL_map {f : Nat → Nat} (hf : Inj5 f) {sc wd : List Nat} (hs : Lt5 sc) (hw : Lt5 wd) {i : Nat} (hi : i < sc.length) : genL (sc.map f) i (wd.map f) = (genL sc i wd).map (List.map f) := by
  unfold genL genP
  rw [List.length_map, getD_map' f hi]
  have e : ∀ (l : List Nat), ((l.map (madeL (f (sc.getD i 0)) (wd.map f))).filter (okL (sc.map f) i)) = ((l.map (madeL (sc.getD i 0) wd)).filter (okL sc i)).map (List.map f) := by
    intro l
    induction l with
    | nil => rfl
    | cons g l ih =>
      rw [List.map_cons, List.map_cons, List.filter_cons, List.filter_cons, madeL_map, okL_map hf hs (madeL_lt (hs _ (getD_mem hi _)) hw) hi (by rw [madeL_len]; omega), ih]
      split <;> rfl
  exact e _
theorem genL_lt {sc wd : List Nat} (hs : Lt5 sc) (hw : Lt5 wd) {i : Nat} (hi : i < sc.length) : ∀ x ∈ genL sc i wd, Lt5 x := by
  intro x hx
  unfold genL genP at hx
  obtain ⟨g, -, rfl⟩ := List.mem_map.mp (List.mem_filter.mp hx).1
  exact madeL_lt (hs _ (getD_mem hi _)) hw
theorem mixL_lt {fi sc : List Nat} (hs : Lt5 sc) (hw : Lt5 fi) : ∀ (i : Nat), i ≤ sc.length → ∀ x ∈ mixL fi sc i, Lt5 x
  | 0, _, x, hx => by rw [List.mem_singleton.mp hx]; exact hw
  | i + 1, hi, x, hx => by
    obtain ⟨y, hy, hx⟩ := List.mem_flatMap.mp hx
    exact genL_lt hs (mixL_lt hs hw i (by omega) y hy) (by omega) x hx
theorem mixL_map {f : Nat → Nat} (hf : Inj5 f) {fi sc : List Nat} (hs : Lt5 sc) (hw : Lt5 fi) : ∀ (i : Nat), i ≤ sc.length → mixL (fi.map f) (sc.map f) i = (mixL fi sc i).map (List.map f)
  | 0, _ => rfl
  | i + 1, hi => by
    have ih := mixL_map hf hs hw i (by omega)
    have hl := mixL_lt hs hw i (by omega)
    show (mixL (fi.map f) (sc.map f) i).flatMap (genL (sc.map f) i) = ((mixL fi sc i).flatMap (genL sc i)).map (List.map f)
    rw [ih]
    generalize mixL fi sc i = W at hl
    induction W with
    | nil => rfl
    | cons a W ihW =>
      rw [List.map_cons, List.flatMap_cons, List.flatMap_cons, List.map_append, genL_map hf hs (hl a (.head _)) (by omega), ihW fun x hx => hl x (.tail _ hx)]
end Mine
end
section
open PySem PySem.W PyProof.Rows Mine PySem.Calls
set_option Elab.async false
set_option maxRecDepth 100000
set_option maxHeartbeats 2000000
namespace Mine
section
variable {M : Model} {A : Around} {R : GenEnd} {Y : Protocol} {n : Nat} {s₀ : Shared} {c : Code} {fs : List Frame} {s : Shared} {env : Env}
  {K : Flow → Sem Fin} {H : Value → Sem Fin} {gd : Bool → Bool} {lv : List Value → List Value}
theorem seg_stmt {st : Stmt} (h : wpAny M (A.over c fs) (exec st env) (fun f s' => Seg M A R Y n s₀ c (K f) fs s') (fun x s' => Seg M A R Y n s₀ c (H x) fs s') s) : Seg M A R Y n s₀ c ((exec st env).wrap K H gd lv) fs s := seg_wrap h
theorem seg_Return_none {pos : Pos} (h : Seg M A R Y n s₀ c (K (.ret .none)) fs s) : Seg M A R Y n s₀ c ((exec (.Return none pos) env).wrap K H gd lv) fs s := by
  refine seg_wrap ?_
  rw [exec_Return_none]
  exact wpAny_bind (wpAny_standAt (wpAny_pure h))
theorem seg_If {test : Expr} {body orelse : List Stmt} {pos : Pos}
    (h : wpAny M (A.over c fs) (isTrue test env (eval test env)) (fun b s' => if b = true then Seg M A R Y n s₀ c ((execs body env).wrap K H gd lv) fs s' else Seg M A R Y n s₀ c ((execs orelse env).wrap K H gd lv) fs s') (fun x s' => Seg M A R Y n s₀ c (H x) fs s') s) :
    Seg M A R Y n s₀ c ((exec (.If test body orelse pos) env).wrap K H gd lv) fs s := by
  have e : exec (.If test body orelse pos) env = (standAt pos >>= fun _ => isTrue test env (eval test env) >>= fun b => if b = true then execs body env else execs orelse env) := by
    rw [exec_If]
  rw [e, Sem.bind_eq_wrap', Sem.wrap_wrap]
  refine seg_wrap (wpAny_standAt ?_)
  rw [Sem.bind_eq_wrap', Sem.wrap_wrap]
  refine seg_wrap (wpAny_mono h (fun b s' hb => ?_) fun _ _ z => z)
  cases b with
  | true => rw [if_pos rfl] at hb ⊢; exact hb
  | false => rw [if_neg (by decide)] at hb ⊢; exact hb
def backK (K : Flow → Sem Fin) (H : Value → Sem Fin) (gd : Bool → Bool) (lv : List Value → List Value) (env : Env) (r : Result) : Sem Fin :=
  ((match r with | .ok f => (.pure f : Sem Flow) | .error e => .raise e).onRaise fun (x : Value) => do
        if (← field x 1) == Value.none then unsupported "frame.own-activation:exception-without-traceback"
        setFlight x env.frame).wrap K H gd lv
theorem seg_For {target iter : Expr} {body orelse : List Stmt} {pos : Pos}
    (h : wpAny M (A.over c fs) (eval iter env) (fun xv s₁ => wpAny M (A.over c fs) (pyIter xv) (fun it s₂ => ∀ p, Seg M A R Y n s₀ (.forLoop target it body orelse env) (M.den (.forLoop target it body orelse env))
      (.ret (backK K H gd lv env) none (gd false) (lv []) c p [] :: fs) s₂) (fun x s' => Seg M A R Y n s₀ c (H x) fs s') s₁) (fun x s' => Seg M A R Y n s₀ c (H x) fs s') s)
    (hs : ∀ x, foldedSetIterable iter env x = pure x := by intro _; rfl) :
    Seg M A R Y n s₀ c ((exec (.For target iter body orelse pos) env).wrap K H gd lv) fs s := by
  have e : exec (.For target iter body orelse pos) env = (standAt pos >>= fun _ => eval iter env >>= fun x => foldedSetIterable iter env x >>= fun x => standAt iter.pos >>= fun _ => holding [x] (pyIter x) >>= fun it => runOwn (.forLoop target it body orelse env) env) := exec_For ..
  rw [e, Sem.bind_eq_wrap', Sem.wrap_wrap]
  refine seg_wrap (wpAny_standAt ?_)
  rw [Sem.bind_eq_wrap', Sem.wrap_wrap]
  refine seg_wrap (wpAny_mono h (fun xv s₁ h₁ => ?_) fun _ _ z => z)
  rw [Sem.bind_eq_wrap', Sem.wrap_wrap]
  refine seg_wrap (wpAny_of_eq (hs xv) ?_)
  rw [Sem.bind_eq_wrap', Sem.wrap_wrap]
  refine seg_wrap (wpAny_standAt ?_)
  rw [Sem.bind_eq_wrap', Sem.wrap_wrap]
  refine seg_wrap (wpAny_holding (wpAny_mono h₁ (fun it s₂ h₂ => ?_) fun _ _ z => z))
  exact seg_call h₂
end
section
variable {prog : Program} {w : World} {A : Around} {R : GenEnd} {Y : Protocol} {n : Nat} {s₀ : Shared} {fs : List Frame} {s : Shared} {env : Env}
theorem seg_forLoop {x : Str} {px : Pos} {it : Value} {body : List Stmt}
    (h : wpAny (model prog w) (A.over (.forLoop (.Name x px) it body [] env) fs) (pyNext it) (fun r s' => match r with
      | none => Seg (model prog w) A R Y n s₀ (.forLoop (.Name x px) it body [] env) (.pure (.again (.block [] env))) fs s'
      | some v => wpAny (model prog w) (A.over (.forLoop (.Name x px) it body [] env) fs) (storeName env x v) (fun _ s'' =>
          Seg (model prog w) A R Y n s₀ (.forLoop (.Name x px) it body [] env) ((execs body env).wrap (fun f => match f with
            | .next | .cont => .pure (.again (.forLoop (.Name x px) it body [] env))
            | .brk => .pure (.done .next)
            | .ret v => .pure (.done (.ret v))) (fun e => (do noteFrame e env; theTreesLotGoes e : Sem Unit).wrap (fun _ => .raise e) .raise id id) id id) fs s'') (fun _ _ => False) s')
      (fun _ _ => False) s)
    (ht : ∀ v, letOwnedTupleGo (.Name x px) it v = pure () := by intro _; rfl) :
    Seg (model prog w) A R Y n s₀ (.forLoop (.Name x px) it body [] env) ((model prog w).den (.forLoop (.Name x px) it body [] env)) fs s := by
  show Seg _ A R Y n s₀ _ ((forTurn (.Name x px) it body [] env).onRaise (fun x => do noteFrame x env; theTreesLotGoes x)) fs s
  have e : forTurn (.Name x px) it body [] env = (standAt (Expr.Name x px).pos >>= fun _ => (pyNext it).onRaise (fun _ => standAt { (Expr.Name x px).pos with line := 0 }) >>= fun r => match r with
      | none => again (.block [] env)
      | some v => letOwnedTupleGo (.Name x px) it v >>= fun _ => assign (.Name x px) env v >>= fun _ => execs body env >>= fun f => match f with
        | .next | .cont => again (.forLoop (.Name x px) it body [] env)
        | .brk => pure (.done .next)
        | .ret v => pure (.done (.ret v))) := by
    unfold forTurn
    congr 1
  rw [e, Sem.onRaise_eq_wrap, Sem.bind_eq_wrap', Sem.wrap_wrap]
  refine seg_wrap (wpAny_standAt ?_)
  rw [Sem.bind_eq_wrap', Sem.wrap_wrap]
  refine seg_wrap (wpAny_onRaise (wpAny_mono h (fun r s' hr => ?_) fun _ _ z => z.elim))
  cases r with
  | none => exact hr
  | some v =>
    dsimp only at hr ⊢
    rw [ht v]
    rw [Sem.bind_eq_wrap', Sem.wrap_wrap]
    refine seg_wrap (wpAny_pure ?_)
    rw [Sem.bind_eq_wrap', Sem.wrap_wrap]
    refine seg_wrap (wpAny_assign_Name (wpAny_mono hr (fun _ s'' h2 => ?_) fun _ _ z => z.elim))
    rw [Sem.bind_eq_wrap', Sem.wrap_wrap]
    refine cast ?_ h2
    congr 1
    refine Sem.wrap_congr _ _ _ (fun f => ?_) fun e => ?_
    · cases f <;> rfl
    · exact (Sem.bind_eq_wrap _ _).symm
end
end Mine
end
section
open PySem PySem.W PyProof.Rows Mine PySem.Calls
set_option Elab.async false
set_option maxRecDepth 100000
set_option maxHeartbeats 2000000
namespace Mine
theorem loop_ind {M : Model} {A : Around} {R : GenEnd} {Y : Protocol} {C : Code} {T : Sem Fin} {FS : List Frame} (Inv : Nat → Nat → Shared → Shared → Prop) (top : Nat) (hle : ∀ j n s₀ s, Inv j n s₀ s → j ≤ top)
    (step : ∀ j n s₀ s, Inv j n s₀ s → (∀ n' s₀' s', Inv (j + 1) n' s₀' s' → Seg M A R Y n' s₀' C T FS s') → Seg M A R Y n s₀ C T FS s) :
    ∀ k j n s₀ s, top + 1 - j = k → Inv j n s₀ s → Seg M A R Y n s₀ C T FS s
  | 0, j, n, s₀, s, hk, h => absurd (hle _ _ _ _ h) (by (first | (with_reducible first | assumption | exact Nat.le_trans (by assumption) (by decide) | exact Nat.lt_of_le_of_lt (by assumption) (by decide) | (refine Nat.ne_of_lt ?_; (repeat (first | assumption | refine Nat.lt_trans (by assumption) ?_)); done) | (refine Nat.ne_of_gt ?_; (repeat (first | assumption | refine Nat.lt_trans (by assumption) ?_)); done) | ((repeat (first | assumption | refine Nat.lt_trans (by assumption) ?_)); done)) | omega))
  | k + 1, j, n, s₀, s, hk, h => step j n s₀ s h fun n' s₀' s' h' => loop_ind Inv top hle step k (j + 1) n' s₀' s' (by (first | (with_reducible first | assumption | exact Nat.le_trans (by assumption) (by decide) | exact Nat.lt_of_le_of_lt (by assumption) (by decide) | (refine Nat.ne_of_lt ?_; (repeat (first | assumption | refine Nat.lt_trans (by assumption) ?_)); done) | (refine Nat.ne_of_gt ?_; (repeat (first | assumption | refine Nat.lt_trans (by assumption) ?_)); done) | ((repeat (first | assumption | refine Nat.lt_trans (by assumption) ?_)); done)) | omega)) h'
def GMv (P : Addr → Prop) (s s' : Shared) : Prop := ∃ h' tk, s' = { s with heap := h', toks := tk } ∧ ∀ b o, P b → s.heap.get? b = some o → h'.get? b = some o
theorem GMv.trans {P : Addr → Prop} {s s' s'' : Shared} (a : GMv P s s') (b : GMv P s' s'') : GMv P s s'' := by
  obtain ⟨h1, t1, rfl, k1⟩ := a
  obtain ⟨h2, t2, rfl, k2⟩ := b
  exact ⟨h2, t2, rfl, fun b o x e => k2 b o x (k1 b o x e)⟩
def GKp (P : Addr → Prop) (h₀ : Heap) (s s'' : Shared) : Prop := h₀.StaysIn s''.heap ∧ ∀ b o, ¬ P b → s.heap.get? b = some o → s''.heap.get? b = some o
def GYl (all : List Int) (fin : Bool) (P : Addr → Prop) (h₀ : Heap) : Protocol := fun n s₀ v s₁ κ =>
  (∃ t, v = .int (all.getD (all.length - 1 - n) 0) t) ∧ GMv P s₀ s₁ ∧ ((n = 0 ∧ fin = false) ∨ (GKp P h₀ s₁ s₁ ∧ ∀ s'', GKp P h₀ s₁ s'' → κ (.send .none) s''))
def GPl (fin : Bool) (P : Addr → Prop) (n : Nat) (s₀ s₁ : Shared) : Prop := n = 0 ∧ fin = true ∧ GMv P s₀ s₁
abbrev GRl (fin : Bool) (P : Addr → Prop) : GenEnd := fun n s₀ r s₁ => r = .ok (.ret .none) ∧ GPl fin P n s₀ s₁
def GenAtL (w : World) (AG : Around) (all : List Int) (fin : Bool) (P : Addr → Prop) (h₀ : Heap) (a : Addr) (g : Nat) (i : Nat) (s : Shared) : Prop :=
  s.heap.IsGen a g ∧ ((i < all.length ∨ fin = true) → ∃ gs, s.gens[g]? = some gs ∧ ∀ (s'' : Shared), (i = 0 → ∀ b, P b → ∃ o, s''.heap.get? b = some o) → GKp P h₀ s s'' → gs.Goes (model PRG w) AG (GRl fin P) (GYl all fin P h₀) (all.length - i) (.send .none) s'')
noncomputable def PL (P : Addr → Prop) (h₀ : Heap) (s₀ : Shared) : List (Addr × Obj) := ownOf h₀ ((List.range s₀.heap.objs.size).filter fun b => @decide (P b) (Classical.propDecidable _)) s₀.heap
theorem PL_news {P : Addr → Prop} {h₀ : Heap} {s₀ : Shared} {Lg : Addr} (h : ¬ P Lg) : News h₀ Lg s₀.heap (PL P h₀ s₀) := news_ownOf fun hm => by
  have := (List.mem_filter.mp hm).2
  exact h (@of_decide_eq_true _ (Classical.propDecidable _) this)
theorem PL_P {P : Addr → Prop} {h₀ : Heap} {s₀ : Shared} : ∀ q ∈ PL P h₀ s₀, P q.1 := fun q hq => by
  have := (List.mem_filter.mp (ownOf_sub q hq)).2
  exact @of_decide_eq_true _ (Classical.propDecidable _) this
theorem PL_alive {P : Addr → Prop} {h₀ h : Heap} {s₀ : Shared} {Lg : Addr} {m : Str → Option Value} (hP : ∀ b, P b → ∃ o, s₀.heap.get? b = some o) (F : Fr h₀ Lg h m) (N : News h₀ Lg h (PL P h₀ s₀)) (b : Addr) (hb : P b) : b < h.objs.size := by
  obtain ⟨o, e⟩ := hP b hb
  cases hn : h₀.get? b with
  | some o' => exact Heap.lt_size (F.keep b o' hn)
  | none =>
    refine Heap.lt_size (N (b, o) (mem_ownOf (List.mem_filter.mpr ⟨List.mem_range.mpr (Heap.lt_size e), ?_⟩) hn e)).1
    exact @decide_eq_true _ (Classical.propDecidable _) hb
theorem PL_mv {P : Addr → Prop} {h₀ h : Heap} {s₀ : Shared} {Lg : Addr} {m : Str → Option Value} (hst : h₀.StaysIn s₀.heap) (F : Fr h₀ Lg h m) (N : News h₀ Lg h (PL P h₀ s₀)) (tk : Nat) : GMv P s₀ { s₀ with heap := h, toks := tk } := by
  refine ⟨h, tk, rfl, fun b o hb e => ?_⟩
  cases hn : h₀.get? b with
  | some o' =>
    have := hst b o' hn
    rw [e] at this
    cases this
    exact F.keep b o hn
  | none =>
    refine (N (b, o) (mem_ownOf (List.mem_filter.mpr ⟨List.mem_range.mpr (Heap.lt_size e), ?_⟩) hn e)).1
    exact @decide_eq_true _ (Classical.propDecidable _) hb
theorem pyNext_genQ {w : World} {A : Around} {E : Value → Shared → Prop} {s : Shared} {a : Addr} {g n : Nat} {gs : GenState} {P : Nat → Shared → Shared → Prop} {Y : Protocol} {Q : Option Value → Shared → Prop} (hh : A.handled = none)
    (hl : s.heap.NoLimit) (hroom : A.depth < recursionLimit) (hg : s.heap.IsGen a g) (hgs : s.gens[g]? = some gs)
    (hgo : gs.Goes (model PRG w) A.in1 (fun n s₀ r s₁ => r = .ok (.ret .none) ∧ P n s₀ s₁) Y n (.send .none) (s.setGen g .running))
    (hY : ∀ v s₁ gs', gs'.bare = true → Y (n - 1) (s.setGen g .running) v s₁ (fun r' s'' => match n with
        | 0 => False
        | m + 1 => gs'.Goes (model PRG w) A.in1 (fun n s₀ r s₁ => r = .ok (.ret .none) ∧ P n s₀ s₁) Y m r' s'') → Q (some v) (s₁.setGen g gs'))
    (hP : ∀ s₁, P n (s.setGen g .running) s₁ → ∀ h', (∀ b o, s₁.heap.get? b = some o → h'.get? b = some o) → Q none { s₁.setGen g .finished with heap := h' }) :
    wpAny (model PRG w) A (pyNext (.ref a)) Q E s := by
  unfold pyNext
  refine wpAny_bind (wpAny_attempt (wpAny_callSpecial?_slot (name := Str.ofString "__next__") hg.typeIs slot_gen_next
    (wpAny_call_entry slot_gen_next hg.typeIs entry_gen_next ?_ (args_gen_next _))))
  show wpAny _ _ (Builtin.Generator.genWake (.ref a) (.send .none)) _ _ s
  unfold Builtin.Generator.genWake
  refine wpAny_bind (wpAny_holding (wpAny_genNumber hg (wpAny_bind (wpAny_genState hgs ?_))))
  cases gs with
  | running => exact hgo.elim
  | finished => exact hgo.elim
  | _ =>
    refine wpAny_bind (wpAny_roomToWake hl hroom ?_)
    show wpAny _ _ (.resume g (.send .none) [] _) _ _ s
    refine wpAny_resumeQ hgs hgo (fun x s₁ hx => ?_) (fun v s₁ gs' hb hv => ?_)
    · obtain ⟨rfl, hp⟩ := hx
      show wpAny _ _ (newExc (.type "StopIteration") [] >>= _) _ _ _
      refine wpAny_bind ?_
      simp only [newExc, newTuple]
      refine wpAny_bind (wpAny_newObj_type ?_ (by size_fits))
      refine wpAny_bind (m := firstArgMember _ _) (wpAny_of_eq (a := Value.none) (by first | rfl | (simp only [firstArgMember]; rfl)) ?_)
      refine wpAny_newObj_type ?_ (by size_fits)
      simp only [raiseNew]
      refine wpAny_bind (wpAny_bind (wpAny_handled ?_))
      rw [show A.in1.handled = none from hh]
      refine wpAny_throw ?_
      refine wpAny_bind (wpAny_isInstance (T := "StopIteration") (b := true) ⟨_, Heap.get?_push_size _ rfl, rfl⟩ isSubtype_stop ?_)
      exact wpAny_pure (hP s₁ hp _ fun b o hb => Heap.get?_push_of_some _ (Heap.get?_push_of_some _ hb))
    · exact wpAny_pure ⟨v, rfl, wpAny_pure (hY v s₁ gs' hb hv)⟩
def AllBare (gs : Array GenState) : Prop := ∀ x ∈ gs, x.bare = true
theorem bare_set {s : Shared} {g : Nat} {y : GenState} (h : AllBare s.gens) (hb : y.bare = true) : AllBare (s.setGen g y).gens := by
  intro x hx
  obtain ⟨i, hi, rfl⟩ := Array.mem_iff_getElem.mp hx
  by_cases e : i = g
  · subst e
    have := Array.getElem?_eq_getElem hi
    by_cases hlt : i < s.gens.size
    · have h2 := setGen_self (s := s) (x := y) (Array.getElem?_eq_getElem hlt)
      rw [Array.getElem?_eq_getElem hi] at h2
      have h3 := Option.some.inj h2
      rw [h3]
      exact hb
    · have hsz : (s.setGen i y).gens.size = s.gens.size := by simp [Shared.setGen]
      (first | (with_reducible first | assumption | exact Nat.le_trans (by assumption) (by decide) | exact Nat.lt_of_le_of_lt (by assumption) (by decide) | (refine Nat.ne_of_lt ?_; (repeat (first | assumption | refine Nat.lt_trans (by assumption) ?_)); done) | (refine Nat.ne_of_gt ?_; (repeat (first | assumption | refine Nat.lt_trans (by assumption) ?_)); done) | ((repeat (first | assumption | refine Nat.lt_trans (by assumption) ?_)); done)) | omega)
  · have ho := (GenOnly.setGen s g y).2 i e
    rw [Array.getElem?_eq_getElem hi] at ho
    obtain ⟨hi', e'⟩ := Array.getElem?_eq_some_iff.mp ho.symm
    exact e' ▸ h _ (Array.getElem_mem hi')
section
variable {w : World} {A : Around} {E : Value → Shared → Prop} {s : Shared} {all : List Int} {fin : Bool} {P : Addr → Prop} {h₀ : Heap} {a : Addr} {g i : Nat} {Q : Option Value → Shared → Prop}
theorem gen_item (hh : A.handled = none) (hroom : A.depth < recursionLimit) (hl : s.heap.NoLimit) (S : GenAtL w A.in1 all fin P h₀ a g i s) (hi : i < all.length) (hst : h₀.StaysIn s.heap) (hP : ∀ b, P b → ∃ o, s.heap.get? b = some o) (ha : P a)
    (h : ∀ t h' tk gs, (∀ b o, P b → s.heap.get? b = some o → h'.get? b = some o) → (AllBare s.gens → AllBare gs) → GenAtL w A.in1 all fin P h₀ a g (i + 1) { s with heap := h', toks := tk, gens := gs } → Q (some (.int (all.getD i 0) t)) { s with heap := h', toks := tk, gens := gs }) :
    wpAny (model PRG w) A (pyNext (.ref a)) Q E s := by
  obtain ⟨hg, hgo⟩ := S
  obtain ⟨gs, hgs, hgo⟩ := hgo (.inl hi)
  obtain ⟨m, hm⟩ := sub_ex hi
  rw [hm] at hgo
  refine pyNext_genQ hh hl hroom hg hgs (hgo _ (fun _ => hP) ⟨hst, fun _ _ _ e => e⟩) (fun v s₁ gs' hb hv => ?_) (fun s₁ hp => ?_)
  · obtain ⟨⟨t, rfl⟩, ⟨h', tk, rfl, hk⟩, hkap⟩ := hv
    have ei : all.length - 1 - (m + 1 - 1) = i := sub_at hm
    rw [ei]
    refine h t h' tk _ hk (fun hab => bare_set (bare_set hab rfl) hb) ⟨?_, fun hor => ?_⟩
    · obtain ⟨o, nm, qn, ho, r⟩ := hg
      exact ⟨o, nm, qn, hk _ _ ha ho, r⟩
    · refine ⟨gs', setGen_self (gs := .running) (setGen_self hgs), fun s'' _ hkp => ?_⟩
      have em : all.length - (i + 1) = m := sub_nx hm
      rw [em]
      rcases hkap with ⟨h1, h2⟩ | ⟨-, hkap⟩
      · exfalso
        rcases hor with e | e
        · exact absurd (Nat.sub_eq_zero_iff_le.mp ((sub_nx hm).trans h1)) (Nat.not_le_of_lt e)
        · rw [h2] at e; cases e
      · exact hkap s'' hkp
  · exact absurd hp.1 (Nat.succ_ne_zero m)
theorem gen_done (hh : A.handled = none) (hroom : A.depth < recursionLimit) (hl : s.heap.NoLimit) (S : GenAtL w A.in1 all true P h₀ a g all.length s) (hst : h₀.StaysIn s.heap) (hP : ∀ b, P b → ∃ o, s.heap.get? b = some o)
    (h : ∀ h' tk gs, (∀ b o, P b → s.heap.get? b = some o → h'.get? b = some o) → (AllBare s.gens → AllBare gs) → Q none { s with heap := h', toks := tk, gens := gs }) :
    wpAny (model PRG w) A (pyNext (.ref a)) Q E s := by
  obtain ⟨hg, hgo⟩ := S
  obtain ⟨gs, hgs, hgo⟩ := hgo (.inr rfl)
  rw [Nat.sub_self] at hgo
  refine pyNext_genQ hh hl hroom hg hgs (hgo _ (fun _ => hP) ⟨hst, fun _ _ _ e => e⟩) (fun v s₁ gs' hb hv => ?_) (fun s₁ hp h'' hk' => ?_)
  · obtain ⟨-, -, ⟨h1, h2⟩ | ⟨hst1, hkap⟩⟩ := hv
    · cases h2
    · exact (hkap s₁ hst1).elim
  · obtain ⟨-, -, h', tk, rfl, hk⟩ := hp
    exact h h'' tk _ (fun b o x e => hk' _ _ (hk b o x e)) fun hab => bare_set (bare_set hab rfl) rfl
end
end Mine
end
section
open PySem PySem.W PyProof.Rows Mine
set_option Elab.async false
set_option maxRecDepth 100000
set_option maxHeartbeats 1500000
namespace Mine

theorem dropsF_sum (word : Str) (i : Nat) : 0 ≤ (dropsF word i).sum ∧ (dropsF word i).sum ≤ (i : Int) * (i + 1) := by
  induction i with
  | zero => simp [dropsF]
  | succ i ih =>
    have e2 : ((i + 1 : Nat) : Int) * (((i + 1 : Nat) : Int) + 1) = (i : Int) * (i + 1) + 2 * (i + 1) := by
      rw [Int.natCast_add]
      simp only [Int.add_mul, Int.mul_add]
      (first | (with_reducible first | assumption | exact Nat.le_trans (by assumption) (by decide) | exact Nat.lt_of_le_of_lt (by assumption) (by decide) | (refine Nat.ne_of_lt ?_; (repeat (first | assumption | refine Nat.lt_trans (by assumption) ?_)); done) | (refine Nat.ne_of_gt ?_; (repeat (first | assumption | refine Nat.lt_trans (by assumption) ?_)); done) | ((repeat (first | assumption | refine Nat.lt_trans (by assumption) ?_)); done)) | omega)
    by_cases h : (Txt.item word (1 + (i : Int))).cps.toList < (Txt.item word (1 + (i : Int) - 1)).cps.toList
    · rw [dropsF_t h, List.sum_append, e2]
      simp only [List.sum_cons, List.sum_nil]
      (first | (with_reducible first | assumption | exact Nat.le_trans (by assumption) (by decide) | exact Nat.lt_of_le_of_lt (by assumption) (by decide) | (refine Nat.ne_of_lt ?_; (repeat (first | assumption | refine Nat.lt_trans (by assumption) ?_)); done) | (refine Nat.ne_of_gt ?_; (repeat (first | assumption | refine Nat.lt_trans (by assumption) ?_)); done) | ((repeat (first | assumption | refine Nat.lt_trans (by assumption) ?_)); done)) | omega)
    · rw [dropsF_f h, e2]
      (first | (with_reducible first | assumption | exact Nat.le_trans (by assumption) (by decide) | exact Nat.lt_of_le_of_lt (by assumption) (by decide) | (refine Nat.ne_of_lt ?_; (repeat (first | assumption | refine Nat.lt_trans (by assumption) ?_)); done) | (refine Nat.ne_of_gt ?_; (repeat (first | assumption | refine Nat.lt_trans (by assumption) ?_)); done) | ((repeat (first | assumption | refine Nat.lt_trans (by assumption) ?_)); done)) | omega)
def dueF (first second : Str) (k : Int) : Int :=
  let ones := dropsF first (first.length - 1)
  let twos := dropsF second (second.length - 1)
  let rest := k - ones.length
  let more := k - twos.length
  let ways := gaussF ((first.length : Int) - ones.length + twos.length) rest * gaussF ((second.length : Int) - twos.length + ones.length) more
  if ways ≠ 0 then ways * 64 ^ (ones.sum + twos.sum + rest * more).toNat else 0
theorem due_e1 {first second : Str} {k : Int} (h : gaussF ((first.length : Int) - ((dropsF first (first.length - 1)).length : Int) + ((dropsF second (second.length - 1)).length : Int)) (k - ((dropsF first (first.length - 1)).length : Int)) * gaussF ((second.length : Int) - ((dropsF second (second.length - 1)).length : Int) + ((dropsF first (first.length - 1)).length : Int)) (k - ((dropsF second (second.length - 1)).length : Int)) ≠ 0) :
    dueF first second k = gaussF ((first.length : Int) - ((dropsF first (first.length - 1)).length : Int) + ((dropsF second (second.length - 1)).length : Int)) (k - ((dropsF first (first.length - 1)).length : Int)) * gaussF ((second.length : Int) - ((dropsF second (second.length - 1)).length : Int) + ((dropsF first (first.length - 1)).length : Int)) (k - ((dropsF second (second.length - 1)).length : Int)) *
      64 ^ ((dropsF first (first.length - 1)).sum + (dropsF second (second.length - 1)).sum + (k - ((dropsF first (first.length - 1)).length : Int)) * (k - ((dropsF second (second.length - 1)).length : Int))).toNat := if_pos h
theorem due_e0 {first second : Str} {k : Int} (h : gaussF ((first.length : Int) - ((dropsF first (first.length - 1)).length : Int) + ((dropsF second (second.length - 1)).length : Int)) (k - ((dropsF first (first.length - 1)).length : Int)) * gaussF ((second.length : Int) - ((dropsF second (second.length - 1)).length : Int) + ((dropsF first (first.length - 1)).length : Int)) (k - ((dropsF second (second.length - 1)).length : Int)) = 0) :
    dueF first second k = 0 := if_neg (fun q => q h)
theorem gaussF_bits {u l : Int} (h0 : 0 ≤ u) (h8 : u ≤ 8) : Builtin.Int.intBits (gaussF u l) ≤ 1000 := by
  by_cases h : l < 0 ∨ u < l
  · have e : gaussF u l = 0 := by unfold gaussF; rw [if_pos h]
    rw [e]; decide
  · have key : ∀ a b : Fin 9, Builtin.Int.intBits (gaussF (a.val : Int) (b.val : Int)) ≤ 1000 := by decide +kernel
    have := key ⟨u.toNat, by (first | (with_reducible first | assumption | exact Nat.le_trans (by assumption) (by decide) | exact Nat.lt_of_le_of_lt (by assumption) (by decide) | (refine Nat.ne_of_lt ?_; (repeat (first | assumption | refine Nat.lt_trans (by assumption) ?_)); done) | (refine Nat.ne_of_gt ?_; (repeat (first | assumption | refine Nat.lt_trans (by assumption) ?_)); done) | ((repeat (first | assumption | refine Nat.lt_trans (by assumption) ?_)); done)) | omega)⟩ ⟨l.toNat, by (first | (with_reducible first | assumption | exact Nat.le_trans (by assumption) (by decide) | exact Nat.lt_of_le_of_lt (by assumption) (by decide) | (refine Nat.ne_of_lt ?_; (repeat (first | assumption | refine Nat.lt_trans (by assumption) ?_)); done) | (refine Nat.ne_of_gt ?_; (repeat (first | assumption | refine Nat.lt_trans (by assumption) ?_)); done) | ((repeat (first | assumption | refine Nat.lt_trans (by assumption) ?_)); done)) | omega)⟩
    simpa [Int.toNat_of_nonneg h0, Int.toNat_of_nonneg (show 0 ≤ l by (first | (with_reducible first | assumption | exact Nat.le_trans (by assumption) (by decide) | exact Nat.lt_of_le_of_lt (by assumption) (by decide) | (refine Nat.ne_of_lt ?_; (repeat (first | assumption | refine Nat.lt_trans (by assumption) ?_)); done) | (refine Nat.ne_of_gt ?_; (repeat (first | assumption | refine Nat.lt_trans (by assumption) ?_)); done) | ((repeat (first | assumption | refine Nat.lt_trans (by assumption) ?_)); done)) | omega))] using this
theorem gauss_pos {u l : Int} (h : gaussF u l ≠ 0) : 0 ≤ l ∧ l ≤ u := by
  by_cases q : l < 0 ∨ u < l
  · exact absurd (by unfold gaussF; rw [if_pos q]) h
  · (first | (with_reducible first | assumption | exact Nat.le_trans (by assumption) (by decide) | exact Nat.lt_of_le_of_lt (by assumption) (by decide) | (refine Nat.ne_of_lt ?_; (repeat (first | assumption | refine Nat.lt_trans (by assumption) ?_)); done) | (refine Nat.ne_of_gt ?_; (repeat (first | assumption | refine Nat.lt_trans (by assumption) ?_)); done) | ((repeat (first | assumption | refine Nat.lt_trans (by assumption) ?_)); done)) | omega)
theorem mul_b {r q : Int} (h1 : 0 ≤ r) (h2 : r ≤ 4) (h3 : 0 ≤ q) (h4 : q ≤ 4) : 0 ≤ r * q ∧ r * q ≤ 16 := by
  have a := Int.mul_nonneg h1 h3
  have b := Int.mul_le_mul h2 h4 h3 (by decide : (0 : Int) ≤ 4)
  (first | (with_reducible first | assumption | exact Nat.le_trans (by assumption) (by decide) | exact Nat.lt_of_le_of_lt (by assumption) (by decide) | (refine Nat.ne_of_lt ?_; (repeat (first | assumption | refine Nat.lt_trans (by assumption) ?_)); done) | (refine Nat.ne_of_gt ?_; (repeat (first | assumption | refine Nat.lt_trans (by assumption) ?_)); done) | ((repeat (first | assumption | refine Nat.lt_trans (by assumption) ?_)); done)) | omega)
theorem due_exp {u1 u2 r q s1 s2 : Int} (h : gaussF u1 r * gaussF u2 q ≠ 0) (hr : r ≤ 4) (hq : q ≤ 4) (h1 : 0 ≤ s1 ∧ s1 ≤ 12) (h2 : 0 ≤ s2 ∧ s2 ≤ 12) : 0 ≤ s1 + s2 + r * q ∧ s1 + s2 + r * q ≤ 100 := by
  have a := gauss_pos (u := u1) (l := r) (fun e => h (by rw [e, Int.zero_mul]))
  have b := gauss_pos (u := u2) (l := q) (fun e => h (by rw [e, Int.mul_zero]))
  have c := mul_b a.1 hr b.1 hq
  (first | (with_reducible first | assumption | exact Nat.le_trans (by assumption) (by decide) | exact Nat.lt_of_le_of_lt (by assumption) (by decide) | (refine Nat.ne_of_lt ?_; (repeat (first | assumption | refine Nat.lt_trans (by assumption) ?_)); done) | (refine Nat.ne_of_gt ?_; (repeat (first | assumption | refine Nat.lt_trans (by assumption) ?_)); done) | ((repeat (first | assumption | refine Nat.lt_trans (by assumption) ?_)); done)) | omega)
theorem drops_s12 {word : Str} (h : word.length ≤ 4) : 0 ≤ (dropsF word (word.length - 1)).sum ∧ (dropsF word (word.length - 1)).sum ≤ 12 := by
  have a := dropsF_sum word (word.length - 1)
  refine ⟨a.1, Int.le_trans a.2 ?_⟩
  have : word.length - 1 = 0 ∨ word.length - 1 = 1 ∨ word.length - 1 = 2 ∨ word.length - 1 = 3 := by (first | (with_reducible first | assumption | exact Nat.le_trans (by assumption) (by decide) | exact Nat.lt_of_le_of_lt (by assumption) (by decide) | (refine Nat.ne_of_lt ?_; (repeat (first | assumption | refine Nat.lt_trans (by assumption) ?_)); done) | (refine Nat.ne_of_gt ?_; (repeat (first | assumption | refine Nat.lt_trans (by assumption) ?_)); done) | ((repeat (first | assumption | refine Nat.lt_trans (by assumption) ?_)); done)) | omega)
  rcases this with e | e | e | e <;> rw [e] <;> decide
theorem due_c {w : World} {mean} {mg mb} (first second : Str) (k : Int) (ta tb tc : Tok) (news : List (Addr × Obj)) (h1 : 1 ≤ first.length) (h2 : first.length ≤ 4) (h3 : 1 ≤ second.length) (h4 : second.length ≤ 4) (h5 : 0 ≤ k) (h6 : k ≤ 4) :
  MClaim w mean mg mb 132 news [.str first ta, .str second tb, .int k tc] 4 (fun s Q h₀ L m => ∀ (t : Tok) (h' : Heap) (tk' : Nat), Fr h₀ L h' m → News h₀ L h' news → Q (.int (dueF first second k) t) { s with heap := h', toks := tk' }) := by
  dsimp only [MClaim, PRG]; k_fill; intro dp un h₀ L m s Q E F₀ X₀ N₀ T₀ hroom hunits hret
  have k1 := held "call ref"
  have k2 := held "binaryOp Mult int int"
  have k3 := held "binaryOp Pow int int"
  refine wpAny_call ?_
  k_dflt (refine' enterP ?k2 ?k3 ?k4 ?k5 ?k6 ?k7 ?k8 ?k9 ?kB ?_ ?c2 ?c3 ?c4 ?c5; (case k2 => k_asm); (case k3 => k_asm); (case k4 => k_asm); (case k5 => k_asm); (case k6 => k_is); (case k7 => k_is); (case k8 => exact rm0 hroom); (case k9 => exact BindsTo.of_eq rfl); (case c5 => decide); (case kB => exact locs rfl); (case c2 => exact rfl); (case c3 => exact rfl); (case c4 => exact rfl); k_whole; intro _ _ _ _ _ _ _ _; (try dsimp only); (try k_fold))
  rename Fr _ _ _ _ => F
  replace F := (show Fr _ _ _ (fun y => List.lookup y [(Str.ofString "falls", Value.int k tc), (Str.ofString "second", Value.str second tb), (Str.ofString "first", Value.str first ta)]) from F)
  have d1 := dropsF_le first (first.length - 1)
  have d2 := dropsF_le second (second.length - 1)
  refine quiet ?_
  intro Q9 hQ9
  k_steps
  refine unhold ?_
  refine' forgetA rfl (Nat.le_refl _) (Nat.le_refl _) (drops_c _ _ _ ?hz _ _ _ _ _ _ _ _ ?F ?X ?N ?T ?hr ?hu ?_)
  case hz => (first | (with_reducible first | assumption | exact Nat.le_trans (by assumption) (by decide) | exact Nat.lt_of_le_of_lt (by assumption) (by decide) | (refine Nat.ne_of_lt ?_; (repeat (first | assumption | refine Nat.lt_trans (by assumption) ?_)); done) | (refine Nat.ne_of_gt ?_; (repeat (first | assumption | refine Nat.lt_trans (by assumption) ?_)); done) | ((repeat (first | assumption | refine Nat.lt_trans (by assumption) ?_)); done)) | omega)
  case F => k_asm
  case X => k_asm
  case N => k_asm
  case T => k_asm
  case hr => exact rmm hroom (by decide)
  case hu => exact rmm hunits (by decide)
  intro D' ys' nD' h' tk' hys' l1 F' N'
  try dsimp only
  k_steps
  refine unhold ?_
  refine' forgetA rfl (Nat.le_refl _) (Nat.le_refl _) (drops_c _ _ _ ?hz _ _ _ _ _ _ _ _ ?F ?X ?N ?T ?hr ?hu ?_)
  case hz => (first | (with_reducible first | assumption | exact Nat.le_trans (by assumption) (by decide) | exact Nat.lt_of_le_of_lt (by assumption) (by decide) | (refine Nat.ne_of_lt ?_; (repeat (first | assumption | refine Nat.lt_trans (by assumption) ?_)); done) | (refine Nat.ne_of_gt ?_; (repeat (first | assumption | refine Nat.lt_trans (by assumption) ?_)); done) | ((repeat (first | assumption | refine Nat.lt_trans (by assumption) ?_)); done)) | omega)
  case F => k_asm
  case X => k_asm
  case N => k_asm
  case T => k_asm
  case hr => exact rmm hroom (by decide)
  case hu => exact rmm hunits (by decide)
  intro D' ys' nD' h' tk' hys' l1 F' N'
  try dsimp only
  k_steps
  refine unhold ?_
  refine' forgetA rfl (Nat.le_refl _) (Nat.le_refl _) (gauss_c _ _ _ _ _ ?h0 ?h8 _ _ _ _ _ _ _ _ ?F ?X ?N ?T ?hr ?hu ?_)
  case h0 => (first | (with_reducible first | assumption | exact Nat.le_trans (by assumption) (by decide) | exact Nat.lt_of_le_of_lt (by assumption) (by decide) | (refine Nat.ne_of_lt ?_; (repeat (first | assumption | refine Nat.lt_trans (by assumption) ?_)); done) | (refine Nat.ne_of_gt ?_; (repeat (first | assumption | refine Nat.lt_trans (by assumption) ?_)); done) | ((repeat (first | assumption | refine Nat.lt_trans (by assumption) ?_)); done)) | omega)
  case h8 => (first | (with_reducible first | assumption | exact Nat.le_trans (by assumption) (by decide) | exact Nat.lt_of_le_of_lt (by assumption) (by decide) | (refine Nat.ne_of_lt ?_; (repeat (first | assumption | refine Nat.lt_trans (by assumption) ?_)); done) | (refine Nat.ne_of_gt ?_; (repeat (first | assumption | refine Nat.lt_trans (by assumption) ?_)); done) | ((repeat (first | assumption | refine Nat.lt_trans (by assumption) ?_)); done)) | omega)
  case F => k_asm
  case X => k_asm
  case N => k_asm
  case T => k_asm
  case hr => exact rmm hroom (by decide)
  case hu => exact rmm hunits (by decide)
  intro t' h' tk' F' N'
  try dsimp only
  k_steps
  refine unhold ?_
  refine' forgetA rfl (Nat.le_refl _) (Nat.le_refl _) (gauss_c _ _ _ _ _ ?h0 ?h8 _ _ _ _ _ _ _ _ ?F ?X ?N ?T ?hr ?hu ?_)
  case h0 => (first | (with_reducible first | assumption | exact Nat.le_trans (by assumption) (by decide) | exact Nat.lt_of_le_of_lt (by assumption) (by decide) | (refine Nat.ne_of_lt ?_; (repeat (first | assumption | refine Nat.lt_trans (by assumption) ?_)); done) | (refine Nat.ne_of_gt ?_; (repeat (first | assumption | refine Nat.lt_trans (by assumption) ?_)); done) | ((repeat (first | assumption | refine Nat.lt_trans (by assumption) ?_)); done)) | omega)
  case h8 => (first | (with_reducible first | assumption | exact Nat.le_trans (by assumption) (by decide) | exact Nat.lt_of_le_of_lt (by assumption) (by decide) | (refine Nat.ne_of_lt ?_; (repeat (first | assumption | refine Nat.lt_trans (by assumption) ?_)); done) | (refine Nat.ne_of_gt ?_; (repeat (first | assumption | refine Nat.lt_trans (by assumption) ?_)); done) | ((repeat (first | assumption | refine Nat.lt_trans (by assumption) ?_)); done)) | omega)
  case F => k_asm
  case X => k_asm
  case N => k_asm
  case T => k_asm
  case hr => exact rmm hroom (by decide)
  case hu => exact rmm hunits (by decide)
  intro t' h' tk' F' N'
  try dsimp only
  k_steps
  refine unhold ?_
  refine mul_int ?_ (IntMulOk.of_bits (Nat.le_trans (gaussF_bits (by (first | (with_reducible first | assumption | exact Nat.le_trans (by assumption) (by decide) | exact Nat.lt_of_le_of_lt (by assumption) (by decide) | (refine Nat.ne_of_lt ?_; (repeat (first | assumption | refine Nat.lt_trans (by assumption) ?_)); done) | (refine Nat.ne_of_gt ?_; (repeat (first | assumption | refine Nat.lt_trans (by assumption) ?_)); done) | ((repeat (first | assumption | refine Nat.lt_trans (by assumption) ?_)); done)) | omega)) (by (first | (with_reducible first | assumption | exact Nat.le_trans (by assumption) (by decide) | exact Nat.lt_of_le_of_lt (by assumption) (by decide) | (refine Nat.ne_of_lt ?_; (repeat (first | assumption | refine Nat.lt_trans (by assumption) ?_)); done) | (refine Nat.ne_of_gt ?_; (repeat (first | assumption | refine Nat.lt_trans (by assumption) ?_)); done) | ((repeat (first | assumption | refine Nat.lt_trans (by assumption) ?_)); done)) | omega))) (by decide)) (Nat.le_trans (gaussF_bits (by (first | (with_reducible first | assumption | exact Nat.le_trans (by assumption) (by decide) | exact Nat.lt_of_le_of_lt (by assumption) (by decide) | (refine Nat.ne_of_lt ?_; (repeat (first | assumption | refine Nat.lt_trans (by assumption) ?_)); done) | (refine Nat.ne_of_gt ?_; (repeat (first | assumption | refine Nat.lt_trans (by assumption) ?_)); done) | ((repeat (first | assumption | refine Nat.lt_trans (by assumption) ?_)); done)) | omega)) (by (first | (with_reducible first | assumption | exact Nat.le_trans (by assumption) (by decide) | exact Nat.lt_of_le_of_lt (by assumption) (by decide) | (refine Nat.ne_of_lt ?_; (repeat (first | assumption | refine Nat.lt_trans (by assumption) ?_)); done) | (refine Nat.ne_of_gt ?_; (repeat (first | assumption | refine Nat.lt_trans (by assumption) ?_)); done) | ((repeat (first | assumption | refine Nat.lt_trans (by assumption) ?_)); done)) | omega))) (by decide)))
  k_steps
  · have hx := due_exp (by assumption) (by (first | (with_reducible first | assumption | exact Nat.le_trans (by assumption) (by decide) | exact Nat.lt_of_le_of_lt (by assumption) (by decide) | (refine Nat.ne_of_lt ?_; (repeat (first | assumption | refine Nat.lt_trans (by assumption) ?_)); done) | (refine Nat.ne_of_gt ?_; (repeat (first | assumption | refine Nat.lt_trans (by assumption) ?_)); done) | ((repeat (first | assumption | refine Nat.lt_trans (by assumption) ?_)); done)) | omega)) (by (first | (with_reducible first | assumption | exact Nat.le_trans (by assumption) (by decide) | exact Nat.lt_of_le_of_lt (by assumption) (by decide) | (refine Nat.ne_of_lt ?_; (repeat (first | assumption | refine Nat.lt_trans (by assumption) ?_)); done) | (refine Nat.ne_of_gt ?_; (repeat (first | assumption | refine Nat.lt_trans (by assumption) ?_)); done) | ((repeat (first | assumption | refine Nat.lt_trans (by assumption) ?_)); done)) | omega)) (drops_s12 h2) (drops_s12 h4)
    have e := due_e1 (first := first) (second := second) (k := k) (by assumption)
    rw [e] at hret
    refine unhold ?_
    refine mul_int ?_ (IntMulOk.of_left (intBits_le_64 (by (first | (with_reducible first | assumption | exact Nat.le_trans (by assumption) (by decide) | exact Nat.lt_of_le_of_lt (by assumption) (by decide) | (refine Nat.ne_of_lt ?_; (repeat (first | assumption | refine Nat.lt_trans (by assumption) ?_)); done) | (refine Nat.ne_of_gt ?_; (repeat (first | assumption | refine Nat.lt_trans (by assumption) ?_)); done) | ((repeat (first | assumption | refine Nat.lt_trans (by assumption) ?_)); done)) | omega)) (by (first | (with_reducible first | assumption | exact Nat.le_trans (by assumption) (by decide) | exact Nat.lt_of_le_of_lt (by assumption) (by decide) | (refine Nat.ne_of_lt ?_; (repeat (first | assumption | refine Nat.lt_trans (by assumption) ?_)); done) | (refine Nat.ne_of_gt ?_; (repeat (first | assumption | refine Nat.lt_trans (by assumption) ?_)); done) | ((repeat (first | assumption | refine Nat.lt_trans (by assumption) ?_)); done)) | omega))))
    k_steps
    refine unhold ?_
    refine pow_int_small hx.1 (Int.le_trans hx.2 (by decide)) (by decide) ?_
    k_steps
    refine unhold ?_
    refine mul_int ?_ (IntMulOk.of_le (intBits_mul_le (gaussF_bits (by (first | (with_reducible first | assumption | exact Nat.le_trans (by assumption) (by decide) | exact Nat.lt_of_le_of_lt (by assumption) (by decide) | (refine Nat.ne_of_lt ?_; (repeat (first | assumption | refine Nat.lt_trans (by assumption) ?_)); done) | (refine Nat.ne_of_gt ?_; (repeat (first | assumption | refine Nat.lt_trans (by assumption) ?_)); done) | ((repeat (first | assumption | refine Nat.lt_trans (by assumption) ?_)); done)) | omega)) (by (first | (with_reducible first | assumption | exact Nat.le_trans (by assumption) (by decide) | exact Nat.lt_of_le_of_lt (by assumption) (by decide) | (refine Nat.ne_of_lt ?_; (repeat (first | assumption | refine Nat.lt_trans (by assumption) ?_)); done) | (refine Nat.ne_of_gt ?_; (repeat (first | assumption | refine Nat.lt_trans (by assumption) ?_)); done) | ((repeat (first | assumption | refine Nat.lt_trans (by assumption) ?_)); done)) | omega))) (gaussF_bits (by (first | (with_reducible first | assumption | exact Nat.le_trans (by assumption) (by decide) | exact Nat.lt_of_le_of_lt (by assumption) (by decide) | (refine Nat.ne_of_lt ?_; (repeat (first | assumption | refine Nat.lt_trans (by assumption) ?_)); done) | (refine Nat.ne_of_gt ?_; (repeat (first | assumption | refine Nat.lt_trans (by assumption) ?_)); done) | ((repeat (first | assumption | refine Nat.lt_trans (by assumption) ?_)); done)) | omega)) (by (first | (with_reducible first | assumption | exact Nat.le_trans (by assumption) (by decide) | exact Nat.lt_of_le_of_lt (by assumption) (by decide) | (refine Nat.ne_of_lt ?_; (repeat (first | assumption | refine Nat.lt_trans (by assumption) ?_)); done) | (refine Nat.ne_of_gt ?_; (repeat (first | assumption | refine Nat.lt_trans (by assumption) ?_)); done) | ((repeat (first | assumption | refine Nat.lt_trans (by assumption) ?_)); done)) | omega)))) (intBits_pow_le (m := 7) (by decide) _) (by (first | (with_reducible first | assumption | exact Nat.le_trans (by assumption) (by decide) | exact Nat.lt_of_le_of_lt (by assumption) (by decide) | (refine Nat.ne_of_lt ?_; (repeat (first | assumption | refine Nat.lt_trans (by assumption) ?_)); done) | (refine Nat.ne_of_gt ?_; (repeat (first | assumption | refine Nat.lt_trans (by assumption) ?_)); done) | ((repeat (first | assumption | refine Nat.lt_trans (by assumption) ?_)); done)) | omega)))
    k_steps
    refine hQ9 _ _ ?_
    k_steps
    exact hret _ _ _ (by k_asm) (news_t (news_t (by assumption)))
  · have e := due_e0 (first := first) (second := second) (k := k) (by assumption)
    rw [e] at hret
    refine hQ9 _ _ ?_
    k_steps
    exact hret _ _ _ (by k_asm) (news_t (news_t (by assumption)))
end Mine
end
section
open PySem PySem.W PyProof.Rows Mine PySem.Calls
set_option Elab.async false
set_option maxRecDepth 100000
set_option maxHeartbeats 2000000
namespace Mine
section
variable {prog : Program} {w : World} {A : Around} {s : Shared} {h₀ : Heap} {L : Addr} {m : Str → Option Value} {news : List (Addr × Obj)} {K : Frag} {p : Program} {loose : List Str} {mean : ExcName → Option Value} {mg mb : Str → Option Value} {R : Result → Shared → Prop}
theorem enterG {name qual : Str} {params : Arguments} {body : List Stmt} {scope : Scope} {dV kV doc pm cdv ct oc : Value} {an od : Option Addr} {osl : Array (Option Value)} {f : Addr} {args : Args} {binds : List (Str × Value)}
    (F : Fr h₀ L s.heap m) (X₀ : K.In h₀) (N : News h₀ L s.heap news) (T : Top p loose mean mg mb h₀)
    (ho : K.lookup f = some ⟨oc, od, .func (fnOf name qual params body scope dV kV doc pm an cdv ct), osl⟩) (hcd : codeIn K cdv qual = true) (hroom : A.depth < recursionLimit)
    (hbind : BindsTo s (fnOf name qual params body scope dV kV doc pm an cdv ct) args binds) (hloc : ∀ y ∈ binds, scope.names.lookup y.1 = some .local)
    (h : ∀ Lg a h₁ tk, LtAll Lg news → @LT.lt Nat _ L Lg → @LT.lt Nat _ Lg a → h₁.objs.size = a + 1 → Fr h₀ L h₁ m → News h₀ L h₁ news → Fr h₀ Lg h₁ (fun y => binds.reverse.lookup y) → h₁.IsGen a s.gens.size →
      R (.ok (.ret (.ref a))) { s with heap := h₁, toks := tk, gens := s.gens.push (.fresh (.func body (envOf qual scope Lg f cdv))) })
    (hco : scope.isCoroutine = false) (hgen : scope.isGenerator = true) (hk : scope.kind = .function)
    (hcell : ∀ x ∈ scope.names, x.2 ≠ .cell) : codeAny (model prog w) A (.call (.ref f) args) R s := by
  have X := X₀.keeps F.keep
  refine codeAny_call_generator hroom (X _ _ ho) rfl hco hgen rfl (codeRec_of X hcd) (hbind _ _ _ _ ?_)
  refine wpAny_newFunctionEnv hcell hloc (fun h₁ hns hsb => ⟨(T.nolimit.keeps F.keep).fresh _ hsb, ?_⟩) hk
  have hk₁ : ∀ b o, s.heap.get? b = some o → h₁.get? b = some o := fun b o e => hsb.extBut b o (Nat.ne_of_lt (Heap.lt_size e)) (Heap.get?_push_of_some _ e)
  have hsz : h₁.objs.size = s.heap.objs.size + 1 := by rw [hsb.1, Heap.size_push]
  generalize hobj : ({ cls := Value.type "generator", data := _ } : Obj) = og
  have hk₂ : ∀ b o, s.heap.get? b = some o → (h₁.push og).get? b = some o := fun b o e => Heap.get?_push_of_some _ (hk₁ b o e)
  refine h s.heap.objs.size h₁.objs.size _ _ (fun q hq => Heap.lt_size (N q hq).1) F.ns.lt (by rw [hsz]; exact Nat.lt_succ_self _) (Heap.size_push ..) (F.keeps hk₂) (fun q hq => ⟨hk₂ _ _ (N q hq).1, (N q hq).2⟩) ⟨hns.push _, fun b o e => hk₂ b o (F.keep b o e), ?_⟩ ?_
  · exact Nat.le_trans F.above (Nat.le_of_lt F.ns.lt)
  · exact ⟨og, _, _, Heap.get?_push_size _ (by rw [← hobj]; rfl), by rw [← hobj], by rw [← hobj], by rw [← hobj]⟩
end
def outsOk : List Int → Option Int → List Int → Bool → Prop
  | [], _, _, _ => False
  | x :: r, last, outs, fin => if x = 127 then outs = [] ∧ fin = true else if x = 0 then (∃ l, last = some l ∧ fin = false ∧ ∀ o ∈ outs, o = l) else match outs with
    | [] => False
    | o :: os => o = x ∧ outsOk r (some x) os fin
def LastV (last : Option Int) (v : Value) : Prop := match last with
  | none => v = .none
  | some l => ∃ t, v = .int l t
abbrev liObj (D : Addr) (j : Nat) : Obj := { cls := .type "list_iterator", data := .fields #[.ref D, .int j 0] }
theorem wake {P : Addr → Prop} {h₀ h : Heap} {Lg I D : Addr} {oI oD : Obj} {m : Str → Option Value} {pl : List (Addr × Obj)} {s₁ s'' : Shared} (hh : s₁.heap = h) (F : Fr h₀ Lg h m) (N : News h₀ Lg h ((I, oI) :: (D, oD) :: pl)) (nL : ¬ P Lg) (nI : ¬ P I) (nD : ¬ P D) (hk : GKp P h₀ s₁ s'') :
    Fr h₀ Lg s''.heap m ∧ News h₀ Lg s''.heap ((I, oI) :: (D, oD) :: PL P h₀ s'') := by
  subst hh
  obtain ⟨hst, hkk⟩ := hk
  refine ⟨⟨F.ns.at' fun o e => hkk Lg o nL e, hst, F.above⟩, fun q hq => ?_⟩
  rcases List.mem_cons.mp hq with rfl | hq
  · have n := N _ (.head _)
    exact ⟨hkk _ _ nI n.1, n.2⟩
  · rcases List.mem_cons.mp hq with rfl | hq
    · have n := N _ (.tail _ (.head _))
      exact ⟨hkk _ _ nD n.1, n.2⟩
    · exact PL_news nL q hq
theorem yield_ind {M : Model} {A : Around} {R : GenEnd} {Y : Protocol} {C : Code} {T : Sem Fin} {FS : List Frame} (Inv : Nat → Shared → Shared → Prop)
    (step : ∀ n s₀ s, Inv (n + 1) s₀ s → (∀ s₀' s', n ≠ 0 → Inv n s₀' s' → Seg M A R Y n s₀' C T FS s') → Seg M A R Y (n + 1) s₀ C T FS s) :
    ∀ n s₀ s, n ≠ 0 → Inv n s₀ s → Seg M A R Y n s₀ C T FS s
  | 0, _, _, h, _ => absurd rfl h
  | n + 1, s₀, s, _, h => step n s₀ s h fun s₀' s' hn h' => yield_ind Inv step n s₀' s' hn h'
def GInv2 (P : Addr → Prop) (h₀ : Heap) (Lg I D : Addr) (oI oD : Obj) (l : Int) (all : List Int) (n : Nat) (s₀ s : Shared) : Prop :=
  ∃ (h : Heap) (tk : Nat) (m : Str → Option Value) (t : Tok), s = { s₀ with heap := h, toks := tk } ∧ h₀.StaysIn s₀.heap ∧ Fr h₀ Lg h m ∧ News h₀ Lg h ((I, oI) :: (D, oD) :: PL P h₀ s₀) ∧ m (Str.ofString "last_interval") = some (.int l t) ∧ n ≤ all.length ∧ ∀ o ∈ all.drop (all.length - n), o = l
theorem drop_head {all : List Int} {n : Nat} (h : n + 1 ≤ all.length) : all.drop (all.length - (n + 1)) = all.getD (all.length - 1 - n) 0 :: all.drop (all.length - n) := by
  have e : all.length - 1 - n = all.length - (n + 1) := by rw [Nat.sub_sub, Nat.add_comm]
  have hlt : all.length - (n + 1) < all.length := Nat.sub_lt (Nat.lt_of_lt_of_le (Nat.succ_pos n) h) (Nat.succ_pos n)
  rw [List.drop_eq_getElem_cons hlt, e]
  congr 1
  · simp [List.getD, hlt]
  · congr 1
    rw [Nat.sub_add_eq, Nat.sub_add_cancel (Nat.sub_pos_of_lt h)]
def GInv (P : Addr → Prop) (h₀ : Heap) (Lg I D : Addr) (its : List Value) (nD : Nat) (ns all : List Int) (fin : Bool) (j n : Nat) (s₀ s : Shared) : Prop :=
  ∃ (h : Heap) (tk : Nat) (m : Str → Option Value) (last : Option Int) (lv : Value) (oI : Obj), s = { s₀ with heap := h, toks := tk } ∧ h₀.StaysIn s₀.heap ∧ Fr h₀ Lg h m ∧ oI.cls = .type "list_iterator" ∧ oI.data = .fields #[.ref D, .int j 0] ∧ News h₀ Lg h ((I, oI) :: (D, W.listOf its.toArray nD) :: PL P h₀ s₀) ∧
    m (Str.ofString "last_interval") = some lv ∧ LastV last lv ∧ j ≤ ns.length ∧ n ≤ all.length ∧ outsOk (ns.drop j) last (all.drop (all.length - n)) fin ∧ (fin = true ∨ 0 < n)
theorem group_c {w : World} {mean} {mg mb} (D : Addr) (its : List Value) (nD : Nat) (news : List (Addr × Obj)) (ns all : List Int) (fin : Bool) (hi : IntsAre its ns) (hall : outsOk ns none all fin) (hne : fin = true ∨ 0 < all.length) (dp un : Nat) (h₀ : Heap) (L : Addr) (m : Str → Option Value) (s : Shared) (Q E : Value → Shared → Prop)
    (F₀ : Fr h₀ L s.heap m) (X₀ : (hd.heap_1 w.params).In h₀) (N₀ : News h₀ L s.heap ((D, W.listOf its.toArray nD) :: news)) (T₀ : Top topProg looseT mean mg mb h₀) (hroom : dp + 2 < recursionLimit)
    (hret : ∀ Lg a h' tk gs0, LtAll Lg ((D, W.listOf its.toArray nD) :: news) → @LT.lt Nat _ L Lg → @LT.lt Nat _ Lg a → h'.objs.size = a + 1 → Fr h₀ L h' m → News h₀ L h' ((D, W.listOf its.toArray nD) :: news) → gs0.bare = true →
      (∀ AG : Around, AG.handled = none → ∀ P : Addr → Prop, (∀ b, P b → b ≠ Lg ∧ b ≠ D) → GenAtL w AG all fin P h₀ a s.gens.size 0 { s with heap := h', toks := tk, gens := s.gens.push gs0 }) → Q (.ref a) { s with heap := h', toks := tk, gens := s.gens.push gs0 }) :
    wpAny (model PRG w) (AB dp un) (call (.ref 35) [.ref D]) Q E s := by
  revert hret; revert T₀ N₀ X₀ F₀ E Q s m L h₀
  dsimp only [PRG]
  k_fill
  intro h₀ L m s Q E F₀ X₀ N₀ T₀ hret
  refine wpAny_call ?_
  refine' enterG ?k2 ?k3 ?k4 ?k5 ?k6 ?k7 ?k8 ?k9 ?kB ?_ ?c2 ?c3 ?c4 ?c5
  case k2 => k_asm
  case k3 => k_asm
  case k4 => k_asm
  case k5 => k_asm
  case k6 => k_is
  case k7 => k_is
  case k8 => exact rm0 hroom
  case k9 => exact BindsTo.of_eq rfl
  case c5 => decide
  case kB => exact locs rfl
  case c2 => exact rfl
  case c3 => exact rfl
  case c4 => exact rfl
  intro Lg a h1 tk1 hlt hLg hga hsz F1 N1 FG hg
  refine hret Lg a h1 _ _ hlt hLg hga hsz F1 N1 rfl fun AG hAG P hP => ⟨hg, fun _ => ⟨_, Array.getElem?_push_size .., fun s'' hPa hkp => ⟨rfl, ?_⟩⟩⟩
  rw [Nat.sub_zero]
  have hDL : @LT.lt Nat _ D Lg := hlt.hd
  have notL : ¬ P Lg := fun h => (hP _ h).1 rfl
  have notD : ¬ P D := fun h => (hP _ h).2 rfl
  obtain ⟨hst, hkk⟩ := hkp
  replace hPa := hPa rfl
  replace FG : Fr h₀ Lg s''.heap (fun y => List.lookup y [(Str.ofString "grouping", Value.ref D)]) := ⟨FG.ns.at' fun o e => hkk Lg o notL e, hst, FG.above⟩
  have hD0 := (N1 _ (.head _)).2.2
  have hDg : s''.heap.get? D = some (W.listOf its.toArray nD) := hkk D _ notD (N1 _ (.head _)).1
  have NG : News h₀ Lg s''.heap ((D, W.listOf its.toArray nD) :: PL P h₀ s'') := fun q hq => by
    rcases List.mem_cons.mp hq with rfl | hq
    · exact ⟨hDg, Nat.ne_of_lt hDL, hD0⟩
    · exact PL_news notL q hq
  clear hret F1 N1 F₀ N₀ hg
  refine seg_func ?_
  refine seg_execs_cons (seg_stmt ?_)
  k_steps
  refine seg_execs_cons (seg_For ?_)
  k_steps
  rename Fr h₀ Lg _ _ => F2
  rename News h₀ Lg _ _ => N2
  rename Heap => hh
  refine wpAny_pyIter_list (isList_led N2 (.head _)) ?_
  intro pp
  have PI := PL_alive hPa F2 (news_t N2)
  have fresh0 : h₀.get? hh.objs.size = none := next_is_new F2
  have hLI : @LT.lt Nat _ Lg hh.objs.size := F2.ns.lt
  have hDI : @LT.lt Nat _ D hh.objs.size := Heap.lt_size (N2 _ (.head _)).1
  have F3 := F2.push (liObj D 0)
  have N3 := N2.push F2 (liObj D 0)
  obtain ⟨I, hI⟩ : ∃ I : Nat, hh.objs.size = I := ⟨_, rfl⟩
  rw [hI] at PI fresh0 hLI hDI N3 ⊢
  have notI : ¬ P I := fun h => absurd (PI I h) (Nat.lt_irrefl _)
  refine loop_ind (GInv P h₀ Lg I D its nD ns all fin) ns.length (fun j n s₀ s h => ?_) ?_ _ 0 _ _ _ rfl ⟨_, _, _, none, .none, liObj D 0, rfl, hst, F3, rfl, rfl, N3, by with_unfolding_all rfl, rfl, Nat.zero_le _, Nat.le_refl _, by rw [Nat.sub_self]; exact hall, hne⟩
  · obtain ⟨_, _, _, _, _, _, -, -, -, -, -, -, -, -, h, -⟩ := h
    exact h
  rintro j n s₀ s1 ⟨h, tk, m, last, lv, oI, rfl, hst, F, c1, c2, N, e1, hlv, hj, hn, hout, hfn⟩ ih
  obtain ⟨x, r, hdr⟩ : ∃ x r, ns.drop j = x :: r := by
    cases hd : ns.drop j with
    | nil => rw [hd] at hout; exact hout.elim
    | cons x r => exact ⟨x, r, rfl⟩
  rw [hdr] at hout
  have hjx : ns[j]? = some x := by rw [← List.head?_drop, hdr]; rfl
  have hdr2 : ns.drop (j + 1) = r := by rw [← List.drop_drop, hdr]; rfl
  have hlen := hi.length
  obtain ⟨tx, hvx⟩ : ∃ tx, its[j]? = some (.int x tx) := by
    have hjl : j < its.length := by rw [hlen]; exact (List.getElem?_eq_some_iff.mp hjx).1
    obtain ⟨k, t, hk, hk2⟩ := ints_at hi (List.getElem?_eq_getElem hjl)
    rw [hjx] at hk2
    cases hk2
    exact ⟨t, by rw [List.getElem?_eq_getElem hjl, hk]⟩
  refine seg_forLoop ?_
  refine wpAny_pyNext_list_item (items := its.toArray) (x := .int x tx) (i := j) ⟨oI, (N _ (.head _)).1, c1, c2⟩ (isList_led N (.tail _ (.head _))) (by simpa using hvx) fun h' hit hs => ?_
  obtain ⟨oI', hoI, c1', c2'⟩ := hit
  have nIL : I ≠ Lg := Nat.ne_of_gt hLI
  have F' := F.change hs nIL fresh0
  have N' : News h₀ Lg h' ((I, oI') :: (D, W.listOf its.toArray nD) :: PL P h₀ s₀) := fun q hq => by
    rcases List.mem_cons.mp hq with rfl | hq
    · exact ⟨hoI, nIL, fresh0⟩
    · have hne : q.1 ≠ I := by
        rcases List.mem_cons.mp hq with rfl | hq
        · exact Nat.ne_of_lt hDI
        · exact fun e => notI (e ▸ PL_P q hq)
      have n := N q (.tail _ hq)
      exact ⟨(hs.2 _ hne).trans n.1, n.2⟩
  clear N F hs
  dsimp only
  replace F' := frB [(Str.ofString "last_interval", lv)] (List.forall_mem_cons.mpr ⟨e1, List.forall_mem_nil _⟩) F'
  dsimp only [kstB] at F'
  k_steps
  refine seg_execs_cons (seg_If ?_)
  k_steps
  · -- the end
    have hx : x = 127 := by assumption
    subst hx
    obtain ⟨ho, hf⟩ : all.drop (all.length - n) = [] ∧ fin = true := by
      unfold outsOk at hout
      rwa [if_pos rfl] at hout
    have hn0 : n = 0 := by
      have := congrArg List.length ho
      rw [List.length_drop] at this
      simp at this
      (first | (with_reducible first | assumption | exact Nat.le_trans (by assumption) (by decide) | exact Nat.lt_of_le_of_lt (by assumption) (by decide) | (refine Nat.ne_of_lt ?_; (repeat (first | assumption | refine Nat.lt_trans (by assumption) ?_)); done) | (refine Nat.ne_of_gt ?_; (repeat (first | assumption | refine Nat.lt_trans (by assumption) ?_)); done) | ((repeat (first | assumption | refine Nat.lt_trans (by assumption) ?_)); done)) | omega)
    rename Fr h₀ Lg _ _ => F9
    rename News h₀ Lg _ _ => N9
    refine seg_execs_cons (seg_Return_none ?_)
    refine seg_leaf (.ok (.ret .none)) ?_
    show Seg _ _ _ _ _ _ _ (leafOf (.ok (.ret .none))) [] _
    refine seg_end _ ⟨rfl, hn0, hf, ?_⟩
    exact PL_mv hst F9 (news_t (news_t N9)) _
  · refine seg_execs_nil ?_
    dsimp only
    refine seg_execs_cons (seg_If ?_)
    k_steps
    · -- the last one for ever
      have hx : x = 0 := by assumption
      subst hx
      obtain ⟨l, rfl, hf, ho⟩ : ∃ l, last = some l ∧ fin = false ∧ ∀ o ∈ all.drop (all.length - n), o = l := by
        unfold outsOk at hout
        rwa [if_neg (by decide), if_pos rfl] at hout
      obtain ⟨tl, rfl⟩ := hlv
      refine seg_execs_cons (seg_If ?_)
      k_steps
      refine seg_execs_nil ?_
      dsimp only
      refine seg_execs_cons (seg_While ?_)
      intro p2
      rename Fr h₀ Lg _ _ => F9
      rename News h₀ Lg _ _ => N9
      have hn0 : n ≠ 0 := by
        rcases hfn with e | e
        · rw [hf] at e; cases e
        · exact Nat.ne_of_gt e
      refine yield_ind (GInv2 P h₀ Lg I D oI' (W.listOf its.toArray nD) l all) ?_ _ _ _ hn0 ⟨_, _, _, _, rfl, hst, F9, N9, by with_unfolding_all rfl, hn, ho⟩
      rintro n s₀ s1 ⟨h, tk, m, t, rfl, hst, F, N, e1, hn, ho⟩ ih2
      replace F := frB [(Str.ofString "last_interval", .int l t)] (List.forall_mem_cons.mpr ⟨e1, List.forall_mem_nil _⟩) F
      dsimp only [kstB] at F
      refine seg_whileLoop ?_
      k_steps
      refine seg_execs_cons (seg_Expr_Yield rfl rfl rfl ?_)
      k_steps
      rename Fr h₀ Lg _ _ => F9
      rename News h₀ Lg _ _ => N9
      have e5 : all.getD (all.length - 1 - n) 0 = l := ho _ (by rw [drop_head hn]; exact .head _)
      rename_i kap hkap
      refine ⟨⟨t, by rw [e5]⟩, PL_mv hst F9 (news_t (news_t N9)) _, ?_⟩
      by_cases hn0 : n = 0
      · exact .inl ⟨hn0, hf⟩
      · refine .inr ⟨⟨F9.keep, fun _ _ _ e => e⟩, fun s3 hkp => hkap .none s3 ?_⟩
        dsimp only
        refine seg_execs_nil ?_
        dsimp only
        refine seg_again rfl ?_
        obtain ⟨F10, N10⟩ := wake rfl F9 N9 notL notI notD hkp
        refine ih2 _ _ hn0 ⟨_, _, _, _, rfl, hkp.1, F10, N10, by with_unfolding_all rfl, Nat.le_of_succ_le hn, fun o hoo => ho o ?_⟩
        rw [drop_head hn]
        exact .tail _ hoo
    · -- an interval
      have hx1 : x ≠ 127 := by assumption
      have hx2 : x ≠ 0 := by assumption
      refine seg_execs_nil ?_
      dsimp only
      obtain ⟨os, ho1, ho2⟩ : ∃ os, all.drop (all.length - n) = x :: os ∧ outsOk r (some x) os fin := by
        unfold outsOk at hout
        rw [if_neg hx1, if_neg hx2] at hout
        split at hout
        · exact hout.elim
        · rename_i o os e
          exact ⟨os, by rw [e, hout.1], hout.2⟩
      obtain ⟨n, rfl⟩ : ∃ n', n = n' + 1 := by
        refine ⟨n - 1, ?_⟩
        have := congrArg List.length ho1
        rw [List.length_drop, List.length_cons] at this
        (first | (with_reducible first | assumption | exact Nat.le_trans (by assumption) (by decide) | exact Nat.lt_of_le_of_lt (by assumption) (by decide) | (refine Nat.ne_of_lt ?_; (repeat (first | assumption | refine Nat.lt_trans (by assumption) ?_)); done) | (refine Nat.ne_of_gt ?_; (repeat (first | assumption | refine Nat.lt_trans (by assumption) ?_)); done) | ((repeat (first | assumption | refine Nat.lt_trans (by assumption) ?_)); done)) | omega)
      rw [drop_head hn] at ho1
      injection ho1 with e5 ho1
      refine seg_execs_cons (seg_Expr_Yield rfl rfl rfl ?_)
      k_steps
      rename Fr h₀ Lg _ _ => F9
      rename News h₀ Lg _ _ => N9
      rename_i kap hkap
      refine ⟨⟨tx, by rw [e5]⟩, PL_mv hst F9 (news_t (news_t N9)) _, ?_⟩
      by_cases hnf : n = 0 ∧ fin = false
      · exact .inl hnf
      · refine .inr ⟨⟨F9.keep, fun _ _ _ e => e⟩, fun s3 hkp => hkap .none s3 ?_⟩
        dsimp only
        obtain ⟨F10, N10⟩ := wake rfl F9 N9 notL notI notD hkp
        refine seg_execs_cons (seg_stmt ?_)
        k_steps
        refine seg_execs_nil ?_
        dsimp only
        refine seg_again rfl ?_
        rename Fr h₀ Lg _ _ => F11
        rename News h₀ Lg _ _ => N11
        refine ih _ _ _ ⟨_, _, _, some x, .int x tx, oI', rfl, hkp.1, F11, c1', c2', N11, by with_unfolding_all rfl, ⟨tx, rfl⟩, ?_, Nat.le_of_succ_le hn, ?_, ?_⟩
        · exact (List.getElem?_eq_some_iff.mp hjx).1
        · rw [hdr2, ho1]; exact ho2
        · cases fin with
          | true => exact .inl rfl
          | false => exact .inr (Nat.pos_of_ne_zero fun e => hnf ⟨e, rfl⟩)
end Mine
end
section
open PySem PySem.W PyProof.Rows Mine PySem.Calls
set_option Elab.async false
set_option maxRecDepth 100000
set_option maxHeartbeats 2000000
namespace Mine
theorem GenAtL.keep {w : World} {AG : Around} {all : List Int} {fin : Bool} {P : Addr → Prop} {h₀ : Heap} {a : Addr} {g i : Nat} {s s' : Shared} (S : GenAtL w AG all fin P h₀ a g i s) (hk : ∀ b o, ¬ P b → s.heap.get? b = some o → s'.heap.get? b = some o) (hg : s'.gens = s.gens)
    (ha : ∀ o, s.heap.get? a = some o → s'.heap.get? a = some o) : GenAtL w AG all fin P h₀ a g i s' := by
  obtain ⟨⟨o, nm, qn, ho, r⟩, hgo⟩ := S
  refine ⟨⟨o, nm, qn, ha _ ho, r⟩, fun hor => ?_⟩
  obtain ⟨gs, hgs, hgo⟩ := hgo hor
  exact ⟨gs, by rw [hg]; exact hgs, fun s'' hP hkp => hgo s'' hP ⟨hkp.1, fun b o hb e => hkp.2 b o hb (hk b o hb e)⟩⟩
section
variable {w : World} {A : Around} {all : List Int} {P : Addr → Prop} {h₀ : Heap} {a S : Addr} {g : Nat} {R : Result → Shared → Prop}
theorem take_snocI {l : List Int} {i : Nat} (h : i < l.length) : l.take i ++ [l.getD i 0] = l.take (i + 1) := by
  rw [List.take_add_one, List.getElem?_eq_getElem h]
  simp [List.getD, h]
theorem extend_loopG (hh : A.handled = none) (hroom : A.in1.depth < recursionLimit) (hl : h₀.NoLimit) (hS : P S) (ha : P a) (haS : a ≠ S) (hb : ∀ b o, h₀.get? b = some o → P b ∧ b ≠ S) (hn : all.length ≤ 1000) (res : Value) :
    ∀ (k i : Nat) (s : Shared) (acc : List Value) (c : Nat), all.length - i = k → i ≤ all.length → GenAtL w A.in1.in1 all true P h₀ a g i s → h₀.StaysIn s.heap → (∀ b, P b → ∃ o, s.heap.get? b = some o) → s.heap.get? S = some (lsO acc c) → IntsAre acc (all.take i) →
    (∀ h' tk gs acc' c', (∀ b o, P b → b ≠ S → s.heap.get? b = some o → h'.get? b = some o) → (AllBare s.gens → AllBare gs) → h'.get? S = some (lsO acc' c') → IntsAre acc' all → R (.ok (.ret res)) { s with heap := h', toks := tk, gens := gs }) →
    codeAny (model PRG w) A (.builtin "list.extend.loop" ⟨[.ref S, .ref a, res], []⟩) R s := by
  intro k
  induction k with
  | zero =>
    intro i s acc c hk hi hst hs0 hal hSo hacc hR
    have hin : i = all.length := by (first | (with_reducible first | assumption | exact Nat.le_trans (by assumption) (by decide) | exact Nat.lt_of_le_of_lt (by assumption) (by decide) | (refine Nat.ne_of_lt ?_; (repeat (first | assumption | refine Nat.lt_trans (by assumption) ?_)); done) | (refine Nat.ne_of_gt ?_; (repeat (first | assumption | refine Nat.lt_trans (by assumption) ?_)); done) | ((repeat (first | assumption | refine Nat.lt_trans (by assumption) ?_)); done)) | omega)
    subst hin
    rw [List.take_length] at hacc
    refine codeAny_builtin F.entry_extend_loop ?_
    rw [Around.under_plainId F.plain_extend_loop _]
    show wpAny _ A.in1 (pyNext (.ref a) >>= _) _ _ s
    refine wpAny_bind (gen_done hh hroom (hl.keeps hs0) hst hs0 hal fun h' tk gs hk hab => ?_)
    exact wpAny_pure (hR h' tk gs acc c (fun b o hP _ e => hk b o hP e) hab (hk _ _ hS hSo) hacc)
  | succ k ih =>
    intro i s acc c hk hi hst hs0 hal hSo hacc hR
    have hlt : i < all.length := by (first | (with_reducible first | assumption | exact Nat.le_trans (by assumption) (by decide) | exact Nat.lt_of_le_of_lt (by assumption) (by decide) | (refine Nat.ne_of_lt ?_; (repeat (first | assumption | refine Nat.lt_trans (by assumption) ?_)); done) | (refine Nat.ne_of_gt ?_; (repeat (first | assumption | refine Nat.lt_trans (by assumption) ?_)); done) | ((repeat (first | assumption | refine Nat.lt_trans (by assumption) ?_)); done)) | omega)
    refine codeAny_builtin F.entry_extend_loop ?_
    rw [Around.under_plainId F.plain_extend_loop _]
    show wpAny _ A.in1 (pyNext (.ref a) >>= _) _ _ s
    refine wpAny_bind (gen_item hh hroom (hl.keeps hs0) hst hlt hs0 hal ha fun t h' tk gs hk hab hst' => ?_)
    have hS' := hk _ _ hS hSo
    show wpAny _ A.in1 (updateSeq S (·.push (Value.int (all.getD i 0) t)) >>= _) _ _ _
    refine wpAny_bind ?_
    have hlen := hacc.length
    rw [List.length_take] at hlen
    have e5 : acc.toArray.push (Value.int (all.getD i 0) t) = (acc ++ [Value.int (all.getD i 0) t]).toArray := by simp
    refine wpAny_updateSeq hS' rfl (wpAny_pure ⟨plainId_quiet F.plain_extend_loop _, ?_⟩) (by simp; rw [sizeLine_eq]; (first | (with_reducible first | assumption | exact Nat.le_trans (by assumption) (by decide) | exact Nat.lt_of_le_of_lt (by assumption) (by decide) | (refine Nat.ne_of_lt ?_; (repeat (first | assumption | refine Nat.lt_trans (by assumption) ?_)); done) | (refine Nat.ne_of_gt ?_; (repeat (first | assumption | refine Nat.lt_trans (by assumption) ?_)); done) | ((repeat (first | assumption | refine Nat.lt_trans (by assumption) ?_)); done)) | omega)) (by simp; rw [sizeLine_eq]; (first | (with_reducible first | assumption | exact Nat.le_trans (by assumption) (by decide) | exact Nat.lt_of_le_of_lt (by assumption) (by decide) | (refine Nat.ne_of_lt ?_; (repeat (first | assumption | refine Nat.lt_trans (by assumption) ?_)); done) | (refine Nat.ne_of_gt ?_; (repeat (first | assumption | refine Nat.lt_trans (by assumption) ?_)); done) | ((repeat (first | assumption | refine Nat.lt_trans (by assumption) ?_)); done)) | omega))
    have hD := Heap.get?_update_self (Obj.mapSeq (·.push (Value.int (all.getD i 0) t))) hS' rfl
    have oth : ∀ b o, b ≠ S → h'.get? b = some o → (h'.update S (Obj.mapSeq (·.push (Value.int (all.getD i 0) t)))).get? b = some o := fun b o hb e => (Heap.get?_update_other _ _ (Ne.symm hb)).trans e
    refine ih (i + 1) _ (acc ++ [.int (all.getD i 0) t]) _ (sub_nx (by assumption)) hlt (hst'.keep (fun b o hb e => oth b o (fun q => hb (q ▸ hS)) e) rfl fun o e => oth a o haS e) (fun b o e => ?_) (fun b hPb => ?_) (hD.trans (by simp [Obj.mapSeq, lsO, W.listOf]; rfl)) ?_ fun h'' tk' gs' acc' c' hk' hab' hS'' hacc' => ?_
    · obtain ⟨p1, p2⟩ := hb b o e
      exact oth b o p2 (hk b o p1 (hs0 b o e))
    · by_cases e : b = S
      · rw [e]; exact ⟨_, hD⟩
      · obtain ⟨o, ho⟩ := hal b hPb
        exact ⟨o, oth b o e (hk b o hPb ho)⟩
    · rw [← take_snocI hlt]
      exact ints_snoc hacc
    · exact hR h'' tk' gs' acc' c' (fun b o hP hne e => hk' b o hP hne (oth b o hne (hk b o hP e))) (fun q => hab' (hab q)) hS'' hacc'
end
section
variable {w : World} {A : Around} {E : Value → Shared → Prop} {s : Shared} {all : List Int} {h₀ : Heap} {a : Addr} {g : Nat} {Q : Value → Shared → Prop}
theorem call_list_genL (hh : A.handled = none) (hroom : A.in1.in1.depth < recursionLimit) (hl : h₀.NoLimit) (hs0 : h₀.StaysIn s.heap) (hn : all.length ≤ 1000) (Lg Dg : Addr) (hL0 : h₀.get? Lg = none) (hD0 : h₀.get? Dg = none) (hLs : Lg < s.heap.objs.size) (hDs : Dg < s.heap.objs.size) (haL : a ≠ Lg) (haD : a ≠ Dg)
    (hG : ∀ P : Addr → Prop, (∀ b, P b → b ≠ Lg ∧ b ≠ Dg) → GenAtL w A.in1.in1.in1 all true P h₀ a g 0 s)
    (h : ∀ S nS its h' tk gs, S = s.heap.objs.size → IntsAre its all → h'.get? S = some (lsO its nS) → (∀ b o, b ≠ Lg → b ≠ Dg → s.heap.get? b = some o → h'.get? b = some o) → (AllBare s.gens → AllBare gs) → Q (.ref S) { s with heap := h', toks := tk, gens := gs }) :
    wpAny (model PRG w) A (call (.type "list") [.ref a]) Q E s := by
  obtain ⟨S, hSe⟩ : ∃ S : Nat, s.heap.objs.size = S := ⟨_, rfl⟩
  have hG0 := hG (fun _ => False) (fun _ => False.elim)
  have hg := hG0.1
  have haS : a < S := by obtain ⟨o, _, _, e, _⟩ := hg; rw [← hSe]; exact Heap.lt_size e
  rw [hSe] at hLs hDs
  refine callType_codes (Q₁ := fun obj s₁ => obj = .ref s.heap.objs.size ∧ s₁ = { s with heap := s.heap.push { cls := .type "list", data := .seq #[] } }) F.called_list (F.typeCall_list_1 _) F.entry_list_init
    (code_list_new _ ⟨rfl, rfl⟩) fun obj s₁ h₁ => ?_
  obtain ⟨rfl, rfl⟩ := h₁
  have hS : (s.heap.push { cls := .type "list", data := .seq #[] }).get? s.heap.objs.size = some { cls := .type "list", data := .seq #[] } := Heap.get?_push_size _ rfl
  rw [hSe] at hS ⊢
  have k1 : ∀ b o, s.heap.get? b = some o → (s.heap.push { cls := .type "list", data := .seq #[] }).get? b = some o := fun b o e => Heap.get?_push_of_some _ e
  have hlt : ∀ b o, s.heap.get? b = some o → b ≠ S := fun b o e => Nat.ne_of_lt (hSe ▸ Heap.lt_size e)
  generalize s.heap.push { cls := .type "list", data := .seq #[] } = H1 at hS k1 ⊢
  refine ⟨⟨_, hS, rfl⟩, F.args_list_init_2 _ _, ?_⟩
  show wpAny _ A.in1.in1 (do let old ← Builtin.List.listItems (.ref S); Builtin.List.listUpdate (.ref S) (fun _ => #[]); letGo old.toList.reverse; Builtin.List.listExtendWith (.ref S) (.ref a) .none) _ _ _
  refine wpAny_bind ?_
  unfold Builtin.List.listItems
  refine wpAny_bind (wpAny_seqItems hS rfl (wpAny_pure ?_))
  show wpAny _ A.in1.in1 (updateSeq S (fun _ => #[]) >>= fun _ => letGo (#[] : Array Value).toList.reverse >>= fun _ => Builtin.List.listExtendWith (.ref S) (.ref a) .none) _ _ _
  refine wpAny_bind (wpAny_updateSeq hS rfl ?_)
  have hS₂ := Heap.get?_update_self (Obj.mapSeq (fun _ => (#[] : Array Value))) hS rfl
  have k2 : ∀ b o, s.heap.get? b = some o → (H1.update S (Obj.mapSeq (fun _ => (#[] : Array Value)))).get? b = some o := fun b o e => (Heap.get?_update_other _ _ (Ne.symm (hlt b o e))).trans (k1 b o e)
  refine wpAny_bind (wpAny_letGo ?_)
  generalize H1.update S (Obj.mapSeq (fun _ => (#[] : Array Value))) = H2 at hS₂ k2 ⊢
  unfold Builtin.List.listExtendWith
  have hg2 : H2.IsGen a g := by
    obtain ⟨o, nm, qn, ho, r⟩ := hg
    exact ⟨o, nm, qn, k2 _ _ ho, r⟩
  refine wpAny_bind (wpAny_typeOf (hg2.typeIs (s := { s with heap := H2 })) ?_)
  have haSn : S ≠ a := Nat.ne_of_gt haS
  have h1 : Builtin.List.listSameRef (.ref S) (.ref a) = false := by simp [Builtin.List.listSameRef, haSn]
  have h2 : (Value.type "generator" == Value.type "list") = false := by decide
  have h3 : (Value.type "generator" == Value.type "tuple") = false := by decide
  simp only [h1, h2, h3, Bool.or_false, Bool.false_eq_true, if_false]
  refine wpAny_bind (wpAny_pyIter_gen hg2 ?_)
  refine wpAny_bind (wpAny_holding ?_)
  unfold Builtin.List.listLengthHint
  refine wpAny_bind (wpAny_specialOf (hg2.typeIs (s := { s with heap := H2 })) F.gen_no_len ?_)
  show wpAny _ A.in1.in1 (specialOf (Value.ref a) (Str.ofString "__length_hint__") >>= _) _ _ _
  refine wpAny_bind (wpAny_specialOf (hg2.typeIs (s := { s with heap := H2 })) F.gen_no_hint ?_)
  refine wpAny_pure ?_
  show wpAny _ A.in1.in1 (rule "list.extend.makes-room" >>= fun _ => Builtin.List.listTouch (.ref S) >>= fun _ =>
    again (.builtin "list.extend.loop" ⟨[.ref S, .ref a, .none], []⟩)) _ _ _
  refine wpAny_bind (wpAny_rule ?_)
  refine wpAny_bind ?_
  show wpAny _ A.in1.in1 (updateSeq S (·.push .none) >>= fun _ => updateSeq S (·.pop)) _ _ _
  refine wpAny_bind (wpAny_updateSeq hS₂ rfl ?_)
  have hS₃ := Heap.get?_update_self (Obj.mapSeq (·.push Value.none)) hS₂ rfl
  refine wpAny_updateSeq hS₃ rfl ?_
  have hS₄ := Heap.get?_update_self (Obj.mapSeq (·.pop)) hS₃ rfl
  have k3 : ∀ b o, s.heap.get? b = some o → ((H2.update S (Obj.mapSeq (·.push Value.none))).update S (Obj.mapSeq (·.pop))).get? b = some o :=
    fun b o e => (Heap.get?_update_other _ _ (Ne.symm (hlt b o e))).trans ((Heap.get?_update_other _ _ (Ne.symm (hlt b o e))).trans (k2 b o e))
  generalize (H2.update S (Obj.mapSeq (·.push Value.none))).update S (Obj.mapSeq (·.pop)) = H3 at hS₄ k3 ⊢
  obtain ⟨c₀, hS₅⟩ : ∃ c, H3.get? S = some (lsO [] c) := ⟨_, hS₄.trans (by simp [Obj.mapSeq, lsO, W.listOf]; rfl)⟩
  have eL : ∀ o, H3.get? Lg = some o → True := fun _ _ => trivial
  refine wpAny_pure ⟨plainId_quiet F.plain_extend_loop _, ?_⟩
  have hP0 : ∀ b, ((∃ o, H3.get? b = some o) ∧ b ≠ Lg ∧ b ≠ Dg) → b ≠ Lg ∧ b ≠ Dg := fun b hb => hb.2
  refine extend_loopG (A := A.in1) (P := fun b => (∃ o, H3.get? b = some o) ∧ b ≠ Lg ∧ b ≠ Dg) (g := g) hh hroom hl ⟨⟨_, hS₅⟩, Nat.ne_of_gt hLs, Nat.ne_of_gt hDs⟩ ?_ (Ne.symm haSn) (fun b o e => ⟨⟨⟨_, k3 b o (hs0 b o e)⟩, ?_, ?_⟩, hlt _ _ (hs0 b o e)⟩) hn _ all.length 0 { s with heap := H3 } [] c₀ rfl (Nat.zero_le _)
    (GenAtL.keep (s' := { s with heap := H3 }) (hG _ hP0) (fun b o _ e => k3 b o e) rfl fun o e => k3 a o e) (fun b o e => k3 b o (hs0 b o e)) (fun b hb => hb.1) hS₅ .nil fun h' tk gs acc' c' hk hab hSf hacc => ?_
  · obtain ⟨o, nm, qn, ho, r⟩ := hg
    exact ⟨⟨_, k3 _ _ ho⟩, haL, haD⟩
  · rintro rfl; rw [hL0] at e; cases e
  · rintro rfl; rw [hD0] at e; cases e
  · exact ⟨rfl, h S c' acc' h' tk gs hSe.symm hacc hSf (fun b o b1 b2 e => hk b o ⟨⟨_, k3 b o e⟩, b1, b2⟩ (hlt b o e) (k3 b o e)) hab⟩
end
end Mine
end
section
open PySem PySem.W PyProof.Rows Mine PySem.Calls
set_option Elab.async false
set_option maxRecDepth 100000
set_option maxHeartbeats 2000000
namespace Mine
section
variable {w : World} {A : Around} {E : Value → Shared → Prop} {s : Shared} {all : List Int} {P : Addr → Prop} {h₀ : Heap} {a : Addr} {g i : Nat}
theorem nextOf_genQ {a : Addr} {g n : Nat} {gs : GenState} {P : Nat → Shared → Shared → Prop} {Y : Protocol} {Q : Value → Shared → Prop}
    (hl : s.heap.NoLimit) (hroom : A.depth < recursionLimit) (hg : s.heap.IsGen a g) (hgs : s.gens[g]? = some gs)
    (hgo : gs.Goes (model PRG w) A.in1 (fun n s₀ r s₁ => r = .ok (.ret .none) ∧ P n s₀ s₁) Y n (.send .none) (s.setGen g .running))
    (hY : ∀ v s₁ gs', gs'.bare = true → Y (n - 1) (s.setGen g .running) v s₁ (fun r' s'' => match n with
        | 0 => False
        | m + 1 => gs'.Goes (model PRG w) A.in1 (fun n s₀ r s₁ => r = .ok (.ret .none) ∧ P n s₀ s₁) Y m r' s'') → Q v (s₁.setGen g gs'))
    (hP : ∀ s₁, P n (s.setGen g .running) s₁ → False) :
    wpAny (model PRG w) A (Builtin.SmallTypes.nextOf (.ref a)) Q E s := by
  unfold Builtin.SmallTypes.nextOf
  refine wpAny_bind (wpAny_callSpecial?_slot (name := Str.ofString "__next__") hg.typeIs slot_gen_next
    (wpAny_call_entry slot_gen_next hg.typeIs entry_gen_next ?_ (args_gen_next _)))
  show wpAny _ _ (Builtin.Generator.genWake (.ref a) (.send .none)) _ _ s
  unfold Builtin.Generator.genWake
  refine wpAny_bind (wpAny_holding (wpAny_genNumber hg (wpAny_bind (wpAny_genState hgs ?_))))
  cases gs with
  | running => exact hgo.elim
  | finished => exact hgo.elim
  | _ =>
    refine wpAny_bind (wpAny_roomToWake hl hroom ?_)
    show wpAny _ _ (.resume g (.send .none) [] _) _ _ s
    refine wpAny_resumeQ hgs hgo (fun x s₁ hx => ?_) (fun v s₁ gs' hb hv => ?_)
    · obtain ⟨rfl, hp⟩ := hx
      exact (hP s₁ hp).elim
    · exact wpAny_pure ⟨v, rfl, wpAny_pure (hY v s₁ gs' hb hv)⟩
theorem gen_itemO {fin : Bool} {Q : Value → Shared → Prop} (hroom : A.depth < recursionLimit) (hl : s.heap.NoLimit) (S : GenAtL w A.in1 all fin P h₀ a g i s) (hi : i < all.length) (hst : h₀.StaysIn s.heap) (hP : ∀ b, P b → ∃ o, s.heap.get? b = some o) (ha : P a)
    (h : ∀ t h' tk gs, (∀ b o, P b → s.heap.get? b = some o → h'.get? b = some o) → (AllBare s.gens → AllBare gs) → GenAtL w A.in1 all fin P h₀ a g (i + 1) { s with heap := h', toks := tk, gens := gs } → Q (.int (all.getD i 0) t) { s with heap := h', toks := tk, gens := gs }) :
    wpAny (model PRG w) A (Builtin.SmallTypes.nextOf (.ref a)) Q E s := by
  obtain ⟨hg, hgo⟩ := S
  obtain ⟨gs, hgs, hgo⟩ := hgo (.inl hi)
  obtain ⟨m, hm⟩ := sub_ex hi
  rw [hm] at hgo
  refine nextOf_genQ hl hroom hg hgs (hgo _ (fun _ => hP) ⟨hst, fun _ _ _ e => e⟩) (fun v s₁ gs' hb hv => ?_) (fun s₁ hp => absurd hp.1 (Nat.succ_ne_zero m))
  obtain ⟨⟨t, rfl⟩, ⟨h', tk, rfl, hk⟩, hkap⟩ := hv
  have ei : all.length - 1 - (m + 1 - 1) = i := sub_at hm
  rw [ei]
  refine h t h' tk _ hk (fun hab => bare_set (bare_set hab rfl) hb) ⟨?_, fun hor => ?_⟩
  · obtain ⟨o, nm, qn, ho, r⟩ := hg
    exact ⟨o, nm, qn, hk _ _ ha ho, r⟩
  · refine ⟨gs', setGen_self (gs := .running) (setGen_self hgs), fun s'' _ hkp => ?_⟩
    have em : all.length - (i + 1) = m := sub_nx hm
    rw [em]
    rcases hkap with ⟨h1, h2⟩ | ⟨-, hkap⟩
    · exfalso
      rcases hor with e | e
      · exact absurd (Nat.sub_eq_zero_iff_le.mp ((sub_nx hm).trans h1)) (Nat.not_le_of_lt e)
      · rw [h2] at e; cases e
    · exact hkap s'' hkp
structure ZAt (w : World) (AG : Around) (all : List Int) (P : Addr → Prop) (h₀ : Heap) (z TI TO a i2 l2 : Addr) (g : Nat) (ys : Array Value) (f0 : Value) (k : Nat) (s : Shared) : Prop where
  z : IsZip s.heap z TI TO f0
  TI : IsPair s.heap TI (.ref a) (.ref i2)
  TO : ∃ x y, IsPair s.heap TO x y
  i2 : s.heap.IsListIter i2 l2 k
  l2 : s.heap.IsList l2 ys
  G : GenAtL w AG all false P h₀ a g k s
  st : h₀.StaysIn s.heap
  al : ∀ b, P b → ∃ o, s.heap.get? b = some o
structure ZP (P : Addr → Prop) (h₀ : Heap) (z TI TO a i2 l2 : Addr) : Prop where
  D : ZipApart z TI TO a i2 l2 l2
  z0 : h₀.get? z = none
  TO0 : h₀.get? TO = none
  i20 : h₀.get? i2 = none
  h0 : ∀ b o, h₀.get? b = some o → P b
  z : P z
  TI : P TI
  TO : P TO
  a : P a
  i2 : P i2
  l2 : P l2
theorem zip_next_itemG {z TI TO i2 l2 : Addr} {k : Nat} {ys : Array Value} {y : Value} {Q : Value → Shared → Prop} (hroom : A.depth < recursionLimit) (hl : h₀.NoLimit) (D : ZP P h₀ z TI TO a i2 l2)
    (S : ZAt w A.in1 all P h₀ z TI TO a i2 l2 g ys .none k s) (hk : k < all.length) (hy : ys[k]? = some y)
    (hQ : ∀ T t h' tk gs, ¬ P T → IsPair h' T (.int (all.getD k 0) t) y → ZAt w A.in1 all P h₀ z TI TO a i2 l2 g ys (rawInt T) (k + 1) { s with heap := h', toks := tk, gens := gs } →
      (∀ c o, P c → c ≠ z → c ≠ TO → c ≠ i2 → s.heap.get? c = some o → h'.get? c = some o) → (AllBare s.gens → AllBare gs) → Q (.ref T) { s with heap := h', toks := tk, gens := gs }) :
    wpAny (model PRG w) A (Builtin.«zip.__next__» ⟨[.ref z], []⟩) (fun fin s' => ∃ v, fin = .done (.ret v) ∧ Q v s') E s := by
  obtain ⟨hz, hTI, ⟨x0, y0, hTO⟩, h2, hl2, hG, hst, hal⟩ := S
  have DD := D.D
  show wpAny _ _ (field (.ref z) 2 >>= _) _ _ _
  refine wpAny_bind (wpAny_field hz rfl (x := .bool false) rfl ?_)
  show wpAny _ _ (field (.ref z) 3 >>= _) _ _ _
  refine wpAny_bind (wpAny_field hz rfl (x := .ref TI) rfl ?_)
  refine wpAny_bind (wpAny_seqItems hTI rfl ?_)
  show wpAny _ _ (Builtin.SmallTypes.ownedTupleIsFree (.ref z) >>= _) _ _ _
  refine wpAny_bind ?_
  unfold Builtin.SmallTypes.ownedTupleIsFree
  refine wpAny_bind (wpAny_field hz rfl (x := .none) rfl (wpAny_pure ?_))
  simp only [if_true]
  refine wpAny_bind (wpAny_rule ?_)
  refine wpAny_bind (wpAny_field hz rfl (x := .ref TO) rfl ?_)
  refine wpAny_bind (wpAny_setField_rec hz (by simp) fun h₁ hz₁ hs₁ => ?_)
  replace hz₁ : IsZip h₁ z TI TO .ellipsis := hz₁
  refine wpAny_bind ?_
  simp only [List.zipIdx_cons, List.zipIdx_nil, List.forIn_cons, List.forIn_nil]
  refine wpAny_bind (wpAny_bind (wpAny_onRaise ?_))
  show wpAny _ _ (Builtin.SmallTypes.nextOf (.ref a) >>= _) _ _ _
  have st₁ : h₀.StaysIn h₁ := fun b o e => hs₁.extBut _ _ (fun q => by rw [q, D.z0] at e; cases e) (hst b o e)
  have al₁ : ∀ b, P b → ∃ o, h₁.get? b = some o := fun b hb => by
    by_cases e : b = z
    · exact ⟨_, e ▸ hz₁⟩
    · obtain ⟨o, ho⟩ := hal b hb
      exact ⟨o, hs₁.extBut _ _ e ho⟩
  refine wpAny_bind (gen_itemO (s := { s with heap := h₁ }) hroom (hl.keeps st₁) (GenAtL.keep (s' := { s with heap := h₁ }) hG (fun b o hb e => hs₁.extBut _ _ (fun q => hb (q ▸ D.z)) e) rfl fun o e => hs₁.extBut _ _ DD.i1z e) hk st₁ al₁ D.a fun t h₂ tk gs hk₂ hab hG₂ => wpAny_pure ?_)
  have hz₂ : IsZip h₂ z TI TO .ellipsis := hk₂ _ _ D.z hz₁
  have hTI₂ := hk₂ _ _ D.TI (hs₁.extBut _ _ DD.TIz hTI)
  have hTO₂ : IsPair h₂ TO x0 y0 := hk₂ _ _ D.TO (hs₁.extBut _ _ DD.TOz hTO)
  have h2₂ : h₂.IsListIter i2 l2 k := (h2.extBut hs₁.extBut DD.i2z).at fun o e => hk₂ _ o D.i2 e
  have hl2₂ : h₂.IsList l2 ys := (hl2.extBut hs₁.extBut DD.l2z).at fun o e => hk₂ _ o D.l2 e
  have st₂ : h₀.StaysIn h₂ := fun b o e => hk₂ _ _ (D.h0 b o e) (st₁ b o e)
  have al₂ : ∀ b, P b → ∃ o, h₂.get? b = some o := fun b hb => by
    obtain ⟨o, ho⟩ := al₁ b hb
    exact ⟨o, hk₂ _ _ hb ho⟩
  refine wpAny_bind (wpAny_seqItems hTO₂ rfl ?_)
  refine wpAny_bind (wpAny_updateSeq_pair hTO₂ fun h₃ hTO₃ hs₃ => ?_)
  replace hTO₃ : IsPair h₃ TO (.int (all.getD k 0) t) y0 := hTO₃
  refine wpAny_bind (wpAny_letGo (wpAny_pure ?_))
  refine wpAny_bind (wpAny_bind (wpAny_onRaise ?_))
  show wpAny _ _ (Builtin.SmallTypes.nextOf (.ref i2) >>= _) _ _ _
  refine wpAny_bind (wpAny_nextOf_list_item (h2₂.extBut hs₃.extBut DD.TOi2.symm) (hl2₂.extBut hs₃.extBut DD.l2TO) hy fun h₄ h2₄ hs₄ => wpAny_pure ?_)
  have hTO₄ : IsPair h₄ TO (.int (all.getD k 0) t) y0 := hs₄.extBut _ _ DD.TOi2 hTO₃
  refine wpAny_bind (wpAny_seqItems hTO₄ rfl ?_)
  refine wpAny_bind (wpAny_updateSeq_pair hTO₄ fun h₅ hTO₅ hs₅ => ?_)
  replace hTO₅ : IsPair h₅ TO (.int (all.getD k 0) t) y := hTO₅
  refine wpAny_bind (wpAny_letGo (wpAny_pure (wpAny_pure ?_)))
  refine wpAny_bind (wpAny_seqItems hTO₅ rfl ?_)
  refine wpAny_bind (wpAny_newTuple ?_)
  have k₅ : ∀ c o, c ≠ TO → c ≠ i2 → h₂.get? c = some o → h₅.get? c = some o := fun c o c2 c4 e => hs₅.extBut _ _ c2 (hs₄.extBut _ _ c4 (hs₃.extBut _ _ c2 e))
  have hz₅ : IsZip h₅ z TI TO .ellipsis := k₅ _ _ DD.TOz.symm DD.i2z.symm hz₂
  have h2₅ : h₅.IsListIter i2 l2 (k + 1) := h2₄.extBut hs₅.extBut DD.TOi2.symm
  have hzlt : z < h₅.objs.size := Heap.lt_size hz₅
  show wpAny _ _ (Builtin.SmallTypes.ownedTupleHandOut (.ref z) (.ref h₅.objs.size) >>= _) _ _ _
  refine wpAny_bind ?_
  unfold Builtin.SmallTypes.ownedTupleHandOut
  have hz₆ : IsZip (h₅.push { cls := .type "tuple", data := .seq #[.int (all.getD k 0) t, y] }) z TI TO .ellipsis := Heap.get?_push_of_some _ hz₅
  refine wpAny_bind (wpAny_setField_rec hz₆ (by simp) fun h₇ hz₇ hs₇ => ?_)
  replace hz₇ : IsZip h₇ z TI TO (rawInt h₅.objs.size) := hz₇
  refine wpAny_setField_rec hz₇ (by simp) fun h₈ hz₈ hs₈ => ?_
  replace hz₈ : IsZip h₈ z TI TO (rawInt h₅.objs.size) := hz₈
  have up : ∀ c o, c ≠ z → h₅.get? c = some o → h₈.get? c = some o := fun c o c1 e => hs₈.extBut _ _ c1 (hs₇.extBut _ _ c1 (Heap.get?_push_of_some _ e))
  have hT₈ : IsPair h₈ h₅.objs.size (.int (all.getD k 0) t) y := hs₈.extBut _ _ (Nat.ne_of_gt hzlt) (hs₇.extBut _ _ (Nat.ne_of_gt hzlt) (Heap.get?_push_size _ rfl))
  have al₅ : ∀ b, P b → ∃ o, h₅.get? b = some o := fun b hb => by
    by_cases e1 : b = TO
    · exact ⟨_, e1 ▸ hTO₅⟩
    · by_cases e2 : b = i2
      · obtain ⟨o, ho, _⟩ := h2₅
        exact ⟨o, e2 ▸ ho⟩
      · obtain ⟨o, ho⟩ := al₂ b hb
        exact ⟨o, k₅ _ _ e1 e2 ho⟩
  refine wpAny_pure ⟨_, rfl, ?_⟩
  show Q (.ref h₅.objs.size) _
  refine hQ h₅.objs.size t h₈ tk gs (fun hb => ?_) hT₈ ⟨hz₈, up _ _ DD.TIz (k₅ _ _ DD.TITO DD.TIi2 hTI₂), ⟨_, _, up _ _ DD.TOz hTO₅⟩, h2₅.at fun o e => up _ o DD.i2z e, hl2₂.at fun o e => up _ o DD.l2z (k₅ _ o DD.l2TO DD.l2i2 e), ?_, fun b o e => ?_, fun b hb => ?_⟩ (fun c o hP c1 c2 c3 e => ?_) hab
  · obtain ⟨o, ho⟩ := al₅ _ hb
    exact absurd (Heap.lt_size ho) (Nat.lt_irrefl _)
  · exact GenAtL.keep hG₂ (fun b o hb e => up _ _ (fun q => hb (q ▸ D.z)) (k₅ _ _ (fun q => hb (q ▸ D.TO)) (fun q => hb (q ▸ D.i2)) e)) rfl fun o e => up _ _ DD.i1z (k₅ _ _ DD.TOi1.symm DD.i12 e)
  · exact up _ _ (fun q => by rw [q, D.z0] at e; cases e) (k₅ _ _ (fun q => by rw [q, D.TO0] at e; cases e) (fun q => by rw [q, D.i20] at e; cases e) (st₂ b o e))
  · by_cases e : b = z
    · exact ⟨_, e ▸ hz₈⟩
    · obtain ⟨o, ho⟩ := al₅ b hb
      exact ⟨o, up _ _ e ho⟩
  · exact up _ _ c1 (k₅ _ _ c2 c3 (hk₂ _ _ hP (hs₁.extBut _ _ c1 e)))
theorem zip_next_endG {z TI TO i2 l2 : Addr} {k : Nat} {ys : Array Value} {Q : Fin → Shared → Prop} (hh : A.handled = none) (hroom : A.depth < recursionLimit) (hl : h₀.NoLimit) (D : ZP P h₀ z TI TO a i2 l2)
    (S : ZAt w A.in1 all P h₀ z TI TO a i2 l2 g ys .none k s) (hk : k < all.length) (hy : ys[k]? = none)
    (hE : ∀ h' tk gs e, (∀ c o, P c → c ≠ z → c ≠ TO → c ≠ i2 → s.heap.get? c = some o → h'.get? c = some o) → (AllBare s.gens → AllBare gs) → (∃ o, h'.get? e = some o ∧ o.cls = .type "StopIteration") → E (.ref e) { s with heap := h', toks := tk, gens := gs }) :
    wpAny (model PRG w) A (Builtin.«zip.__next__» ⟨[.ref z], []⟩) Q E s := by
  obtain ⟨hz, hTI, ⟨x0, y0, hTO⟩, h2, hl2, hG, hst, hal⟩ := S
  have DD := D.D
  show wpAny _ _ (field (.ref z) 2 >>= _) _ _ _
  refine wpAny_bind (wpAny_field hz rfl (x := .bool false) rfl ?_)
  show wpAny _ _ (field (.ref z) 3 >>= _) _ _ _
  refine wpAny_bind (wpAny_field hz rfl (x := .ref TI) rfl ?_)
  refine wpAny_bind (wpAny_seqItems hTI rfl ?_)
  show wpAny _ _ (Builtin.SmallTypes.ownedTupleIsFree (.ref z) >>= _) _ _ _
  refine wpAny_bind ?_
  unfold Builtin.SmallTypes.ownedTupleIsFree
  refine wpAny_bind (wpAny_field hz rfl (x := .none) rfl (wpAny_pure ?_))
  simp only [if_true]
  refine wpAny_bind (wpAny_rule ?_)
  refine wpAny_bind (wpAny_field hz rfl (x := .ref TO) rfl ?_)
  refine wpAny_bind (wpAny_setField_rec hz (by simp) fun h₁ hz₁ hs₁ => ?_)
  replace hz₁ : IsZip h₁ z TI TO .ellipsis := hz₁
  refine wpAny_bind ?_
  simp only [List.zipIdx_cons, List.zipIdx_nil, List.forIn_cons, List.forIn_nil]
  refine wpAny_bind (wpAny_bind (wpAny_onRaise ?_))
  show wpAny _ _ (Builtin.SmallTypes.nextOf (.ref a) >>= _) _ _ _
  have st₁ : h₀.StaysIn h₁ := fun b o e => hs₁.extBut _ _ (fun q => by rw [q, D.z0] at e; cases e) (hst b o e)
  have al₁ : ∀ b, P b → ∃ o, h₁.get? b = some o := fun b hb => by
    by_cases e : b = z
    · exact ⟨_, e ▸ hz₁⟩
    · obtain ⟨o, ho⟩ := hal b hb
      exact ⟨o, hs₁.extBut _ _ e ho⟩
  refine wpAny_bind (gen_itemO (s := { s with heap := h₁ }) hroom (hl.keeps st₁) (GenAtL.keep (s' := { s with heap := h₁ }) hG (fun b o hb e => hs₁.extBut _ _ (fun q => hb (q ▸ D.z)) e) rfl fun o e => hs₁.extBut _ _ DD.i1z e) hk st₁ al₁ D.a fun t h₂ tk gs hk₂ hab hG₂ => wpAny_pure ?_)
  have hz₂ : IsZip h₂ z TI TO .ellipsis := hk₂ _ _ D.z hz₁
  have hTO₂ : IsPair h₂ TO x0 y0 := hk₂ _ _ D.TO (hs₁.extBut _ _ DD.TOz hTO)
  have h2₂ : h₂.IsListIter i2 l2 k := (h2.extBut hs₁.extBut DD.i2z).at fun o e => hk₂ _ o D.i2 e
  have hl2₂ : h₂.IsList l2 ys := (hl2.extBut hs₁.extBut DD.l2z).at fun o e => hk₂ _ o D.l2 e
  refine wpAny_bind (wpAny_seqItems hTO₂ rfl ?_)
  refine wpAny_bind (wpAny_updateSeq_pair hTO₂ fun h₃ hTO₃ hs₃ => ?_)
  refine wpAny_bind (wpAny_letGo (wpAny_pure ?_))
  refine wpAny_bind (wpAny_bind (wpAny_onRaise ?_))
  show wpAny _ _ (Builtin.SmallTypes.nextOf (.ref i2) >>= _) _ _ _
  refine wpAny_bind (wpAny_nextOf_list_end hh (h2₂.extBut hs₃.extBut DD.TOi2.symm) (hl2₂.extBut hs₃.extBut DD.l2TO) hy fun h₄ e hs₄ he => ?_)
  obtain ⟨oe, hoe, hce⟩ := he
  have hz₄ : IsZip h₄ z TI TO .ellipsis := hs₄ _ _ DD.i2z.symm (hs₃.extBut _ _ DD.TOz.symm hz₂)
  have hez : e ≠ z := fun x => by subst x; rw [hz₄] at hoe; cases hoe; simp at hce
  refine wpAny_setField_rec hz₄ (by simp) fun h₅ _ hs₅ => hE h₅ tk gs e (fun c o hP c1 c2 c3 x => hs₅.extBut _ _ c1 (hs₄ _ _ c3 (hs₃.extBut _ _ c2 (hk₂ _ _ hP (hs₁.extBut _ _ c1 x))))) hab ⟨oe, hs₅.extBut _ _ hez hoe, hce⟩
end
section
variable {w : World} {A : Around} {E : Value → Shared → Prop} {s : Shared} {all : List Int} {P : Addr → Prop} {h₀ : Heap} {a : Addr} {g i : Nat}
theorem pyNext_zipG_item {z TI TO i2 l2 : Addr} {k : Nat} {ys : Array Value} {y : Value} {Q : Option Value → Shared → Prop} (hroom : A.in1.depth < recursionLimit) (hl : h₀.NoLimit) (D : ZP P h₀ z TI TO a i2 l2)
    (S : ZAt w A.in1.in1 all P h₀ z TI TO a i2 l2 g ys .none k s) (hk : k < all.length) (hy : ys[k]? = some y)
    (hQ : ∀ T t h' tk gs, ¬ P T → IsPair h' T (.int (all.getD k 0) t) y → ZAt w A.in1.in1 all P h₀ z TI TO a i2 l2 g ys (rawInt T) (k + 1) { s with heap := h', toks := tk, gens := gs } →
      (∀ c o, P c → c ≠ z → c ≠ TO → c ≠ i2 → s.heap.get? c = some o → h'.get? c = some o) → (AllBare s.gens → AllBare gs) → Q (some (.ref T)) { s with heap := h', toks := tk, gens := gs }) :
    wpAny (model PRG w) A (pyNext (.ref z)) Q E s := by
  have hT : s.TypeIs (.ref z) "zip" := ⟨_, S.z, rfl⟩
  unfold pyNext
  exact wpAny_bind (wpAny_attempt (wpAny_callSpecial?_slot (name := Str.ofString "__next__") hT F.slot_zip_next
    (wpAny_call_entry F.slot_zip_next hT F.entry_zip_next
      (zip_next_itemG hroom hl D S hk hy fun T t h' tk gs a1 a2 a3 a4 a5 => wpAny_pure (hQ T t h' tk gs a1 a2 a3 a4 a5)) (F.args_zip_next_1 _))))
theorem pyNext_zipG_end {z TI TO i2 l2 : Addr} {k : Nat} {ys : Array Value} {Q : Option Value → Shared → Prop} (hh : A.handled = none) (hroom : A.in1.depth < recursionLimit) (hl : h₀.NoLimit) (D : ZP P h₀ z TI TO a i2 l2)
    (S : ZAt w A.in1.in1 all P h₀ z TI TO a i2 l2 g ys .none k s) (hk : k < all.length) (hy : ys[k]? = none)
    (hQ : ∀ h' tk gs, (∀ c o, P c → c ≠ z → c ≠ TO → c ≠ i2 → s.heap.get? c = some o → h'.get? c = some o) → (AllBare s.gens → AllBare gs) → Q none { s with heap := h', toks := tk, gens := gs }) :
    wpAny (model PRG w) A (pyNext (.ref z)) Q E s := by
  have hT : s.TypeIs (.ref z) "zip" := ⟨_, S.z, rfl⟩
  unfold pyNext
  refine wpAny_bind (wpAny_attempt (wpAny_callSpecial?_slot (name := Str.ofString "__next__") hT F.slot_zip_next
    (wpAny_call_entry F.slot_zip_next hT F.entry_zip_next (zip_next_endG hh hroom hl D S hk hy fun h' tk gs e hk he' he => ?_) (F.args_zip_next_1 _))))
  obtain ⟨o, ho, hc⟩ := he
  refine wpAny_bind (wpAny_isInstance (T := "StopIteration") (b := true) ⟨o, ho, hc⟩ isSubtype_stop ?_)
  exact wpAny_pure (hQ h' tk gs hk he')
abbrev zg1 (h : Heap) (l2 : Addr) : Heap := h.push { cls := .type "list_iterator", data := .fields #[.ref l2, .int 0 0] }
abbrev zg2 (h : Heap) (a l2 : Addr) : Heap := (zg1 h l2).push { cls := .type "tuple", data := .seq #[.ref a, .ref h.objs.size] }
abbrev zg3 (h : Heap) (a l2 : Addr) : Heap := (zg2 h a l2).push { cls := .type "tuple", data := .seq #[.none, .none] }
abbrev zg4 (h : Heap) (a l2 : Addr) : Heap := (zg3 h a l2).push { cls := .type "zip", data := .fields #[.none, .bool false, .bool false, .ref (zg1 h l2).objs.size, .ref (zg2 h a l2).objs.size] }
theorem meets_zip_newG (a l2 : Addr) (g : Nat) (ys : Array Value) :
    Meets (Builtin.«zip.__new__» ⟨[.type "zip", .ref a, .ref l2], []⟩) (fun _ R s => s.heap.IsGen a g ∧ s.heap.IsList l2 ys ∧
      R (.ok (.ret (.ref (zg3 s.heap a l2).objs.size))) { s with heap := zg4 s.heap a l2 }) :=
  .of_wp fun prog w A R s h => by
    obtain ⟨hp, g, d, tk, os⟩ := s; obtain ⟨hl1, hl2, h⟩ := h
    have hsub := sub_zip
    have hL1 : Heap.IsGen (Shared.heap ⟨hp, g, d, tk, os⟩) a _ := hl1
    have hL2 : Heap.IsList (Shared.heap ⟨hp, g, d, tk, os⟩) l2 ys := hl2
    wp_walk using wpAny_pyIter_gen hL1, wpAny_pyIter_list hL2
    exact ⟨_, rfl, h⟩
theorem call_zip_G {l2 : Addr} {ys : Array Value} {Q : Value → Shared → Prop} (hg : s.heap.IsGen a g) (hl2 : s.heap.IsList l2 ys)
    (h : ∀ h', IsZip h' (s.heap.objs.size + 3) (s.heap.objs.size + 1) (s.heap.objs.size + 2) .none → IsPair h' (s.heap.objs.size + 1) (.ref a) (.ref s.heap.objs.size) →
      IsPair h' (s.heap.objs.size + 2) .none .none → h'.IsListIter s.heap.objs.size l2 0 → h'.objs.size = s.heap.objs.size + 4 →
      (∀ c o, s.heap.get? c = some o → h'.get? c = some o) → Q (.ref (s.heap.objs.size + 3)) { s with heap := h' }) :
    wpAny (model PRG w) A (call (.type "zip") [.ref a, .ref l2]) Q E s := by
  refine callType_new F.called_zip (by decide) (F.typeCall_zip_2 _ _) (F.newCall_zip_2 _ _) (fun obj => F.args_object_init_3 obj _ _) F.entry_zip_new
    (meets_zip_newG a l2 g ys) ⟨hg, hl2, ?_⟩
  have z1 : (zg1 s.heap l2).objs.size = s.heap.objs.size + 1 := Heap.size_push ..
  have z2 : (zg2 s.heap a l2).objs.size = s.heap.objs.size + 2 := by rw [Heap.size_push, z1]
  have z3 : (zg3 s.heap a l2).objs.size = s.heap.objs.size + 3 := by rw [Heap.size_push, z2]
  have z4 : (zg4 s.heap a l2).objs.size = s.heap.objs.size + 4 := by rw [Heap.size_push, z3]
  have g4 : (zg4 s.heap a l2).get? (zg3 s.heap a l2).objs.size = some _ := Heap.get?_push_size _ rfl
  have g3 : (zg4 s.heap a l2).get? (zg2 s.heap a l2).objs.size = some _ := Heap.get?_push_of_some _ (Heap.get?_push_size _ rfl)
  have g2 : (zg4 s.heap a l2).get? (zg1 s.heap l2).objs.size = some _ := Heap.get?_push_of_some _ (Heap.get?_push_of_some _ (Heap.get?_push_size _ rfl))
  have g1 : (zg4 s.heap a l2).get? s.heap.objs.size = some _ := Heap.get?_push_of_some _ (Heap.get?_push_of_some _ (Heap.get?_push_of_some _ (Heap.get?_push_size _ rfl)))
  show _ ∧ _
  rw [z1, z2, z3] at g4
  rw [z2] at g3
  rw [z1] at g2
  rw [z3]
  exact ⟨⟨_, g4, rfl⟩, h _ g4 g2 g3 ⟨_, g1, rfl, rfl⟩ z4 fun c o x =>
    Heap.get?_push_of_some _ (Heap.get?_push_of_some _ (Heap.get?_push_of_some _ (Heap.get?_push_of_some _ x)))⟩
end
end Mine
end
section
open PySem PySem.W PyProof.Rows Mine PySem.Calls LCg
set_option Elab.async false
set_option maxRecDepth 100000
set_option maxHeartbeats 2000000
namespace Mine
theorem compLoopP {prog : Program} {w : World} {A : Around} {s : Shared} {elt iter : Expr} {elts : List Expr} {x1} {tp : Pos} {scope : Scope} {pos : Pos} {it acc : Value} {env : Env} {R : Result → Shared → Prop} (I : Nat → Shared → Prop)
    (turn : ∀ n s, I n s → ∀ (Qb : Shared → Prop) (E9 : Value → Shared → Prop), (∀ s', (∃ m, m < n ∧ I m s') → Qb s') → wpAny (model prog w) A (pyNext it) (fun r s₁ => match r with
      | none => R (.ok .next) s₁
      | some v => wpAny (model prog w) A (letOwnedTupleGo (.Tuple elts x1 tp) it v) (fun _ s₁' => wpAny (model prog w) A (assign (.Tuple elts x1 tp) env v) (fun _ s₂ =>
          wpAny (model prog w) A (eval elt env) (fun x s₄ => wpAny (model prog w) A (call (.builtin "list.append") [acc, x]) (fun _ s₅ => Qb s₅) E9 s₄) E9 s₂) E9 s₁') E9 s₁) E9 s)
    (n : Nat) (h : I n s) : codeAny (model prog w) A (.compLoop (.ListComp elt [⟨.Tuple elts x1 tp, iter, [], 0⟩] scope pos) 0 it acc env) R s :=
  LCp.codeAny_compLoop_pair I (fun n s hI => turn n s hI _ _ fun _ h => h) n h
section
variable {w : World} {A : Around} {E : Value → Shared → Prop} {s : Shared} {all : List Int} {P : Addr → Prop} {h₀ : Heap} {a : Addr} {g i : Nat}
theorem ZAt.move {AG : Around} {z TI TO i2 l2 D C : Addr} {ys : Array Value} {f0 : Value} {k : Nat} {s' : Shared} (S : ZAt w AG all P h₀ z TI TO a i2 l2 g ys f0 k s) 
    (hk : ∀ b o, b ≠ D → b ≠ C → s.heap.get? b = some o → s'.heap.get? b = some o) (hg : s'.gens = s.gens) (pD : P D) (pC : P C) (aD : ∃ o, s'.heap.get? D = some o) (aC : ∃ o, s'.heap.get? C = some o) (hD0 : h₀.get? D = none) (hC0 : h₀.get? C = none)
    (nD : ∀ b ∈ [z, TI, TO, a, i2, l2], b ≠ D ∧ b ≠ C) : ZAt w AG all P h₀ z TI TO a i2 l2 g ys f0 k s' := by
  obtain ⟨hz, hTI, ⟨x0, y0, hTO⟩, h2, hl2, hG, hst, hal⟩ := S
  have k' : ∀ b o, b ∈ [z, TI, TO, a, i2, l2] → s.heap.get? b = some o → s'.heap.get? b = some o := fun b o hb e => hk b o (nD b hb).1 (nD b hb).2 e
  refine ⟨k' _ _ (by simp) hz, k' _ _ (by simp) hTI, ⟨_, _, k' _ _ (by simp) hTO⟩, h2.at fun o e => k' _ _ (by simp) e, hl2.at fun o e => k' _ _ (by simp) e, hG.keep (fun b o hb e => hk b o (fun q => hb (q ▸ pD)) (fun q => hb (q ▸ pC)) e) hg fun o e => k' _ _ (by simp) e, fun b o e => ?_, fun b hb => ?_⟩
  · exact hk b o (fun q => by rw [q, hD0] at e; cases e) (fun q => by rw [q, hC0] at e; cases e) (hst b o e)
  · by_cases e1 : b = D
    · rw [e1]; exact aD
    · by_cases e2 : b = C
      · rw [e2]; exact aC
      · obtain ⟨o, ho⟩ := hal b hb
        exact ⟨o, hk b o e1 e2 ho⟩
theorem ZAt.free {AG : Around} {z TI TO i2 l2 : Addr} {ys : Array Value} {f0 : Value} {k : Nat} {h' : Heap} (S : ZAt w AG all P h₀ z TI TO a i2 l2 g ys f0 k s) (hP : ZP P h₀ z TI TO a i2 l2) (hz : IsZip h' z TI TO .none) (hs : Heap.SameBut z s.heap h') :
    ZAt w AG all P h₀ z TI TO a i2 l2 g ys .none k { s with heap := h' } := by
  obtain ⟨-, hTI, ⟨x0, y0, hTO⟩, h2, hl2, hG, hst, hal⟩ := S
  have D := hP.D
  have k' : ∀ b o, b ≠ z → s.heap.get? b = some o → h'.get? b = some o := fun b o hb e => hs.extBut b o hb e
  refine ⟨hz, k' _ _ D.TIz hTI, ⟨_, _, k' _ _ D.TOz hTO⟩, h2.at fun o e => k' _ _ D.i2z e, hl2.at fun o e => k' _ _ D.l2z e, hG.keep (fun b o hb e => k' b o (fun q => hb (q ▸ hP.z)) e) rfl fun o e => k' _ _ D.i1z e, fun b o e => ?_, fun b hb => ?_⟩
  · exact k' b o (fun q => by rw [q, hP.z0] at e; cases e) (hst b o e)
  · by_cases e1 : b = z
    · rw [e1]; exact ⟨_, hz⟩
    · obtain ⟨o, ho⟩ := hal b hb
      exact ⟨o, k' b o e1 ho⟩
def ZipAt (w : World) (A : Around) (h₀ : Heap) (L : Addr) (m : Str → Option Value) (Q : Value → Shared → Prop) (xv : Value) (s₁ : Shared) : Prop :=
  ∃ (z TI TO i2 l2 a Lg Dg : Addr) (g : Nat) (ys : List Value) (all : List Int) (news : List (Addr × Obj)), xv = .ref z ∧ ZipApart z TI TO a i2 l2 l2 ∧ IsZip s₁.heap z TI TO .none ∧ IsPair s₁.heap TI (.ref a) (.ref i2) ∧ (∃ x y, IsPair s₁.heap TO x y) ∧ s₁.heap.IsListIter i2 l2 0 ∧ s₁.heap.IsList l2 ys.toArray ∧
    (∀ b ∈ [z, TO, i2, Lg, Dg], h₀.get? b = none ∧ b ≠ L ∧ ∀ q ∈ news, q.1 ≠ b) ∧ (∀ b ∈ [z, TI, TO, a, i2, l2], b ≠ Lg ∧ b ≠ Dg) ∧ Lg < s₁.heap.objs.size ∧ Dg < s₁.heap.objs.size ∧ all.length = ys.length + 1 ∧ ys.length ≤ 1000 ∧
    Fr h₀ L s₁.heap m ∧ News h₀ L s₁.heap news ∧ (∀ P : Addr → Prop, (∀ b, P b → b ≠ Lg ∧ b ≠ Dg) → GenAtL w A.in1.in1 all false P h₀ a g 0 s₁) ∧
    ∀ D its nD h' tk gs, IntsAre its (all.take ys.length) → (∀ q ∈ news, q.1 < D) → Fr h₀ L h' m → News h₀ L h' ((D, lsO its nD) :: news) → (AllBare s₁.gens → AllBare gs) → Q (.ref D) { s₁ with heap := h', toks := tk, gens := gs }
theorem compZG {L : Addr} {m : Str → Option Value} {env : Env} {iter : Expr} {x x₂ : Str} {pe px px₂ tp : Pos} {kk} {scope : Scope} {cl : List (Str × Addr)} {pos : Pos} {Q : Value → Shared → Prop}
    (hclos : closureFor scope env = pure cl) (hcell : ∀ y ∈ scope.names, y.2 ≠ .cell) (hkind : scope.kind = .function)
    (hnames : ∀ y ∈ scope.names, y.2 = .local → scope.names.lookup y.1 = some .local) (hx : scope.names.lookup x = some .local) (hx₂ : scope.names.lookup x₂ = some .local) (hxx : x ≠ x₂) (hxd : (x == ("__debug__" : Str)) = false) (hh : A.handled = none) (hroom : A.in1.depth < recursionLimit) (hl : h₀.NoLimit)
    (h : wpAny (model PRG w) A (eval iter env) (ZipAt w A h₀ L m Q) E s)
    (hs : ∀ x, foldedSetIterable iter env x = pure x := by intro _; rfl) :
    wpAny (model PRG w) A (eval (.ListComp (.Name x pe) [⟨.Tuple [.Name x px, .Name x₂ px₂] kk tp, iter, [], 0⟩] scope pos) env) Q E s := by
  rw [eval_ListComp]
  refine wpAny_comprehension_free (use := none) rfl hs hclos hkind hnames (wpAny_mono h (fun xv s₂ h₂ => ?_) fun _ _ e => e)
  obtain ⟨z, TI, TO, i2, l2, a, Lg, Dg, g, ys, all, news, rfl, DD, hz, hTI, ⟨x0, y0, hTO⟩, h2, hl2, hno, hng, hLg, hDg, hal, hsz, F, N, hG, done⟩ := h₂
  refine wpAny_pyIter_zip hz ?_
  refine wpAny_newObj_type (wpAny_newFunctionEnv hcell (by intro y hy; simp at hy) (fun h₁ hns₁ hsb₁ => ?_) hkind)
  dsimp only at hns₁ hsb₁ ⊢
  generalize hH2 : s₂.heap.push { cls := .type "list", dict := none, data := .seq ([] : List Value).toArray } = H2 at hns₁ hsb₁ ⊢
  have hC : H2.objs.size = s₂.heap.objs.size + 1 := by rw [← hH2, Heap.size_push]
  obtain ⟨D, hDd⟩ : ∃ D : Nat, s₂.heap.objs.size = D := ⟨_, rfl⟩
  obtain ⟨C, hCd⟩ : ∃ C : Nat, H2.objs.size = C := ⟨_, rfl⟩
  rw [hDd, hCd] at hC
  rw [hCd] at hns₁ hsb₁
  rw [hDd, hCd]
  have lts : ∀ b o, s₂.heap.get? b = some o → @LT.lt Nat _ b D := fun b o e => hDd ▸ Heap.lt_size e
  have old : ∀ b o, s₂.heap.get? b = some o → h₁.get? b = some o := by
    intro b o e
    have hb := lts b o e
    refine hsb₁.extBut b o (neN (by (first | (with_reducible first | assumption | exact Nat.le_trans (by assumption) (by decide) | exact Nat.lt_of_le_of_lt (by assumption) (by decide) | (refine Nat.ne_of_lt ?_; (repeat (first | assumption | refine Nat.lt_trans (by assumption) ?_)); done) | (refine Nat.ne_of_gt ?_; (repeat (first | assumption | refine Nat.lt_trans (by assumption) ?_)); done) | ((repeat (first | assumption | refine Nat.lt_trans (by assumption) ?_)); done)) | omega))) (Heap.get?_push_of_some _ ?_)
    rw [← hH2]
    exact Heap.get?_push_of_some _ e
  have hDo : h₁.get? D = some (lsO [] 0) := by
    refine hsb₁.extBut D _ (neN (by (first | (with_reducible first | assumption | exact Nat.le_trans (by assumption) (by decide) | exact Nat.lt_of_le_of_lt (by assumption) (by decide) | (refine Nat.ne_of_lt ?_; (repeat (first | assumption | refine Nat.lt_trans (by assumption) ?_)); done) | (refine Nat.ne_of_gt ?_; (repeat (first | assumption | refine Nat.lt_trans (by assumption) ?_)); done) | ((repeat (first | assumption | refine Nat.lt_trans (by assumption) ?_)); done)) | omega))) (Heap.get?_push_of_some _ ?_)
    rw [← hH2, ← hDd]
    exact Heap.get?_push_size _ rfl
  have new0 : ∀ b, D ≤ b → h₀.get? b = none := fun b hb => by
    cases q : h₀.get? b with
    | none => rfl
    | some o => exact absurd (Nat.lt_of_lt_of_le (lts b o (F.keep b o q)) hb) (Nat.lt_irrefl _)
  have hD0 := new0 D (Nat.le_refl _)
  have hC0 := new0 C (by (first | (with_reducible first | assumption | exact Nat.le_trans (by assumption) (by decide) | exact Nat.lt_of_le_of_lt (by assumption) (by decide) | (refine Nat.ne_of_lt ?_; (repeat (first | assumption | refine Nat.lt_trans (by assumption) ?_)); done) | (refine Nat.ne_of_gt ?_; (repeat (first | assumption | refine Nat.lt_trans (by assumption) ?_)); done) | ((repeat (first | assumption | refine Nat.lt_trans (by assumption) ?_)); done)) | omega))
  have hCD : C ≠ D := neN (by (first | (with_reducible first | assumption | exact Nat.le_trans (by assumption) (by decide) | exact Nat.lt_of_le_of_lt (by assumption) (by decide) | (refine Nat.ne_of_lt ?_; (repeat (first | assumption | refine Nat.lt_trans (by assumption) ?_)); done) | (refine Nat.ne_of_gt ?_; (repeat (first | assumption | refine Nat.lt_trans (by assumption) ?_)); done) | ((repeat (first | assumption | refine Nat.lt_trans (by assumption) ?_)); done)) | omega))
  have lt_new : ∀ q ∈ news, @LT.lt Nat _ q.1 D := fun q hq => lts _ _ (N q hq).1
  have zlt : ∀ b ∈ [z, TI, TO, a, i2, l2], @LT.lt Nat _ b D := by
    intro b hb
    simp only [List.mem_cons, List.not_mem_nil, or_false] at hb
    rcases hb with rfl | rfl | rfl | rfl | rfl | rfl
    · exact lts _ _ hz
    · exact lts _ _ hTI
    · exact lts _ _ hTO
    · obtain ⟨⟨o, _, _, e, _⟩, _⟩ := hG (fun _ => False) (fun _ => False.elim); exact lts _ _ e
    · obtain ⟨o, e, _⟩ := h2; exact lts _ _ e
    · obtain ⟨o, e, _⟩ := hl2; exact lts _ _ e
  have zne : ∀ b ∈ [z, TI, TO, a, i2, l2], b ≠ D ∧ b ≠ C := fun b hb => by
    have := zlt b hb
    exact ⟨neN (by (first | (with_reducible first | assumption | exact Nat.le_trans (by assumption) (by decide) | exact Nat.lt_of_le_of_lt (by assumption) (by decide) | (refine Nat.ne_of_lt ?_; (repeat (first | assumption | refine Nat.lt_trans (by assumption) ?_)); done) | (refine Nat.ne_of_gt ?_; (repeat (first | assumption | refine Nat.lt_trans (by assumption) ?_)); done) | ((repeat (first | assumption | refine Nat.lt_trans (by assumption) ?_)); done)) | omega)), neN (by (first | (with_reducible first | assumption | exact Nat.le_trans (by assumption) (by decide) | exact Nat.lt_of_le_of_lt (by assumption) (by decide) | (refine Nat.ne_of_lt ?_; (repeat (first | assumption | refine Nat.lt_trans (by assumption) ?_)); done) | (refine Nat.ne_of_gt ?_; (repeat (first | assumption | refine Nat.lt_trans (by assumption) ?_)); done) | ((repeat (first | assumption | refine Nat.lt_trans (by assumption) ?_)); done)) | omega))⟩
  rw [hDd] at hLg hDg
  replace hLg := ltN hLg
  replace hDg := ltN hDg
  have hLD := lts _ _ (F.ns.choose_spec.choose_spec.choose_spec.1)
  obtain ⟨oL, esL, epL, hL, hLr⟩ := id F.ns
  have hPd : ∀ b, ((∃ o, h₁.get? b = some o) ∧ b ≠ Lg ∧ b ≠ Dg) → b ≠ Lg ∧ b ≠ Dg := fun b hb => hb.2
  generalize hPe : (fun b => (∃ o, h₁.get? b = some o) ∧ b ≠ Lg ∧ b ≠ Dg : Addr → Prop) = P at hPd
  have hP : ∀ b, P b ↔ (∃ o, h₁.get? b = some o) ∧ b ≠ Lg ∧ b ≠ Dg := fun b => by rw [← hPe]
  replace hPd : ∀ b, P b → b ≠ Lg ∧ b ≠ Dg := fun b hb => ((hP b).mp hb).2
  have n1 : h₀.get? z = none ∧ z ≠ L := ⟨(hno z (by simp)).1, (hno z (by simp)).2.1⟩
  have n2 : h₀.get? TO = none ∧ TO ≠ L := ⟨(hno TO (by simp)).1, (hno TO (by simp)).2.1⟩
  have n3 : h₀.get? i2 = none ∧ i2 ≠ L := ⟨(hno i2 (by simp)).1, (hno i2 (by simp)).2.1⟩
  have n4 : h₀.get? Lg = none ∧ Lg ≠ L := ⟨(hno Lg (by simp)).1, (hno Lg (by simp)).2.1⟩
  have n5 : h₀.get? Dg = none ∧ Dg ≠ L := ⟨(hno Dg (by simp)).1, (hno Dg (by simp)).2.1⟩
  have pOf : ∀ b o, s₂.heap.get? b = some o → b ≠ Lg → b ≠ Dg → P b := fun b o e b1 b2 => (hP b).mpr ⟨⟨o, old b o e⟩, b1, b2⟩
  have pD : P D := (hP D).mpr ⟨⟨_, hDo⟩, neN (by (first | (with_reducible first | assumption | exact Nat.le_trans (by assumption) (by decide) | exact Nat.lt_of_le_of_lt (by assumption) (by decide) | (refine Nat.ne_of_lt ?_; (repeat (first | assumption | refine Nat.lt_trans (by assumption) ?_)); done) | (refine Nat.ne_of_gt ?_; (repeat (first | assumption | refine Nat.lt_trans (by assumption) ?_)); done) | ((repeat (first | assumption | refine Nat.lt_trans (by assumption) ?_)); done)) | omega)), neN (by (first | (with_reducible first | assumption | exact Nat.le_trans (by assumption) (by decide) | exact Nat.lt_of_le_of_lt (by assumption) (by decide) | (refine Nat.ne_of_lt ?_; (repeat (first | assumption | refine Nat.lt_trans (by assumption) ?_)); done) | (refine Nat.ne_of_gt ?_; (repeat (first | assumption | refine Nat.lt_trans (by assumption) ?_)); done) | ((repeat (first | assumption | refine Nat.lt_trans (by assumption) ?_)); done)) | omega))⟩
  have pC : P C := (hP C).mpr ⟨by obtain ⟨o, _, _, e, _⟩ := hns₁; exact ⟨o, e⟩, neN (by (first | (with_reducible first | assumption | exact Nat.le_trans (by assumption) (by decide) | exact Nat.lt_of_le_of_lt (by assumption) (by decide) | (refine Nat.ne_of_lt ?_; (repeat (first | assumption | refine Nat.lt_trans (by assumption) ?_)); done) | (refine Nat.ne_of_gt ?_; (repeat (first | assumption | refine Nat.lt_trans (by assumption) ?_)); done) | ((repeat (first | assumption | refine Nat.lt_trans (by assumption) ?_)); done)) | omega)), neN (by (first | (with_reducible first | assumption | exact Nat.le_trans (by assumption) (by decide) | exact Nat.lt_of_le_of_lt (by assumption) (by decide) | (refine Nat.ne_of_lt ?_; (repeat (first | assumption | refine Nat.lt_trans (by assumption) ?_)); done) | (refine Nat.ne_of_gt ?_; (repeat (first | assumption | refine Nat.lt_trans (by assumption) ?_)); done) | ((repeat (first | assumption | refine Nat.lt_trans (by assumption) ?_)); done)) | omega))⟩
  have hZP : ZP P h₀ z TI TO a i2 l2 := ⟨DD, n1.1, n2.1, n3.1, fun b o e => pOf b o (F.keep b o e) (fun q => by rw [q, n4.1] at e; cases e) (fun q => by rw [q, n5.1] at e; cases e),
    pOf _ _ hz (hng z (by simp)).1 (hng z (by simp)).2, pOf _ _ hTI (hng TI (by simp)).1 (hng TI (by simp)).2, pOf _ _ hTO (hng TO (by simp)).1 (hng TO (by simp)).2,
    (by obtain ⟨⟨o, _, _, e, _⟩, _⟩ := hG (fun _ => False) (fun _ => False.elim); exact pOf _ _ e (hng a (by simp)).1 (hng a (by simp)).2), (by obtain ⟨o, e, _⟩ := h2; exact pOf _ _ e (hng i2 (by simp)).1 (hng i2 (by simp)).2), (by obtain ⟨o, e, _⟩ := hl2; exact pOf _ _ e (hng l2 (by simp)).1 (hng l2 (by simp)).2)⟩
  have pL : P L := pOf _ _ hL (Ne.symm n4.2) (Ne.symm n5.2)
  have pN : ∀ q ∈ news, P q.1 := fun q hq => pOf _ _ (N q hq).1 ((hno Lg (by simp)).2.2 q hq) ((hno Dg (by simp)).2.2 q hq)
  have hZ₁ : ZAt w A.in1.in1 all P h₀ z TI TO a i2 l2 g ys.toArray .none 0 { s₂ with heap := h₁, toks := s₂.toks + ([] : List (Str × Value)).length } :=
    ⟨old _ _ hz, old _ _ hTI, ⟨_, _, old _ _ hTO⟩, h2.at fun o e => old _ _ e, hl2.at fun o e => old _ _ e, (hG P hPd).keep (fun b o _ e => old b o e) rfl fun o e => old _ _ e, fun b o e => old b o (F.keep b o e), fun b hb => ((hP b).mp hb).1⟩
  have loop : ∀ s₃ : Shared, s₃ = { s₂ with heap := h₁, toks := s₂.toks + ([] : List (Str × Value)).length } →
      codeAny (model PRG w) A (.compLoop (.ListComp (.Name x pe) [⟨.Tuple [.Name x px, .Name x₂ px₂] kk tp, iter, [], 0⟩] scope pos) 0 (.ref z) (.ref D) (compEnvC scope cl C env))
        (compPost (model PRG w) A E none Q (.ref D) C) s₃ := by
    rintro s₃ rfl
    refine quietC ?_
    intro R9 hR9
    refine compLoopP
      (fun k s' => ∃ i its nD gs H tk m₁, s' = { s₂ with heap := H, toks := tk, gens := gs } ∧ i ≤ ys.length ∧ k = ys.length + 1 - i ∧ ZAt w A.in1.in1 all P h₀ z TI TO a i2 l2 g ys.toArray .none i s' ∧ H.Ns C m₁ ∧ H.get? D = some (lsO its nD) ∧ IntsAre its (all.take i) ∧ (∀ q ∈ news, H.get? q.1 = some q.2) ∧ H.get? L = some oL ∧ (AllBare s₂.gens → AllBare gs)) ?_ (ys.length + 1)
      ⟨0, [], 0, s₂.gens, h₁, _, _, rfl, Nat.zero_le _, rfl, hZ₁, hns₁, hDo, .nil, fun q hq => old _ _ (N q hq).1, old _ _ hL, id⟩
    rintro k s' ⟨i, its, nD, gs, H, tk, m₁, rfl, hi, rfl, hZ, hNs, hDi, hits, hN, hLo, hab⟩ Qb E9 hQb
    by_cases hlt : i < ys.length
    · obtain ⟨yv, hyv⟩ : ∃ yv, ys.toArray[i]? = some yv := ⟨_, by simp [hlt]; rfl⟩
      refine pyNext_zipG_item hroom hl hZP hZ (by (first | (with_reducible first | assumption | exact Nat.le_trans (by assumption) (by decide) | exact Nat.lt_of_le_of_lt (by assumption) (by decide) | (refine Nat.ne_of_lt ?_; (repeat (first | assumption | refine Nat.lt_trans (by assumption) ?_)); done) | (refine Nat.ne_of_gt ?_; (repeat (first | assumption | refine Nat.lt_trans (by assumption) ?_)); done) | ((repeat (first | assumption | refine Nat.lt_trans (by assumption) ?_)); done)) | omega)) hyv fun T t H1 tk1 gs1 hT hTp hZ1 hk1 hab1 => ?_
      refine wpAny_letOwnedTupleGo_zip hZ1.z fun H2 hz2 hs2 => ?_
      have hZ2 := hZ1.free hZP hz2 hs2
      have hTz : T ≠ z := fun q => hT (q ▸ hZP.z)
      have hT2 : H2.IsTuple T #[.int (all.getD i 0) t, yv] := ⟨_, hs2.extBut _ _ hTz hTp, rfl, _, rfl⟩
      refine wpAny_assign_Tuple hh hT2 rfl rfl fun H3 he3 => ?_
      have he3' : ∀ b o, H2.get? b = some o → H3.get? b = some o := fun b o e => he3 b o (Nat.ne_of_lt (Heap.lt_size e)) e
      have k3 : ∀ b o, P b → b ≠ z → b ≠ TO → b ≠ i2 → H.get? b = some o → H3.get? b = some o := fun b o hb c1 c2 c3 e => he3' b o (hs2.extBut b o c1 (hk1 b o hb c1 c2 c3 e))
      have zC := fun b hb => Ne.symm (zne b hb).2
      have zD := fun b hb => Ne.symm (zne b hb).1
      have kC : ∀ o, H.get? C = some o → H3.get? C = some o := fun o e => k3 C o pC (zC z (by simp)) (zC TO (by simp)) (zC i2 (by simp)) e
      have kD : ∀ o, H.get? D = some o → H3.get? D = some o := fun o e => k3 D o pD (zD z (by simp)) (zD TO (by simp)) (zD i2 (by simp)) e
      refine assignInOrder_cons (wpAny_assign_Name (wpAny_storeName_local (env := compEnvC scope cl C env) (lookup_relabel_local hx) (hNs.at' fun o e => kC o e) (fun H4 hn4 hs4 => ?_) (by simp [compEnvC, relabel, hkind])))
      refine assignInOrder_cons (wpAny_assign_Name (wpAny_storeName_local (env := compEnvC scope cl C env) (lookup_relabel_local hx₂) hn4 (fun H5 hn5 hs5 => ?_) (by simp [compEnvC, relabel, hkind])))
      refine assignInOrder_nil ?_
      refine wpAny_Name (wpAny_loadName_local (env := compEnvC scope cl C env) (by simp [compEnvC, relabel, hkind]) (lookup_relabel_local hx) hn5 (v := .int (all.getD i 0) t) (by simp [hxx]) ?_) hxd
      replace hs4 : Heap.SameBut C H3 H4 := hs4
      replace hs5 : Heap.SameBut C H4 H5 := hs5
      have k5 : ∀ b o, b ≠ C → H3.get? b = some o → H5.get? b = some o := fun b o hb e => hs5.extBut b o hb (hs4.extBut b o hb e)
      have hD5 := k5 D _ (Ne.symm hCD) (kD _ hDi)
      have hlen := hits.length
      rw [List.length_take] at hlen
      refine wpAny_list_append_plain (hsz := by rw [sizeLine_eq]; simp; (first | (with_reducible first | assumption | exact Nat.le_trans (by assumption) (by decide) | exact Nat.lt_of_le_of_lt (by assumption) (by decide) | (refine Nat.ne_of_lt ?_; (repeat (first | assumption | refine Nat.lt_trans (by assumption) ?_)); done) | (refine Nat.ne_of_gt ?_; (repeat (first | assumption | refine Nat.lt_trans (by assumption) ?_)); done) | ((repeat (first | assumption | refine Nat.lt_trans (by assumption) ?_)); done)) | omega)) (items := its.toArray) ⟨nD, hD5⟩ fun H6 hl6 hs6 => ?_
      obtain ⟨n6, hD6⟩ := hl6
      have e6 : its.toArray.push (Value.int (all.getD i 0) t) = (its ++ [Value.int (all.getD i 0) t]).toArray := by simp
      rw [e6] at hD6
      have hn6 : H6.Ns C _ := hn5.sameBut hs6 hCD
      have k6 : ∀ b o, b ≠ D → b ≠ C → H3.get? b = some o → H6.get? b = some o := fun b o b1 b2 e => hs6.extBut b o b1 (k5 b o b2 e)
      have hZ6 : ∀ tk6, ZAt w A.in1.in1 all P h₀ z TI TO a i2 l2 g ys.toArray .none (i + 1) { s₂ with heap := H6, toks := tk6, gens := gs1 }   := fun _ => hZ2.move (D := D) (C := C) (fun b o b1 b2 e => k6 b o b1 b2 (he3' b o e)) rfl pD pC ⟨_, hD6⟩ (by obtain ⟨o, _, _, e, _⟩ := hn6; exact ⟨o, e⟩) hD0 hC0 zne
      refine hQb _ ⟨ys.length + 1 - (i + 1), dec_lt hlt, i + 1, its ++ [.int (all.getD i 0) t], n6, gs1, H6, _, _, rfl, hlt, rfl, hZ6 _, hn6, hD6, ?_, fun q hq => ?_, ?_, fun q => hab1 (hab q)⟩
      · rw [← take_snocI (by (first | (with_reducible first | assumption | exact Nat.le_trans (by assumption) (by decide) | exact Nat.lt_of_le_of_lt (by assumption) (by decide) | (refine Nat.ne_of_lt ?_; (repeat (first | assumption | refine Nat.lt_trans (by assumption) ?_)); done) | (refine Nat.ne_of_gt ?_; (repeat (first | assumption | refine Nat.lt_trans (by assumption) ?_)); done) | ((repeat (first | assumption | refine Nat.lt_trans (by assumption) ?_)); done)) | omega) : i < all.length)]
        exact ints_snoc hits
      · have l := lt_new q hq
        have nz := fun b hb => (hno b hb).2.2 q hq
        exact k6 _ _ (neN (by (first | (with_reducible first | assumption | exact Nat.le_trans (by assumption) (by decide) | exact Nat.lt_of_le_of_lt (by assumption) (by decide) | (refine Nat.ne_of_lt ?_; (repeat (first | assumption | refine Nat.lt_trans (by assumption) ?_)); done) | (refine Nat.ne_of_gt ?_; (repeat (first | assumption | refine Nat.lt_trans (by assumption) ?_)); done) | ((repeat (first | assumption | refine Nat.lt_trans (by assumption) ?_)); done)) | omega))) (neN (by (first | (with_reducible first | assumption | exact Nat.le_trans (by assumption) (by decide) | exact Nat.lt_of_le_of_lt (by assumption) (by decide) | (refine Nat.ne_of_lt ?_; (repeat (first | assumption | refine Nat.lt_trans (by assumption) ?_)); done) | (refine Nat.ne_of_gt ?_; (repeat (first | assumption | refine Nat.lt_trans (by assumption) ?_)); done) | ((repeat (first | assumption | refine Nat.lt_trans (by assumption) ?_)); done)) | omega))) (k3 _ _ (pN q hq) (nz z (by simp)) (nz TO (by simp)) (nz i2 (by simp)) (hN q hq))
      · exact k6 _ _ (neN (by (first | (with_reducible first | assumption | exact Nat.le_trans (by assumption) (by decide) | exact Nat.lt_of_le_of_lt (by assumption) (by decide) | (refine Nat.ne_of_lt ?_; (repeat (first | assumption | refine Nat.lt_trans (by assumption) ?_)); done) | (refine Nat.ne_of_gt ?_; (repeat (first | assumption | refine Nat.lt_trans (by assumption) ?_)); done) | ((repeat (first | assumption | refine Nat.lt_trans (by assumption) ?_)); done)) | omega))) (neN (by (first | (with_reducible first | assumption | exact Nat.le_trans (by assumption) (by decide) | exact Nat.lt_of_le_of_lt (by assumption) (by decide) | (refine Nat.ne_of_lt ?_; (repeat (first | assumption | refine Nat.lt_trans (by assumption) ?_)); done) | (refine Nat.ne_of_gt ?_; (repeat (first | assumption | refine Nat.lt_trans (by assumption) ?_)); done) | ((repeat (first | assumption | refine Nat.lt_trans (by assumption) ?_)); done)) | omega))) (k3 _ _ pL (Ne.symm n1.2) (Ne.symm n2.2) (Ne.symm n3.2) hLo)
    · have hin : i = ys.length := sub_end (by assumption) hlt
      subst hin
      refine pyNext_zipG_end hh hroom hl hZP hZ (by (first | (with_reducible first | assumption | exact Nat.le_trans (by assumption) (by decide) | exact Nat.lt_of_le_of_lt (by assumption) (by decide) | (refine Nat.ne_of_lt ?_; (repeat (first | assumption | refine Nat.lt_trans (by assumption) ?_)); done) | (refine Nat.ne_of_gt ?_; (repeat (first | assumption | refine Nat.lt_trans (by assumption) ?_)); done) | ((repeat (first | assumption | refine Nat.lt_trans (by assumption) ?_)); done)) | omega)) (by simp) fun H1 tk1 gs1 hk1 hab1 => ?_
      have zC := fun b hb => Ne.symm (zne b hb).2
      have zD := fun b hb => Ne.symm (zne b hb).1
      have kC : ∀ o, H.get? C = some o → H1.get? C = some o := fun o e => hk1 C o pC (zC z (by simp)) (zC TO (by simp)) (zC i2 (by simp)) e
      have kD : ∀ o, H.get? D = some o → H1.get? D = some o := fun o e => hk1 D o pD (zD z (by simp)) (zD TO (by simp)) (zD i2 (by simp)) e
      have hst1 : h₀.StaysIn H1 := fun b o e => hk1 b o (hZP.h0 b o e) (fun q => by rw [q, n1.1] at e; cases e) (fun q => by rw [q, n2.1] at e; cases e) (fun q => by rw [q, n3.1] at e; cases e) (hZ.st b o e)
      have FL : Fr h₀ L H1 m := ⟨⟨oL, esL, epL, hk1 _ _ pL (Ne.symm n1.2) (Ne.symm n2.2) (Ne.symm n3.2) hLo, hLr⟩, hst1, F.above⟩
      have hLC : C ≠ L := neN (by (first | (with_reducible first | assumption | exact Nat.le_trans (by assumption) (by decide) | exact Nat.lt_of_le_of_lt (by assumption) (by decide) | (refine Nat.ne_of_lt ?_; (repeat (first | assumption | refine Nat.lt_trans (by assumption) ?_)); done) | (refine Nat.ne_of_gt ?_; (repeat (first | assumption | refine Nat.lt_trans (by assumption) ?_)); done) | ((repeat (first | assumption | refine Nat.lt_trans (by assumption) ?_)); done)) | omega))
      have hLD' : D ≠ L := neN (by (first | (with_reducible first | assumption | exact Nat.le_trans (by assumption) (by decide) | exact Nat.lt_of_le_of_lt (by assumption) (by decide) | (refine Nat.ne_of_lt ?_; (repeat (first | assumption | refine Nat.lt_trans (by assumption) ?_)); done) | (refine Nat.ne_of_gt ?_; (repeat (first | assumption | refine Nat.lt_trans (by assumption) ?_)); done) | ((repeat (first | assumption | refine Nat.lt_trans (by assumption) ?_)); done)) | omega))
      refine hR9 _ _ ⟨m₁, hNs.at' fun o e => kC o e, fun H6 hs6 => ?_⟩
      refine done D its nD H6 _ gs1 hits lt_new (FL.change hs6 hLC hC0) (fun q hq => ?_) fun q => hab1 (hab q)
      rcases List.mem_cons.mp hq with rfl | hq
      · exact ⟨hs6.extBut _ _ (Ne.symm hCD) (kD _ hDi), hLD', hD0⟩
      · have l := lt_new q hq
        have nz := fun b hb => (hno b hb).2.2 q hq
        exact ⟨hs6.extBut _ _ (neN (by (first | (with_reducible first | assumption | exact Nat.le_trans (by assumption) (by decide) | exact Nat.lt_of_le_of_lt (by assumption) (by decide) | (refine Nat.ne_of_lt ?_; (repeat (first | assumption | refine Nat.lt_trans (by assumption) ?_)); done) | (refine Nat.ne_of_gt ?_; (repeat (first | assumption | refine Nat.lt_trans (by assumption) ?_)); done) | ((repeat (first | assumption | refine Nat.lt_trans (by assumption) ?_)); done)) | omega))) (hk1 _ _ (pN q hq) (nz z (by simp)) (nz TO (by simp)) (nz i2 (by simp)) (hN q hq)), (N q hq).2⟩
  exact codeAny_compStart_list (loop _ rfl) (wpAny_pyIter_zip (hZ₁.z) (loop _ rfl))
end
end Mine
end
section
open PySem PySem.W PyProof.Rows Mine PySem.Calls
set_option Elab.async false
set_option maxRecDepth 100000
set_option maxHeartbeats 2000000
namespace Mine
section
variable {prog : Program} {w : World} {A : Around} {E : Value → Shared → Prop} {s : Shared} {h₀ : Heap} {L D : Addr} {m : Str → Option Value} {rest : List (Addr × Obj)} {its : List Value} {nD : Nat}
theorem append_led {v : Value} {Q : Value → Shared → Prop} (F : Fr h₀ L s.heap m) (N : News h₀ L s.heap ((D, lsO its nD) :: rest)) (hne : ∀ p ∈ rest, p.1 ≠ D) (hz : its.length ≤ 1000)
    (h : ∀ n' h', Fr h₀ L h' m → News h₀ L h' ((D, lsO (its ++ [v]) n') :: rest) → Q .none { s with heap := h' }) :
    wpAny (model prog w) A (call (.builtin "list.append") [.ref D, v]) Q E s := by
  have z := N _ (.head _)
  refine wpAny_list_append_plain (hsz := by rw [sizeLine_eq]; simp; (first | (with_reducible first | assumption | exact Nat.le_trans (by assumption) (by decide) | exact Nat.lt_of_le_of_lt (by assumption) (by decide) | (refine Nat.ne_of_lt ?_; (repeat (first | assumption | refine Nat.lt_trans (by assumption) ?_)); done) | (refine Nat.ne_of_gt ?_; (repeat (first | assumption | refine Nat.lt_trans (by assumption) ?_)); done) | ((repeat (first | assumption | refine Nat.lt_trans (by assumption) ?_)); done)) | omega)) (items := its.toArray) ⟨nD, z.1⟩ fun h' hl hs => ?_
  obtain ⟨n', hD⟩ := hl
  have e : its.toArray.push v = (its ++ [v]).toArray := by simp
  rw [e] at hD
  refine h n' h' (F.change hs z.2.1 z.2.2) fun q hq => ?_
  rcases List.mem_cons.mp hq with rfl | hq
  · exact ⟨hD, z.2⟩
  · have n := N q (.tail _ hq)
    exact ⟨(hs.2 _ (hne q hq)).trans n.1, n.2⟩
theorem ints_last {its : List Value} {l : List Int} (h : IntsAre its l) (hne : l ≠ []) : ∃ its0 t, its = its0 ++ [.int (l.getLastD 0) t] ∧ IntsAre its0 l.dropLast := by
  induction h with
  | nil => exact absurd rfl hne
  | cons n t h ih =>
    rename_i vs ns
    cases ns with
    | nil => cases h; exact ⟨[], t, rfl, .nil⟩
    | cons a b =>
      obtain ⟨i0, t0, e, hi⟩ := ih (by simp)
      exact ⟨.int n t :: i0, t0, by rw [e]; simp, .cons n t hi⟩
theorem getLast_led {v : Value} {t : Tok} {Q : Value → Shared → Prop} (N : News h₀ L s.heap ((D, lsO (its ++ [v]) nD) :: rest)) (h : Q v s) :
    wpAny (model prog w) A (getItem (.ref D) (.int (-1) t)) Q E s := by
  refine wpAny_getItem_list_neg (isList_led N (.head _)) (by decide) ?_ (by decide) ?_ h
  · simp; (first | (with_reducible first | assumption | exact Nat.le_trans (by assumption) (by decide) | exact Nat.lt_of_le_of_lt (by assumption) (by decide) | (refine Nat.ne_of_lt ?_; (repeat (first | assumption | refine Nat.lt_trans (by assumption) ?_)); done) | (refine Nat.ne_of_gt ?_; (repeat (first | assumption | refine Nat.lt_trans (by assumption) ?_)); done) | ((repeat (first | assumption | refine Nat.lt_trans (by assumption) ?_)); done)) | omega)
  · have e : (-1 + (((its ++ [v]).toArray.size : Nat) : Int)).toNat = its.length := by simp; (first | (with_reducible first | assumption | exact Nat.le_trans (by assumption) (by decide) | exact Nat.lt_of_le_of_lt (by assumption) (by decide) | (refine Nat.ne_of_lt ?_; (repeat (first | assumption | refine Nat.lt_trans (by assumption) ?_)); done) | (refine Nat.ne_of_gt ?_; (repeat (first | assumption | refine Nat.lt_trans (by assumption) ?_)); done) | ((repeat (first | assumption | refine Nat.lt_trans (by assumption) ?_)); done)) | omega)
    rw [e]
    simp
theorem popLast_led {v : Value} {Q : Value → Shared → Prop} (F : Fr h₀ L s.heap m) (N : News h₀ L s.heap ((D, lsO (its ++ [v]) nD) :: rest)) (hne : ∀ p ∈ rest, p.1 ≠ D) (hz : its.length ≤ 1000)
    (h : ∀ n' h', Fr h₀ L h' m → News h₀ L h' ((D, lsO its n') :: rest) → Q v { s with heap := h' }) :
    wpAny (model prog w) A (call (.builtin "list.pop") [.ref D]) Q E s := by
  have z := N _ (.head _)
  have hsz : (its ++ [v]).toArray.size ≤ sizeLine := by rw [sizeLine_eq]; simp; (first | (with_reducible first | assumption | exact Nat.le_trans (by assumption) (by decide) | exact Nat.lt_of_le_of_lt (by assumption) (by decide) | (refine Nat.ne_of_lt ?_; (repeat (first | assumption | refine Nat.lt_trans (by assumption) ?_)); done) | (refine Nat.ne_of_gt ?_; (repeat (first | assumption | refine Nat.lt_trans (by assumption) ?_)); done) | ((repeat (first | assumption | refine Nat.lt_trans (by assumption) ?_)); done)) | omega)
  refine call_meets (Q := Q) PySem.F.slot_list_pop ⟨_, z.1, rfl⟩ PySem.F.entry_list_pop (PySem.F.args_list_pop_1 _) (MeetsSeq.list_pop_last D (its ++ [v]).toArray nD v (by simp) hsz) ⟨z.1, ?_⟩
  refine h (nD + 1) _ (F.change (Heap.SameBut.update ..) z.2.1 z.2.2) (ki_turn (pre := []) _ N (fun p hp => by cases hp) hne ?_ ?_)
  · apply Array.toList_inj.mp
    simp
    rw [List.eraseIdx_append_of_length_le (Nat.le_refl _)]
    simp
  · simp
theorem setLast_led {v v' : Value} {t : Tok} {Q : Unit → Shared → Prop} (F : Fr h₀ L s.heap m) (N : News h₀ L s.heap ((D, lsO (its ++ [v]) nD) :: rest)) (hne : ∀ p ∈ rest, p.1 ≠ D)
    (h : ∀ h', Fr h₀ L h' m → News h₀ L h' ((D, lsO (its ++ [v']) nD) :: rest) → Q () { s with heap := h' }) :
    wpAny (model prog w) A (setItem (.ref D) (.int (-1) t) v') Q E s := by
  have z := N _ (.head _)
  have e : (-1 + (((its ++ [v]).toArray.size : Nat) : Int)).toNat = its.length := by simp; (first | (with_reducible first | assumption | exact Nat.le_trans (by assumption) (by decide) | exact Nat.lt_of_le_of_lt (by assumption) (by decide) | (refine Nat.ne_of_lt ?_; (repeat (first | assumption | refine Nat.lt_trans (by assumption) ?_)); done) | (refine Nat.ne_of_gt ?_; (repeat (first | assumption | refine Nat.lt_trans (by assumption) ?_)); done) | ((repeat (first | assumption | refine Nat.lt_trans (by assumption) ?_)); done)) | omega)
  refine ki_setBack z.1 (by decide) (by simp; (first | (with_reducible first | assumption | exact Nat.le_trans (by assumption) (by decide) | exact Nat.lt_of_le_of_lt (by assumption) (by decide) | (refine Nat.ne_of_lt ?_; (repeat (first | assumption | refine Nat.lt_trans (by assumption) ?_)); done) | (refine Nat.ne_of_gt ?_; (repeat (first | assumption | refine Nat.lt_trans (by assumption) ?_)); done) | ((repeat (first | assumption | refine Nat.lt_trans (by assumption) ?_)); done)) | omega)) (by decide) ?_
  rw [e]
  refine h _ (F.change (Heap.SameBut.update ..) z.2.1 z.2.2) (ki_turn (pre := []) _ N (fun p hp => by cases hp) hne ?_ ?_)
  · apply Array.toList_inj.mp
    simp
  · simp
end
theorem assign_one {M : Model} {A : Around} {E : Value → Shared → Prop} {s : Shared} {env : Env} {x : Str} {px : Pos} {value : Expr} {pos : Pos} {Q : Flow → Shared → Prop}
    (h : wpAny M A (eval value env) (fun v s₁ => wpAny M A (assign (.Name x px) env v) (fun _ => Q .next) E s₁) E s)
    (hs : swapsWith value (some (.Name x px)) pos.line env = pure false) (hw : swappedStores [.Name x px] value env = pure none := by rfl) : wpAny M A (exec (.Assign [.Name x px] value pos) env) Q E s := by
  refine wpAny_Assign_stores (wpAny_mono h (fun v s₁ h₁ => ?_) fun _ _ x => x) hs hw
  exact h₁
theorem compZGF {w : World} {A : Around} {E : Value → Shared → Prop} {s : Shared} {h₀ : Heap} {L : Addr} {m : Str → Option Value} {env : Env} {iter : Expr} {x x₂ : Str} {pe px px₂ tp : Pos} {kk} {scope : Scope} {cl : List (Str × Addr)} {pos : Pos} {Q : Value → Shared → Prop}
    (hF9 : Fr h₀ L s.heap m) (hclos : closureFor scope env = pure cl) (hcell : ∀ y ∈ scope.names, y.2 ≠ .cell) (hkind : scope.kind = .function)
    (hnames : ∀ y ∈ scope.names, y.2 = .local → scope.names.lookup y.1 = some .local) (hx : scope.names.lookup x = some .local) (hx₂ : scope.names.lookup x₂ = some .local) (hxx : x ≠ x₂) (hxd : (x == ("__debug__" : Str)) = false) (hh : A.handled = none) (hroom : A.in1.depth < recursionLimit) (hl : h₀.NoLimit)
    (h : wpAny (model PRG w) A (eval iter env) (ZipAt w A h₀ L m Q) E s)
    (hs : ∀ x, foldedSetIterable iter env x = pure x := by intro _; rfl) :
    wpAny (model PRG w) A (eval (.ListComp (.Name x pe) [⟨.Tuple [.Name x px, .Name x₂ px₂] kk tp, iter, [], 0⟩] scope pos) env) Q E s := compZG hclos hcell hkind hnames hx hx₂ hxx hxd hh hroom hl h hs
theorem storeC_led {M : Model} {A : Around} {E : Value → Shared → Prop} {s : Shared} {h₀ : Heap} {L c : Addr} {m : Str → Option Value} {env : Env} {name : Str} {x : Addr × Obj} {o : Obj} {rest : List (Addr × Obj)} {v₀ : Option Value} {v : Value} {Q : Unit → Shared → Prop}
    (hk : env.scope.kind = .function) (hl : env.kindOf name = some .cell) (hc : env.cells.lookup name = some c) (F : Fr h₀ L s.heap m) (N : News h₀ L s.heap (x :: (c, o) :: rest)) (hx : x.1 ≠ c) (hr : ∀ q ∈ rest, q.1 ≠ c) (hd : o.data = .cell v₀)
    (h : ∀ h' o', Fr h₀ L h' m → News h₀ L h' (x :: (c, o') :: rest) → o'.data = .cell (some v) → Q () { s with heap := h' }) : wpAny M A (storeName env name v) Q E s := by
  have hmem := N (c, o) (.tail _ (.head _))
  refine wpAny_storeName_cell hk hl hc ⟨o, hmem.1, hd⟩ fun h' hv hs => ?_
  obtain ⟨o', ho', hd'⟩ := hv
  refine h h' o' (F.change hs hmem.2.1 hmem.2.2) (fun q hq => ?_) hd'
  rcases List.mem_cons.mp hq with rfl | hq
  · have n := N _ (.head _)
    exact ⟨(hs.2 _ hx).trans n.1, n.2⟩
  · rcases List.mem_cons.mp hq with rfl | hq
    · exact ⟨ho', hmem.2⟩
    · have n := N _ (.tail _ (.tail _ hq))
      exact ⟨(hs.2 _ (hr q hq)).trans n.1, n.2⟩
theorem keep_but {g h h' : Heap} {L Lg Ds : Addr} {m : Str → Option Value} {news : List (Addr × Obj)} (F : Fr g L h m) (N : News g L h news) (hk : ∀ b o, b ≠ Lg → b ≠ Ds → h.get? b = some o → h'.get? b = some o) (h1 : g.get? Lg = none) (h2 : g.get? Ds = none) (l1 : L ≠ Lg) (l2 : L ≠ Ds)
    (hn : ∀ q ∈ news, q.1 ≠ Lg ∧ q.1 ≠ Ds) : Fr g L h' m ∧ News g L h' news :=
  ⟨⟨F.ns.at' fun o e => hk L o l1 l2 e, fun b o e => hk b o (fun q => by rw [q, h1] at e; cases e) (fun q => by rw [q, h2] at e; cases e) (F.keep b o e), F.above⟩, fun q hq => ⟨hk _ _ (hn q hq).1 (hn q hq).2 (N q hq).1, (N q hq).2⟩⟩
theorem fr_none {g h : Heap} {L b : Addr} {m : Str → Option Value} (F : Fr g L h m) (hb : @LT.lt Nat _ L b) : g.get? b = none := Heap.get?_none_of_le (Nat.le_trans F.above (Nat.le_of_lt hb))
theorem outs_fin : ∀ (row : List Int) (last : Option Int), (∀ x ∈ row, 1 ≤ x ∧ x ≤ 100) → outsOk (row ++ [127, 2]) last row true
  | [], last, _ => by
    show outsOk (127 :: [2]) last [] true
    unfold outsOk; rw [if_pos rfl]; exact ⟨rfl, rfl⟩
  | x :: r, last, h => by
    have hx := h x (.head _)
    show outsOk (x :: (r ++ [127, 2])) last (x :: r) true
    unfold outsOk
    rw [if_neg (by (first | (with_reducible first | assumption | exact Nat.le_trans (by assumption) (by decide) | exact Nat.lt_of_le_of_lt (by assumption) (by decide) | (refine Nat.ne_of_lt ?_; (repeat (first | assumption | refine Nat.lt_trans (by assumption) ?_)); done) | (refine Nat.ne_of_gt ?_; (repeat (first | assumption | refine Nat.lt_trans (by assumption) ?_)); done) | ((repeat (first | assumption | refine Nat.lt_trans (by assumption) ?_)); done)) | omega)), if_neg (by (first | (with_reducible first | assumption | exact Nat.le_trans (by assumption) (by decide) | exact Nat.lt_of_le_of_lt (by assumption) (by decide) | (refine Nat.ne_of_lt ?_; (repeat (first | assumption | refine Nat.lt_trans (by assumption) ?_)); done) | (refine Nat.ne_of_gt ?_; (repeat (first | assumption | refine Nat.lt_trans (by assumption) ?_)); done) | ((repeat (first | assumption | refine Nat.lt_trans (by assumption) ?_)); done)) | omega))]
    exact ⟨rfl, outs_fin r (some x) fun y hy => h y (.tail _ hy)⟩
theorem outs_rep : ∀ (short : List Int) (last : Option Int) (l : Int) (outs : List Int), (∀ x ∈ short, 1 ≤ x ∧ x ≤ 100) → (short = [] → last = some l) → (short ≠ [] → short.getLastD 0 = l) → (∀ o ∈ outs, o = l) → outsOk (short ++ [0, 2]) last (short ++ outs) false
  | [], last, l, outs, _, h1, _, h3 => by
    show outsOk (0 :: [2]) last outs false
    unfold outsOk
    rw [if_neg (by decide), if_pos rfl]
    exact ⟨l, h1 rfl, rfl, h3⟩
  | x :: r, last, l, outs, h, _, h2, h3 => by
    have hx := h x (.head _)
    show outsOk (x :: (r ++ [0, 2])) last (x :: (r ++ outs)) false
    unfold outsOk
    rw [if_neg (by (first | (with_reducible first | assumption | exact Nat.le_trans (by assumption) (by decide) | exact Nat.lt_of_le_of_lt (by assumption) (by decide) | (refine Nat.ne_of_lt ?_; (repeat (first | assumption | refine Nat.lt_trans (by assumption) ?_)); done) | (refine Nat.ne_of_gt ?_; (repeat (first | assumption | refine Nat.lt_trans (by assumption) ?_)); done) | ((repeat (first | assumption | refine Nat.lt_trans (by assumption) ?_)); done)) | omega)), if_neg (by (first | (with_reducible first | assumption | exact Nat.le_trans (by assumption) (by decide) | exact Nat.lt_of_le_of_lt (by assumption) (by decide) | (refine Nat.ne_of_lt ?_; (repeat (first | assumption | refine Nat.lt_trans (by assumption) ?_)); done) | (refine Nat.ne_of_gt ?_; (repeat (first | assumption | refine Nat.lt_trans (by assumption) ?_)); done) | ((repeat (first | assumption | refine Nat.lt_trans (by assumption) ?_)); done)) | omega))]
    have e := h2 (by simp)
    refine ⟨rfl, outs_rep r (some x) l outs (fun y hy => h y (.tail _ hy)) (fun q => ?_) (fun q => ?_) h3⟩
    · rw [q] at e; simpa using e
    · cases r with
      | nil => exact absurd rfl q
      | cons a b => simpa using e
theorem pop_fact {sh : List Int} (hn : sh ≠ []) (h : List.take (sh.length - 1 - (sh.length - 2)) (List.drop (sh.length - 2) sh) = List.drop (sh.length - 1) sh) : sh.dropLast ≠ [] ∧ sh = sh.dropLast ++ [sh.getLastD 0] ∧ sh.dropLast.getLastD 0 = sh.getLastD 0 := by
  obtain ⟨p, b, rfl⟩ : ∃ p b, sh = p ++ [b] := ⟨sh.dropLast, sh.getLast hn, (List.dropLast_concat_getLast hn).symm⟩
  rcases List.eq_nil_or_concat p with rfl | ⟨q, a, rfl⟩
  · simp at h
  · rw [List.concat_eq_append] at *
    have e1 : (q ++ [a] ++ [b]).length - 2 = q.length := by simp
    have e2 : (q ++ [a] ++ [b]).length - 1 = (q ++ [a]).length := by simp
    rw [e1, e2] at h
    have e3 : (q ++ [a]).length - q.length = 1 := by simp
    rw [e3, List.drop_left] at h
    rw [List.append_assoc, List.drop_left] at h
    simp at h
    subst h
    simp
def incLast (l : List Int) : List Int := l.dropLast ++ [l.getLastD 0 + 1]
def runsF (word : Str) : Nat → List Int
  | 0 => [1]
  | i + 1 => if collF (Txt.item word (1 + (i : Int) - 1)) (Txt.item word (1 + (i : Int))) = 1 then runsF word i ++ [1] else incLast (runsF word i)
theorem runsF_ne (word : Str) (i : Nat) : runsF word i ≠ [] := by
  cases i with
  | zero => simp [runsF]
  | succ i => unfold runsF; split <;> simp [incLast]
theorem runsF_len (word : Str) : ∀ i : Nat, (runsF word i).length ≤ i + 1
  | 0 => by simp [runsF]
  | i + 1 => by
    have ih := runsF_len word i
    have := List.length_pos_iff.mpr (runsF_ne word i)
    unfold runsF
    split
    · simp; (first | (with_reducible first | assumption | exact Nat.le_trans (by assumption) (by decide) | exact Nat.lt_of_le_of_lt (by assumption) (by decide) | (refine Nat.ne_of_lt ?_; (repeat (first | assumption | refine Nat.lt_trans (by assumption) ?_)); done) | (refine Nat.ne_of_gt ?_; (repeat (first | assumption | refine Nat.lt_trans (by assumption) ?_)); done) | ((repeat (first | assumption | refine Nat.lt_trans (by assumption) ?_)); done)) | omega)
    · simp [incLast]; (first | (with_reducible first | assumption | exact Nat.le_trans (by assumption) (by decide) | exact Nat.lt_of_le_of_lt (by assumption) (by decide) | (refine Nat.ne_of_lt ?_; (repeat (first | assumption | refine Nat.lt_trans (by assumption) ?_)); done) | (refine Nat.ne_of_gt ?_; (repeat (first | assumption | refine Nat.lt_trans (by assumption) ?_)); done) | ((repeat (first | assumption | refine Nat.lt_trans (by assumption) ?_)); done)) | omega)
theorem runsF_val (word : Str) : ∀ i : Nat, ∀ x ∈ runsF word i, 1 ≤ x ∧ x ≤ (i : Int) + 1
  | 0, x, h => by simp [runsF] at h; (first | (with_reducible first | assumption | exact Nat.le_trans (by assumption) (by decide) | exact Nat.lt_of_le_of_lt (by assumption) (by decide) | (refine Nat.ne_of_lt ?_; (repeat (first | assumption | refine Nat.lt_trans (by assumption) ?_)); done) | (refine Nat.ne_of_gt ?_; (repeat (first | assumption | refine Nat.lt_trans (by assumption) ?_)); done) | ((repeat (first | assumption | refine Nat.lt_trans (by assumption) ?_)); done)) | omega)
  | i + 1, x, h => by
    have ih := runsF_val word i
    unfold runsF at h
    split at h
    · rcases List.mem_append.mp h with h | h
      · have := ih x h; (first | (with_reducible first | assumption | exact Nat.le_trans (by assumption) (by decide) | exact Nat.lt_of_le_of_lt (by assumption) (by decide) | (refine Nat.ne_of_lt ?_; (repeat (first | assumption | refine Nat.lt_trans (by assumption) ?_)); done) | (refine Nat.ne_of_gt ?_; (repeat (first | assumption | refine Nat.lt_trans (by assumption) ?_)); done) | ((repeat (first | assumption | refine Nat.lt_trans (by assumption) ?_)); done)) | omega)
      · rw [List.mem_singleton.mp h]; (first | (with_reducible first | assumption | exact Nat.le_trans (by assumption) (by decide) | exact Nat.lt_of_le_of_lt (by assumption) (by decide) | (refine Nat.ne_of_lt ?_; (repeat (first | assumption | refine Nat.lt_trans (by assumption) ?_)); done) | (refine Nat.ne_of_gt ?_; (repeat (first | assumption | refine Nat.lt_trans (by assumption) ?_)); done) | ((repeat (first | assumption | refine Nat.lt_trans (by assumption) ?_)); done)) | omega)
    · unfold incLast at h
      rcases List.mem_append.mp h with h | h
      · have := ih x (List.dropLast_subset _ h); (first | (with_reducible first | assumption | exact Nat.le_trans (by assumption) (by decide) | exact Nat.lt_of_le_of_lt (by assumption) (by decide) | (refine Nat.ne_of_lt ?_; (repeat (first | assumption | refine Nat.lt_trans (by assumption) ?_)); done) | (refine Nat.ne_of_gt ?_; (repeat (first | assumption | refine Nat.lt_trans (by assumption) ?_)); done) | ((repeat (first | assumption | refine Nat.lt_trans (by assumption) ?_)); done)) | omega)
      · rw [List.mem_singleton.mp h]
        have hne := runsF_ne word i
        have : (runsF word i).getLastD 0 ∈ runsF word i := by
          rw [List.getLastD_eq_getLast?, List.getLast?_eq_some_getLast hne]
          exact List.getLast_mem hne
        have := ih _ this
        (first | (with_reducible first | assumption | exact Nat.le_trans (by assumption) (by decide) | exact Nat.lt_of_le_of_lt (by assumption) (by decide) | (refine Nat.ne_of_lt ?_; (repeat (first | assumption | refine Nat.lt_trans (by assumption) ?_)); done) | (refine Nat.ne_of_gt ?_; (repeat (first | assumption | refine Nat.lt_trans (by assumption) ?_)); done) | ((repeat (first | assumption | refine Nat.lt_trans (by assumption) ?_)); done)) | omega)
theorem runsF_t {word : Str} {i : Nat} (h : collF (Txt.item word (1 + (i : Int) - 1)) (Txt.item word (1 + (i : Int))) = 1) : runsF word (i + 1) = runsF word i ++ [1] := if_pos h
theorem runsF_f {word : Str} {i : Nat} (h : ¬ collF (Txt.item word (1 + (i : Int) - 1)) (Txt.item word (1 + (i : Int))) = 1) : runsF word (i + 1) = incLast (runsF word i) := if_neg h
end Mine
end
section
open PySem PySem.W PyProof.Rows Mine PySem.Calls
set_option Elab.async false
set_option maxRecDepth 100000
set_option maxHeartbeats 20000000
namespace Mine
theorem bare_push {gs : Array GenState} {x : GenState} (h : AllBare gs) (hx : x.bare = true) : AllBare (gs.push x) := fun y hy => by
  rcases Array.mem_push.mp hy with hy | rfl
  · exact h y hy
  · exact hx
def fallsF (word : Str) : List Int := (List.range ((runsF word (word.length - 1)).take ((runsF word (word.length - 1)).length - 1)).length).map fun i => (((runsF word (word.length - 1)).take ((runsF word (word.length - 1)).length - 1)).take (i + 1)).sum
theorem falls_c {w : World} {mean} {mg mb} (word : Str) (brief : Bool) (ta : Tok) (news : List (Addr × Obj)) (hz' : Hold (word.length ≤ 5)) (hz50 : word.length ≤ 50) :
  MClaim w mean mg mb 113 news [.str word ta, .bool brief] 7 (fun s Q h₀ L m => ∀ (D : Addr) (ys : List Value) (nD : Nat) (h' : Heap) (tk' : Nat) (gs : Array GenState), IntsAre ys (fallsF word) → (∀ q ∈ news, q.1 < D) → (AllBare s.gens → AllBare gs) → Fr h₀ L h' m → News h₀ L h' ((D, lsO ys nD) :: news) → Q (.ref D) { s with heap := h', toks := tk', gens := gs }) := by
  dsimp only [MClaim, PRG]; k_fill; intro dp un h₀ L m s Q E F₀ X₀ N₀ T₀ hroom hunits hret
  have k1 := held "pyIter ref"
  have k2 := held "InvEndN"
  have k3 := held "exec While Compare cons nil"
  have k4 := held "eval ListComp"
  have k5 := held "call type:list"
  have k6 := held "exec Assign cons ListComp"
  have k7 := held "call builtin:list.pop"
  have k8 := held "call type:zip"
  have k9 := held "WhileStep"
  have k10 := held "exec If BoolOp"
  have k11 := held "call ref"
  refine wpAny_call ?_
  k_dflt (refine' enterC ?k2 ?k3 ?k4 ?k5 ?k6 ?k7 ?k8 ?k9 ?kB ?kD ?_ ?c2 ?c3 ?c4; (case k2 => k_asm); (case k3 => k_asm); (case k4 => k_asm); (case k5 => k_asm); (case k6 => k_is); (case k7 => k_is); (case k8 => exact rm0 hroom); (case k9 => exact BindsTo.of_eq rfl); (case kB => exact rfl); (case kD => decide +kernel); (case c2 => exact rfl); (case c3 => exact rfl); (case c4 => exact rfl); k_whole; intro _ _ _ _ _ _ N' Y' _ _ _; k_cells Y'; (try simp only [List.cons_append, List.nil_append] at N'); (try dsimp only); (try k_fold))
  refine quiet ?_
  intro Q9 hQ9
  k_steps
  all_goals try (refine hQ9 _ _ ?_; k_steps)
  refine unhold ?_
  have hz := hold hz'
  rename IsRange _ _ _ _ _ _ _ _ => hr
  rename News _ _ _ _ => N1
  rename Fr _ _ _ _ => F1
  rename _ ∧ AllLt _ news => hlt
  replace F1 := frB [(Str.ofString "word", .str word ta), (Str.ofString "brief", .bool brief), (Str.ofString "runs", .ref _)] (List.forall_mem_cons.mpr ⟨by with_unfolding_all rfl, List.forall_mem_cons.mpr ⟨by with_unfolding_all rfl, List.forall_mem_cons.mpr ⟨by with_unfolding_all rfl, List.forall_mem_nil _⟩⟩⟩) F1
  dsimp only [kstB] at F1
  rename_i gg LL h3 tk3 XX TT hl1 oc hoc D h2 h1 Fo No hB tkB t1 u1 v1 hk0
  clear Fo No
  refine' kst_range (σ := List Value × Nat) (n := word.length - 1) (fun c => (D, PySem.W.listOf c.1.toArray c.2) :: (LL + 1, oc) :: news) (fun c => [(Str.ofString "word", .str word ta), (Str.ofString "brief", .bool brief), (Str.ofString "runs", .ref D)]) (fun c => True) [] (fun pre c => IntsAre c.1 (runsF word pre.length)) ([_], _) rfl hr ?small ?size F1 N1 trivial ?hk ?p0 ?turn ?done
  case small => exact small_l (by decide) (by decide) (by assumption) (by decide)
  case size => first | exact size_l | exact size_l1
  case hk => exact List.forall_mem_cons.mpr ⟨by with_unfolding_all rfl, List.forall_mem_cons.mpr ⟨by with_unfolding_all rfl, List.forall_mem_cons.mpr ⟨by with_unfolding_all rfl, List.forall_mem_nil _⟩⟩⟩
  case p0 => exact .cons _ _ .nil
  case turn =>
    rintro ⟨its, nD⟩ pre k t u h tk own hk hlt' hoff hf hp F N
    dsimp only [kstB] at hp hf F N ⊢
    rw [List.cons_append, List.cons_append] at N
    obtain rfl : k = 1 + (pre.length : Int) := hk
    have hlen := hp.length
    have hrl := runsF_len word pre.length
    have hne : ∀ p ∈ (LL + 1, oc) :: (news ++ own), p.1 ≠ D := by
      intro p hp
      rcases List.mem_cons.mp hp with rfl | hp
      · exact neN (by have := hlt.1; (first | (with_reducible first | assumption | exact Nat.le_trans (by assumption) (by decide) | exact Nat.lt_of_le_of_lt (by assumption) (by decide) | (refine Nat.ne_of_lt ?_; (repeat (first | assumption | refine Nat.lt_trans (by assumption) ?_)); done) | (refine Nat.ne_of_gt ?_; (repeat (first | assumption | refine Nat.lt_trans (by assumption) ?_)); done) | ((repeat (first | assumption | refine Nat.lt_trans (by assumption) ?_)); done)) | omega))
      · rcases List.mem_append.mp hp with hp | hp
        · exact tbn_neAll hlt.2 p hp
        · exact hoff p hp D (by simp)
    obtain ⟨its0, t0, rfl, hi0⟩ := ints_last hp (runsF_ne _ _)
    have hval := runsF_val word pre.length
    refine quiet ?_
    intro Q8 hQ8
    k_steps
    refine unhold ?_
    refine' forgetA rfl (Nat.le_refl _) (Nat.le_refl _) (strcoll_c _ _ _ _ _ _ _ _ _ _ _ _ _ ?F ?X ?N ?T ?hr ?hu ?_)
    case F => k_asm
    case X => k_asm
    case N => k_asm
    case T => k_asm
    case hr => exact rmm hroom (by decide)
    case hu => exact rmm hunits (by decide)
    intro t' h' tk' F' N'
    try dsimp only
    k_steps
    all_goals try (refine hQ8 _ _ ?_; k_steps)
    all_goals try (refine hQ9 _ _ ?_; k_steps)
    all_goals try k_data
    · rename Fr gg LL _ _ => F9
      rename News gg LL _ _ => N9
      refine append_led F9 N9 hne (by (first | (with_reducible first | assumption | exact Nat.le_trans (by assumption) (by decide) | exact Nat.lt_of_le_of_lt (by assumption) (by decide) | (refine Nat.ne_of_lt ?_; (repeat (first | assumption | refine Nat.lt_trans (by assumption) ?_)); done) | (refine Nat.ne_of_gt ?_; (repeat (first | assumption | refine Nat.lt_trans (by assumption) ?_)); done) | ((repeat (first | assumption | refine Nat.lt_trans (by assumption) ?_)); done)) | omega)) ?_
      intro n' h' F' N'
      k_steps
      all_goals try (refine hQ8 _ _ ?_; k_steps)
      all_goals try (refine hQ9 _ _ ?_; k_steps)
      refine unhold ?_
      clear F9 N9 F N
      rename Fr gg LL _ _ => F9
      rename News gg LL _ _ => N9
      refine' kst_end (its0 ++ [.int ((runsF word pre.length).getLastD 0) t0] ++ [.int 1 ?tka], n') F9 N9 (fun p hp => ?_) (fun p hp => .tail _ (.tail _ (List.mem_append_right _ hp))) rfl trivial (List.forall_mem_cons.mpr ⟨by with_unfolding_all rfl, List.forall_mem_cons.mpr ⟨by with_unfolding_all rfl, List.forall_mem_cons.mpr ⟨by with_unfolding_all rfl, List.forall_mem_nil _⟩⟩⟩) ?_ ?_
      · rcases List.mem_cons.mp hp with rfl | hp
        · exact .head _
        · rcases List.mem_cons.mp hp with rfl | hp
          · exact .tail _ (.head _)
          · exact .tail _ (.tail _ (List.mem_append_left _ hp))
      · intro z h1 h2 h3
        have g1 := h2 _ (.head _)
        have g2 := h2 _ (.tail _ (.head _))
        have g3 := h2 _ (.tail _ (.tail _ (.head _)))
        dsimp only at g1 g2 g3
        simp [h1, g1, g2, g3]
      · dsimp only
        rw [show (pre ++ [1 + (pre.length : Int)]).length = pre.length + 1 by simp, runsF_t (by assumption)]
        exact ints_snoc hp
    · rename News gg LL _ _ => N9
      refine getLast_led N9 ?_
      dsimp only
      have hlv : 1 ≤ (runsF word pre.length).getLastD 0 ∧ (runsF word pre.length).getLastD 0 ≤ (pre.length : Int) + 1 := hval _ (by
        have hn := runsF_ne word pre.length
        rw [List.getLastD_eq_getLast?, List.getLast?_eq_some_getLast hn]
        exact List.getLast_mem hn)
      k_steps
      all_goals try (refine hQ8 _ _ ?_; k_steps)
      all_goals try (refine hQ9 _ _ ?_; k_steps)
      rename Fr gg LL _ _ => F9
      refine setLast_led F9 N9 hne ?_
      intro h' F' N'
      k_steps
      all_goals try (refine hQ8 _ _ ?_; k_steps)
      all_goals try (refine hQ9 _ _ ?_; k_steps)
      refine unhold ?_
      clear F9 N9 F N
      rename Fr gg LL _ _ => F9
      rename News gg LL _ _ => N9
      refine' kst_end (its0 ++ [.int ((runsF word pre.length).getLastD 0 + 1) ?tka2], nD) F9 N9 (fun p hp => ?_) (fun p hp => .tail _ (.tail _ (List.mem_append_right _ hp))) rfl trivial (List.forall_mem_cons.mpr ⟨by with_unfolding_all rfl, List.forall_mem_cons.mpr ⟨by with_unfolding_all rfl, List.forall_mem_cons.mpr ⟨by with_unfolding_all rfl, List.forall_mem_nil _⟩⟩⟩) ?_ ?_
      · rcases List.mem_cons.mp hp with rfl | hp
        · exact .head _
        · rcases List.mem_cons.mp hp with rfl | hp
          · exact .tail _ (.head _)
          · exact .tail _ (.tail _ (List.mem_append_left _ hp))
      · intro z h1 h2 h3
        have g1 := h2 _ (.head _)
        have g2 := h2 _ (.tail _ (.head _))
        have g3 := h2 _ (.tail _ (.tail _ (.head _)))
        dsimp only at g1 g2 g3
        simp [h1, g1, g2, g3]
      · dsimp only
        rw [show (pre ++ [1 + (pre.length : Int)]).length = pre.length + 1 by simp, runsF_f (by assumption)]
        exact ints_snoc hi0
  case done =>
    rintro ⟨its, nD⟩ u h tk hf hp F N
    dsimp only [kstB] at hp hf F N ⊢
    rw [rangeKs_length] at hp
    have hlen := hp.length
    have hrl := runsF_len word (word.length - 1)
    have hval := runsF_val word (word.length - 1)
    have hne := runsF_ne word (word.length - 1)
    generalize hRe : runsF word (word.length - 1) = RS at hp hlen hrl hval hne
    k_steps
    refine unhold ?_
    rename Fr gg LL _ _ => FB
    rename News gg LL _ _ => NB
    rename IntsAre _ (List.take (RS.length - 1) RS) => hIr
    rename D < _ ∧ LL + 1 < _ ∧ AllLt _ news => lB
    rename Addr => Dr
    rename List Value => wr
    refine quiet ?_
    intro QI hQI
    have hRl : (RS.take (RS.length - 1)).length ≤ 50 := by rw [List.length_take]; (first | (with_reducible first | assumption | exact Nat.le_trans (by assumption) (by decide) | exact Nat.lt_of_le_of_lt (by assumption) (by decide) | (refine Nat.ne_of_lt ?_; (repeat (first | assumption | refine Nat.lt_trans (by assumption) ?_)); done) | (refine Nat.ne_of_gt ?_; (repeat (first | assumption | refine Nat.lt_trans (by assumption) ?_)); done) | ((repeat (first | assumption | refine Nat.lt_trans (by assumption) ?_)); done)) | omega)
    have hv100 : ∀ x ∈ RS.take (RS.length - 1), 1 ≤ x ∧ x ≤ 100 := fun x hx => by
      have := hval x (List.take_subset _ _ hx)
      (first | (with_reducible first | assumption | exact Nat.le_trans (by assumption) (by decide) | exact Nat.lt_of_le_of_lt (by assumption) (by decide) | (refine Nat.ne_of_lt ?_; (repeat (first | assumption | refine Nat.lt_trans (by assumption) ?_)); done) | (refine Nat.ne_of_gt ?_; (repeat (first | assumption | refine Nat.lt_trans (by assumption) ?_)); done) | ((repeat (first | assumption | refine Nat.lt_trans (by assumption) ?_)); done)) | omega)
    generalize hRW : RS.take (RS.length - 1) = RW at hIr hRl hv100 ⊢
    clear hrl hval hlen hp hne
    have hJ : ∀ (S : Addr) (its' : List Value) (nS : Nat) (h8 : Heap) (oc8 : Obj) (tk8 : Nat) (gs' : Array GenState) (m8 : Str → Option Value), IntsAre its' RW → (@LT.lt Nat _ (LL + 1) S ∧ AllLt S news) → (AllBare s.gens → AllBare gs') → oc8.data = .cell (some (.ref S)) →
        Fr gg LL h8 m8 → News gg LL h8 ((S, lsO its' nS) :: (LL + 1, oc8) :: news) → QI .next ⟨h8, gs', s.drawn, tk8, s.os⟩ := by
      intro S its' nS h8 oc8 tk8 gs' m8 hI' lS2 hb' hoc8 F8 N8
      clear FB NB
      refine hQI _ _ ?_
      dsimp only
      k_steps
      all_goals try (refine hQ9 _ _ ?_; k_steps)
      refine unhold ?_
      with_unfolding_all refine' compGF F8 ?k1 ?k2 ?k3 ?k4 ?k5 ?_
      case k1 => exact rfl
      case k2 => decide
      case k3 => exact rfl
      case k4 => decide
      case k5 => exact rfl
      k_steps
      all_goals try (refine hQ9 _ _ ?_; k_steps)
      refine unhold ?_
      rename IsRange _ _ _ _ _ _ _ _ => hr
      rename Fr gg LL _ _ => F9
      rename News gg LL _ _ => N9
      refine compRange (n := RW.length) [] _ (fun i ys nx gs => nx = [] ∧ gs = gs' ∧ IntsAre ys ((List.range i).map fun i => (RW.take (i + 1)).sum)) rfl hr ?small ?size (by (first | (with_reducible first | assumption | exact Nat.le_trans (by assumption) (by decide) | exact Nat.lt_of_le_of_lt (by assumption) (by decide) | (refine Nat.ne_of_lt ?_; (repeat (first | assumption | refine Nat.lt_trans (by assumption) ?_)); done) | (refine Nat.ne_of_gt ?_; (repeat (first | assumption | refine Nat.lt_trans (by assumption) ?_)); done) | ((repeat (first | assumption | refine Nat.lt_trans (by assumption) ?_)); done)) | omega)) F9 N9 ⟨rfl, rfl, .nil⟩ ?len ?turn ?done
      case small => exact small_l (by decide) (by decide) (by assumption) (by decide)
      case size => first | exact size_l | exact size_l1
      case len =>
        rintro i ys nx gs ⟨-, -, hy⟩
        rw [hy.length]
        simp
      case turn =>
        rintro g C D1 i tv ys nD1 news₁ gs h tk m₁ own E' hi ⟨rfl, rfl, hys⟩ - hown hlt1 hlo hDC st FG1 F N
        have X1 := XX.keeps st
        have T1 := TT.keeps st
        dsimp only [List.nil_append] at N ⊢
        k_steps
        all_goals try (refine hQ9 _ _ ?_; k_steps)
        · exact (0 : Nat)
        · exact Str.ofString ""
        · exact .none
        · exact []
        · rename News g C _ _ => N9
          rename Fr g C _ _ => F9
          refine ⟨_, _, _, _, [], rfl, F9, news_t N9, rfl, rfl, rfl, ?_⟩
          rw [show (0 + (i : Int) + 1).toNat = i + 1 by (first | (with_reducible first | assumption | exact Nat.le_trans (by assumption) (by decide) | exact Nat.lt_of_le_of_lt (by assumption) (by decide) | (refine Nat.ne_of_lt ?_; (repeat (first | assumption | refine Nat.lt_trans (by assumption) ?_)); done) | (refine Nat.ne_of_gt ?_; (repeat (first | assumption | refine Nat.lt_trans (by assumption) ?_)); done) | ((repeat (first | assumption | refine Nat.lt_trans (by assumption) ?_)); done)) | omega), List.range_succ, List.map_append]
          exact ints_snoc hys
      case done =>
        rintro D2 ys nD2 news₁ gs h' tk ⟨rfl, rfl, hys⟩ - hlt F N
        dsimp only [List.nil_append] at N hlt ⊢
        k_steps
        all_goals try (refine hQ9 _ _ ?_; k_steps)
        rename Fr h₀ L _ _ => F9
        rename News h₀ L _ _ => N9
        subst hRW hRe
        exact hret _ _ _ _ _ _ hys (fun q hq => hlt q (.tail _ (.tail _ hq))) hb' F9 (fun q hq => N9 q (by rcases List.mem_cons.mp hq with rfl | hq; exact .head _; exact .tail _ (.tail _ (.tail _ hq))))
    refine wpAny_If ?_
    refine quiet ?_
    intro QC hQC
    have hE : ∀ (h' : Heap) (tk' : Nat) (m' : Str → Option Value), Fr gg LL h' m' → News gg LL h' ((Dr, lsO wr 0) :: (D, W.listOf its.toArray nD) :: (LL + 1, oc) :: news) → m' (Str.ofString "row") = some (.ref Dr) → QC false ⟨h', s.gens, s.drawn, tk', s.os⟩ := by
      intro h' tk' m' F' N' e1
      replace F' := frB [(Str.ofString "row", .ref Dr)] (List.forall_mem_cons.mpr ⟨e1, List.forall_mem_nil _⟩) F'
      dsimp only [kstB] at F'
      clear FB NB e1
      refine hQC _ _ ?_
      rw [if_neg (by decide)]
      k_steps
      rename_i lx hX lX Ds ws hS FS NS hIs lS
      refine unhold ?_
      refine' forgetA rfl (Nat.le_refl _) (Nat.le_refl _) (group_c Ds ws 0 _ _ (RW) true hIs (outs_fin _ _ hv100) (.inl rfl) _ _ gg LL _ _ _ _ FS XX NS TT ?hrm ?_)
      case hrm => dsimp only [Around.deeper]; (first | (with_reducible first | assumption | exact Nat.le_trans (by assumption) (by decide) | exact Nat.lt_of_le_of_lt (by assumption) (by decide) | (refine Nat.ne_of_lt ?_; (repeat (first | assumption | refine Nat.lt_trans (by assumption) ?_)); done) | (refine Nat.ne_of_gt ?_; (repeat (first | assumption | refine Nat.lt_trans (by assumption) ?_)); done) | ((repeat (first | assumption | refine Nat.lt_trans (by assumption) ?_)); done)) | omega)
      intro Lg a hG tkG gs0 hltG hLg hga hszG FG NG hbare hGen
      dsimp only
      k_steps
      all_goals try (refine hQ9 _ _ ?_; k_steps)
      refine unhold ?_
      have qDs : @LT.lt Nat _ Ds Lg := hltG.hd
      have qo : ∀ q ∈ (LL + 1, oc) :: news, q.1 ≠ Lg ∧ q.1 ≠ Ds := fun q hq => by
        have e1 : @LT.lt Nat _ q.1 Ds := by
          rcases List.mem_cons.mp hq with rfl | hq
          · (first | (with_reducible first | assumption | exact Nat.le_trans (by assumption) (by decide) | exact Nat.lt_of_le_of_lt (by assumption) (by decide) | (refine Nat.ne_of_lt ?_; (repeat (first | assumption | refine Nat.lt_trans (by assumption) ?_)); done) | (refine Nat.ne_of_gt ?_; (repeat (first | assumption | refine Nat.lt_trans (by assumption) ?_)); done) | ((repeat (first | assumption | refine Nat.lt_trans (by assumption) ?_)); done)) | omega)
          · exact kst_ltOf lS.2.2.2.2 q hq
        exact ⟨neN (by (first | (with_reducible first | assumption | exact Nat.le_trans (by assumption) (by decide) | exact Nat.lt_of_le_of_lt (by assumption) (by decide) | (refine Nat.ne_of_lt ?_; (repeat (first | assumption | refine Nat.lt_trans (by assumption) ?_)); done) | (refine Nat.ne_of_gt ?_; (repeat (first | assumption | refine Nat.lt_trans (by assumption) ?_)); done) | ((repeat (first | assumption | refine Nat.lt_trans (by assumption) ?_)); done)) | omega)), neN (by (first | (with_reducible first | assumption | exact Nat.le_trans (by assumption) (by decide) | exact Nat.lt_of_le_of_lt (by assumption) (by decide) | (refine Nat.ne_of_lt ?_; (repeat (first | assumption | refine Nat.lt_trans (by assumption) ?_)); done) | (refine Nat.ne_of_gt ?_; (repeat (first | assumption | refine Nat.lt_trans (by assumption) ?_)); done) | ((repeat (first | assumption | refine Nat.lt_trans (by assumption) ?_)); done)) | omega))⟩
      refine call_list_genL rfl ?hrm2 TT.nolimit FG.keep ?hn2 Lg Ds (fr_none FG hLg) (NG _ (.head _)).2.2 (by rw [hszG]; exact Nat.lt_succ_of_lt hga) (Heap.lt_size (NG _ (.head _)).1) (neN (by (first | (with_reducible first | assumption | exact Nat.le_trans (by assumption) (by decide) | exact Nat.lt_of_le_of_lt (by assumption) (by decide) | (refine Nat.ne_of_lt ?_; (repeat (first | assumption | refine Nat.lt_trans (by assumption) ?_)); done) | (refine Nat.ne_of_gt ?_; (repeat (first | assumption | refine Nat.lt_trans (by assumption) ?_)); done) | ((repeat (first | assumption | refine Nat.lt_trans (by assumption) ?_)); done)) | omega))) (neN (by (first | (with_reducible first | assumption | exact Nat.le_trans (by assumption) (by decide) | exact Nat.lt_of_le_of_lt (by assumption) (by decide) | (refine Nat.ne_of_lt ?_; (repeat (first | assumption | refine Nat.lt_trans (by assumption) ?_)); done) | (refine Nat.ne_of_gt ?_; (repeat (first | assumption | refine Nat.lt_trans (by assumption) ?_)); done) | ((repeat (first | assumption | refine Nat.lt_trans (by assumption) ?_)); done)) | omega))) (hGen _ rfl) ?_
      case hrm2 => dsimp only [Around.deeper, Around.in1]; (first | (with_reducible first | assumption | exact Nat.le_trans (by assumption) (by decide) | exact Nat.lt_of_le_of_lt (by assumption) (by decide) | (refine Nat.ne_of_lt ?_; (repeat (first | assumption | refine Nat.lt_trans (by assumption) ?_)); done) | (refine Nat.ne_of_gt ?_; (repeat (first | assumption | refine Nat.lt_trans (by assumption) ?_)); done) | ((repeat (first | assumption | refine Nat.lt_trans (by assumption) ?_)); done)) | omega)
      case hn2 => (first | (with_reducible first | assumption | exact Nat.le_trans (by assumption) (by decide) | exact Nat.lt_of_le_of_lt (by assumption) (by decide) | (refine Nat.ne_of_lt ?_; (repeat (first | assumption | refine Nat.lt_trans (by assumption) ?_)); done) | (refine Nat.ne_of_gt ?_; (repeat (first | assumption | refine Nat.lt_trans (by assumption) ?_)); done) | ((repeat (first | assumption | refine Nat.lt_trans (by assumption) ?_)); done)) | omega)
      intro S nS its' h' tk' gs' hS hI' hSo hkeep hbare'
      have N0 : News gg LL hG ((LL + 1, oc) :: news) := fun q hq => NG q (by
        rcases List.mem_cons.mp hq with rfl | hq
        · exact .tail _ (.tail _ (.tail _ (.tail _ (.head _))))
        · exact .tail _ (.tail _ (.tail _ (.tail _ (.tail _ hq)))))
      obtain ⟨F1, N1⟩ := keep_but FG N0 hkeep (fr_none FG hLg) (NG _ (.head _)).2.2 (neN (by (first | (with_reducible first | assumption | exact Nat.le_trans (by assumption) (by decide) | exact Nat.lt_of_le_of_lt (by assumption) (by decide) | (refine Nat.ne_of_lt ?_; (repeat (first | assumption | refine Nat.lt_trans (by assumption) ?_)); done) | (refine Nat.ne_of_gt ?_; (repeat (first | assumption | refine Nat.lt_trans (by assumption) ?_)); done) | ((repeat (first | assumption | refine Nat.lt_trans (by assumption) ?_)); done)) | omega))) (neN (by (first | (with_reducible first | assumption | exact Nat.le_trans (by assumption) (by decide) | exact Nat.lt_of_le_of_lt (by assumption) (by decide) | (refine Nat.ne_of_lt ?_; (repeat (first | assumption | refine Nat.lt_trans (by assumption) ?_)); done) | (refine Nat.ne_of_gt ?_; (repeat (first | assumption | refine Nat.lt_trans (by assumption) ?_)); done) | ((repeat (first | assumption | refine Nat.lt_trans (by assumption) ?_)); done)) | omega))) qo
      have hSa : S = a + 1 := by rw [hS]; exact hszG
      have qS : ∀ q ∈ (LL + 1, oc) :: news, @LT.lt Nat _ q.1 S := fun q hq => by
        have e1 : @LT.lt Nat _ q.1 Ds := by
          rcases List.mem_cons.mp hq with rfl | hq
          · (first | (with_reducible first | assumption | exact Nat.le_trans (by assumption) (by decide) | exact Nat.lt_of_le_of_lt (by assumption) (by decide) | (refine Nat.ne_of_lt ?_; (repeat (first | assumption | refine Nat.lt_trans (by assumption) ?_)); done) | (refine Nat.ne_of_gt ?_; (repeat (first | assumption | refine Nat.lt_trans (by assumption) ?_)); done) | ((repeat (first | assumption | refine Nat.lt_trans (by assumption) ?_)); done)) | omega)
          · exact kst_ltOf lS.2.2.2.2 q hq
        (first | (with_reducible first | assumption | exact Nat.le_trans (by assumption) (by decide) | exact Nat.lt_of_le_of_lt (by assumption) (by decide) | (refine Nat.ne_of_lt ?_; (repeat (first | assumption | refine Nat.lt_trans (by assumption) ?_)); done) | (refine Nat.ne_of_gt ?_; (repeat (first | assumption | refine Nat.lt_trans (by assumption) ?_)); done) | ((repeat (first | assumption | refine Nat.lt_trans (by assumption) ?_)); done)) | omega)
      have lS2 : @LT.lt Nat _ (LL + 1) S ∧ AllLt S news := ⟨qS _ (.head _), allLt_of fun q hq => qS q (.tail _ hq)⟩
      have N2 : News gg LL h' ((S, lsO its' nS) :: (LL + 1, oc) :: news) := fun q hq => by
        rcases List.mem_cons.mp hq with rfl | hq
        · exact ⟨hSo, neN (by (first | (with_reducible first | assumption | exact Nat.le_trans (by assumption) (by decide) | exact Nat.lt_of_le_of_lt (by assumption) (by decide) | (refine Nat.ne_of_lt ?_; (repeat (first | assumption | refine Nat.lt_trans (by assumption) ?_)); done) | (refine Nat.ne_of_gt ?_; (repeat (first | assumption | refine Nat.lt_trans (by assumption) ?_)); done) | ((repeat (first | assumption | refine Nat.lt_trans (by assumption) ?_)); done)) | omega)), fr_none FG (by (first | (with_reducible first | assumption | exact Nat.le_trans (by assumption) (by decide) | exact Nat.lt_of_le_of_lt (by assumption) (by decide) | (refine Nat.ne_of_lt ?_; (repeat (first | assumption | refine Nat.lt_trans (by assumption) ?_)); done) | (refine Nat.ne_of_gt ?_; (repeat (first | assumption | refine Nat.lt_trans (by assumption) ?_)); done) | ((repeat (first | assumption | refine Nat.lt_trans (by assumption) ?_)); done)) | omega))⟩
        · exact N1 q hq
      try clear hGen
      try clear hkeep
      try clear N0
      try clear N1
      try clear NG
      try clear FG
      try clear FS
      try clear NS
      try clear hX
      try clear lX
      try clear hr
      try clear lS
      try clear qo
      try clear hC
      try clear hL
      try clear lr
      try clear hB
      try clear hIs
      try clear hIr
      refine storeC_led rfl rfl rfl F1 N2 (neN (by have := lS2.1; (first | (with_reducible first | assumption | exact Nat.le_trans (by assumption) (by decide) | exact Nat.lt_of_le_of_lt (by assumption) (by decide) | (refine Nat.ne_of_lt ?_; (repeat (first | assumption | refine Nat.lt_trans (by assumption) ?_)); done) | (refine Nat.ne_of_gt ?_; (repeat (first | assumption | refine Nat.lt_trans (by assumption) ?_)); done) | ((repeat (first | assumption | refine Nat.lt_trans (by assumption) ?_)); done)) | omega))) (fun q hq => neN (by have := hl1 q hq; have e2 : @LT.lt Nat _ q.1 LL := this; (first | (with_reducible first | assumption | exact Nat.le_trans (by assumption) (by decide) | exact Nat.lt_of_le_of_lt (by assumption) (by decide) | (refine Nat.ne_of_lt ?_; (repeat (first | assumption | refine Nat.lt_trans (by assumption) ?_)); done) | (refine Nat.ne_of_gt ?_; (repeat (first | assumption | refine Nat.lt_trans (by assumption) ?_)); done) | ((repeat (first | assumption | refine Nat.lt_trans (by assumption) ?_)); done)) | omega))) hoc ?_
      intro h8 oc8 F8 N8 hoc8
      dsimp only
      k_steps
      exact hJ S its' nS h8 oc8 _ gs' _ hI' lS2 (fun hb => hbare' (bare_push hb hbare)) hoc8 F8 N8
    k_steps
    · exact hE _ _ _ (by k_asm) (news_t (by assumption)) (by with_unfolding_all rfl)
    · refine hQC _ _ ?_
      rw [if_pos rfl]
      clear hE hQC
      try clear hz
      k_steps
      rename Fr gg LL _ _ => FS
      rename News gg LL _ _ => NS
      rename decide (RW = []) = false => hrow
      refine unhold ?_
      refine' list_copyK FS NS ?hl ?_ ?z
      case hl => exact isList_led NS (.tail _ (.head _))
      case z =>
        have := hIr.length
        rw [sizeLine_eq]
        simp
        (first | (with_reducible first | assumption | exact Nat.le_trans (by assumption) (by decide) | exact Nat.lt_of_le_of_lt (by assumption) (by decide) | (refine Nat.ne_of_lt ?_; (repeat (first | assumption | refine Nat.lt_trans (by assumption) ?_)); done) | (refine Nat.ne_of_gt ?_; (repeat (first | assumption | refine Nat.lt_trans (by assumption) ?_)); done) | ((repeat (first | assumption | refine Nat.lt_trans (by assumption) ?_)); done)) | omega)
      intro Dh ch hH FH NH ltH
      clear FS NS
      dsimp only
      have hwl := hIr.length
      have hRn : RW ≠ [] := of_decide_eq_false hrow
      have lD : @LT.lt Nat _ D Dh := ltH _ (.tail _ (.tail _ (.head _)))
      have lR : @LT.lt Nat _ Dr Dh := ltH _ (.tail _ (.head _))
      have lC : @LT.lt Nat _ (LL + 1) Dh := ltH _ (.tail _ (.tail _ (.tail _ (.head _))))
      have lN : ∀ q ∈ news, @LT.lt Nat _ q.1 Dh := fun q hq => ltH q (.tail _ (.tail _ (.tail _ (.tail _ hq))))
      clear hrow ltH
      try clear hz
      k_steps
      refine unhold ?_
      rename Fr gg LL _ _ => F9
      rename News gg LL _ _ => N9
      have N8 : News gg LL _ ((Dh, lsO wr ch) :: (Dr, lsO wr 0) :: (LL + 1, oc) :: news) := fun q hq => N9 q (by
        rcases List.mem_cons.mp hq with rfl | hq
        · exact .head _
        · rcases List.mem_cons.mp hq with rfl | hq
          · exact .tail _ (.tail _ (.head _))
          · exact .tail _ (.tail _ (.tail _ (.tail _ hq))))
      refine While_inv (fun n m₁ nx => ∃ (sv : List Value) (c : Nat) (sh : List Int) (k : Nat), nx = (Dh, lsO sv c) :: (Dr, lsO wr 0) :: (LL + 1, oc) :: news ∧ m₁ (Str.ofString "short") = some (.ref Dh) ∧ m₁ (Str.ofString "row") = some (.ref Dr) ∧ IntsAre sv sh ∧ sh ≠ [] ∧ RW = sh ++ List.replicate k (sh.getLastD 0) ∧ n = sh.length) (n₀ := RW.length) F9 N8 ⟨wr, ch, RW, 0, rfl, by with_unfolding_all rfl, by with_unfolding_all rfl, hIr, hRn, by simp, rfl⟩ ?turn (by passes_own)
      case turn =>
        rintro n m₁ nx hq tkq F N ⟨sv, c, sh, k, rfl, e1, e2, hsv, hsn, hsk, rfl⟩
        replace F := frB [(Str.ofString "short", .ref Dh), (Str.ofString "row", .ref Dr)] (List.forall_mem_cons.mpr ⟨e1, List.forall_mem_cons.mpr ⟨e2, List.forall_mem_nil _⟩⟩) F
        dsimp only [kstB] at F ⊢
        have hsl : sh.length ≤ 50 := by rw [hsk] at hRl; simp at hRl; (first | (with_reducible first | assumption | exact Nat.le_trans (by assumption) (by decide) | exact Nat.lt_of_le_of_lt (by assumption) (by decide) | (refine Nat.ne_of_lt ?_; (repeat (first | assumption | refine Nat.lt_trans (by assumption) ?_)); done) | (refine Nat.ne_of_gt ?_; (repeat (first | assumption | refine Nat.lt_trans (by assumption) ?_)); done) | ((repeat (first | assumption | refine Nat.lt_trans (by assumption) ?_)); done)) | omega)
        have hwl2 := hsv.length
        clear F9 N9 N8
        k_steps
        · refine unhold ?_
          rename List.take _ _ = _ => heq
          obtain ⟨q1, q2, q3⟩ := pop_fact hsn heq
          obtain ⟨sv0, tv0, rfl, hs0⟩ := ints_last hsv hsn
          rename Fr gg LL _ _ => F9
          rename News gg LL _ _ => N9
          rename_i Dx wx hx1 hIx hCx hLx lx Dy wy hy1 hIy hCy hLy ly
          have N8 : News gg LL hy1 ((Dh, lsO (sv0 ++ [.int (sh.getLastD 0) tv0]) c) :: (Dr, lsO wr 0) :: (LL + 1, oc) :: news) := fun q hq => N9 q (.tail _ (.tail _ hq))
          refine popLast_led F9 N8 (fun p hp => ?_) (by simp at hwl2; (first | (with_reducible first | assumption | exact Nat.le_trans (by assumption) (by decide) | exact Nat.lt_of_le_of_lt (by assumption) (by decide) | (refine Nat.ne_of_lt ?_; (repeat (first | assumption | refine Nat.lt_trans (by assumption) ?_)); done) | (refine Nat.ne_of_gt ?_; (repeat (first | assumption | refine Nat.lt_trans (by assumption) ?_)); done) | ((repeat (first | assumption | refine Nat.lt_trans (by assumption) ?_)); done)) | omega)) ?_
          · rcases List.mem_cons.mp hp with rfl | hp
            · exact neN (by (first | (with_reducible first | assumption | exact Nat.le_trans (by assumption) (by decide) | exact Nat.lt_of_le_of_lt (by assumption) (by decide) | (refine Nat.ne_of_lt ?_; (repeat (first | assumption | refine Nat.lt_trans (by assumption) ?_)); done) | (refine Nat.ne_of_gt ?_; (repeat (first | assumption | refine Nat.lt_trans (by assumption) ?_)); done) | ((repeat (first | assumption | refine Nat.lt_trans (by assumption) ?_)); done)) | omega))
            · rcases List.mem_cons.mp hp with rfl | hp
              · exact neN (by (first | (with_reducible first | assumption | exact Nat.le_trans (by assumption) (by decide) | exact Nat.lt_of_le_of_lt (by assumption) (by decide) | (refine Nat.ne_of_lt ?_; (repeat (first | assumption | refine Nat.lt_trans (by assumption) ?_)); done) | (refine Nat.ne_of_gt ?_; (repeat (first | assumption | refine Nat.lt_trans (by assumption) ?_)); done) | ((repeat (first | assumption | refine Nat.lt_trans (by assumption) ?_)); done)) | omega))
              · exact neN (by have := lN p hp; (first | (with_reducible first | assumption | exact Nat.le_trans (by assumption) (by decide) | exact Nat.lt_of_le_of_lt (by assumption) (by decide) | (refine Nat.ne_of_lt ?_; (repeat (first | assumption | refine Nat.lt_trans (by assumption) ?_)); done) | (refine Nat.ne_of_gt ?_; (repeat (first | assumption | refine Nat.lt_trans (by assumption) ?_)); done) | ((repeat (first | assumption | refine Nat.lt_trans (by assumption) ?_)); done)) | omega))
          intro n' h' F' N'
          dsimp only
          clear F9 N9 N8
          k_steps
          refine unhold ?_
          rename Fr gg LL _ _ => F9
          rename News gg LL _ _ => N9
          refine WhileStep.intro F9 N9 (n' := sh.dropLast.length) (by rw [q2]; simp) ⟨sv0, n', sh.dropLast, k + 1, rfl, by with_unfolding_all rfl, by with_unfolding_all rfl, hs0, q1, ?_, rfl⟩
          rw [q3, hsk]
          conv => lhs; lhs; rw [q2]
          rw [List.append_assoc]
          rfl
        · refine unhold ?_
          rename Fr gg LL _ _ => F9
          rename News gg LL _ _ => N9
          refine assign_one ?_ rfl
          with_unfolding_all refine' compZGF F9 ?hclos ?hcell ?hkind ?hnames ?hx ?hx2 ?hxx ?hxd ?hh ?hrm3 ?hl3 ?_
          case hclos => exact rfl
          case hcell => decide
          case hkind => exact rfl
          case hnames => decide
          case hx => exact rfl
          case hx2 => exact rfl
          case hxx => decide
          case hxd => decide
          case hh => exact rfl
          case hrm3 => dsimp only [Around.deeper, Around.in1]; (first | (with_reducible first | assumption | exact Nat.le_trans (by assumption) (by decide) | exact Nat.lt_of_le_of_lt (by assumption) (by decide) | (refine Nat.ne_of_lt ?_; (repeat (first | assumption | refine Nat.lt_trans (by assumption) ?_)); done) | (refine Nat.ne_of_gt ?_; (repeat (first | assumption | refine Nat.lt_trans (by assumption) ?_)); done) | ((repeat (first | assumption | refine Nat.lt_trans (by assumption) ?_)); done)) | omega)
          case hl3 => exact TT.nolimit
          k_steps
          rename_i Da wa ha hIa hCa hLa la Db wb hb hIb hCb hLb lb hne2 lx hX lX Ds ws hS FS NS hIs lS
          have hz := hold hz'
          have hvs : ∀ x ∈ sh, 1 ≤ x ∧ x ≤ 100 := fun x hx => hv100 x (by rw [hsk]; exact List.mem_append_left _ hx)
          refine' forgetA rfl (Nat.le_refl _) (Nat.le_refl _) (group_c Ds ws 0 _ _ (sh ++ List.replicate (k + 1) (sh.getLastD 0)) false hIs (outs_rep sh none (sh.getLastD 0) _ hvs (fun e => absurd e hsn) (fun _ => rfl) (fun o ho => (List.mem_replicate.mp ho).2)) (.inr (by simp; (first | (with_reducible first | assumption | exact Nat.le_trans (by assumption) (by decide) | exact Nat.lt_of_le_of_lt (by assumption) (by decide) | (refine Nat.ne_of_lt ?_; (repeat (first | assumption | refine Nat.lt_trans (by assumption) ?_)); done) | (refine Nat.ne_of_gt ?_; (repeat (first | assumption | refine Nat.lt_trans (by assumption) ?_)); done) | ((repeat (first | assumption | refine Nat.lt_trans (by assumption) ?_)); done)) | omega))) _ _ gg LL _ _ _ _ FS XX NS TT ?hrm ?_)
          case hrm => dsimp only [Around.deeper]; (first | (with_reducible first | assumption | exact Nat.le_trans (by assumption) (by decide) | exact Nat.lt_of_le_of_lt (by assumption) (by decide) | (refine Nat.ne_of_lt ?_; (repeat (first | assumption | refine Nat.lt_trans (by assumption) ?_)); done) | (refine Nat.ne_of_gt ?_; (repeat (first | assumption | refine Nat.lt_trans (by assumption) ?_)); done) | ((repeat (first | assumption | refine Nat.lt_trans (by assumption) ?_)); done)) | omega)
          intro Lg a hG tkG gs0 hltG hLg hga hszG FG NG hbare hGen
          dsimp only
          k_steps
          refine unhold ?_
          have qDs : @LT.lt Nat _ Ds Lg := hltG.hd
          refine' call_zip_G (hGen (AB 0 0) rfl (fun _ => False) (fun _ => False.elim)).1 ?hlz ?_
          case hlz => exact isList_led NG (.tail _ (.tail _ (.tail _ (.tail _ (.tail _ (.head _))))))
          intro hZ hz1 hTI hTO hI2 hszZ hkZ
          dsimp only at hz1 hTI hTO hI2 hszZ hkZ ⊢
          rw [hszG] at hz1 hTI hTO hI2 hszZ ⊢
          have qo : ∀ q ∈ (LL + 1, oc) :: news, @LT.lt Nat _ q.1 Ds := fun q hq => by
            rcases List.mem_cons.mp hq with rfl | hq
            · (first | (with_reducible first | assumption | exact Nat.le_trans (by assumption) (by decide) | exact Nat.lt_of_le_of_lt (by assumption) (by decide) | (refine Nat.ne_of_lt ?_; (repeat (first | assumption | refine Nat.lt_trans (by assumption) ?_)); done) | (refine Nat.ne_of_gt ?_; (repeat (first | assumption | refine Nat.lt_trans (by assumption) ?_)); done) | ((repeat (first | assumption | refine Nat.lt_trans (by assumption) ?_)); done)) | omega)
            · exact kst_ltOf lS.2.2.2.2.2.2 q hq
          have N0 : News gg LL hG ((LL + 1, oc) :: news) := fun q hq => NG q (.tail _ (.tail _ (.tail _ (.tail _ (.tail _ (.tail _ hq))))))
          obtain ⟨n0, hn0⟩ : ∃ n0 : Nat, a + 1 = n0 := ⟨_, rfl⟩
          rw [hn0] at hz1 hTI hTO hI2 hszZ ⊢
          have hlS := lS.2.2.2.2.1
          have hwr := hIr.length
          have hall : RW ++ [sh.getLastD 0] = sh ++ List.replicate (k + 1) (sh.getLastD 0) := by
            rw [List.replicate_succ', ← List.append_assoc, ← hsk]
          have FZ := FG.keeps hkZ
          have NZ : News gg LL hZ ((LL + 1, oc) :: news) := fun q hq => ⟨hkZ _ _ (N0 q hq).1, (N0 q hq).2⟩
          have hfree : ∀ b, @LT.lt Nat _ LL b → (∀ q ∈ (LL + 1, oc) :: news, q.1 ≠ b) → gg.get? b = none ∧ b ≠ LL ∧ ∀ q ∈ (LL + 1, oc) :: news, q.1 ≠ b := fun b hb hq => ⟨fr_none FG hb, neN (by (first | (with_reducible first | assumption | exact Nat.le_trans (by assumption) (by decide) | exact Nat.lt_of_le_of_lt (by assumption) (by decide) | (refine Nat.ne_of_lt ?_; (repeat (first | assumption | refine Nat.lt_trans (by assumption) ?_)); done) | (refine Nat.ne_of_gt ?_; (repeat (first | assumption | refine Nat.lt_trans (by assumption) ?_)); done) | ((repeat (first | assumption | refine Nat.lt_trans (by assumption) ?_)); done)) | omega)), hq⟩
          refine ⟨n0 + 3, n0 + 1, n0 + 2, n0, Dr, a, Lg, Ds, s.gens.size, wr, sh ++ List.replicate (k + 1) (sh.getLastD 0), (LL + 1, oc) :: news, rfl, ?zap, hz1, hTI, ⟨_, _, hTO⟩, hI2, ?zl, ?zno, ?zng, ?zL, ?zD, ?zlen, ?zsz, FZ, NZ, ?zG, ?zdone⟩
          case zap => constructor <;> exact neN (by (first | (with_reducible first | assumption | exact Nat.le_trans (by assumption) (by decide) | exact Nat.lt_of_le_of_lt (by assumption) (by decide) | (refine Nat.ne_of_lt ?_; (repeat (first | assumption | refine Nat.lt_trans (by assumption) ?_)); done) | (refine Nat.ne_of_gt ?_; (repeat (first | assumption | refine Nat.lt_trans (by assumption) ?_)); done) | ((repeat (first | assumption | refine Nat.lt_trans (by assumption) ?_)); done)) | omega))
          case zl =>
            have hlz := isList_led (s := ⟨hG, s.gens, s.drawn, tkG, s.os⟩) NG (.tail _ (.tail _ (.tail _ (.tail _ (.tail _ (.head _))))))
            exact hlz.at fun o e => hkZ _ o e
          case zno =>
            intro b hb
            simp only [List.mem_cons, List.not_mem_nil, or_false] at hb
            rcases hb with rfl | rfl | rfl | rfl | rfl
            · exact hfree _ (by (first | (with_reducible first | assumption | exact Nat.le_trans (by assumption) (by decide) | exact Nat.lt_of_le_of_lt (by assumption) (by decide) | (refine Nat.ne_of_lt ?_; (repeat (first | assumption | refine Nat.lt_trans (by assumption) ?_)); done) | (refine Nat.ne_of_gt ?_; (repeat (first | assumption | refine Nat.lt_trans (by assumption) ?_)); done) | ((repeat (first | assumption | refine Nat.lt_trans (by assumption) ?_)); done)) | omega)) fun q hq => neN (by have := qo q hq; (first | (with_reducible first | assumption | exact Nat.le_trans (by assumption) (by decide) | exact Nat.lt_of_le_of_lt (by assumption) (by decide) | (refine Nat.ne_of_lt ?_; (repeat (first | assumption | refine Nat.lt_trans (by assumption) ?_)); done) | (refine Nat.ne_of_gt ?_; (repeat (first | assumption | refine Nat.lt_trans (by assumption) ?_)); done) | ((repeat (first | assumption | refine Nat.lt_trans (by assumption) ?_)); done)) | omega))
            · exact hfree _ (by (first | (with_reducible first | assumption | exact Nat.le_trans (by assumption) (by decide) | exact Nat.lt_of_le_of_lt (by assumption) (by decide) | (refine Nat.ne_of_lt ?_; (repeat (first | assumption | refine Nat.lt_trans (by assumption) ?_)); done) | (refine Nat.ne_of_gt ?_; (repeat (first | assumption | refine Nat.lt_trans (by assumption) ?_)); done) | ((repeat (first | assumption | refine Nat.lt_trans (by assumption) ?_)); done)) | omega)) fun q hq => neN (by have := qo q hq; (first | (with_reducible first | assumption | exact Nat.le_trans (by assumption) (by decide) | exact Nat.lt_of_le_of_lt (by assumption) (by decide) | (refine Nat.ne_of_lt ?_; (repeat (first | assumption | refine Nat.lt_trans (by assumption) ?_)); done) | (refine Nat.ne_of_gt ?_; (repeat (first | assumption | refine Nat.lt_trans (by assumption) ?_)); done) | ((repeat (first | assumption | refine Nat.lt_trans (by assumption) ?_)); done)) | omega))
            · exact hfree _ (by (first | (with_reducible first | assumption | exact Nat.le_trans (by assumption) (by decide) | exact Nat.lt_of_le_of_lt (by assumption) (by decide) | (refine Nat.ne_of_lt ?_; (repeat (first | assumption | refine Nat.lt_trans (by assumption) ?_)); done) | (refine Nat.ne_of_gt ?_; (repeat (first | assumption | refine Nat.lt_trans (by assumption) ?_)); done) | ((repeat (first | assumption | refine Nat.lt_trans (by assumption) ?_)); done)) | omega)) fun q hq => neN (by have := qo q hq; (first | (with_reducible first | assumption | exact Nat.le_trans (by assumption) (by decide) | exact Nat.lt_of_le_of_lt (by assumption) (by decide) | (refine Nat.ne_of_lt ?_; (repeat (first | assumption | refine Nat.lt_trans (by assumption) ?_)); done) | (refine Nat.ne_of_gt ?_; (repeat (first | assumption | refine Nat.lt_trans (by assumption) ?_)); done) | ((repeat (first | assumption | refine Nat.lt_trans (by assumption) ?_)); done)) | omega))
            · exact hfree _ (by (first | (with_reducible first | assumption | exact Nat.le_trans (by assumption) (by decide) | exact Nat.lt_of_le_of_lt (by assumption) (by decide) | (refine Nat.ne_of_lt ?_; (repeat (first | assumption | refine Nat.lt_trans (by assumption) ?_)); done) | (refine Nat.ne_of_gt ?_; (repeat (first | assumption | refine Nat.lt_trans (by assumption) ?_)); done) | ((repeat (first | assumption | refine Nat.lt_trans (by assumption) ?_)); done)) | omega)) fun q hq => neN (by have := qo q hq; (first | (with_reducible first | assumption | exact Nat.le_trans (by assumption) (by decide) | exact Nat.lt_of_le_of_lt (by assumption) (by decide) | (refine Nat.ne_of_lt ?_; (repeat (first | assumption | refine Nat.lt_trans (by assumption) ?_)); done) | (refine Nat.ne_of_gt ?_; (repeat (first | assumption | refine Nat.lt_trans (by assumption) ?_)); done) | ((repeat (first | assumption | refine Nat.lt_trans (by assumption) ?_)); done)) | omega))
            · exact hfree _ (by (first | (with_reducible first | assumption | exact Nat.le_trans (by assumption) (by decide) | exact Nat.lt_of_le_of_lt (by assumption) (by decide) | (refine Nat.ne_of_lt ?_; (repeat (first | assumption | refine Nat.lt_trans (by assumption) ?_)); done) | (refine Nat.ne_of_gt ?_; (repeat (first | assumption | refine Nat.lt_trans (by assumption) ?_)); done) | ((repeat (first | assumption | refine Nat.lt_trans (by assumption) ?_)); done)) | omega)) fun q hq => neN (by have := qo q hq; (first | (with_reducible first | assumption | exact Nat.le_trans (by assumption) (by decide) | exact Nat.lt_of_le_of_lt (by assumption) (by decide) | (refine Nat.ne_of_lt ?_; (repeat (first | assumption | refine Nat.lt_trans (by assumption) ?_)); done) | (refine Nat.ne_of_gt ?_; (repeat (first | assumption | refine Nat.lt_trans (by assumption) ?_)); done) | ((repeat (first | assumption | refine Nat.lt_trans (by assumption) ?_)); done)) | omega))
          case zng =>
            intro b hb
            simp only [List.mem_cons, List.not_mem_nil, or_false] at hb
            rcases hb with rfl | rfl | rfl | rfl | rfl | rfl <;> exact ⟨neN (by (first | (with_reducible first | assumption | exact Nat.le_trans (by assumption) (by decide) | exact Nat.lt_of_le_of_lt (by assumption) (by decide) | (refine Nat.ne_of_lt ?_; (repeat (first | assumption | refine Nat.lt_trans (by assumption) ?_)); done) | (refine Nat.ne_of_gt ?_; (repeat (first | assumption | refine Nat.lt_trans (by assumption) ?_)); done) | ((repeat (first | assumption | refine Nat.lt_trans (by assumption) ?_)); done)) | omega)), neN (by (first | (with_reducible first | assumption | exact Nat.le_trans (by assumption) (by decide) | exact Nat.lt_of_le_of_lt (by assumption) (by decide) | (refine Nat.ne_of_lt ?_; (repeat (first | assumption | refine Nat.lt_trans (by assumption) ?_)); done) | (refine Nat.ne_of_gt ?_; (repeat (first | assumption | refine Nat.lt_trans (by assumption) ?_)); done) | ((repeat (first | assumption | refine Nat.lt_trans (by assumption) ?_)); done)) | omega))⟩
          case zL => show @LT.lt Nat _ Lg hZ.objs.size; (first | (with_reducible first | assumption | exact Nat.le_trans (by assumption) (by decide) | exact Nat.lt_of_le_of_lt (by assumption) (by decide) | (refine Nat.ne_of_lt ?_; (repeat (first | assumption | refine Nat.lt_trans (by assumption) ?_)); done) | (refine Nat.ne_of_gt ?_; (repeat (first | assumption | refine Nat.lt_trans (by assumption) ?_)); done) | ((repeat (first | assumption | refine Nat.lt_trans (by assumption) ?_)); done)) | omega)
          case zD => show @LT.lt Nat _ Ds hZ.objs.size; (first | (with_reducible first | assumption | exact Nat.le_trans (by assumption) (by decide) | exact Nat.lt_of_le_of_lt (by assumption) (by decide) | (refine Nat.ne_of_lt ?_; (repeat (first | assumption | refine Nat.lt_trans (by assumption) ?_)); done) | (refine Nat.ne_of_gt ?_; (repeat (first | assumption | refine Nat.lt_trans (by assumption) ?_)); done) | ((repeat (first | assumption | refine Nat.lt_trans (by assumption) ?_)); done)) | omega)
          case zlen => rw [← hall, hwr]; simp
          case zsz => (first | (with_reducible first | assumption | exact Nat.le_trans (by assumption) (by decide) | exact Nat.lt_of_le_of_lt (by assumption) (by decide) | (refine Nat.ne_of_lt ?_; (repeat (first | assumption | refine Nat.lt_trans (by assumption) ?_)); done) | (refine Nat.ne_of_gt ?_; (repeat (first | assumption | refine Nat.lt_trans (by assumption) ?_)); done) | ((repeat (first | assumption | refine Nat.lt_trans (by assumption) ?_)); done)) | omega)
          case zG => exact fun P hP => GenAtL.keep (hGen _ rfl P hP) (fun b o _ e => hkZ b o e) rfl fun o e => hkZ a o e
          case zdone =>
            intro S its' nS h' tk' gs' hI' hltS F1 N2 hbare'
            rw [hwr, ← hall, List.take_left] at hI'
            have lS2 : @LT.lt Nat _ (LL + 1) S ∧ AllLt S news := ⟨hltS _ (.head _), allLt_of fun q hq => hltS q (.tail _ hq)⟩
            clear hGen FZ NZ hfree N0 NG FG FS NS hX lX lS qo hIs hIr hIa hIb hCa hLa hCb hLb la lb hsv hwl hwl2 hsl hall hlS hwr hz
            try clear hz
            dsimp only
            refine wpAny_assign_Name ?_
            refine storeC_led (c := LL + 1) (x := (S, lsO its' nS)) (o := oc) (rest := news) rfl rfl rfl F1 N2 (neN (by have := lS2.1; (first | (with_reducible first | assumption | exact Nat.le_trans (by assumption) (by decide) | exact Nat.lt_of_le_of_lt (by assumption) (by decide) | (refine Nat.ne_of_lt ?_; (repeat (first | assumption | refine Nat.lt_trans (by assumption) ?_)); done) | (refine Nat.ne_of_gt ?_; (repeat (first | assumption | refine Nat.lt_trans (by assumption) ?_)); done) | ((repeat (first | assumption | refine Nat.lt_trans (by assumption) ?_)); done)) | omega))) (fun q hq => neN (by have := hl1 q hq; have e2 : @LT.lt Nat _ q.1 LL := this; (first | (with_reducible first | assumption | exact Nat.le_trans (by assumption) (by decide) | exact Nat.lt_of_le_of_lt (by assumption) (by decide) | (refine Nat.ne_of_lt ?_; (repeat (first | assumption | refine Nat.lt_trans (by assumption) ?_)); done) | (refine Nat.ne_of_gt ?_; (repeat (first | assumption | refine Nat.lt_trans (by assumption) ?_)); done) | ((repeat (first | assumption | refine Nat.lt_trans (by assumption) ?_)); done)) | omega))) hoc ?_
            intro h8 oc8 F8 N8 hoc8
            dsimp only
            k_steps
            exact hJ S its' nS h8 oc8 _ gs' _ hI' lS2 (fun hb => hbare' (bare_push hb hbare)) hoc8 F8 N8
    · exact hE _ _ _ (by k_asm) (by k_asm) (by with_unfolding_all rfl)
end Mine
end
section
open PySem PySem.W PyProof.Rows Mine
set_option Elab.async false
set_option maxRecDepth 100000
set_option maxHeartbeats 3000000
namespace Mine
abbrev lexPre (w : World) (P : LexP) (line : Int) (tl : Tok) (l : List (Nat × Tok)) (c : Nat) (pbs : List Value) (n : Nat) : List (Addr × Obj) := lexLed w P line tl l c pbs n []
theorem lex_iff {w : World} {P : LexP} {line : Int} {tl : Tok} {l : List (Nat × Tok)} {c : Nat} {pbs : List Value} {n : Nat} {q : Addr × Obj} {r : List (Addr × Obj)} : q ∈ lexLed w P line tl l c pbs n r ↔ q ∈ lexPre w P line tl l c pbs n ∨ q ∈ r := by
  show q ∈ lexPre w P line tl l c pbs n ++ r ↔ _
  exact List.mem_append
theorem lex_mem {w : World} {P : LexP} {line : Int} {tl : Tok} {l : List (Nat × Tok)} {c : Nat} {pbs : List Value} {n : Nat} {a q : Addr × Obj} {r : List (Addr × Obj)} (h : q ∈ lexLed w P line tl l c pbs n (a :: r)) : q = a ∨ q ∈ lexLed w P line tl l c pbs n r :=
  (lex_iff.mp h).elim (fun z => .inr (lex_iff.mpr (.inl z))) fun z => (List.mem_cons.mp z).imp id fun z => lex_iff.mpr (.inr z)
theorem lex_sub {w : World} {P : LexP} {line : Int} {tl : Tok} {l : List (Nat × Tok)} {c : Nat} {pbs : List Value} {n : Nat} {q : Addr × Obj} {r r' : List (Addr × Obj)} (hs : q ∈ r → q ∈ r') (h : q ∈ lexLed w P line tl l c pbs n r) : q ∈ lexLed w P line tl l c pbs n r' :=
  lex_iff.mpr ((lex_iff.mp h).imp id hs)
theorem lex_mem' {w : World} {P : LexP} {line : Int} {tl : Tok} {l : List (Nat × Tok)} {c : Nat} {pbs : List Value} {n : Nat} {a q : Addr × Obj} {r : List (Addr × Obj)} (h : q ∈ lexLed w P line tl l c pbs n r) : q ∈ lexLed w P line tl l c pbs n (a :: r) :=
  lex_sub (.tail _) h
theorem fn56 (w : World) : PRG = PySem.Challenge.rw_re0041_01.row.prog → fnIn (hd.heap_1 w.params) 56 = true := by
  k_fill
  intro _
  k_is
theorem fn_obj {K : Frag} {f : Addr} (h : fnIn K f = true) : ∃ o fd, K.lookup f = some o ∧ o.data = .func fd := by
  unfold fnIn at h
  split at h
  · rename_i q; exact ⟨_, _, q, rfl⟩
  · cases h
abbrev lx2 (P : LexP) (it mo : Addr) (a b : Value) (e : Bool) (news : List (Addr × Obj)) : List (Addr × Obj) := (it, ciObj a b e) :: (mo, methodObj (.ref 56) (.ref P.x)) :: news
def LxAt (w : World) (P : LexP) (it mo : Addr) (a b : Value) (e : Bool) (news : List (Addr × Obj)) (n : Nat) (g : Heap) (L : Addr) (s s' : Shared) (l : List (Nat × Tok)) (line : Int) (tok : Str) : Prop :=
  ∃ tl c h tk m tt, s' = { s with heap := h, toks := tk } ∧ Fr g L h m ∧ News g L h (lexLed w P line tl l c [] n (lx2 P it mo a b e news)) ∧
    m (Str.ofString "self") = some (.ref P.x) ∧ m (Str.ofString "token") = some (.str tok tt) ∧ m (Str.ofString "fiter") = some (.ref it)
theorem neUp {b p c : Addr} (h1 : @LE.le Nat _ b p) (h2 : @LT.lt Nat _ p c) : c ≠ b := fun e => Nat.lt_irrefl _ (Nat.lt_of_le_of_lt (e ▸ h1) h2)
theorem LexOk.top {w : World} {mean mg mb} {P : LexP} {news : List (Addr × Obj)} (h : LexOk w mean mg mb P news) : ∀ a ∈ lexAdr P, @LE.le Nat _ a P.pb := by
  have e1 := Nat.le_of_lt h.lA
  have e2 := Nat.le_trans (Nat.le_of_lt h.l9) e1
  have e3 := Nat.le_trans (Nat.le_of_lt h.l8) e2
  have e4 := Nat.le_trans (Nat.le_of_lt h.l7) e3
  have e5 := Nat.le_trans (Nat.le_of_lt h.l6) e4
  have e6 := Nat.le_trans (Nat.le_of_lt h.l5) e5
  have e7 := Nat.le_trans (Nat.le_of_lt h.l4) e6
  have e8 := Nat.le_trans (Nat.le_of_lt h.l3) e7
  have e9 := Nat.le_trans (Nat.le_of_lt h.l2) e8
  have e10 := Nat.le_trans (Nat.le_of_lt h.l1) e9
  exact List.forall_mem_cons.mpr ⟨e8, List.forall_mem_cons.mpr ⟨Nat.le_refl _, List.forall_mem_cons.mpr ⟨e2, List.forall_mem_cons.mpr ⟨e1, List.forall_mem_cons.mpr ⟨e3, List.forall_mem_cons.mpr ⟨e4, List.forall_mem_cons.mpr ⟨e5, List.forall_mem_cons.mpr ⟨e6, List.forall_mem_cons.mpr ⟨e7, List.forall_mem_cons.mpr ⟨e9, List.forall_mem_cons.mpr ⟨e10, List.forall_mem_nil _⟩⟩⟩⟩⟩⟩⟩⟩⟩⟩⟩
theorem LexOk.to {w : World} {mean mg mb} {P : LexP} {news news' : List (Addr × Obj)} (h : LexOk w mean mg mb P news) (h' : OwnOff news' (lexAdr P)) : LexOk w mean mg mb P news' :=
  ⟨h.l1, h.l2, h.l3, h.l4, h.l5, h.l6, h.l7, h.l8, h.l9, h.lA, h', fun q hq => h' q hq 86 (by k_mem), h.oc, h.o2f, h.rd⟩
theorem off_cons {a : Addr} {o : Obj} {l : List (Addr × Obj)} {as : List Addr} (h : ∀ b ∈ as, a ≠ b) (h' : OwnOff l as) : OwnOff ((a, o) :: l) as := fun q hq b hb => by
  rcases List.mem_cons.mp hq with rfl | hq
  · exact h b hb
  · exact h' q hq b hb
theorem LexOk.up {w : World} {mean mg mb} {P : LexP} {news : List (Addr × Obj)} (h : LexOk w mean mg mb P news) {a : Addr} (ha : @LT.lt Nat _ P.pb a) : ∀ b ∈ lexAdr P, a ≠ b := fun b hb => neUp (h.top b hb) ha
theorem LexOk.more {w : World} {mean mg mb} {P : LexP} {news : List (Addr × Obj)} (h : LexOk w mean mg mb P news) {it mo : Addr} {a b : Value} {e : Bool} (h1 : @LT.lt Nat _ P.pb mo) (h2 : @LT.lt Nat _ mo it) : LexOk w mean mg mb P (lx2 P it mo a b e news) :=
  h.to (off_cons (h.up (Nat.lt_trans h1 h2)) (off_cons (h.up h1) h.n1))
theorem ch1_ne (c : Nat) : ch1 c ≠ Str.ofString "" := fun h => by
  have h2 : (ch1 c).cps.toList = (Str.ofString "").cps.toList := congrArg (fun s : Str => s.cps.toList) h
  exact absurd (show [c] = [] from h2) (by simp)
theorem lx_next {w : World} {mean} {mg mb} {P : LexP} {news : List (Addr × Obj)} (hP : LexOk w mean mg mb P news) {it mo : Addr} {ts : Tok} {n : Nat} {g : Heap} {L : Addr} {s s' : Shared} {l : List (Nat × Tok)} {line : Int} {tok : Str} {A : Around} {dp un : Nat} {E : Value → Shared → Prop} {Q : Option Value → Shared → Prop}
    (h1 : @LT.lt Nat _ P.pb mo) (h2 : @LT.lt Nat _ mo it) (hno : LtAll mo news) (X : (hd.heap_1 w.params).In g) (T : Top topProg looseT mean mg mb g) (hh : A.handled = none) (hd' : A.depth ≤ dp) (hu : A.units + 1 ≤ un) (hroom : dp + 4 < recursionLimit) (hun : un + 40 < cLine) (hl : l.length ≤ 100)
    (S : LxAt w P it mo (.ref mo) (.str (Str.ofString "") ts) false news n g L s s' l line tok)
    (hnil : l = [] → ∀ s'', LxAt w P it mo .none .none true news n g L s s'' [] line tok → Q none s'')
    (hcons : ∀ p r t s'', l = p :: r → LxAt w P it mo (.ref mo) (.str (Str.ofString "") ts) false news n g L s s'' r (line + nlF l) tok → Q (some (.str (ch1 p.1) t)) s'') :
    wpAny (model PRG w) A (pyNext (.ref it)) Q E s' := by
  obtain ⟨tl, c, h, tk, m, tt, rfl, F, N, e1, e2, e3⟩ := S
  have h56 : fnIn (hd.heap_1 w.params) 56 = true := fn56 w rfl
  obtain ⟨fo, fd, hK, hfd⟩ := fn_obj h56
  have XF := X.keeps F.keep
  have mIt : ∀ (line : Int) (tl : Tok) (l : List (Nat × Tok)) (c : Nat) (a b : Value) (e : Bool), (it, ciObj a b e) ∈ lexLed w P line tl l c [] n (lx2 P it mo a b e news) := fun _ _ _ _ _ _ _ => by k_mem
  have mMo : ∀ (line : Int) (tl : Tok) (l : List (Nat × Tok)) (c : Nat) (a b : Value) (e : Bool), (mo, methodObj (.ref 56) (.ref P.x)) ∈ lexLed w P line tl l c [] n (lx2 P it mo a b e news) := fun _ _ _ _ _ _ _ => by k_mem
  refine ci_next (f := 56) (x := P.x) (ts := ts) (fo := fo) (fd := fd) hh (N _ (mIt ..)).1 (N _ (mMo ..)).1 (XF _ _ hK) hfd ?_
  refine forgetC (dp := dp) (un := un) hh hd' hu ?_
  refine rchar_c P _ (hP.more h1 h2) line tl l c [] n hl dp un g L m _ _ F X N T hroom (by omega) ?_
  intro t' tl' c' h' tk' F' N'
  refine ⟨headS l, t', rfl, (N' _ (mIt ..)).1, (N' _ (mMo ..)).1, (X.keeps F'.keep) _ _ hK, ?_, ?_⟩
  · intro hne
    cases l with
    | nil => exact absurd rfl hne
    | cons p r => exact hcons p r t' _ rfl ⟨tl', c', h', tk', m, tt, rfl, F', N', e1, e2, e3⟩
  · intro he h'' hit hk
    cases l with
    | cons p r => exact absurd he (ch1_ne p.1)
    | nil =>
      have hitm := N' (it, ciObj (.ref mo) (.str (Str.ofString "") ts) false) (mIt ..)
      have hIL := hitm.2.1
      have hI0 := hitm.2.2
      refine hnil rfl _ ⟨tl', c', h'', tk', m, tt, rfl, ⟨?_, fun b o e => hk b o (fun q => by rw [q, hI0] at e; cases e) (F'.keep b o e), F'.above⟩, ?_, e1, e2, e3⟩
      · obtain ⟨oL, es, ep, a1, a2, a3⟩ := F'.ns
        exact ⟨oL, es, ep, hk L oL (Ne.symm hIL) a1, a2, a3⟩
      · have off : ∀ q ∈ lexLed w P line tl' [] c' [] n ((mo, methodObj (.ref 56) (.ref P.x)) :: news), q.1 ≠ it := by
          intro q hq
          rcases lex_iff.mp hq with h | h
          · exact (hP.up (Nat.lt_trans h1 h2) q.1 (show q.1 ∈ lexAdr P from List.mem_map_of_mem (f := (·.1)) h)).symm
          · rcases List.mem_cons.mp h with rfl | h
            · exact Nat.ne_of_lt h2
            · exact Nat.ne_of_lt (Nat.lt_trans (hno q h) h2)
        have N'' : News g L h' (lexLed w P line tl' [] c' [] n (lx2 P it mo (.ref mo) (.str (Str.ofString "") ts) false news)) := by
          have e0 : line + nlF [] = line := Int.add_zero _
          rw [e0] at N'
          exact N'
        intro q hq
        rcases lex_mem hq with rfl | hq
        · exact ⟨hit, hIL, hI0⟩
        · have n2 := N'' q (lex_mem' hq)
          exact ⟨hk _ _ (off q hq) n2.1, n2.2⟩
end Mine
end
section
open PySem PySem.W PyProof.Rows Mine
set_option Elab.async false
set_option maxRecDepth 100000
set_option maxHeartbeats 3000000
namespace Mine
theorem token_c {w : World} {mean} {mg mb} (P : LexP) (news : List (Addr × Obj)) (hP : LexOk w mean mg mb P news) (line : Int) (tl : Tok) (l : List (Nat × Tok)) (c : Nat) (n : Nat) (hl : l.length ≤ 100) :
  MClaim w mean mg mb 63 (lexLed w P line tl l c [] n news) [.ref P.x] 7 (fun s Q h₀ L m => ∀ (t' tl' : Tok) (c' : Nat) (h' : Heap) (tk' : Nat), Fr h₀ L h' m → News h₀ L h' (lexLed w P (line + nlc l - nlc (lexT l).2) tl' (lexT l).2 c' [] n news) → Q (.str (lexT l).1 t') { s with heap := h', toks := tk' }) := by
  have hRC := rchar_c (w := w) (mean := mean) (mg := mg) (mb := mb) P
  have hP' := hP
  obtain ⟨l1, l2, l3, l4, l5, l6, l7, l8, l9, lA, n1, n2, hoc, ho2, rd⟩ := hP
  clear rd ho2
  dsimp only [MClaim, PRG, lexLed]; k_fill; intro dp un h₀ L m s Q E F₀ X₀ N₀ T₀ hroom hunits hret
  have k1 := held "exec For Name Name cons nil"
  have k2 := held "call builtin:iter"
  have k3 := held "call ref"
  refine wpAny_call ?_
  refine' enterPS ?k2 ?k3 ?k4 ?k5 ?k6 ?k7 ?k8 ?k9 ?kB ?_ ?c2 ?c3 ?c4 ?c5
  case k2 => k_asm
  case k3 => k_asm
  case k4 => k_asm
  case k5 => k_asm
  case k6 => k_is
  case k7 => k_is
  case k8 => exact rm0 hroom
  case k9 => exact BindsTo.of_eq rfl
  case c5 => decide
  case kB => exact locs rfl
  case c2 => exact rfl
  case c3 => exact rfl
  case c4 => exact rfl
  k_whole
  intro gg LL h1 st F N XX TT lt0
  try dsimp only
  try k_fold
  replace F := (show Fr _ _ _ (fun y => List.lookup y [(Str.ofString "self", Value.ref P.x)]) from F)
  refine quiet ?_
  intro Q9 hQ9
  k_steps
  all_goals try (refine hQ9 _ _ ?_; k_steps)
  refine unhold ?_
  rename Addr => mo
  rename News _ _ _ _ => N1
  rename _ < mo ∧ _ => lm
  obtain ⟨-, q1, -, -, -, -, -, -, -, -, -, q2⟩ := lm
  have hno := LtAll.of q2
  have q1 := ltN q1
  rename Fr _ _ _ _ => F1
  refine ci_make F1 N1 (N1 (mo, methodObj (.ref 56) (.ref P.x)) (.head _)).1 ?_
  intro it h' lit mit F' N'
  clear N1 F1
  obtain ⟨ts, N2⟩ : ∃ ts, News gg LL h' (lexLed w P line tl l c [] n (lx2 P it mo (.ref mo) (.str (Str.ofString "") ts) false news)) := ⟨_, by
    intro q hq
    rcases lex_mem hq with rfl | hq
    · exact N' _ (.head _)
    · rcases lex_mem hq with rfl | hq
      · exact N' _ (.tail _ (.head _))
      · exact N' _ (.tail _ (.tail _ hq))⟩
  clear N'
  have hit : @LT.lt Nat _ mo it := mit
  clear mit
  dsimp only [lexLed, lx2] at N2
  k_steps
  all_goals try (refine hQ9 _ _ ?_; k_steps)
  refine unhold ?_
  rename News _ _ _ _ => N1
  rename Fr _ _ _ _ => F1
  refine For_ask (it := it) (fun k s' => ((∃ l' line', LxAt w P it mo (.ref mo) (.str (Str.ofString "") ts) false news n gg LL s s' l' line' (Str.ofString "") ∧ lexT l' = lexT l ∧ line' + nlc l' = line + nlc l ∧ l'.length ≤ 100 ∧ k = l'.length + 2) ∨ (∃ line', LxAt w P it mo .none .none true news n gg LL s s' [] line' (lexT l).1 ∧ (lexT l).2 = [] ∧ line' = line + nlc l ∧ k = 1))) ?iter ?turn
  case iter =>
    k_steps
    all_goals try (refine hQ9 _ _ ?_; k_steps)
    refine ci_iter (N1 (it, ciObj (.ref mo) (.str (Str.ofString "") ts) false) (by k_mem)).1 ?_
    exact ⟨rfl, _, .inl ⟨l, line, ⟨tl, c, _, _, _, _, rfl, F1, N1, by with_unfolding_all rfl, by with_unfolding_all rfl, by with_unfolding_all rfl⟩, rfl, rfl, hl, rfl⟩⟩
  case turn =>
    clear N1 F1
    intro k s' hk Q8 hQ8
    rcases hk with ⟨l', line', S, e1, e2, e3, rfl⟩ | ⟨line', S, e1, e2, rfl⟩
    · refine lx_next (dp := dp + 1) (un := un + 4) hP' q1 hit hno XX TT rfl (Nat.le_refl _) (Nat.le_refl _) (by first | exact rmm hroom (by decide) | (first | (with_reducible first | assumption | exact Nat.le_trans (by assumption) (by decide) | exact Nat.lt_of_le_of_lt (by assumption) (by decide) | (refine Nat.ne_of_lt ?_; (repeat (first | assumption | refine Nat.lt_trans (by assumption) ?_)); done) | (refine Nat.ne_of_gt ?_; (repeat (first | assumption | refine Nat.lt_trans (by assumption) ?_)); done) | ((repeat (first | assumption | refine Nat.lt_trans (by assumption) ?_)); done)) | omega)) (by first | exact rmm hunits (by decide) | (first | (with_reducible first | assumption | exact Nat.le_trans (by assumption) (by decide) | exact Nat.lt_of_le_of_lt (by assumption) (by decide) | (refine Nat.ne_of_lt ?_; (repeat (first | assumption | refine Nat.lt_trans (by assumption) ?_)); done) | (refine Nat.ne_of_gt ?_; (repeat (first | assumption | refine Nat.lt_trans (by assumption) ?_)); done) | ((repeat (first | assumption | refine Nat.lt_trans (by assumption) ?_)); done)) | omega)) e3 S ?hnil ?hcons
      case hnil =>
        rintro rfl s'' S''
        obtain ⟨tl', c', h2, tk2, m2, tt2, rfl, F2, N2, g1, g2, g3⟩ := S''
        replace F2 := frB [(Str.ofString "self", .ref P.x), (Str.ofString "token", .str (Str.ofString "") tt2), (Str.ofString "fiter", .ref it)] (List.forall_mem_cons.mpr ⟨g1, List.forall_mem_cons.mpr ⟨g2, List.forall_mem_cons.mpr ⟨g3, List.forall_mem_nil _⟩⟩⟩) F2
        dsimp only [kstB] at F2
        dsimp only [lexLed, lx2] at N2
        dsimp only
        k_steps
        all_goals try (refine hQ8 _ _ ?_; dsimp only)
        all_goals try (refine hQ9 _ _ ?_; k_steps)
        have e4 : (lexT l).1 = Str.ofString "" := by rw [← e1]; rfl
        have e5 : (lexT l).2 = [] := by rw [← e1]; rfl
        have e6 : line + nlc l - nlc [] = line' := nlc_e e2
        rw [e4, e5, e6] at hret
        rename News h₀ _ _ _ => N9
        exact hret _ _ _ _ _ (by k_asm) (fun q hq => N9 q (lex_mem' (lex_mem' hq)))
      case hcons =>
        rintro p r t s'' rfl S''
        obtain ⟨tl', c', h2, tk2, m2, tt2, rfl, F2, N2, g1, g2, g3⟩ := S''
        replace F2 := frB [(Str.ofString "self", .ref P.x), (Str.ofString "token", .str (Str.ofString "") tt2), (Str.ofString "fiter", .ref it)] (List.forall_mem_cons.mpr ⟨g1, List.forall_mem_cons.mpr ⟨g2, List.forall_mem_cons.mpr ⟨g3, List.forall_mem_nil _⟩⟩⟩) F2
        dsimp only [kstB] at F2
        dsimp only [lexLed, lx2] at N2
        dsimp only
        have hl1 : (ch1 p.1).length = 1 := rfl
        have hl0 : (Str.ofString "").length = 0 := rfl
        have hr : r.length ≤ 99 := Nat.le_of_succ_le_succ e3
        have hln : line' + nlF (p :: r) + nlc r = line + nlc l := nlc_c e2
        have kI := held "exec If Compare cons nil"
        k_steps
        refine unhold ?_
        refine wpAny_If ?_
        k_steps
        all_goals try (refine hQ8 _ _ ?_; dsimp only)
        all_goals try (refine hQ9 _ _ ?_; k_steps)
        · -- the quotation mark
          clear kI
          have e5 : lexQ r (Str.ofString "") = lexT l := by rw [← e1]; exact (lexT_q (ws_f (by assumption)) (quo_t (by assumption))).symm
          refine unhold ?_
          rename News gg _ _ _ => N3
          rename Fr gg _ _ _ => F3
          refine For_ask (it := it) (fun k s' => ∃ li lni toki, LxAt w P it mo (.ref mo) (.str (Str.ofString "") ts) false news n gg LL s s' li lni toki ∧ lexQ li toki = lexT l ∧ lni + nlc li = line + nlc l ∧ toki.length + li.length ≤ 101 ∧ li.length ≤ 100 ∧ k = li.length + 1) ?iit ?iturn
          case iit =>
            k_steps
            all_goals try (refine hQ8 _ _ ?_; dsimp only)
            all_goals try (refine hQ9 _ _ ?_; k_steps)
            refine ci_iter (N3 (it, ciObj (.ref mo) (.str (Str.ofString "") ts) false) (by k_mem)).1 ?_
            refine ⟨rfl, _, r, _, Str.ofString "", ⟨_, _, _, _, _, _, rfl, F3, N3, by with_unfolding_all rfl, by with_unfolding_all rfl, by with_unfolding_all rfl⟩, e5, hln, ?_, ?_, rfl⟩
            · rw [hl0, Nat.zero_add]; exact Nat.le_trans hr (by decide)
            · exact Nat.le_succ_of_le hr
          case iturn =>
            clear N3 F3
            rintro k s' ⟨li, lni, toki, S, i1, i2, i3, i4, rfl⟩
            intro Q7 hQ7
            refine lx_next (dp := dp + 1) (un := un + 4) hP' q1 hit hno XX TT rfl (Nat.le_refl _) (Nat.le_refl _) (by first | exact rmm hroom (by decide) | (first | (with_reducible first | assumption | exact Nat.le_trans (by assumption) (by decide) | exact Nat.lt_of_le_of_lt (by assumption) (by decide) | (refine Nat.ne_of_lt ?_; (repeat (first | assumption | refine Nat.lt_trans (by assumption) ?_)); done) | (refine Nat.ne_of_gt ?_; (repeat (first | assumption | refine Nat.lt_trans (by assumption) ?_)); done) | ((repeat (first | assumption | refine Nat.lt_trans (by assumption) ?_)); done)) | omega)) (by first | exact rmm hunits (by decide) | (first | (with_reducible first | assumption | exact Nat.le_trans (by assumption) (by decide) | exact Nat.lt_of_le_of_lt (by assumption) (by decide) | (refine Nat.ne_of_lt ?_; (repeat (first | assumption | refine Nat.lt_trans (by assumption) ?_)); done) | (refine Nat.ne_of_gt ?_; (repeat (first | assumption | refine Nat.lt_trans (by assumption) ?_)); done) | ((repeat (first | assumption | refine Nat.lt_trans (by assumption) ?_)); done)) | omega)) i4 S ?inil ?icons
            case inil =>
              rintro rfl s'' S''
              have i5 : lexT l = (toki, []) := i1.symm
              dsimp only
              obtain ⟨tl5, c5, h5, tk5, m5, tt5, rfl, F5, N5, g1, g2, g3⟩ := S''
              replace F5 := frB [(Str.ofString "self", .ref P.x), (Str.ofString "token", .str toki tt5), (Str.ofString "fiter", .ref it)] (List.forall_mem_cons.mpr ⟨g1, List.forall_mem_cons.mpr ⟨g2, List.forall_mem_cons.mpr ⟨g3, List.forall_mem_nil _⟩⟩⟩) F5
              dsimp only [kstB] at F5
              dsimp only [lexLed, lx2] at N5
              k_steps
              all_goals try (refine hQ7 _ _ ?_; dsimp only)
              all_goals try (refine hQ8 _ _ ?_; dsimp only)
              all_goals try (refine hQ9 _ _ ?_; k_steps)
              refine ⟨1, Nat.succ_lt_succ (Nat.zero_lt_succ _), .inr ⟨lni, ⟨tl5, c5, _, _, _, tt5, rfl, by k_asm, by k_asm, by with_unfolding_all rfl, by rw [i5]; with_unfolding_all rfl, by with_unfolding_all rfl⟩, by rw [i5], ?_, rfl⟩⟩
              exact nlc_0 i2
            case icons =>
              rintro pi ri ti s'' rfl S''
              obtain ⟨tl6, c6, h6, tk6, m6, tt6, rfl, F6, N6, g1, g2, g3⟩ := S''
              replace F6 := frB [(Str.ofString "self", .ref P.x), (Str.ofString "token", .str toki tt6), (Str.ofString "fiter", .ref it)] (List.forall_mem_cons.mpr ⟨g1, List.forall_mem_cons.mpr ⟨g2, List.forall_mem_cons.mpr ⟨g3, List.forall_mem_nil _⟩⟩⟩) F6
              dsimp only [kstB] at F6
              dsimp only [lexLed, lx2] at N6
              have hl1 : (ch1 pi.1).length = 1 := rfl
              have hri : ri.length ≤ 99 := Nat.le_of_succ_le_succ i4
              have hti : toki.length + ri.length ≤ 100 := Nat.le_of_succ_le_succ i3
              dsimp only
              k_steps
              all_goals try (refine hQ7 _ _ ?_; dsimp only)
              all_goals try (refine hQ8 _ _ ?_; dsimp only)
              all_goals try (refine hQ9 _ _ ?_; k_steps)
              all_goals try (first | (with_reducible show Hold _) | (with_reducible show More _ _ _) | (
                have e5 : lexT l = (toki, ri) := i1.symm.trans (lexQ_t (quo_t (by assumption)))
                have e6 : line + nlc l - nlc ri = lni + nlF (pi :: ri) := nlc_e (nlc_c i2)
                rw [e5] at hret
                dsimp only at hret
                rw [e6] at hret
                rename News h₀ _ _ _ => N9
                exact hret _ _ _ _ _ (by k_asm) (fun q hq => N9 q (lex_mem' (lex_mem' hq)))))
              · refine unhold ?_
                dsimp only [List.append_nil]
                refine wpAny_call ?_
                rename News gg _ _ _ => N7
                rename Fr gg _ _ _ => F7
                refine forgetC (dp := dp + 1) (un := un + 4) rfl (Nat.le_refl _) (Nat.le_succ _) ?_
                refine' hRC _ (hP'.more q1 hit) _ _ ri _ [] n (Nat.le_succ_of_le (by assumption)) _ _ _ _ _ _ _ F7 XX N7 TT (by first | exact rmm hroom (by decide) | (first | (with_reducible first | assumption | exact Nat.le_trans (by assumption) (by decide) | exact Nat.lt_of_le_of_lt (by assumption) (by decide) | (refine Nat.ne_of_lt ?_; (repeat (first | assumption | refine Nat.lt_trans (by assumption) ?_)); done) | (refine Nat.ne_of_gt ?_; (repeat (first | assumption | refine Nat.lt_trans (by assumption) ?_)); done) | ((repeat (first | assumption | refine Nat.lt_trans (by assumption) ?_)); done)) | omega)) (by first | exact rmm hunits (by decide) | (first | (with_reducible first | assumption | exact Nat.le_trans (by assumption) (by decide) | exact Nat.lt_of_le_of_lt (by assumption) (by decide) | (refine Nat.ne_of_lt ?_; (repeat (first | assumption | refine Nat.lt_trans (by assumption) ?_)); done) | (refine Nat.ne_of_gt ?_; (repeat (first | assumption | refine Nat.lt_trans (by assumption) ?_)); done) | ((repeat (first | assumption | refine Nat.lt_trans (by assumption) ?_)); done)) | omega)) ?_
                intro t' tl' c' h' tk' F' N'
                dsimp only [lexLed, lx2] at N'
                dsimp only
                have hh1 := headS_len ri
                have hh2 := headS_tail ri
                k_steps
                all_goals try (refine hQ7 _ _ ?_; dsimp only)
                all_goals try (refine hQ8 _ _ ?_; dsimp only)
                all_goals try (refine hQ9 _ _ ?_; k_steps)
                refine ⟨ri.tail.length + 1, ?_, ?_⟩
                · exact Nat.succ_lt_succ (Nat.lt_succ_of_le (tl_le ri))
                · refine ⟨ri.tail, _, toki ++ headS ri, ⟨_, _, _, _, _, _, rfl, by k_asm, by k_asm, by with_unfolding_all rfl, by with_unfolding_all rfl, by with_unfolding_all rfl⟩, ?_, ?_, ?_, ?_, rfl⟩
                  · rw [← i1]; exact (lexQ_e (quo_f (by assumption)) (bsl_t (by assumption))).symm
                  · exact nlc_s (nlc_c i2)
                  · rw [Str.length_append, Nat.add_assoc, headS_tail]; exact Nat.le_succ_of_le hti
                  · exact Nat.le_trans (tl_le ri) (Nat.le_succ_of_le hri)
              · refine ⟨ri.length + 1, ?_, ?_⟩
                · exact Nat.lt_succ_self _
                · refine ⟨ri, _, toki ++ ch1 pi.1, ⟨_, _, _, _, _, _, rfl, by k_asm, by k_asm, by with_unfolding_all rfl, by with_unfolding_all rfl, by with_unfolding_all rfl⟩, ?_, ?_, ?_, ?_, rfl⟩
                  · rw [← i1]; exact (lexQ_b (quo_f (by assumption)) (bsl_f (by assumption))).symm
                  · exact nlc_c i2
                  · rw [Str.length_append, hl1, Nat.add_right_comm]; exact Nat.succ_le_succ hti
                  · exact Nat.le_succ_of_le hri
        · -- no quotation mark
          refine unhold ?_
          clear kI
          refine quiet ?_
          intro QI hQI
          have hB : ∀ (h' : Heap) (tk' : Nat) (m' : Str → Option Value) (r0 : List (Nat × Tok)) (line0 : Int) (cv : Str) (tc tl0 : Tok) (c0 : Nat), lexB r0 (Str.ofString "" ++ cv) = lexT l → line0 + nlc r0 = line + nlc l → cv.length ≤ 1 → r0.length ≤ 99 →
              Fr gg LL h' m' → News gg LL h' (lexLed w P line0 tl0 r0 c0 [] n (lx2 P it mo (.ref mo) (.str (Str.ofString "") ts) false news)) →
              m' (Str.ofString "self") = some (.ref P.x) → m' (Str.ofString "token") = some (.str (Str.ofString "") tt2) → m' (Str.ofString "fiter") = some (.ref it) → m' (Str.ofString "ch") = some (.str cv tc) → QI .next { s with heap := h', toks := tk' } := by
            intro h' tk' m' r0 line0 cv tc tl0 c0 e5 hln0 hcv hr0 F2 N2 g1 g2 g3 g4
            replace F2 := frB [(Str.ofString "self", .ref P.x), (Str.ofString "token", .str (Str.ofString "") tt2), (Str.ofString "fiter", .ref it), (Str.ofString "ch", .str cv tc)] (List.forall_mem_cons.mpr ⟨g1, List.forall_mem_cons.mpr ⟨g2, List.forall_mem_cons.mpr ⟨g3, List.forall_mem_cons.mpr ⟨g4, List.forall_mem_nil _⟩⟩⟩⟩) F2
            dsimp only [kstB] at F2
            dsimp only [lexLed, lx2] at N2
            have hl0 : (Str.ofString "").length = 0 := rfl
            refine hQI _ _ ?_
            dsimp only
            k_steps
            all_goals try (refine hQ8 _ _ ?_; dsimp only)
            all_goals try (refine hQ9 _ _ ?_; k_steps)
            refine unhold ?_
            rename News gg _ _ _ => N3
            rename Fr gg _ _ _ => F3
            refine For_ask (it := it) (fun k s' => ∃ li lni toki, LxAt w P it mo (.ref mo) (.str (Str.ofString "") ts) false news n gg LL s s' li lni toki ∧ lexB li toki = lexT l ∧ lni + nlc li = line + nlc l ∧ toki.length + li.length ≤ 101 ∧ li.length ≤ 100 ∧ k = li.length + 1) ?iit ?iturn
            case iit =>
              k_steps
              all_goals try (refine hQ8 _ _ ?_; dsimp only)
              all_goals try (refine hQ9 _ _ ?_; k_steps)
              refine ci_iter (N3 (it, ciObj (.ref mo) (.str (Str.ofString "") ts) false) (by k_mem)).1 ?_
              refine ⟨rfl, _, r0, _, _, ⟨_, _, _, _, _, _, rfl, F3, N3, by with_unfolding_all rfl, by with_unfolding_all rfl, by with_unfolding_all rfl⟩, e5, hln0, ?_, ?_, rfl⟩
              · rw [Str.length_append, hl0, Nat.zero_add]; exact Nat.le_trans (Nat.add_le_add hcv hr0) (by decide)
              · exact Nat.le_succ_of_le hr0
            case iturn =>
              clear N3 F3
              rintro k s' ⟨li, lni, toki, S, i1, i2, i3, i4, rfl⟩
              intro Q7 hQ7
              refine lx_next (dp := dp + 1) (un := un + 4) hP' q1 hit hno XX TT rfl (Nat.le_refl _) (Nat.le_refl _) (by first | exact rmm hroom (by decide) | (first | (with_reducible first | assumption | exact Nat.le_trans (by assumption) (by decide) | exact Nat.lt_of_le_of_lt (by assumption) (by decide) | (refine Nat.ne_of_lt ?_; (repeat (first | assumption | refine Nat.lt_trans (by assumption) ?_)); done) | (refine Nat.ne_of_gt ?_; (repeat (first | assumption | refine Nat.lt_trans (by assumption) ?_)); done) | ((repeat (first | assumption | refine Nat.lt_trans (by assumption) ?_)); done)) | omega)) (by first | exact rmm hunits (by decide) | (first | (with_reducible first | assumption | exact Nat.le_trans (by assumption) (by decide) | exact Nat.lt_of_le_of_lt (by assumption) (by decide) | (refine Nat.ne_of_lt ?_; (repeat (first | assumption | refine Nat.lt_trans (by assumption) ?_)); done) | (refine Nat.ne_of_gt ?_; (repeat (first | assumption | refine Nat.lt_trans (by assumption) ?_)); done) | ((repeat (first | assumption | refine Nat.lt_trans (by assumption) ?_)); done)) | omega)) i4 S ?inil ?icons
              case inil =>
                rintro rfl s'' S''
                have i5 : lexT l = (toki, []) := i1.symm
                dsimp only
                obtain ⟨tl5, c5, h5, tk5, m5, tt5, rfl, F5, N5, g1, g2, g3⟩ := S''
                replace F5 := frB [(Str.ofString "self", .ref P.x), (Str.ofString "token", .str toki tt5), (Str.ofString "fiter", .ref it)] (List.forall_mem_cons.mpr ⟨g1, List.forall_mem_cons.mpr ⟨g2, List.forall_mem_cons.mpr ⟨g3, List.forall_mem_nil _⟩⟩⟩) F5
                dsimp only [kstB] at F5
                dsimp only [lexLed, lx2] at N5
                k_steps
                all_goals try (refine hQ7 _ _ ?_; dsimp only)
                all_goals try (refine hQ8 _ _ ?_; dsimp only)
                all_goals try (refine hQ9 _ _ ?_; k_steps)
                refine ⟨1, Nat.succ_lt_succ (Nat.zero_lt_succ _), .inr ⟨lni, ⟨tl5, c5, _, _, _, tt5, rfl, by k_asm, by k_asm, by with_unfolding_all rfl, by rw [i5]; with_unfolding_all rfl, by with_unfolding_all rfl⟩, by rw [i5], ?_, rfl⟩⟩
                exact nlc_0 i2
              case icons =>
                rintro pi ri ti s'' rfl S''
                obtain ⟨tl6, c6, h6, tk6, m6, tt6, rfl, F6, N6, g1, g2, g3⟩ := S''
                replace F6 := frB [(Str.ofString "self", .ref P.x), (Str.ofString "token", .str toki tt6), (Str.ofString "fiter", .ref it)] (List.forall_mem_cons.mpr ⟨g1, List.forall_mem_cons.mpr ⟨g2, List.forall_mem_cons.mpr ⟨g3, List.forall_mem_nil _⟩⟩⟩) F6
                dsimp only [kstB] at F6
                dsimp only [lexLed, lx2] at N6
                have hl1 : (ch1 pi.1).length = 1 := rfl
                have hri : ri.length ≤ 99 := Nat.le_of_succ_le_succ i4
                have hti : toki.length + ri.length ≤ 100 := Nat.le_of_succ_le_succ i3
                dsimp only
                k_steps
                all_goals try (refine hQ7 _ _ ?_; dsimp only)
                all_goals try (refine hQ8 _ _ ?_; dsimp only)
                all_goals try (refine hQ9 _ _ ?_; k_steps)
                all_goals try (first | (with_reducible show Hold _) | (with_reducible show More _ _ _) | (
                  have e5 : lexT l = (toki, ri) := i1.symm.trans (lexB_t (ws_t (by assumption)))
                  have e6 : line + nlc l - nlc ri = lni + nlF (pi :: ri) := nlc_e (nlc_c i2)
                  rw [e5] at hret
                  dsimp only at hret
                  rw [e6] at hret
                  rename News h₀ _ _ _ => N9
                  exact hret _ _ _ _ _ (by k_asm) (fun q hq => N9 q (lex_mem' (lex_mem' hq)))))
                · refine unhold ?_
                  dsimp only [List.append_nil]
                  refine wpAny_call ?_
                  rename News gg _ _ _ => N7
                  rename Fr gg _ _ _ => F7
                  refine forgetC (dp := dp + 1) (un := un + 4) rfl (Nat.le_refl _) (Nat.le_succ _) ?_
                  refine' hRC _ (hP'.more q1 hit) _ _ ri _ [] n (Nat.le_succ_of_le (by assumption)) _ _ _ _ _ _ _ F7 XX N7 TT (by first | exact rmm hroom (by decide) | (first | (with_reducible first | assumption | exact Nat.le_trans (by assumption) (by decide) | exact Nat.lt_of_le_of_lt (by assumption) (by decide) | (refine Nat.ne_of_lt ?_; (repeat (first | assumption | refine Nat.lt_trans (by assumption) ?_)); done) | (refine Nat.ne_of_gt ?_; (repeat (first | assumption | refine Nat.lt_trans (by assumption) ?_)); done) | ((repeat (first | assumption | refine Nat.lt_trans (by assumption) ?_)); done)) | omega)) (by first | exact rmm hunits (by decide) | (first | (with_reducible first | assumption | exact Nat.le_trans (by assumption) (by decide) | exact Nat.lt_of_le_of_lt (by assumption) (by decide) | (refine Nat.ne_of_lt ?_; (repeat (first | assumption | refine Nat.lt_trans (by assumption) ?_)); done) | (refine Nat.ne_of_gt ?_; (repeat (first | assumption | refine Nat.lt_trans (by assumption) ?_)); done) | ((repeat (first | assumption | refine Nat.lt_trans (by assumption) ?_)); done)) | omega)) ?_
                  intro t' tl' c' h' tk' F' N'
                  dsimp only [lexLed, lx2] at N'
                  dsimp only
                  have hh1 := headS_len ri
                  have hh2 := headS_tail ri
                  k_steps
                  all_goals try (refine hQ7 _ _ ?_; dsimp only)
                  all_goals try (refine hQ8 _ _ ?_; dsimp only)
                  all_goals try (refine hQ9 _ _ ?_; k_steps)
                  refine ⟨ri.tail.length + 1, ?_, ?_⟩
                  · exact Nat.succ_lt_succ (Nat.lt_succ_of_le (tl_le ri))
                  · refine ⟨ri.tail, _, toki ++ headS ri, ⟨_, _, _, _, _, _, rfl, by k_asm, by k_asm, by with_unfolding_all rfl, by with_unfolding_all rfl, by with_unfolding_all rfl⟩, ?_, ?_, ?_, ?_, rfl⟩
                    · rw [← i1]; exact (lexB_e (ws_f (by assumption)) (bsl_t (by assumption))).symm
                    · exact nlc_s (nlc_c i2)
                    · rw [Str.length_append, Nat.add_assoc, headS_tail]; exact Nat.le_succ_of_le hti
                    · exact Nat.le_trans (tl_le ri) (Nat.le_succ_of_le hri)
                · refine ⟨ri.length + 1, ?_, ?_⟩
                  · exact Nat.lt_succ_self _
                  · refine ⟨ri, _, toki ++ ch1 pi.1, ⟨_, _, _, _, _, _, rfl, by k_asm, by k_asm, by with_unfolding_all rfl, by with_unfolding_all rfl, by with_unfolding_all rfl⟩, ?_, ?_, ?_, ?_, rfl⟩
                    · rw [← i1]; exact (lexB_b (ws_f (by assumption)) (bsl_f (by assumption))).symm
                    · exact nlc_c i2
                    · rw [Str.length_append, hl1, Nat.add_right_comm]; exact Nat.succ_le_succ hti
                    · exact Nat.le_succ_of_le hri
          refine wpAny_If ?_
          k_steps
          · -- a backslash
            refine unhold ?_
            dsimp only [List.append_nil]
            refine wpAny_call ?_
            rename News gg _ _ _ => N7
            rename Fr gg _ _ _ => F7
            refine forgetC (dp := dp + 1) (un := un + 4) rfl (Nat.le_refl _) (Nat.le_succ _) ?_
            refine' hRC _ (hP'.more q1 hit) _ _ r _ [] n (Nat.le_succ_of_le (by assumption)) _ _ _ _ _ _ _ F7 XX N7 TT (by first | exact rmm hroom (by decide) | (first | (with_reducible first | assumption | exact Nat.le_trans (by assumption) (by decide) | exact Nat.lt_of_le_of_lt (by assumption) (by decide) | (refine Nat.ne_of_lt ?_; (repeat (first | assumption | refine Nat.lt_trans (by assumption) ?_)); done) | (refine Nat.ne_of_gt ?_; (repeat (first | assumption | refine Nat.lt_trans (by assumption) ?_)); done) | ((repeat (first | assumption | refine Nat.lt_trans (by assumption) ?_)); done)) | omega)) (by first | exact rmm hunits (by decide) | (first | (with_reducible first | assumption | exact Nat.le_trans (by assumption) (by decide) | exact Nat.lt_of_le_of_lt (by assumption) (by decide) | (refine Nat.ne_of_lt ?_; (repeat (first | assumption | refine Nat.lt_trans (by assumption) ?_)); done) | (refine Nat.ne_of_gt ?_; (repeat (first | assumption | refine Nat.lt_trans (by assumption) ?_)); done) | ((repeat (first | assumption | refine Nat.lt_trans (by assumption) ?_)); done)) | omega)) ?_
            intro t' tl' c' h' tk' F' N'
            dsimp only [lexLed, lx2] at N'
            dsimp only
            have hh1 := headS_len r
            have hh2 := headS_tail r
            k_steps
            all_goals try (refine hQ8 _ _ ?_; dsimp only)
            all_goals try (refine hQ9 _ _ ?_; k_steps)
            exact hB _ _ _ r.tail (line' + nlF (p :: r) + nlF r) (headS r) _ _ _ (e1 ▸ (lexT_e (ws_f (by assumption)) (quo_f (by assumption)) (bsl_t (by assumption))).symm) (nlc_s hln) hh1 (Nat.le_trans (tl_le r) hr) (by k_asm) (by k_asm) (by with_unfolding_all rfl) (by with_unfolding_all rfl) (by with_unfolding_all rfl) (by with_unfolding_all rfl)
          · -- a sign
            exact hB _ _ _ r _ (ch1 p.1) _ _ _ (e1 ▸ (lexT_b (ws_f (by assumption)) (quo_f (by assumption)) (bsl_f (by assumption))).symm) hln (Nat.le_refl _) hr (by k_asm) (by k_asm) (by with_unfolding_all rfl) (by with_unfolding_all rfl) (by with_unfolding_all rfl) (by with_unfolding_all rfl)
        · -- white
          refine ⟨r.length + 2, Nat.lt_succ_self _, .inl ⟨r, _, ⟨_, _, _, _, _, _, rfl, by k_asm, by k_asm, by with_unfolding_all rfl, by with_unfolding_all rfl, by with_unfolding_all rfl⟩, ?_, hln, Nat.le_succ_of_le hr, rfl⟩⟩
          rw [← e1]; exact (lexT_ws (ws_t (by assumption))).symm
    · obtain ⟨tl', c', h2, tk2, m2, tt2, rfl, F2, N2, g1, g2, g3⟩ := S
      replace F2 := frB [(Str.ofString "self", .ref P.x), (Str.ofString "token", .str (lexT l).1 tt2), (Str.ofString "fiter", .ref it)] (List.forall_mem_cons.mpr ⟨g1, List.forall_mem_cons.mpr ⟨g2, List.forall_mem_cons.mpr ⟨g3, List.forall_mem_nil _⟩⟩⟩) F2
      dsimp only [kstB] at F2
      refine ci_ended rfl (N2 (it, ciObj .none .none true) (by k_mem)).1 fun h3 hk3 => ?_
      replace F2 := F2.keeps hk3
      replace N2 := N2.grown hk3
      dsimp only [lexLed, lx2] at N2
      dsimp only
      k_steps
      all_goals try (refine hQ8 _ _ ?_; dsimp only)
      all_goals try (refine hQ9 _ _ ?_; k_steps)
      have e6 : line + nlc l - nlc [] = line' := by rw [e2]; exact Int.sub_zero _
      rw [e1, e6] at hret
      rename News h₀ _ _ _ => N9
      exact hret _ _ _ _ _ (by k_asm) (fun q hq => N9 q (lex_mem' (lex_mem' hq)))
end Mine
end
section
open PySem PySem.W PyProof.Rows Mine
set_option Elab.async false
set_option maxRecDepth 100000
set_option maxHeartbeats 3000000
namespace Mine
theorem off_app {l l' : List (Addr × Obj)} {as : List Addr} (h : OwnOff l as) (h' : OwnOff l' as) : OwnOff (l ++ l') as := fun q hq b hb =>
  (List.mem_append.mp hq).elim (fun z => h q z b hb) fun z => h' q z b hb
theorem off_sub {l : List (Addr × Obj)} {as bs : List Addr} (h : OwnOff l as) (hs : ∀ b ∈ bs, b ∈ as) : OwnOff l bs := fun q hq b hb => h q hq b (hs b hb)
def wl (p : Str × Tok) : List Nat := p.1.cps.toList
theorem cond_t {a : Bool} (h : (!a) = true) : a = false := by cases a <;> simp_all
theorem cond_f {a : Bool} (h : (!a) = false) : a = true := by cases a <;> simp_all
theorem sOf_asc {l : List Nat} (h : ∀ c ∈ l, c < 128) : (sOf l).cps.all (· < 128) = true := by
  unfold sOf
  simp
  exact h
theorem join_len (cs : List Nat) (h : cs.length ≤ 4) : (Txt.join (Str.ofString "...") (cs.map ch1)).length ≤ 20 := by
  have h1 := StrLaws.join_length_le (Str.ofString "...") (cs.map ch1)
  have e := StrLaws.glued_eq_join (Str.ofString "...") (cs.map ch1)
  have e0 : (Str.ofString "...").length = 3 := rfl
  rw [← e, e0, sum_ch1, List.length_map] at h1
  exact Nat.le_trans h1 (by (first | (with_reducible first | assumption | exact Nat.le_trans (by assumption) (by decide) | exact Nat.lt_of_le_of_lt (by assumption) (by decide) | (refine Nat.ne_of_lt ?_; (repeat (first | assumption | refine Nat.lt_trans (by assumption) ?_)); done) | (refine Nat.ne_of_gt ?_; (repeat (first | assumption | refine Nat.lt_trans (by assumption) ?_)); done) | ((repeat (first | assumption | refine Nat.lt_trans (by assumption) ?_)); done)) | omega))
theorem lex_app {w : World} {P : LexP} {line : Int} {tl : Tok} {l : List (Nat × Tok)} {c : Nat} {pbs : List Value} {n : Nat} {q : Addr × Obj} {r r' : List (Addr × Obj)} (h : q ∈ lexLed w P line tl l c pbs n r) : q ∈ lexLed w P line tl l c pbs n (r ++ r') := lex_sub (List.mem_append_left _) h
theorem lex_own {w : World} {P : LexP} {line : Int} {tl : Tok} {l : List (Nat × Tok)} {c : Nat} {pbs : List Value} {n : Nat} {q : Addr × Obj} {r r' : List (Addr × Obj)} (h : q ∈ r') : q ∈ lexLed w P line tl l c pbs n (r ++ r') := lex_iff.mpr (.inr (List.mem_append_right _ h))
theorem strv_snoc (a : List (Str × Tok)) (x : Str) (t : Tok) : strValues a ++ [Value.str x t] = strValues (a ++ [(x, t)]) := by simp [strValues]
theorem strv_app (a b : List (Str × Tok)) : strValues (a ++ b) = strValues a ++ strValues b := by simp [strValues]
theorem adr_led {w : World} {P : LexP} {line : Int} {tl : Tok} {l : List (Nat × Tok)} {c : Nat} {pbs : List Value} {n : Nat} {news : List (Addr × Obj)} : ∀ b ∈ lexAdr P, b ∈ (lexLed w P line tl l c pbs n news).map (·.1) := fun b hb => by
  show b ∈ lexAdr P ++ news.map (·.1)
  exact List.mem_append_left _ hb
theorem lex_in {w : World} {P : LexP} {line : Int} {tl : Tok} {l : List (Nat × Tok)} {c : Nat} {pbs : List Value} {n : Nat} {d a q : Addr × Obj} {r own : List (Addr × Obj)} (h : q ∈ lexLed w P line tl l c pbs n (d :: a :: (r ++ own))) : q ∈ d :: (lexLed w P line tl l c pbs n (a :: r) ++ ([] ++ own)) := by
  rcases lex_mem h with rfl | h
  · exact .head _
  rcases lex_iff.mp h with h | h
  · exact .tail _ (List.mem_append_left _ (lex_iff.mpr (.inl h)))
  · rcases List.mem_append.mp (show q ∈ (a :: r) ++ own from h) with h | h
    · exact .tail _ (List.mem_append_left _ (lex_iff.mpr (.inr h)))
    · exact .tail _ (List.mem_append_right _ h)
theorem lex_out {w : World} {P : LexP} {line : Int} {tl : Tok} {l : List (Nat × Tok)} {c : Nat} {pbs : List Value} {n : Nat} {d a q : Addr × Obj} {r own : List (Addr × Obj)} (h : q ∈ d :: (lexLed w P line tl l c pbs n (a :: r) ++ ([] ++ own))) : q ∈ lexLed w P line tl l c pbs n (d :: a :: (r ++ own)) := by
  rcases List.mem_cons.mp h with rfl | h
  · exact lex_iff.mpr (.inr (.head _))
  rcases List.mem_append.mp h with h | h
  · exact lex_sub (fun h => .tail _ (show q ∈ (a :: r) ++ own from List.mem_append_left _ h)) h
  · exact lex_iff.mpr (.inr (.tail _ (show q ∈ (a :: r) ++ own from List.mem_append_right _ h)))
theorem dots_ite {M : Model} {A : Around} {E : Value → Shared → Prop} {s : Shared} {env : Env} {Q : Value → Shared → Prop} {c : Bool} {k k' : Nat} {p p' : Pos} (h : Q (.str (dotsS (!c)) s.toks) { s with toks := s.toks + 1 }) :
    if c = true then wpAny M A (eval (.Constant (.str (Str.ofString "")) k p) env) Q E s else wpAny M A (eval (.Constant (.str (Str.ofString "...")) k' p') env) Q E s := by
  cases c
  · rw [if_neg (by decide)]
    exact Calls.Constant_str h
  · rw [if_pos rfl]
    exact Calls.Constant_str h
local macro_rules | `(tactic| walk_at "ite") => `(tactic| ((with_reducible show (if _ = true then wpAny _ _ (eval (Expr.Constant _ _ _) _) _ _ _ else wpAny _ _ (eval (Expr.Constant _ _ _) _) _ _ _)); refine hold ?_))
theorem led_own {w : World} {P : LexP} {line : Int} {tl : Tok} {l : List (Nat × Tok)} {c : Nat} {pbs : List Value} {n : Nat} {g : Heap} {L : Addr} {h : Heap} {a : Addr × Obj} {r own : List (Addr × Obj)} (N : News g L h (a :: (lexLed w P line tl l c pbs n (a :: r) ++ own))) : News g L h (a :: lexLed w P line tl l c pbs n (a :: (r ++ own))) := fun q hq => by
  rcases List.mem_cons.mp hq with rfl | hq
  · exact N _ (.head _)
  rcases lex_iff.mp hq with h | h
  · exact N _ (.tail _ (List.mem_append_left _ (lex_iff.mpr (.inl h))))
  rcases List.mem_cons.mp h with rfl | h
  · exact N _ (.head _)
  rcases List.mem_append.mp h with h | h
  · exact N _ (.tail _ (List.mem_append_left _ (lex_iff.mpr (.inr (.tail _ h)))))
  · exact N _ (.tail _ (List.mem_append_right _ h))
theorem led_put {w : World} {P : LexP} {line : Int} {tl : Tok} {l : List (Nat × Tok)} {c : Nat} {pbs : List Value} {n : Nat} {g : Heap} {L : Addr} {h : Heap} {a : Addr × Obj} {r : List (Addr × Obj)} (N : News g L h (lexLed w P line tl l c pbs n (a :: r))) : News g L h (a :: lexLed w P line tl l c pbs n (a :: r)) := news_c N (lex_iff.mpr (.inr (.head _))) N
theorem led_app {w : World} {P : LexP} {line : Int} {tl : Tok} {l : List (Nat × Tok)} {c : Nat} {pbs : List Value} {n : Nat} {a q : Addr × Obj} {r r' : List (Addr × Obj)} (h : q ∈ a :: lexLed w P line tl l c pbs n (a :: r)) : q ∈ a :: lexLed w P line tl l c pbs n (a :: (r ++ r')) :=
  (List.mem_cons.mp h).elim (fun e => e ▸ .head _) fun h => .tail _ (lex_app (r := a :: r) h)
theorem led_o {w : World} {P : LexP} {line : Int} {tl : Tok} {l : List (Nat × Tok)} {c : Nat} {pbs : List Value} {n : Nat} {a q : Addr × Obj} {r r' : List (Addr × Obj)} (h : q ∈ r') : q ∈ a :: lexLed w P line tl l c pbs n (a :: (r ++ r')) := .tail _ (lex_own (r := a :: r) h)
theorem lex_in2 {w : World} {P : LexP} {line : Int} {tl : Tok} {l : List (Nat × Tok)} {c : Nat} {pbs : List Value} {n : Nat} {d a q : Addr × Obj} {r own : List (Addr × Obj)} (h : q ∈ lexLed w P line tl l c pbs n (d :: a :: (r ++ own))) : q ∈ d :: ((a :: lexLed w P line tl l c pbs n (a :: r)) ++ ([] ++ own)) :=
  (List.mem_cons.mp (lex_in h)).elim (fun e => e ▸ .head _) fun h => .tail _ (.tail _ h)
theorem lex_out2 {w : World} {P : LexP} {line : Int} {tl : Tok} {l : List (Nat × Tok)} {c : Nat} {pbs : List Value} {n : Nat} {d a q : Addr × Obj} {r own : List (Addr × Obj)} (h : q ∈ d :: ((a :: lexLed w P line tl l c pbs n (a :: r)) ++ ([] ++ own))) : q ∈ lexLed w P line tl l c pbs n (d :: a :: (r ++ own)) := by
  rcases List.mem_cons.mp h with rfl | h
  · exact lex_iff.mpr (.inr (.head _))
  rcases List.mem_cons.mp h with rfl | h
  · exact lex_iff.mpr (.inr (.tail _ (.head _)))
  · exact lex_out (.tail _ h)
theorem mixed_c {w : World} {mean} {mg mb} (P : LexP) (news : List (Addr × Obj)) (hP : LexOk w mean mg mb P news) (line : Int) (tl : Tok) (l : List (Nat × Tok)) (c : Nat) (n : Nat) (first second : Str) (ta tb : Tok) (hz : first.length + second.length ≤ 5) (h1 : 1 ≤ first.length) (h2 : 1 ≤ second.length) (hasc : ∀ c ∈ second.cps.toList, c ≠ 46 ∧ c < 128) :
  MClaim w mean mg mb 108 (lexLed w P line tl l c [] n news) [.ref P.x, .str first ta, .str second tb] 7 (fun s Q h₀ L m => ∀ (D2 : Addr) (ws : List (Str × Tok)) (nD n' : Nat) (h' : Heap) (tk' : Nat), ws.map wl = mixL first.cps.toList second.cps.toList second.length → @LT.lt Nat _ P.pb D2 → (∀ q ∈ news, @LT.lt Nat _ q.1 D2) → Fr h₀ L h' m → News h₀ L h' ((D2, lsO (strValues ws) nD) :: lexLed w P line tl l c [] n' news) → Q (.ref D2) { s with heap := h', toks := tk' }) := by
  have hP' := hP
  obtain ⟨l1, l2, l3, l4, l5, l6, l7, l8, l9, lA, n1, n2, hoc, ho2, rd⟩ := hP
  clear rd ho2
  dsimp only [MClaim, PRG, lexLed]; k_fill; intro dp un h₀ L m s Q E F₀ X₀ N₀ T₀ hroom hunits hret
  have k1 := held "exec For Name Name cons nil"
  have k2 := held "call ref"
  have k3 := held "pyIter ref"
  have k4 := held "call builtin:str.join"
  have k5 := held "InvEndN"
  refine wpAny_call ?_
  refine' enterCS ?k2 ?k3 ?k4 ?k5 ?k6 ?k7 ?k8 ?k9 ?kB ?kD ?_ ?c2 ?c3 ?c4
  case k2 => k_asm
  case k3 => k_asm
  case k4 => k_asm
  case k5 => k_asm
  case k6 => k_is
  case k7 => k_is
  case k8 => exact rm0 hroom
  case k9 => exact BindsTo.of_eq rfl
  case kB => exact rfl
  case kD => decide +kernel
  case c2 => exact rfl
  case c3 => exact rfl
  case c4 => exact rfl
  k_whole
  intro gg LL h1' tk' cells' st F N Y XX TT lt0
  k_cells Y
  try simp only [List.cons_append, List.nil_append] at N
  try dsimp only
  try k_fold
  rename Obj => oc
  rename oc.data = _ => dC
  replace dC := (show oc.data = Data.cell (some (Value.ref P.x)) from dC)
  rename Fr _ _ _ _ => F
  replace F := (show Fr gg LL h1' (fun y => if y = Str.ofString "second" then some (Value.str second tb) else if y = Str.ofString "first" then some (Value.str first ta) else none) from F)
  have hcell : @LT.lt Nat _ P.pb LL := ltN (lt0 (P.pb, _) (.tail _ (.head _)))
  have hLL : ∀ q ∈ news, @LT.lt Nat _ q.1 LL := fun q hq => lt0 q (by repeat (first | exact hq | refine List.Mem.tail _ ?_))
  have hP2 : LexOk w mean mg mb P ((LL + 1, oc) :: news) := hP'.to (off_cons (hP'.up (by first | exact Nat.lt_succ_of_lt hcell | assumption)) n1)
  replace N : News gg LL h1' (lexLed w P line tl l c [] n ((LL + 1, oc) :: news)) := by
    intro q hq
    rcases lex_mem hq with rfl | hq
    · exact N _ (.head _)
    · exact N _ (.tail _ hq)
  replace N := led_put N
  refine quiet ?_
  intro Q9 hQ9
  k_steps
  refine unhold ?_
  rename Fr _ _ _ _ => F1
  rename News _ _ _ _ => N1
  refine' forgetA rfl (Nat.le_refl _) (Nat.le_refl _) (push_c P _ hP2 line tl l c (.str first ta) [] n (by decide) _ _ _ _ _ _ _ _ F1 XX (news_t N1) TT ?hr ?hu ?_)
  case hr => exact rmm hroom (by decide)
  case hu => exact rmm hunits (by decide)
  intro n2 h2 tk2 F2 N2
  dsimp only [List.nil_append] at N2
  replace N2 := led_put N2
  clear N1 F1
  k_steps
  refine unhold ?_
  rename IsRange _ _ _ _ _ _ _ _ => hr
  rename Fr _ _ _ _ => F3
  rename News _ _ _ _ => N3
  refine' kst_range (σ := List (Str × Tok) × Nat × Tok) (n := second.length) (fun c' => (LL + 1, oc) :: lexLed w P line tl l c (strValues c'.1) c'.2.1 ((LL + 1, oc) :: news)) (fun c' => [(Str.ofString "second", .str second tb), (Str.ofString "waiting", .int c'.1.length c'.2.2)]) (fun c' => True) [Str.ofString "fresh", Str.ofString "turn", Str.ofString "word", Str.ofString "gap", Str.ofString "made", Str.ofString "ahead", Str.ofString "behind"] (fun pre c' => c'.1.map wl = mixL first.cps.toList second.cps.toList pre.length) ([(first, ta)], _, ?tx) rfl hr ?small ?size F3 N3 trivial ?hk ?p0 ?turn ?done
  case small => first | exact small_l (by decide) (by decide) (by assumption) (by decide) | exact small_l (b := wd.length + 1) (n := 5) (by decide) (by decide) (by (first | (with_reducible first | assumption | exact Nat.le_trans (by assumption) (by decide) | exact Nat.lt_of_le_of_lt (by assumption) (by decide) | (refine Nat.ne_of_lt ?_; (repeat (first | assumption | refine Nat.lt_trans (by assumption) ?_)); done) | (refine Nat.ne_of_gt ?_; (repeat (first | assumption | refine Nat.lt_trans (by assumption) ?_)); done) | ((repeat (first | assumption | refine Nat.lt_trans (by assumption) ?_)); done)) | omega)) (by decide) | exact small_l (n := 5) (by decide) (by decide) (by (first | (with_reducible first | assumption | exact Nat.le_trans (by assumption) (by decide) | exact Nat.lt_of_le_of_lt (by assumption) (by decide) | (refine Nat.ne_of_lt ?_; (repeat (first | assumption | refine Nat.lt_trans (by assumption) ?_)); done) | (refine Nat.ne_of_gt ?_; (repeat (first | assumption | refine Nat.lt_trans (by assumption) ?_)); done) | ((repeat (first | assumption | refine Nat.lt_trans (by assumption) ?_)); done)) | omega)) (by decide)
  case size => first | exact size_l | exact size_l (b := wd.length + 1)
  case hk => exact List.forall_mem_cons.mpr ⟨by with_unfolding_all rfl, List.forall_mem_cons.mpr ⟨by with_unfolding_all rfl, List.forall_mem_nil _⟩⟩
  case p0 => rfl
  case turn =>
    rintro ⟨Wl, nW, tW⟩ pre k t u h tk own hk hlt hoff hf hp F N
    replace hoff := off_sub hoff fun b hb => .tail _ (adr_led b hb)
    dsimp only [kstB] at hp hf F N ⊢
    replace N := led_own N
    obtain rfl : k = (pre.length : Int) := by (first | (with_reducible first | assumption | exact Nat.le_trans (by assumption) (by decide) | exact Nat.lt_of_le_of_lt (by assumption) (by decide) | (refine Nat.ne_of_lt ?_; (repeat (first | assumption | refine Nat.lt_trans (by assumption) ?_)); done) | (refine Nat.ne_of_gt ?_; (repeat (first | assumption | refine Nat.lt_trans (by assumption) ?_)); done) | ((repeat (first | assumption | refine Nat.lt_trans (by assumption) ?_)); done)) | omega)
    have hbn : Wl.length ≤ 24 := by
      have b1 := mixL_len (fi := first.cps.toList) (sc := second.cps.toList) pre.length
      rw [← hp, List.length_map, len_cps] at b1
      have b2 := bnd_ok4 ⟨first.length, by (first | (with_reducible first | assumption | exact Nat.le_trans (by assumption) (by decide) | exact Nat.lt_of_le_of_lt (by assumption) (by decide) | (refine Nat.ne_of_lt ?_; (repeat (first | assumption | refine Nat.lt_trans (by assumption) ?_)); done) | (refine Nat.ne_of_gt ?_; (repeat (first | assumption | refine Nat.lt_trans (by assumption) ?_)); done) | ((repeat (first | assumption | refine Nat.lt_trans (by assumption) ?_)); done)) | omega)⟩ ⟨pre.length, by (first | (with_reducible first | assumption | exact Nat.le_trans (by assumption) (by decide) | exact Nat.lt_of_le_of_lt (by assumption) (by decide) | (refine Nat.ne_of_lt ?_; (repeat (first | assumption | refine Nat.lt_trans (by assumption) ?_)); done) | (refine Nat.ne_of_gt ?_; (repeat (first | assumption | refine Nat.lt_trans (by assumption) ?_)); done) | ((repeat (first | assumption | refine Nat.lt_trans (by assumption) ?_)); done)) | omega)⟩ h1 (by dsimp only; (first | (with_reducible first | assumption | exact Nat.le_trans (by assumption) (by decide) | exact Nat.lt_of_le_of_lt (by assumption) (by decide) | (refine Nat.ne_of_lt ?_; (repeat (first | assumption | refine Nat.lt_trans (by assumption) ?_)); done) | (refine Nat.ne_of_gt ?_; (repeat (first | assumption | refine Nat.lt_trans (by assumption) ?_)); done) | ((repeat (first | assumption | refine Nat.lt_trans (by assumption) ?_)); done)) | omega))
      dsimp only at b2
      (first | (with_reducible first | assumption | exact Nat.le_trans (by assumption) (by decide) | exact Nat.lt_of_le_of_lt (by assumption) (by decide) | (refine Nat.ne_of_lt ?_; (repeat (first | assumption | refine Nat.lt_trans (by assumption) ?_)); done) | (refine Nat.ne_of_gt ?_; (repeat (first | assumption | refine Nat.lt_trans (by assumption) ?_)); done) | ((repeat (first | assumption | refine Nat.lt_trans (by assumption) ?_)); done)) | omega)
    have hww : ∀ x ∈ Wl.map wl, x.length = first.length + pre.length := by
      rw [hp]
      intro x hx
      rw [mixL_word _ x hx, len_cps]
    generalize hsc : second.cps.toList = sc at hp hasc ⊢
    have hscl : sc.length = second.length := by rw [← hsc, len_cps]
    refine quiet ?_
    intro Q1 hQ1
    k_steps
    refine unhold ?_
    try clear hr
    try clear F3
    try clear N3
    rename IsRange _ _ _ _ _ _ _ _ => hr
    rename Fr _ _ _ _ => F3
    rename News _ _ _ _ => N3
    have hP3 : LexOk w mean mg mb P ((LL + 1, oc) :: (news ++ own)) := hP'.to (off_cons (hP'.up (by first | exact Nat.lt_succ_of_lt hcell | assumption)) (off_app n1 hoff))
    refine' kst_range (σ := List (Str × Tok) × Nat × Nat × Tok) (n := Wl.length) (fun c' => (LL + 1, oc) :: lexLed w P line tl l c (strValues c'.1) c'.2.1 ((LL + 1, oc) :: (news ++ own))) (fun c' => [(Str.ofString "second", .str second tb), (Str.ofString "place", .int pre.length t), (Str.ofString "fresh", .int c'.2.2.1 c'.2.2.2)]) (fun c' => True) [Str.ofString "word", Str.ofString "gap", Str.ofString "made", Str.ofString "ahead", Str.ofString "behind"] (fun pre2 c' => c'.1.map wl = (Wl.map wl).drop pre2.length ++ ((Wl.map wl).take pre2.length).flatMap (genL sc pre.length) ∧ c'.2.2.1 = (((Wl.map wl).take pre2.length).flatMap (genL sc pre.length)).length) (Wl, _, 0, ?tx2) rfl hr ?small2 ?size2 F3 N3 trivial ?hk2 ?p02 ?turn2 ?done2
    case small2 => first | exact small_l (by decide) (by decide) (by assumption) (by decide) | exact small_l (b := wd.length + 1) (n := 5) (by decide) (by decide) (by (first | (with_reducible first | assumption | exact Nat.le_trans (by assumption) (by decide) | exact Nat.lt_of_le_of_lt (by assumption) (by decide) | (refine Nat.ne_of_lt ?_; (repeat (first | assumption | refine Nat.lt_trans (by assumption) ?_)); done) | (refine Nat.ne_of_gt ?_; (repeat (first | assumption | refine Nat.lt_trans (by assumption) ?_)); done) | ((repeat (first | assumption | refine Nat.lt_trans (by assumption) ?_)); done)) | omega)) (by decide) | exact small_l (n := 5) (by decide) (by decide) (by (first | (with_reducible first | assumption | exact Nat.le_trans (by assumption) (by decide) | exact Nat.lt_of_le_of_lt (by assumption) (by decide) | (refine Nat.ne_of_lt ?_; (repeat (first | assumption | refine Nat.lt_trans (by assumption) ?_)); done) | (refine Nat.ne_of_gt ?_; (repeat (first | assumption | refine Nat.lt_trans (by assumption) ?_)); done) | ((repeat (first | assumption | refine Nat.lt_trans (by assumption) ?_)); done)) | omega)) (by decide)
    case size2 => first | exact size_l | exact size_l (b := wd.length + 1)
    case hk2 => exact List.forall_mem_cons.mpr ⟨by with_unfolding_all rfl, List.forall_mem_cons.mpr ⟨by with_unfolding_all rfl, List.forall_mem_cons.mpr ⟨by with_unfolding_all rfl, List.forall_mem_nil _⟩⟩⟩
    case p02 => exact ⟨by simp, by simp⟩
    case turn2 =>
      rintro ⟨Ql, nQ, fr, tF⟩ pre2 k2 t2 u2 h2' tk2' own2 hk2 hlt2 hoff2 hf2 ⟨hp2, hq2⟩ F N
      replace hoff2 := off_sub hoff2 fun b hb => .tail _ (adr_led b hb)
      dsimp only [kstB] at hp2 hq2 F N ⊢
      have hj : pre2.length < (Wl.map wl).length := by rw [List.length_map]; (first | (with_reducible first | assumption | exact Nat.le_trans (by assumption) (by decide) | exact Nat.lt_of_le_of_lt (by assumption) (by decide) | (refine Nat.ne_of_lt ?_; (repeat (first | assumption | refine Nat.lt_trans (by assumption) ?_)); done) | (refine Nat.ne_of_gt ?_; (repeat (first | assumption | refine Nat.lt_trans (by assumption) ?_)); done) | ((repeat (first | assumption | refine Nat.lt_trans (by assumption) ?_)); done)) | omega)
      have hdr : (Wl.map wl).drop pre2.length = (Wl.map wl)[pre2.length] :: (Wl.map wl).drop (pre2.length + 1) := List.drop_eq_getElem_cons hj
      have hfl : (((Wl.map wl).take pre2.length).flatMap (genL sc pre.length)).length ≤ 24 * 5 := by
        refine Nat.le_trans (flat_len (B := 5) _ fun x hx => ?_) ?_
        · rw [hww x (List.mem_of_mem_take hx)]; (first | (with_reducible first | assumption | exact Nat.le_trans (by assumption) (by decide) | exact Nat.lt_of_le_of_lt (by assumption) (by decide) | (refine Nat.ne_of_lt ?_; (repeat (first | assumption | refine Nat.lt_trans (by assumption) ?_)); done) | (refine Nat.ne_of_gt ?_; (repeat (first | assumption | refine Nat.lt_trans (by assumption) ?_)); done) | ((repeat (first | assumption | refine Nat.lt_trans (by assumption) ?_)); done)) | omega)
        · rw [List.length_take, List.length_map]; (first | (with_reducible first | assumption | exact Nat.le_trans (by assumption) (by decide) | exact Nat.lt_of_le_of_lt (by assumption) (by decide) | (refine Nat.ne_of_lt ?_; (repeat (first | assumption | refine Nat.lt_trans (by assumption) ?_)); done) | (refine Nat.ne_of_gt ?_; (repeat (first | assumption | refine Nat.lt_trans (by assumption) ?_)); done) | ((repeat (first | assumption | refine Nat.lt_trans (by assumption) ?_)); done)) | omega)
      rw [hdr, List.cons_append] at hp2
      obtain ⟨⟨wd, tw⟩, Qr, rfl⟩ : ∃ p r, Ql = p :: r := by
        cases Ql with
        | nil => cases hp2
        | cons p r => exact ⟨p, r, rfl⟩
      rw [List.map_cons] at hp2
      injection hp2 with hw1 hp2
      have hwl : wd.length ≤ 4 := by
        have := hww _ (List.getElem_mem hj)
        rw [← hw1] at this
        have e : wl (wd, tw) = wd.cps.toList := rfl
        rw [e, len_cps] at this
        (first | (with_reducible first | assumption | exact Nat.le_trans (by assumption) (by decide) | exact Nat.lt_of_le_of_lt (by assumption) (by decide) | (refine Nat.ne_of_lt ?_; (repeat (first | assumption | refine Nat.lt_trans (by assumption) ?_)); done) | (refine Nat.ne_of_gt ?_; (repeat (first | assumption | refine Nat.lt_trans (by assumption) ?_)); done) | ((repeat (first | assumption | refine Nat.lt_trans (by assumption) ?_)); done)) | omega)
      have hQr : Qr.length ≤ 150 := by
        have := congrArg List.length hp2
        rw [List.length_map, List.length_append, List.length_drop, List.length_map] at this
        (first | (with_reducible first | assumption | exact Nat.le_trans (by assumption) (by decide) | exact Nat.lt_of_le_of_lt (by assumption) (by decide) | (refine Nat.ne_of_lt ?_; (repeat (first | assumption | refine Nat.lt_trans (by assumption) ?_)); done) | (refine Nat.ne_of_gt ?_; (repeat (first | assumption | refine Nat.lt_trans (by assumption) ?_)); done) | ((repeat (first | assumption | refine Nat.lt_trans (by assumption) ?_)); done)) | omega)
      replace N := led_own N
      dsimp only [strValues, List.map_cons] at N
      have hP4 : LexOk w mean mg mb P ((LL + 1, oc) :: (news ++ own ++ own2)) := hP'.to (off_cons (hP'.up (by first | exact Nat.lt_succ_of_lt hcell | assumption)) (off_app (off_app n1 hoff) hoff2))
      refine quiet ?_
      intro Q2 hQ2
      k_steps
      refine unhold ?_
      dsimp only [List.append_nil]
      rename Fr _ _ _ _ => F5
      rename News _ _ _ _ => N5
      refine' forgetA rfl (Nat.le_refl _) (Nat.le_refl _) (pop_c P _ hP4 line tl l c (.str wd tw) (strValues Qr) nQ (by simp only [strValues, List.length_map]; (first | (with_reducible first | assumption | exact Nat.le_trans (by assumption) (by decide) | exact Nat.lt_of_le_of_lt (by assumption) (by decide) | (refine Nat.ne_of_lt ?_; (repeat (first | assumption | refine Nat.lt_trans (by assumption) ?_)); done) | (refine Nat.ne_of_gt ?_; (repeat (first | assumption | refine Nat.lt_trans (by assumption) ?_)); done) | ((repeat (first | assumption | refine Nat.lt_trans (by assumption) ?_)); done)) | omega)) _ _ _ _ _ _ _ _ F5 XX (news_t N5) TT ?hr ?hu ?_)
      case hr => exact rmm hroom (by decide)
      case hu => exact rmm hunits (by decide)
      intro h6 tk6 F6 N6
      clear F5 N5
      replace N6 := led_put N6
      k_steps
      refine unhold ?_
      try clear hr
      try clear F6
      try clear N6
      rename IsRange _ _ _ _ _ _ _ _ => hr
      rename Fr _ _ _ _ => F6
      rename News _ _ _ _ => N6
      refine' kst_range (σ := List (Str × Tok) × Nat × Nat × Tok) (n := wd.length + 1) (fun c' => (LL + 1, oc) :: lexLed w P line tl l c (strValues c'.1) c'.2.1 ((LL + 1, oc) :: (news ++ own ++ own2))) (fun c' => [(Str.ofString "second", .str second tb), (Str.ofString "place", .int pre.length t), (Str.ofString "word", .str wd tw), (Str.ofString "fresh", .int c'.2.2.1 c'.2.2.2)]) (fun c' => True) [Str.ofString "made", Str.ofString "ahead", Str.ofString "behind"] (fun pre3 c' => c'.1.map wl = Qr.map wl ++ genP sc pre.length (wl (wd, tw)) pre3.length ∧ c'.2.2.1 = fr + (genP sc pre.length (wl (wd, tw)) pre3.length).length) (Qr, _, fr, ?tx3) rfl hr ?small3 ?size3 F6 N6 trivial ?hk3 ?p03 ?turn3 ?done3
      case small3 => first | exact small_l (by decide) (by decide) (by assumption) (by decide) | exact small_l (b := wd.length + 1) (n := 5) (by decide) (by decide) (by (first | (with_reducible first | assumption | exact Nat.le_trans (by assumption) (by decide) | exact Nat.lt_of_le_of_lt (by assumption) (by decide) | (refine Nat.ne_of_lt ?_; (repeat (first | assumption | refine Nat.lt_trans (by assumption) ?_)); done) | (refine Nat.ne_of_gt ?_; (repeat (first | assumption | refine Nat.lt_trans (by assumption) ?_)); done) | ((repeat (first | assumption | refine Nat.lt_trans (by assumption) ?_)); done)) | omega)) (by decide) | exact small_l (n := 5) (by decide) (by decide) (by (first | (with_reducible first | assumption | exact Nat.le_trans (by assumption) (by decide) | exact Nat.lt_of_le_of_lt (by assumption) (by decide) | (refine Nat.ne_of_lt ?_; (repeat (first | assumption | refine Nat.lt_trans (by assumption) ?_)); done) | (refine Nat.ne_of_gt ?_; (repeat (first | assumption | refine Nat.lt_trans (by assumption) ?_)); done) | ((repeat (first | assumption | refine Nat.lt_trans (by assumption) ?_)); done)) | omega)) (by decide)
      case size3 => first | exact size_l | exact size_l (b := wd.length + 1)
      case hk3 => exact List.forall_mem_cons.mpr ⟨by with_unfolding_all rfl, List.forall_mem_cons.mpr ⟨by with_unfolding_all rfl, List.forall_mem_cons.mpr ⟨by with_unfolding_all rfl, List.forall_mem_cons.mpr ⟨by with_unfolding_all rfl, List.forall_mem_nil _⟩⟩⟩⟩
      case p03 => exact ⟨by simp [genP], by simp [genP]⟩
      case turn3 =>
        rintro ⟨Rl, nR, fr3, tF3⟩ pre3 k3 t3 u3 h3' tk3' own3 hk3 hlt3 hoff3 hf3 ⟨hp3, hq3⟩ F N
        replace hoff3 := off_sub hoff3 fun b hb => .tail _ (adr_led b hb)
        dsimp only [kstB] at hp3 hq3 F N ⊢
        replace N := led_own N
        have hP5 : LexOk w mean mg mb P ((LL + 1, oc) :: (news ++ own ++ own2 ++ own3)) := hP'.to (off_cons (hP'.up (by first | exact Nat.lt_succ_of_lt hcell | assumption)) (off_app (off_app (off_app n1 hoff) hoff2) hoff3))
        obtain rfl : k3 = (pre3.length : Int) := by (first | (with_reducible first | assumption | exact Nat.le_trans (by assumption) (by decide) | exact Nat.lt_of_le_of_lt (by assumption) (by decide) | (refine Nat.ne_of_lt ?_; (repeat (first | assumption | refine Nat.lt_trans (by assumption) ?_)); done) | (refine Nat.ne_of_gt ?_; (repeat (first | assumption | refine Nat.lt_trans (by assumption) ?_)); done) | ((repeat (first | assumption | refine Nat.lt_trans (by assumption) ?_)); done)) | omega)
        have hg : pre3.length ≤ wd.length := by (first | (with_reducible first | assumption | exact Nat.le_trans (by assumption) (by decide) | exact Nat.lt_of_le_of_lt (by assumption) (by decide) | (refine Nat.ne_of_lt ?_; (repeat (first | assumption | refine Nat.lt_trans (by assumption) ?_)); done) | (refine Nat.ne_of_gt ?_; (repeat (first | assumption | refine Nat.lt_trans (by assumption) ?_)); done) | ((repeat (first | assumption | refine Nat.lt_trans (by assumption) ?_)); done)) | omega)
        have e1 := made_eq (wd := wd) (second := second) (i := pre.length) (g := pre3.length) hlt hg
        have e2 : Txt.slice second none (some ((pre.length : Int) + 1)) = sOf (sc.take (pre.length + 1)) := by
          have := slice_to (x := second) (g := pre.length + 1) (by (first | (with_reducible first | assumption | exact Nat.le_trans (by assumption) (by decide) | exact Nat.lt_of_le_of_lt (by assumption) (by decide) | (refine Nat.ne_of_lt ?_; (repeat (first | assumption | refine Nat.lt_trans (by assumption) ?_)); done) | (refine Nat.ne_of_gt ?_; (repeat (first | assumption | refine Nat.lt_trans (by assumption) ?_)); done) | ((repeat (first | assumption | refine Nat.lt_trans (by assumption) ?_)); done)) | omega))
          rw [hsc] at this
          rw [← this]
          rfl
        rw [hsc] at e1
        have hRl : Rl.length ≤ 160 := by
          have a1 := congrArg List.length hp3
          have a2 := genP_len sc pre.length (wl (wd, tw)) pre3.length
          rw [List.length_map, List.length_append, List.length_map] at a1
          (first | (with_reducible first | assumption | exact Nat.le_trans (by assumption) (by decide) | exact Nat.lt_of_le_of_lt (by assumption) (by decide) | (refine Nat.ne_of_lt ?_; (repeat (first | assumption | refine Nat.lt_trans (by assumption) ?_)); done) | (refine Nat.ne_of_gt ?_; (repeat (first | assumption | refine Nat.lt_trans (by assumption) ?_)); done) | ((repeat (first | assumption | refine Nat.lt_trans (by assumption) ?_)); done)) | omega)
        have hmd : (madeL (sc.getD pre.length 0) wd.cps.toList pre3.length).length = wd.length + 1 := by rw [madeL_len, len_cps]
        have hA := ahead_eq (md := (madeL (sc.getD pre.length 0) wd.cps.toList pre3.length)) (second := second) (by (first | (with_reducible first | assumption | exact Nat.le_trans (by assumption) (by decide) | exact Nat.lt_of_le_of_lt (by assumption) (by decide) | (refine Nat.ne_of_lt ?_; (repeat (first | assumption | refine Nat.lt_trans (by assumption) ?_)); done) | (refine Nat.ne_of_gt ?_; (repeat (first | assumption | refine Nat.lt_trans (by assumption) ?_)); done) | ((repeat (first | assumption | refine Nat.lt_trans (by assumption) ?_)); done)) | omega)) (by (first | (with_reducible first | assumption | exact Nat.le_trans (by assumption) (by decide) | exact Nat.lt_of_le_of_lt (by assumption) (by decide) | (refine Nat.ne_of_lt ?_; (repeat (first | assumption | refine Nat.lt_trans (by assumption) ?_)); done) | (refine Nat.ne_of_gt ?_; (repeat (first | assumption | refine Nat.lt_trans (by assumption) ?_)); done) | ((repeat (first | assumption | refine Nat.lt_trans (by assumption) ?_)); done)) | omega))
        have hB := behind_eq (md := (madeL (sc.getD pre.length 0) wd.cps.toList pre3.length)) (second := second) (i := pre.length) (by (first | (with_reducible first | assumption | exact Nat.le_trans (by assumption) (by decide) | exact Nat.lt_of_le_of_lt (by assumption) (by decide) | (refine Nat.ne_of_lt ?_; (repeat (first | assumption | refine Nat.lt_trans (by assumption) ?_)); done) | (refine Nat.ne_of_gt ?_; (repeat (first | assumption | refine Nat.lt_trans (by assumption) ?_)); done) | ((repeat (first | assumption | refine Nat.lt_trans (by assumption) ?_)); done)) | omega)) hlt
        rw [hsc] at hA hB
        have hja : (sOf (sc.take (pre.length + 1))).cps.all (· < 128) = true := sOf_asc fun c hc => (hasc c (List.mem_of_mem_take hc)).2
        have htk : (sc.take (pre.length + 1)).length ≤ 4 := by rw [List.length_take]; (first | (with_reducible first | assumption | exact Nat.le_trans (by assumption) (by decide) | exact Nat.lt_of_le_of_lt (by assumption) (by decide) | (refine Nat.ne_of_lt ?_; (repeat (first | assumption | refine Nat.lt_trans (by assumption) ?_)); done) | (refine Nat.ne_of_gt ?_; (repeat (first | assumption | refine Nat.lt_trans (by assumption) ?_)); done) | ((repeat (first | assumption | refine Nat.lt_trans (by assumption) ?_)); done)) | omega)
        have htk1 : 1 ≤ (sc.take (pre.length + 1)).length := by rw [List.length_take]; (first | (with_reducible first | assumption | exact Nat.le_trans (by assumption) (by decide) | exact Nat.lt_of_le_of_lt (by assumption) (by decide) | (refine Nat.ne_of_lt ?_; (repeat (first | assumption | refine Nat.lt_trans (by assumption) ?_)); done) | (refine Nat.ne_of_gt ?_; (repeat (first | assumption | refine Nat.lt_trans (by assumption) ?_)); done) | ((repeat (first | assumption | refine Nat.lt_trans (by assumption) ?_)); done)) | omega)
        have hjl := join_len _ htk
        have hsl : (sOf (madeL (sc.getD pre.length 0) wd.cps.toList pre3.length)).length ≤ 6 := by rw [sOf_len, hmd]; (first | (with_reducible first | assumption | exact Nat.le_trans (by assumption) (by decide) | exact Nat.lt_of_le_of_lt (by assumption) (by decide) | (refine Nat.ne_of_lt ?_; (repeat (first | assumption | refine Nat.lt_trans (by assumption) ?_)); done) | (refine Nat.ne_of_gt ?_; (repeat (first | assumption | refine Nat.lt_trans (by assumption) ?_)); done) | ((repeat (first | assumption | refine Nat.lt_trans (by assumption) ?_)); done)) | omega)
        refine quiet ?_
        intro Q3 hQ3
        k_steps
        refine unhold ?_
        refine dots_ite ?_
        k_steps
        refine unhold ?_
        refine dots_ite ?_
        k_steps
        simp only [e1, e2, hA, hB, Bool.not_not] at *
        have hdA : ∀ x, (dotsS x).length ≤ 3 := by intro x; cases x <;> decide
        have hd1 := hdA (aheadL sc (madeL (sc.getD pre.length 0) wd.cps.toList pre3.length))
        have hd2 := hdA (behindL sc pre.length (madeL (sc.getD pre.length 0) wd.cps.toList pre3.length))
        refine unhold ?_
        rename Fr gg LL _ _ => F9
        rename News gg LL _ _ => N9
        refine join_str rfl hja (by rw [sOf_len]; (first | (with_reducible first | assumption | exact Nat.le_trans (by assumption) (by decide) | exact Nat.lt_of_le_of_lt (by assumption) (by decide) | (refine Nat.ne_of_lt ?_; (repeat (first | assumption | refine Nat.lt_trans (by assumption) ?_)); done) | (refine Nat.ne_of_gt ?_; (repeat (first | assumption | refine Nat.lt_trans (by assumption) ?_)); done) | ((repeat (first | assumption | refine Nat.lt_trans (by assumption) ?_)); done)) | omega)) (by decide) ?_
        intro h7 t7 k7 hk7
        replace F9 := F9.keeps hk7
        replace N9 := N9.grown hk7
        rw [cps_sOf]
        dsimp only
        k_steps
        refine unhold ?_
        have hw : dotsS (aheadL sc (madeL (sc.getD pre.length 0) wd.cps.toList pre3.length)) ++ Txt.join (Str.ofString "...") ((sc.take (pre.length + 1)).map ch1) ++ dotsS (behindL sc pre.length (madeL (sc.getD pre.length 0) wd.cps.toList pre3.length)) = wantS (aheadL sc (madeL (sc.getD pre.length 0) wd.cps.toList pre3.length)) (sc.take (pre.length + 1)) (behindL sc pre.length (madeL (sc.getD pre.length 0) wd.cps.toList pre3.length)) := rfl
        rw [hw]
        rename Fr gg LL _ _ => F8
        rename News gg LL _ _ => N8
        refine' forgetA rfl (Nat.le_refl _) (Nat.le_refl _) (ellw_c (aheadL sc (madeL (sc.getD pre.length 0) wd.cps.toList pre3.length)) (behindL sc pre.length (madeL (sc.getD pre.length 0) wd.cps.toList pre3.length)) (sc.take (pre.length + 1)) (fun c hc => (hasc c (List.mem_of_mem_take hc)).1) htk1 htk (sOf (madeL (sc.getD pre.length 0) wd.cps.toList pre3.length)) _ _ _ (by (first | (with_reducible first | assumption | exact Nat.le_trans (by assumption) (by decide) | exact Nat.lt_of_le_of_lt (by assumption) (by decide) | (refine Nat.ne_of_lt ?_; (repeat (first | assumption | refine Nat.lt_trans (by assumption) ?_)); done) | (refine Nat.ne_of_gt ?_; (repeat (first | assumption | refine Nat.lt_trans (by assumption) ?_)); done) | ((repeat (first | assumption | refine Nat.lt_trans (by assumption) ?_)); done)) | omega)) _ _ _ _ _ _ _ _ F8 XX N8 TT ?hr ?hu ?_)
        case hr => exact rmm hroom (by decide)
        case hu => exact rmm hunits (by decide)
        intro h10 tk10 F10 N10
        have hok : matchP (partsS (aheadL sc (madeL (sc.getD pre.length 0) wd.cps.toList pre3.length)) (sc.take (pre.length + 1)) (behindL sc pre.length (madeL (sc.getD pre.length 0) wd.cps.toList pre3.length))) (sOf (madeL (sc.getD pre.length 0) wd.cps.toList pre3.length)) = okL sc pre.length (madeL (sc.getD pre.length 0) wd.cps.toList pre3.length) := rfl
        rw [hok]
        try clear F8
        try clear N8
        try clear F9
        try clear N9
        dsimp only
        k_steps
        · refine unhold ?_
          try dsimp only [List.append_nil]
          rename Fr gg LL _ _ => F8
          rename News gg LL _ _ => N8
          have hokt : okL sc pre.length (madeL (sc.getD pre.length 0) wd.cps.toList pre3.length) = true := by assumption
          refine' forgetA rfl (Nat.le_refl _) (Nat.le_refl _) (push_c P _ hP5 line tl l c (.str (sOf (madeL (sc.getD pre.length 0) wd.cps.toList pre3.length)) _) (strValues Rl) nR (by simp only [strValues, List.length_map]; (first | (with_reducible first | assumption | exact Nat.le_trans (by assumption) (by decide) | exact Nat.lt_of_le_of_lt (by assumption) (by decide) | (refine Nat.ne_of_lt ?_; (repeat (first | assumption | refine Nat.lt_trans (by assumption) ?_)); done) | (refine Nat.ne_of_gt ?_; (repeat (first | assumption | refine Nat.lt_trans (by assumption) ?_)); done) | ((repeat (first | assumption | refine Nat.lt_trans (by assumption) ?_)); done)) | omega)) _ _ _ _ _ _ _ _ F8 XX (news_t N8) TT ?hr ?hu ?_)
          case hr => exact rmm hroom (by decide)
          case hu => exact rmm hunits (by decide)
          intro n11 h11 tk11 F11 N11
          rw [strv_snoc] at N11
          replace N11 := led_put N11
          clear F8 N8
          k_steps
          refine hQ3 _ _ ?_
          k_steps
          refine unhold ?_
          refine' kst_end (Rl ++ [(sOf (madeL (sc.getD pre.length 0) wd.cps.toList pre3.length), _)], _, fr3 + 1, ?ftk0) (by k_asm) (by k_asm) (fun p hp => led_app hp) (fun p hp => led_o hp) rfl trivial ?ek ?er ?ep
          case ek => exact List.forall_mem_cons.mpr ⟨by with_unfolding_all rfl, List.forall_mem_cons.mpr ⟨by with_unfolding_all rfl, List.forall_mem_cons.mpr ⟨by with_unfolding_all rfl, List.forall_mem_cons.mpr ⟨by with_unfolding_all rfl, List.forall_mem_nil _⟩⟩⟩⟩
          case er =>
            intro z z1 z2 z3
            have g1 := z2 _ (.head _)
            have g2 := z2 _ (.tail _ (.head _))
            have g3 := z2 _ (.tail _ (.tail _ (.head _)))
            have g4 := z2 _ (.tail _ (.tail _ (.tail _ (.head _))))
            have s1 : z ≠ Str.ofString "made" := by intro e; rw [e] at z3; revert z3; decide
            have s2 : z ≠ Str.ofString "ahead" := by intro e; rw [e] at z3; revert z3; decide
            have s3 : z ≠ Str.ofString "behind" := by intro e; rw [e] at z3; revert z3; decide
            dsimp only at g1 g2 g3 g4
            simp [z1, g1, g2, g3, g4, s1, s2, s3]
          case ep =>
            have e5 := genP_t (sc := sc) (i := pre.length) (wd := wl (wd, tw)) (g := pre3.length) hokt
            dsimp only
            rw [List.length_append, List.length_singleton, e5]
            refine ⟨?_, ?_⟩
            · rw [List.map_append, hp3, List.append_assoc]; congr 2; try exact congrArg (fun q => [q]) (cps_sOf _)
            · rw [List.length_append, hq3, List.length_singleton]; (first | (with_reducible first | assumption | exact Nat.le_trans (by assumption) (by decide) | exact Nat.lt_of_le_of_lt (by assumption) (by decide) | (refine Nat.ne_of_lt ?_; (repeat (first | assumption | refine Nat.lt_trans (by assumption) ?_)); done) | (refine Nat.ne_of_gt ?_; (repeat (first | assumption | refine Nat.lt_trans (by assumption) ?_)); done) | ((repeat (first | assumption | refine Nat.lt_trans (by assumption) ?_)); done)) | omega)
        · refine hQ3 _ _ ?_
          k_steps
          refine unhold ?_
          have hokf : okL sc pre.length (madeL (sc.getD pre.length 0) wd.cps.toList pre3.length) = false := by assumption
          refine kst_end (Rl, nR, fr3, tF3) (by k_asm) (by k_asm) (fun p hp => led_app hp) (fun p hp => led_o hp) rfl trivial ?ek ?er ?ep
          case ek => exact List.forall_mem_cons.mpr ⟨by with_unfolding_all rfl, List.forall_mem_cons.mpr ⟨by with_unfolding_all rfl, List.forall_mem_cons.mpr ⟨by with_unfolding_all rfl, List.forall_mem_cons.mpr ⟨by with_unfolding_all rfl, List.forall_mem_nil _⟩⟩⟩⟩
          case er =>
            intro z z1 z2 z3
            have g1 := z2 _ (.head _)
            have g2 := z2 _ (.tail _ (.head _))
            have g3 := z2 _ (.tail _ (.tail _ (.head _)))
            have g4 := z2 _ (.tail _ (.tail _ (.tail _ (.head _))))
            have s1 : z ≠ Str.ofString "made" := by intro e; rw [e] at z3; revert z3; decide
            have s2 : z ≠ Str.ofString "ahead" := by intro e; rw [e] at z3; revert z3; decide
            have s3 : z ≠ Str.ofString "behind" := by intro e; rw [e] at z3; revert z3; decide
            dsimp only at g1 g2 g3 g4
            simp [z1, g1, g2, g3, g4, s1, s2, s3]
          case ep =>
            have e5 := genP_f (sc := sc) (i := pre.length) (wd := wl (wd, tw)) (g := pre3.length) hokf
            dsimp only
            rw [List.length_append, List.length_singleton, e5]
            exact ⟨hp3, hq3⟩
      case done3 =>
        rintro ⟨Rl, nR, fr3, tF3⟩ u3 h3' tk3' - ⟨hp3, hq3⟩ F N
        rw [rangeKs_length] at hp3 hq3
        have e7 : wl (wd, tw) = (Wl.map wl)[pre2.length] := hw1
        have e8 : genP sc pre.length (wl (wd, tw)) (wd.length + 1) = genL sc pre.length (Wl.map wl)[pre2.length] := by
          rw [← e7]
          unfold genL
          have e9 : (wl (wd, tw)).length = wd.length := len_cps wd
          rw [e9]
        have e10 : (Wl.map wl).take (pre2.length + 1) = (Wl.map wl).take pre2.length ++ [(Wl.map wl)[pre2.length]] := by
          rw [List.take_add_one, List.getElem?_eq_getElem hj]
          rfl
        rw [e8] at hp3 hq3
        dsimp only [kstB] at hp3 hq3 F N ⊢
        k_steps
        refine hQ2 _ _ ?_
        k_steps
        refine unhold ?_
        refine' kst_end (Rl, nR, fr3, tF3) (by k_asm) (by k_asm) (fun p hp => led_app hp) (fun p hp => led_o hp) rfl trivial ?ek ?er ?ep
        case ek => exact List.forall_mem_cons.mpr ⟨by with_unfolding_all rfl, List.forall_mem_cons.mpr ⟨by with_unfolding_all rfl, List.forall_mem_cons.mpr ⟨by with_unfolding_all rfl, List.forall_mem_nil _⟩⟩⟩
        case er =>
          intro z z1 z2 z3
          have g1 := z2 _ (.head _)
          have g2 := z2 _ (.tail _ (.head _))
          have g3 := z2 _ (.tail _ (.tail _ (.head _)))
          have s0 : z ≠ Str.ofString "word" := by intro e; rw [e] at z3; revert z3; decide
          have s4 : z ≠ Str.ofString "gap" := by intro e; rw [e] at z3; revert z3; decide
          have s1 : z ≠ Str.ofString "made" := by intro e; rw [e] at z3; revert z3; decide
          have s2 : z ≠ Str.ofString "ahead" := by intro e; rw [e] at z3; revert z3; decide
          have s3 : z ≠ Str.ofString "behind" := by intro e; rw [e] at z3; revert z3; decide
          dsimp only at g1 g2 g3
          simp [z1, g1, g2, g3, s0, s1, s2, s3, s4]
        case ep =>
          dsimp only
          rw [List.length_append, List.length_singleton, e10, List.flatMap_append, List.flatMap_singleton]
          refine ⟨?_, ?_⟩
          · rw [hp3, hp2, List.append_assoc]
          · rw [hq3, List.length_append, hq2]
    case done2 =>
      rintro ⟨Ql, nQ, fr, tF⟩ u2 h2' tk2' - ⟨hp2, hq2⟩ F N
      rw [rangeKs_length] at hp2 hq2
      rw [List.drop_of_length_le (by rw [List.length_map]; exact Nat.le_refl _), List.take_of_length_le (by rw [List.length_map]; exact Nat.le_refl _), List.nil_append, hp] at hp2
      rw [List.take_of_length_le (by rw [List.length_map]; exact Nat.le_refl _), hp] at hq2
      have hfr : fr = Ql.length := by
        have := congrArg List.length hp2
        rw [List.length_map] at this
        rw [this, ← hq2]
      dsimp only [kstB] at F N ⊢
      k_steps
      refine hQ1 _ _ ?_
      k_steps
      refine unhold ?_
      refine' kst_end (Ql, nQ, tF) (by k_asm) (by k_asm) (fun p hp => led_app hp) (fun p hp => led_o hp) rfl trivial ?ek ?er ?ep
      case ek => exact List.forall_mem_cons.mpr ⟨by with_unfolding_all rfl, List.forall_mem_cons.mpr ⟨by rw [← hfr]; with_unfolding_all rfl, List.forall_mem_nil _⟩⟩
      case er =>
        intro z z1 z2 z3
        have g1 := z2 _ (.head _)
        have g2 := z2 _ (.tail _ (.head _))
        have s5 : z ≠ Str.ofString "fresh" := by intro e; rw [e] at z3; revert z3; decide
        have s6 : z ≠ Str.ofString "turn" := by intro e; rw [e] at z3; revert z3; decide
        have s0 : z ≠ Str.ofString "word" := by intro e; rw [e] at z3; revert z3; decide
        have s4 : z ≠ Str.ofString "gap" := by intro e; rw [e] at z3; revert z3; decide
        have s1 : z ≠ Str.ofString "made" := by intro e; rw [e] at z3; revert z3; decide
        have s2 : z ≠ Str.ofString "ahead" := by intro e; rw [e] at z3; revert z3; decide
        have s3 : z ≠ Str.ofString "behind" := by intro e; rw [e] at z3; revert z3; decide
        dsimp only at g1 g2
        simp [z1, g1, g2, s0, s1, s2, s3, s4, s5, s6]
      case ep =>
        dsimp only
        rw [List.length_append, List.length_singleton]
        exact hp2
  case done =>
    rintro ⟨Wl, nW, tW⟩ u h tk - hp F N
    rw [rangeKs_length] at hp
    dsimp only [kstB] at hp F N ⊢
    have hbn : Wl.length ≤ 120 := by
      have b1 := mixL_len (fi := first.cps.toList) (sc := second.cps.toList) second.length
      rw [← hp, List.length_map, len_cps] at b1
      have b2 := bnd_ok ⟨first.length, by (first | (with_reducible first | assumption | exact Nat.le_trans (by assumption) (by decide) | exact Nat.lt_of_le_of_lt (by assumption) (by decide) | (refine Nat.ne_of_lt ?_; (repeat (first | assumption | refine Nat.lt_trans (by assumption) ?_)); done) | (refine Nat.ne_of_gt ?_; (repeat (first | assumption | refine Nat.lt_trans (by assumption) ?_)); done) | ((repeat (first | assumption | refine Nat.lt_trans (by assumption) ?_)); done)) | omega)⟩ ⟨second.length, by (first | (with_reducible first | assumption | exact Nat.le_trans (by assumption) (by decide) | exact Nat.lt_of_le_of_lt (by assumption) (by decide) | (refine Nat.ne_of_lt ?_; (repeat (first | assumption | refine Nat.lt_trans (by assumption) ?_)); done) | (refine Nat.ne_of_gt ?_; (repeat (first | assumption | refine Nat.lt_trans (by assumption) ?_)); done) | ((repeat (first | assumption | refine Nat.lt_trans (by assumption) ?_)); done)) | omega)⟩ h1 (by dsimp only; (first | (with_reducible first | assumption | exact Nat.le_trans (by assumption) (by decide) | exact Nat.lt_of_le_of_lt (by assumption) (by decide) | (refine Nat.ne_of_lt ?_; (repeat (first | assumption | refine Nat.lt_trans (by assumption) ?_)); done) | (refine Nat.ne_of_gt ?_; (repeat (first | assumption | refine Nat.lt_trans (by assumption) ?_)); done) | ((repeat (first | assumption | refine Nat.lt_trans (by assumption) ?_)); done)) | omega))
      dsimp only at b2
      (first | (with_reducible first | assumption | exact Nat.le_trans (by assumption) (by decide) | exact Nat.lt_of_le_of_lt (by assumption) (by decide) | (refine Nat.ne_of_lt ?_; (repeat (first | assumption | refine Nat.lt_trans (by assumption) ?_)); done) | (refine Nat.ne_of_gt ?_; (repeat (first | assumption | refine Nat.lt_trans (by assumption) ?_)); done) | ((repeat (first | assumption | refine Nat.lt_trans (by assumption) ?_)); done)) | omega)
    k_steps
    refine unhold ?_
    try clear hr
    try clear F3
    try clear N3
    rename IsRange _ _ _ _ _ _ _ _ => hr
    rename Fr gg LL _ _ => F3
    rename News gg LL _ _ => N3
    refine compRange (n := Wl.length) ((LL + 1, oc) :: lexLed w P line tl l c (strValues Wl) nW ((LL + 1, oc) :: news)) [] (fun i ys nx gs => ∃ nn, nx = (LL + 1, oc) :: lexLed w P line tl l c (strValues (Wl.drop i)) nn ((LL + 1, oc) :: news) ∧ ys = strValues (Wl.take i) ∧ gs = s.gens) rfl hr ?small ?size (by (first | (with_reducible first | assumption | exact Nat.le_trans (by assumption) (by decide) | exact Nat.lt_of_le_of_lt (by assumption) (by decide) | (refine Nat.ne_of_lt ?_; (repeat (first | assumption | refine Nat.lt_trans (by assumption) ?_)); done) | (refine Nat.ne_of_gt ?_; (repeat (first | assumption | refine Nat.lt_trans (by assumption) ?_)); done) | ((repeat (first | assumption | refine Nat.lt_trans (by assumption) ?_)); done)) | omega)) F3 (by rw [List.append_nil]; exact N3) ⟨nW, rfl, rfl, rfl⟩ ?len ?turn ?done
    case small => first | exact small_l (by decide) (by decide) (by assumption) (by decide) | exact small_l (b := wd.length + 1) (n := 5) (by decide) (by decide) (by (first | (with_reducible first | assumption | exact Nat.le_trans (by assumption) (by decide) | exact Nat.lt_of_le_of_lt (by assumption) (by decide) | (refine Nat.ne_of_lt ?_; (repeat (first | assumption | refine Nat.lt_trans (by assumption) ?_)); done) | (refine Nat.ne_of_gt ?_; (repeat (first | assumption | refine Nat.lt_trans (by assumption) ?_)); done) | ((repeat (first | assumption | refine Nat.lt_trans (by assumption) ?_)); done)) | omega)) (by decide) | exact small_l (n := 5) (by decide) (by decide) (by (first | (with_reducible first | assumption | exact Nat.le_trans (by assumption) (by decide) | exact Nat.lt_of_le_of_lt (by assumption) (by decide) | (refine Nat.ne_of_lt ?_; (repeat (first | assumption | refine Nat.lt_trans (by assumption) ?_)); done) | (refine Nat.ne_of_gt ?_; (repeat (first | assumption | refine Nat.lt_trans (by assumption) ?_)); done) | ((repeat (first | assumption | refine Nat.lt_trans (by assumption) ?_)); done)) | omega)) (by decide)
    case size => first | exact size_l | exact size_l (b := wd.length + 1)
    case len =>
      rintro i ys nx gs ⟨nn, -, rfl, -⟩
      unfold strValues
      rw [List.length_map, List.length_take]
      (first | (with_reducible first | assumption | exact Nat.le_trans (by assumption) (by decide) | exact Nat.lt_of_le_of_lt (by assumption) (by decide) | (refine Nat.ne_of_lt ?_; (repeat (first | assumption | refine Nat.lt_trans (by assumption) ?_)); done) | (refine Nat.ne_of_gt ?_; (repeat (first | assumption | refine Nat.lt_trans (by assumption) ?_)); done) | ((repeat (first | assumption | refine Nat.lt_trans (by assumption) ?_)); done)) | omega)
    case turn =>
      rintro g C D2 i tv ys nD news₁ gs h tk m₁ own E' hi ⟨nn, rfl, rfl, rfl⟩ hadr hown hlt hlo hDC st2 FG F N
      have X1 := XX.keeps st2
      have T1 := TT.keeps st2
      have hD2 : @LT.lt Nat _ P.pb D2 := ltN (hlt (P.pb, _) (.tail _ (.tail _ (.head _))))
      obtain ⟨⟨wd, tw⟩, Wr, hdr, htk⟩ : ∃ p r, Wl.drop i = p :: r ∧ Wl.take (i + 1) = Wl.take i ++ [p] := by
        refine ⟨Wl[i], Wl.drop (i + 1), List.drop_eq_getElem_cons hi, ?_⟩
        rw [List.take_add_one, List.getElem?_eq_getElem hi]
        rfl
      have hWr : Wr.length ≤ 120 := by
        have := congrArg List.length hdr
        rw [List.length_drop, List.length_cons] at this
        (first | (with_reducible first | assumption | exact Nat.le_trans (by assumption) (by decide) | exact Nat.lt_of_le_of_lt (by assumption) (by decide) | (refine Nat.ne_of_lt ?_; (repeat (first | assumption | refine Nat.lt_trans (by assumption) ?_)); done) | (refine Nat.ne_of_gt ?_; (repeat (first | assumption | refine Nat.lt_trans (by assumption) ?_)); done) | ((repeat (first | assumption | refine Nat.lt_trans (by assumption) ?_)); done)) | omega)
      have hdr2 : Wl.drop (i + 1) = Wr := by rw [← List.drop_drop, hdr]; rfl
      rw [hdr] at N
      have hP4 : LexOk w mean mg mb P ((D2, lsO (strValues (Wl.take i)) nD) :: (LL + 1, oc) :: (news ++ own)) := hP'.to (off_cons (hP'.up (by first | exact Nat.lt_succ_of_lt hcell | assumption)) (off_cons (hP'.up (by first | exact Nat.lt_succ_of_lt hcell | assumption)) (off_app n1 (fun q hq b hb => neN (by
        have a1 := ltN (hown q hq (P.pb, _) (.tail _ (.tail _ (.head _))))
        have a2 := hP'.top b hb
        (first | (with_reducible first | assumption | exact Nat.le_trans (by assumption) (by decide) | exact Nat.lt_of_le_of_lt (by assumption) (by decide) | (refine Nat.ne_of_lt ?_; (repeat (first | assumption | refine Nat.lt_trans (by assumption) ?_)); done) | (refine Nat.ne_of_gt ?_; (repeat (first | assumption | refine Nat.lt_trans (by assumption) ?_)); done) | ((repeat (first | assumption | refine Nat.lt_trans (by assumption) ?_)); done)) | omega))))))
      have N7 : News g C h (lexLed w P line tl l c (.str wd tw :: strValues Wr) nn ((D2, lsO (strValues (Wl.take i)) nD) :: (LL + 1, oc) :: (news ++ own))) := fun q hq => N q (lex_in2 hq)
      clear N
      replace N7 := news_c N7 (lex_iff.mpr (.inr (.tail _ (.head _)))) N7
      dsimp only
      k_steps
      refine unhold ?_
      dsimp only [List.append_nil]
      rename Fr g C _ _ => F5
      rename News g C _ _ => N5
      refine' forgetA rfl (Nat.le_refl _) (Nat.le_refl _) (pop_c P _ hP4 line tl l c (.str wd tw) (strValues Wr) nn (by simp only [strValues, List.length_map]; (first | (with_reducible first | assumption | exact Nat.le_trans (by assumption) (by decide) | exact Nat.lt_of_le_of_lt (by assumption) (by decide) | (refine Nat.ne_of_lt ?_; (repeat (first | assumption | refine Nat.lt_trans (by assumption) ?_)); done) | (refine Nat.ne_of_gt ?_; (repeat (first | assumption | refine Nat.lt_trans (by assumption) ?_)); done) | ((repeat (first | assumption | refine Nat.lt_trans (by assumption) ?_)); done)) | omega)) _ _ _ _ _ _ _ _ F5 X1 (news_t N5) T1 ?hr ?hu ?_)
      case hr => exact rmm hroom (by decide)
      case hu => exact rmm hunits (by decide)
      intro h6 tk6 F6 N6
      refine ⟨_, _, _, _, (LL + 1, oc) :: lexLed w P line tl l c (strValues Wr) (nn + 1) ((LL + 1, oc) :: news), rfl, F6, fun q hq => N6 q (lex_out2 hq), rfl, nn + 1, ?_, ?_, rfl⟩
      · rw [hdr2]
      · rw [htk, strv_app]; rfl
    case done =>
      rintro D2 ys nD news₁ gs h' tk ⟨nn, rfl, rfl, rfl⟩ - hlt F N
      have hD2 : @LT.lt Nat _ P.pb D2 := ltN (hlt (P.pb, _) (.tail _ (.tail _ (.head _))))
      have hnD : ∀ q ∈ news, @LT.lt Nat _ q.1 D2 := fun q hq => hlt q (by rw [List.append_nil]; exact List.Mem.tail _ (.tail _ (.tail _ (.tail _ (.tail _ (.tail _ (.tail _ (.tail _ (.tail _ (.tail _ (.tail _ (.tail _ (.tail _ hq)))))))))))))
      rw [List.drop_length, List.take_length] at N
      k_steps
      refine hQ9 _ _ ?_
      k_steps
      rename News h₀ _ _ _ => N9
      refine hret D2 Wl nD nn _ _ hp hD2 hnD (by k_asm) (fun q hq => N9 q ?_)
      rcases List.mem_cons.mp hq with rfl | hq
      · exact .head _
      · exact .tail _ (by rw [List.append_nil]; exact .tail _ (lex_mem' hq))
end Mine
end
section
open PySem PySem.W PyProof.Rows Mine
set_option Elab.async false
set_option maxRecDepth 100000
namespace Mine
theorem pickF_len : ∀ (n : Nat) (ws : List Nat) (k : Int), (pickF n ws k).length = n
  | 0, _, _ => rfl
  | n + 1, ws, k => by simp [pickF, pickF_len n]
theorem pickS_len (k : Int) : (pickS k).length = 5 := by
  show (pickF 5 menu8 k).toArray.size = 5
  simp [pickF_len]
def sizeN (b : Int) : Nat := (1 + b.fmod 4).toNat
theorem sizeN_b (b : Int) : 1 + b.fmod 4 = (sizeN b : Int) ∧ 1 ≤ sizeN b ∧ sizeN b ≤ 4 := by
  have h0 : 0 ≤ b.fmod 4 := Int.fmod_nonneg_of_pos _ (by omega)
  have h1 : b.fmod 4 < 4 := Int.fmod_lt_of_pos _ (by omega)
  unfold sizeN
  omega
def firstS (a b : Int) : Str := sOf ((pickF 5 menu8 a).take (sizeN b))
def secondS (a b : Int) : Str := sOf ((pickF 5 menu8 a).drop (sizeN b))
theorem firstS_eq (a b : Int) : Txt.slice (pickS a) none (some (1 + b.fmod 4)) = firstS a b := by
  obtain ⟨e, h1, h2⟩ := sizeN_b b
  rw [e, slice_to (by rw [pickS_len]; omega)]
  simp [firstS, pickS]
theorem secondS_eq (a b : Int) : Txt.slice (pickS a) (some (1 + b.fmod 4)) none = secondS a b := by
  obtain ⟨e, h1, h2⟩ := sizeN_b b
  rw [e, slice_from (by rw [pickS_len]; omega)]
  simp [secondS, pickS]
theorem firstS_len (a b : Int) : (firstS a b).length = sizeN b := by
  have := sizeN_b b
  unfold firstS
  rw [sOf_len, List.length_take, pickF_len]
  omega
theorem secondS_len (a b : Int) : (secondS a b).length = 5 - sizeN b := by
  unfold secondS
  rw [sOf_len, List.length_drop, pickF_len]
end Mine
end
section
open PySem PySem.W PyProof.Rows Mine Builtin.Str
set_option Elab.async false
set_option maxRecDepth 100000
set_option maxHeartbeats 1000000
namespace Mine
def mixesL : Nat → List (List Nat)
  | 1 => [[1, 2, 3, 4, 0], [1, 2, 3, 0, 4], [1, 2, 0, 3, 4], [1, 0, 2, 3, 4], [0, 1, 2, 3, 4]]
  | 2 => [[2, 3, 4, 0, 1], [2, 3, 0, 4, 1], [2, 3, 0, 1, 4], [2, 0, 3, 4, 1], [2, 0, 3, 1, 4], [2, 0, 1, 3, 4], [0, 2, 3, 4, 1], [0, 2, 3, 1, 4], [0, 2, 1, 3, 4], [0, 1, 2, 3, 4]]
  | 3 => [[3, 4, 0, 1, 2], [3, 0, 4, 1, 2], [3, 0, 1, 4, 2], [3, 0, 1, 2, 4], [0, 3, 4, 1, 2], [0, 3, 1, 4, 2], [0, 3, 1, 2, 4], [0, 1, 3, 4, 2], [0, 1, 3, 2, 4], [0, 1, 2, 3, 4]]
  | _ => [[4, 0, 1, 2, 3], [0, 4, 1, 2, 3], [0, 1, 4, 2, 3], [0, 1, 2, 4, 3], [0, 1, 2, 3, 4]]
theorem mix_1 : mixL [0] [1, 2, 3, 4] 4 = mixesL 1 := by decide +kernel
theorem mix_2 : mixL [0, 1] [2, 3, 4] 3 = mixesL 2 := by decide +kernel
theorem mix_3 : mixL [0, 1, 2] [3, 4] 2 = mixesL 3 := by decide +kernel
theorem mix_4 : mixL [0, 1, 2, 3] [4] 1 = mixesL 4 := by decide +kernel
def fallB (w : List Nat) (i : Nat) : Bool := decide (w.getD (i + 1) 0 < w.getD i 0)
def runsB (b : Nat → Bool) : Nat → List Int
  | 0 => [1]
  | i + 1 => if b i = true then runsB b i ++ [1] else incLast (runsB b i)
def fallsB (b : Nat → Bool) (len : Nat) : List Int :=
  (List.range ((runsB b (len - 1)).take ((runsB b (len - 1)).length - 1)).length).map fun i => (((runsB b (len - 1)).take ((runsB b (len - 1)).length - 1)).take (i + 1)).sum
def dropsB (b : Nat → Bool) (i : Nat) : List Int := ((List.range i).filter b).map fun (k : Nat) => (1 : Int) + (k : Int)
def dueB (n1 n2 : Nat) (b1 b2 : Nat → Bool) (k : Int) : Int :=
  let ones := dropsB b1 (n1 - 1)
  let twos := dropsB b2 (n2 - 1)
  let rest := k - ones.length
  let more := k - twos.length
  let ways := gaussF ((n1 : Int) - ones.length + twos.length) rest * gaussF ((n2 : Int) - twos.length + ones.length) more
  if ways ≠ 0 then ways * 64 ^ (ones.sum + twos.sum + rest * more).toNat else 0
def heapF (tolds : List (List Int)) (k : Int) : Int := ((tolds.filter fun ys => decide ((ys.length : Int) = k)).map fun ys => (64 : Int) ^ ys.sum.toNat).sum
theorem lt_one (a b : Nat) : (([a] : List Nat) < [b]) ↔ a < b := by
  simp [List.cons_lt_cons_iff]
theorem coll_one (a b : Nat) : collF (ch1 a) (ch1 b) = 1 ↔ b < a := by
  have e1 : ∀ c, (ch1 c).cps.toList = [c] := fun _ => rfl
  unfold collF
  rw [e1, e1]
  by_cases h : b < a
  · have h2 : ¬ a < b := by (first | (with_reducible first | assumption | exact Nat.le_trans (by assumption) (by decide) | exact Nat.lt_of_le_of_lt (by assumption) (by decide) | (refine Nat.ne_of_lt ?_; (repeat (first | assumption | refine Nat.lt_trans (by assumption) ?_)); done) | (refine Nat.ne_of_gt ?_; (repeat (first | assumption | refine Nat.lt_trans (by assumption) ?_)); done) | ((repeat (first | assumption | refine Nat.lt_trans (by assumption) ?_)); done)) | omega)
    simp [lt_one, h, h2, b2i]
  · by_cases h2 : a < b
    · simp [lt_one, h, h2, b2i]
    · simp [lt_one, h, h2, b2i]
theorem item_1 {word : Str} {i : Nat} (h : i + 1 < word.length) : Txt.item word (1 + (i : Int)) = ch1 (word.cps.toList.getD (i + 1) 0) := by
  have := item_nat (x := word) (i := i + 1) h
  rw [← this, show (1 : Int) + (i : Int) = ((i + 1 : Nat) : Int) by (first | (with_reducible first | assumption | exact Nat.le_trans (by assumption) (by decide) | exact Nat.lt_of_le_of_lt (by assumption) (by decide) | (refine Nat.ne_of_lt ?_; (repeat (first | assumption | refine Nat.lt_trans (by assumption) ?_)); done) | (refine Nat.ne_of_gt ?_; (repeat (first | assumption | refine Nat.lt_trans (by assumption) ?_)); done) | ((repeat (first | assumption | refine Nat.lt_trans (by assumption) ?_)); done)) | omega)]
theorem item_0 {word : Str} {i : Nat} (h : i + 1 < word.length) : Txt.item word (1 + (i : Int) - 1) = ch1 (word.cps.toList.getD i 0) := by
  have := item_nat (x := word) (i := i) (by (first | (with_reducible first | assumption | exact Nat.le_trans (by assumption) (by decide) | exact Nat.lt_of_le_of_lt (by assumption) (by decide) | (refine Nat.ne_of_lt ?_; (repeat (first | assumption | refine Nat.lt_trans (by assumption) ?_)); done) | (refine Nat.ne_of_gt ?_; (repeat (first | assumption | refine Nat.lt_trans (by assumption) ?_)); done) | ((repeat (first | assumption | refine Nat.lt_trans (by assumption) ?_)); done)) | omega))
  rw [← this, show (1 : Int) + (i : Int) - 1 = (i : Int) by (first | (with_reducible first | assumption | exact Nat.le_trans (by assumption) (by decide) | exact Nat.lt_of_le_of_lt (by assumption) (by decide) | (refine Nat.ne_of_lt ?_; (repeat (first | assumption | refine Nat.lt_trans (by assumption) ?_)); done) | (refine Nat.ne_of_gt ?_; (repeat (first | assumption | refine Nat.lt_trans (by assumption) ?_)); done) | ((repeat (first | assumption | refine Nat.lt_trans (by assumption) ?_)); done)) | omega)]
theorem runsF_B (word : Str) : ∀ (i : Nat), i + 1 ≤ word.length → runsF word i = runsB (fallB word.cps.toList) i
  | 0, _ => rfl
  | i + 1, h => by
    have ih := runsF_B word i (by (first | (with_reducible first | assumption | exact Nat.le_trans (by assumption) (by decide) | exact Nat.lt_of_le_of_lt (by assumption) (by decide) | (refine Nat.ne_of_lt ?_; (repeat (first | assumption | refine Nat.lt_trans (by assumption) ?_)); done) | (refine Nat.ne_of_gt ?_; (repeat (first | assumption | refine Nat.lt_trans (by assumption) ?_)); done) | ((repeat (first | assumption | refine Nat.lt_trans (by assumption) ?_)); done)) | omega))
    unfold runsF runsB
    rw [ih, item_0 (by (first | (with_reducible first | assumption | exact Nat.le_trans (by assumption) (by decide) | exact Nat.lt_of_le_of_lt (by assumption) (by decide) | (refine Nat.ne_of_lt ?_; (repeat (first | assumption | refine Nat.lt_trans (by assumption) ?_)); done) | (refine Nat.ne_of_gt ?_; (repeat (first | assumption | refine Nat.lt_trans (by assumption) ?_)); done) | ((repeat (first | assumption | refine Nat.lt_trans (by assumption) ?_)); done)) | omega)), item_1 (by (first | (with_reducible first | assumption | exact Nat.le_trans (by assumption) (by decide) | exact Nat.lt_of_le_of_lt (by assumption) (by decide) | (refine Nat.ne_of_lt ?_; (repeat (first | assumption | refine Nat.lt_trans (by assumption) ?_)); done) | (refine Nat.ne_of_gt ?_; (repeat (first | assumption | refine Nat.lt_trans (by assumption) ?_)); done) | ((repeat (first | assumption | refine Nat.lt_trans (by assumption) ?_)); done)) | omega))]
    by_cases q : word.cps.toList.getD (i + 1) 0 < word.cps.toList.getD i 0
    · rw [if_pos ((coll_one _ _).mpr q), if_pos (show fallB word.cps.toList i = true from decide_eq_true q)]
    · rw [if_neg (fun z => q ((coll_one _ _).mp z)), if_neg (by unfold fallB; rw [decide_eq_false q]; decide)]
theorem fallsF_B {word : Str} (h : 1 ≤ word.length) : fallsF word = fallsB (fallB word.cps.toList) word.length := by
  unfold fallsF fallsB
  rw [runsF_B word _ (by (first | (with_reducible first | assumption | exact Nat.le_trans (by assumption) (by decide) | exact Nat.lt_of_le_of_lt (by assumption) (by decide) | (refine Nat.ne_of_lt ?_; (repeat (first | assumption | refine Nat.lt_trans (by assumption) ?_)); done) | (refine Nat.ne_of_gt ?_; (repeat (first | assumption | refine Nat.lt_trans (by assumption) ?_)); done) | ((repeat (first | assumption | refine Nat.lt_trans (by assumption) ?_)); done)) | omega))]
theorem dropsF_B {word : Str} {i : Nat} (h : i + 1 ≤ word.length) : dropsF word i = dropsB (fallB word.cps.toList) i := by
  unfold dropsF dropsB
  congr 1
  refine List.filter_congr fun k hk => ?_
  have hk := List.mem_range.mp hk
  unfold fallAt fallB
  rw [item_0 (by (first | (with_reducible first | assumption | exact Nat.le_trans (by assumption) (by decide) | exact Nat.lt_of_le_of_lt (by assumption) (by decide) | (refine Nat.ne_of_lt ?_; (repeat (first | assumption | refine Nat.lt_trans (by assumption) ?_)); done) | (refine Nat.ne_of_gt ?_; (repeat (first | assumption | refine Nat.lt_trans (by assumption) ?_)); done) | ((repeat (first | assumption | refine Nat.lt_trans (by assumption) ?_)); done)) | omega)), item_1 (by (first | (with_reducible first | assumption | exact Nat.le_trans (by assumption) (by decide) | exact Nat.lt_of_le_of_lt (by assumption) (by decide) | (refine Nat.ne_of_lt ?_; (repeat (first | assumption | refine Nat.lt_trans (by assumption) ?_)); done) | (refine Nat.ne_of_gt ?_; (repeat (first | assumption | refine Nat.lt_trans (by assumption) ?_)); done) | ((repeat (first | assumption | refine Nat.lt_trans (by assumption) ?_)); done)) | omega))]
  have e1 : ∀ c, (ch1 c).cps.toList = [c] := fun _ => rfl
  rw [e1, e1]
  rw [Bool.eq_iff_iff, decide_eq_true_iff, decide_eq_true_iff, lt_one]
theorem dueF_B {first second : Str} (h1 : 1 ≤ first.length) (h2 : 1 ≤ second.length) (k : Int) : dueF first second k = dueB first.length second.length (fallB first.cps.toList) (fallB second.cps.toList) k := by
  unfold dueF dueB
  rw [dropsF_B (by (first | (with_reducible first | assumption | exact Nat.le_trans (by assumption) (by decide) | exact Nat.lt_of_le_of_lt (by assumption) (by decide) | (refine Nat.ne_of_lt ?_; (repeat (first | assumption | refine Nat.lt_trans (by assumption) ?_)); done) | (refine Nat.ne_of_gt ?_; (repeat (first | assumption | refine Nat.lt_trans (by assumption) ?_)); done) | ((repeat (first | assumption | refine Nat.lt_trans (by assumption) ?_)); done)) | omega)), dropsF_B (by (first | (with_reducible first | assumption | exact Nat.le_trans (by assumption) (by decide) | exact Nat.lt_of_le_of_lt (by assumption) (by decide) | (refine Nat.ne_of_lt ?_; (repeat (first | assumption | refine Nat.lt_trans (by assumption) ?_)); done) | (refine Nat.ne_of_gt ?_; (repeat (first | assumption | refine Nat.lt_trans (by assumption) ?_)); done) | ((repeat (first | assumption | refine Nat.lt_trans (by assumption) ?_)); done)) | omega))]
theorem runsB_congr {b b' : Nat → Bool} : ∀ (i : Nat), (∀ j, j < i → b j = b' j) → runsB b i = runsB b' i
  | 0, _ => rfl
  | i + 1, h => by
    unfold runsB
    rw [runsB_congr i fun j hj => h j (by (first | (with_reducible first | assumption | exact Nat.le_trans (by assumption) (by decide) | exact Nat.lt_of_le_of_lt (by assumption) (by decide) | (refine Nat.ne_of_lt ?_; (repeat (first | assumption | refine Nat.lt_trans (by assumption) ?_)); done) | (refine Nat.ne_of_gt ?_; (repeat (first | assumption | refine Nat.lt_trans (by assumption) ?_)); done) | ((repeat (first | assumption | refine Nat.lt_trans (by assumption) ?_)); done)) | omega)), h i (by (first | (with_reducible first | assumption | exact Nat.le_trans (by assumption) (by decide) | exact Nat.lt_of_le_of_lt (by assumption) (by decide) | (refine Nat.ne_of_lt ?_; (repeat (first | assumption | refine Nat.lt_trans (by assumption) ?_)); done) | (refine Nat.ne_of_gt ?_; (repeat (first | assumption | refine Nat.lt_trans (by assumption) ?_)); done) | ((repeat (first | assumption | refine Nat.lt_trans (by assumption) ?_)); done)) | omega))]
theorem fallsB_congr {b b' : Nat → Bool} {n : Nat} (h : ∀ j, j + 1 < n → b j = b' j) : fallsB b n = fallsB b' n := by
  unfold fallsB
  rw [runsB_congr (n - 1) fun j hj => h j (by (first | (with_reducible first | assumption | exact Nat.le_trans (by assumption) (by decide) | exact Nat.lt_of_le_of_lt (by assumption) (by decide) | (refine Nat.ne_of_lt ?_; (repeat (first | assumption | refine Nat.lt_trans (by assumption) ?_)); done) | (refine Nat.ne_of_gt ?_; (repeat (first | assumption | refine Nat.lt_trans (by assumption) ?_)); done) | ((repeat (first | assumption | refine Nat.lt_trans (by assumption) ?_)); done)) | omega))]
theorem dropsB_congr {b b' : Nat → Bool} {n : Nat} (h : ∀ j, j + 1 < n → b j = b' j) : dropsB b (n - 1) = dropsB b' (n - 1) := by
  unfold dropsB
  congr 1
  exact List.filter_congr fun k hk => h k (by have := List.mem_range.mp hk; (first | (with_reducible first | assumption | exact Nat.le_trans (by assumption) (by decide) | exact Nat.lt_of_le_of_lt (by assumption) (by decide) | (refine Nat.ne_of_lt ?_; (repeat (first | assumption | refine Nat.lt_trans (by assumption) ?_)); done) | (refine Nat.ne_of_gt ?_; (repeat (first | assumption | refine Nat.lt_trans (by assumption) ?_)); done) | ((repeat (first | assumption | refine Nat.lt_trans (by assumption) ?_)); done)) | omega))
theorem dueB_congr {b1 b2 c1 c2 : Nat → Bool} {n1 n2 : Nat} (h1 : ∀ j, j + 1 < n1 → b1 j = c1 j) (h2 : ∀ j, j + 1 < n2 → b2 j = c2 j) (k : Int) : dueB n1 n2 b1 b2 k = dueB n1 n2 c1 c2 k := by
  unfold dueB
  rw [dropsB_congr h1, dropsB_congr h2]
def Ord5 (f g : Nat → Nat) : Prop := ∀ a, a < 5 → ∀ b, b < 5 → (f a < f b ↔ g a < g b)
theorem fallB_ord {f g : Nat → Nat} (h : Ord5 f g) {w : List Nat} (hw : Lt5 w) {j : Nat} (hj : j + 1 < w.length) : fallB (w.map f) j = fallB (w.map g) j := by
  unfold fallB
  rw [getD_map' f hj, getD_map' f (by (first | (with_reducible first | assumption | exact Nat.le_trans (by assumption) (by decide) | exact Nat.lt_of_le_of_lt (by assumption) (by decide) | (refine Nat.ne_of_lt ?_; (repeat (first | assumption | refine Nat.lt_trans (by assumption) ?_)); done) | (refine Nat.ne_of_gt ?_; (repeat (first | assumption | refine Nat.lt_trans (by assumption) ?_)); done) | ((repeat (first | assumption | refine Nat.lt_trans (by assumption) ?_)); done)) | omega)), getD_map' g hj, getD_map' g (by (first | (with_reducible first | assumption | exact Nat.le_trans (by assumption) (by decide) | exact Nat.lt_of_le_of_lt (by assumption) (by decide) | (refine Nat.ne_of_lt ?_; (repeat (first | assumption | refine Nat.lt_trans (by assumption) ?_)); done) | (refine Nat.ne_of_gt ?_; (repeat (first | assumption | refine Nat.lt_trans (by assumption) ?_)); done) | ((repeat (first | assumption | refine Nat.lt_trans (by assumption) ?_)); done)) | omega)), Bool.eq_iff_iff, decide_eq_true_iff, decide_eq_true_iff]
  exact h _ (hw _ (getD_mem hj _)) _ (hw _ (getD_mem (by (first | (with_reducible first | assumption | exact Nat.le_trans (by assumption) (by decide) | exact Nat.lt_of_le_of_lt (by assumption) (by decide) | (refine Nat.ne_of_lt ?_; (repeat (first | assumption | refine Nat.lt_trans (by assumption) ?_)); done) | (refine Nat.ne_of_gt ?_; (repeat (first | assumption | refine Nat.lt_trans (by assumption) ?_)); done) | ((repeat (first | assumption | refine Nat.lt_trans (by assumption) ?_)); done)) | omega)) _))
def checkG (n : Nat) (g : Nat → Nat) : Bool :=
  (List.range 5).all fun k => decide (heapF ((mixesL n).map fun w => fallsB (fallB (w.map g)) 5) k = dueB n (5 - n) (fallB ((List.range n).map g)) (fallB ((List.range' n (5 - n)).map g)) k)
def dist5 (a b c d e : Nat) : Bool := a != b && a != c && a != d && a != e && b != c && b != d && b != e && c != d && c != e && d != e
def checkA (n a : Nat) : Bool :=
  (List.range 5).all fun b => (List.range 5).all fun c => (List.range 5).all fun d => (List.range 5).all fun e => !(dist5 a b c d e) || checkG n fun j => [a, b, c, d, e].getD j 0
theorem chk_10 : checkA 1 0 = true := by decide +kernel
theorem chk_11 : checkA 1 1 = true := by decide +kernel
theorem chk_12 : checkA 1 2 = true := by decide +kernel
theorem chk_13 : checkA 1 3 = true := by decide +kernel
theorem chk_14 : checkA 1 4 = true := by decide +kernel
theorem chk_20 : checkA 2 0 = true := by decide +kernel
theorem chk_21 : checkA 2 1 = true := by decide +kernel
theorem chk_22 : checkA 2 2 = true := by decide +kernel
theorem chk_23 : checkA 2 3 = true := by decide +kernel
theorem chk_24 : checkA 2 4 = true := by decide +kernel
theorem chk_30 : checkA 3 0 = true := by decide +kernel
theorem chk_31 : checkA 3 1 = true := by decide +kernel
theorem chk_32 : checkA 3 2 = true := by decide +kernel
theorem chk_33 : checkA 3 3 = true := by decide +kernel
theorem chk_34 : checkA 3 4 = true := by decide +kernel
theorem chk_40 : checkA 4 0 = true := by decide +kernel
theorem chk_41 : checkA 4 1 = true := by decide +kernel
theorem chk_42 : checkA 4 2 = true := by decide +kernel
theorem chk_43 : checkA 4 3 = true := by decide +kernel
theorem chk_44 : checkA 4 4 = true := by decide +kernel
theorem chk_all (n a : Nat) (h1 : 1 ≤ n) (h4 : n ≤ 4) (ha : a < 5) : checkA n a = true := by
  have hn : n = 1 ∨ n = 2 ∨ n = 3 ∨ n = 4 := one4 n (Nat.lt_succ_of_le h4) (by assumption)
  have hA : a = 0 ∨ a = 1 ∨ a = 2 ∨ a = 3 ∨ a = 4 := lt5 (by assumption)
  rcases hn with rfl | rfl | rfl | rfl <;> rcases hA with rfl | rfl | rfl | rfl | rfl
  · exact chk_10
  · exact chk_11
  · exact chk_12
  · exact chk_13
  · exact chk_14
  · exact chk_20
  · exact chk_21
  · exact chk_22
  · exact chk_23
  · exact chk_24
  · exact chk_30
  · exact chk_31
  · exact chk_32
  · exact chk_33
  · exact chk_34
  · exact chk_40
  · exact chk_41
  · exact chk_42
  · exact chk_43
  · exact chk_44
theorem chk_g {n : Nat} (h1 : 1 ≤ n) (h4 : n ≤ 4) {a b c d e : Nat} (ha : a < 5) (hb : b < 5) (hc : c < 5) (hd : d < 5) (he : e < 5) (hx : dist5 a b c d e = true) : checkG n (fun j => [a, b, c, d, e].getD j 0) = true := by
  have h := chk_all n a h1 h4 ha
  unfold checkA at h
  have h := List.all_eq_true.mp h b (List.mem_range.mpr hb)
  have h := List.all_eq_true.mp h c (List.mem_range.mpr hc)
  have h := List.all_eq_true.mp h d (List.mem_range.mpr hd)
  have h := List.all_eq_true.mp h e (List.mem_range.mpr he)
  rw [hx] at h
  exact h
theorem cnt_lt : ∀ (l : List Nat) (p q : Nat → Bool), (∀ x, p x = true → q x = true) → ∀ a ∈ l, p a = false → q a = true → (l.filter p).length < (l.filter q).length
  | [], _, _, _, _, h, _, _ => by cases h
  | x :: l, p, q, hpq, a, ha, h1, h2 => by
    have le : ∀ l : List Nat, (l.filter p).length ≤ (l.filter q).length := by
      intro l
      induction l with
      | nil => exact Nat.le_refl _
      | cons y l ih =>
        rw [List.filter_cons, List.filter_cons]
        by_cases hy : p y = true
        · rw [if_pos hy, if_pos (hpq y hy)]; simp only [List.length_cons]; (first | (with_reducible first | assumption | exact Nat.le_trans (by assumption) (by decide) | exact Nat.lt_of_le_of_lt (by assumption) (by decide) | (refine Nat.ne_of_lt ?_; (repeat (first | assumption | refine Nat.lt_trans (by assumption) ?_)); done) | (refine Nat.ne_of_gt ?_; (repeat (first | assumption | refine Nat.lt_trans (by assumption) ?_)); done) | ((repeat (first | assumption | refine Nat.lt_trans (by assumption) ?_)); done)) | omega)
        · rw [if_neg hy]; split <;> (try simp only [List.length_cons]) <;> (first | (with_reducible first | assumption | exact Nat.le_trans (by assumption) (by decide) | exact Nat.lt_of_le_of_lt (by assumption) (by decide) | (refine Nat.ne_of_lt ?_; (repeat (first | assumption | refine Nat.lt_trans (by assumption) ?_)); done) | (refine Nat.ne_of_gt ?_; (repeat (first | assumption | refine Nat.lt_trans (by assumption) ?_)); done) | ((repeat (first | assumption | refine Nat.lt_trans (by assumption) ?_)); done)) | omega)
    rw [List.filter_cons, List.filter_cons]
    rcases List.mem_cons.mp ha with rfl | ha
    · rw [if_neg (by rw [h1]; decide), if_pos h2]
      have := le l
      simp only [List.length_cons]
      (first | (with_reducible first | assumption | exact Nat.le_trans (by assumption) (by decide) | exact Nat.lt_of_le_of_lt (by assumption) (by decide) | (refine Nat.ne_of_lt ?_; (repeat (first | assumption | refine Nat.lt_trans (by assumption) ?_)); done) | (refine Nat.ne_of_gt ?_; (repeat (first | assumption | refine Nat.lt_trans (by assumption) ?_)); done) | ((repeat (first | assumption | refine Nat.lt_trans (by assumption) ?_)); done)) | omega)
    · have ih := cnt_lt l p q hpq a ha h1 h2
      by_cases hx : p x = true
      · rw [if_pos hx, if_pos (hpq x hx)]; simp only [List.length_cons]; (first | (with_reducible first | assumption | exact Nat.le_trans (by assumption) (by decide) | exact Nat.lt_of_le_of_lt (by assumption) (by decide) | (refine Nat.ne_of_lt ?_; (repeat (first | assumption | refine Nat.lt_trans (by assumption) ?_)); done) | (refine Nat.ne_of_gt ?_; (repeat (first | assumption | refine Nat.lt_trans (by assumption) ?_)); done) | ((repeat (first | assumption | refine Nat.lt_trans (by assumption) ?_)); done)) | omega)
      · rw [if_neg hx]; split <;> (try simp only [List.length_cons]) <;> (first | (with_reducible first | assumption | exact Nat.le_trans (by assumption) (by decide) | exact Nat.lt_of_le_of_lt (by assumption) (by decide) | (refine Nat.ne_of_lt ?_; (repeat (first | assumption | refine Nat.lt_trans (by assumption) ?_)); done) | (refine Nat.ne_of_gt ?_; (repeat (first | assumption | refine Nat.lt_trans (by assumption) ?_)); done) | ((repeat (first | assumption | refine Nat.lt_trans (by assumption) ?_)); done)) | omega)
def rankF (f : Nat → Nat) (j : Nat) : Nat := ((List.range 5).filter fun t => decide (f t < f j)).length
theorem rank_lt (f : Nat → Nat) {j : Nat} (hj : j < 5) : rankF f j < 5 := by
  have h := cnt_lt (List.range 5) (fun t => decide (f t < f j)) (fun _ => true) (fun _ _ => rfl) j (List.mem_range.mpr hj) (decide_eq_false (Nat.lt_irrefl _)) rfl
  have e : ((List.range 5).filter fun _ => true).length = 5 := rfl
  rw [e] at h
  exact h
theorem rank_up (f : Nat → Nat) {a b : Nat} (ha : a < 5) (h : f a < f b) : rankF f a < rankF f b :=
  cnt_lt (List.range 5) _ _ (fun _ hx => decide_eq_true (Nat.lt_trans (of_decide_eq_true hx) h)) a (List.mem_range.mpr ha) (decide_eq_false (Nat.lt_irrefl _)) (decide_eq_true h)
theorem rank_ord {f : Nat → Nat} (hf : Inj5 f) : Ord5 f (rankF f) := by
  intro a ha b hb
  refine ⟨rank_up f ha, fun h => ?_⟩
  by_cases q : f a < f b
  · exact q
  · by_cases q2 : f b < f a
    · have := rank_up f hb q2; (first | (with_reducible first | assumption | exact Nat.le_trans (by assumption) (by decide) | exact Nat.lt_of_le_of_lt (by assumption) (by decide) | (refine Nat.ne_of_lt ?_; (repeat (first | assumption | refine Nat.lt_trans (by assumption) ?_)); done) | (refine Nat.ne_of_gt ?_; (repeat (first | assumption | refine Nat.lt_trans (by assumption) ?_)); done) | ((repeat (first | assumption | refine Nat.lt_trans (by assumption) ?_)); done)) | omega)
    · have e : a = b := hf a ha b hb (by (first | (with_reducible first | assumption | exact Nat.le_trans (by assumption) (by decide) | exact Nat.lt_of_le_of_lt (by assumption) (by decide) | (refine Nat.ne_of_lt ?_; (repeat (first | assumption | refine Nat.lt_trans (by assumption) ?_)); done) | (refine Nat.ne_of_gt ?_; (repeat (first | assumption | refine Nat.lt_trans (by assumption) ?_)); done) | ((repeat (first | assumption | refine Nat.lt_trans (by assumption) ?_)); done)) | omega))
      rw [e] at h
      exact absurd h (Nat.lt_irrefl _)
theorem rank_ne {f : Nat → Nat} (hf : Inj5 f) {a b : Nat} (ha : a < 5) (hb : b < 5) (h : a ≠ b) : rankF f a ≠ rankF f b := by
  by_cases q : f a < f b
  · have := rank_up f ha q; (first | (with_reducible first | assumption | exact Nat.le_trans (by assumption) (by decide) | exact Nat.lt_of_le_of_lt (by assumption) (by decide) | (refine Nat.ne_of_lt ?_; (repeat (first | assumption | refine Nat.lt_trans (by assumption) ?_)); done) | (refine Nat.ne_of_gt ?_; (repeat (first | assumption | refine Nat.lt_trans (by assumption) ?_)); done) | ((repeat (first | assumption | refine Nat.lt_trans (by assumption) ?_)); done)) | omega)
  · by_cases q2 : f b < f a
    · have := rank_up f hb q2; (first | (with_reducible first | assumption | exact Nat.le_trans (by assumption) (by decide) | exact Nat.lt_of_le_of_lt (by assumption) (by decide) | (refine Nat.ne_of_lt ?_; (repeat (first | assumption | refine Nat.lt_trans (by assumption) ?_)); done) | (refine Nat.ne_of_gt ?_; (repeat (first | assumption | refine Nat.lt_trans (by assumption) ?_)); done) | ((repeat (first | assumption | refine Nat.lt_trans (by assumption) ?_)); done)) | omega)
    · exact absurd (hf a ha b hb (by (first | (with_reducible first | assumption | exact Nat.le_trans (by assumption) (by decide) | exact Nat.lt_of_le_of_lt (by assumption) (by decide) | (refine Nat.ne_of_lt ?_; (repeat (first | assumption | refine Nat.lt_trans (by assumption) ?_)); done) | (refine Nat.ne_of_gt ?_; (repeat (first | assumption | refine Nat.lt_trans (by assumption) ?_)); done) | ((repeat (first | assumption | refine Nat.lt_trans (by assumption) ?_)); done)) | omega))) h
theorem rank_chk {f : Nat → Nat} (hf : Inj5 f) {n : Nat} (h1 : 1 ≤ n) (h4 : n ≤ 4) : checkG n (fun j => [rankF f 0, rankF f 1, rankF f 2, rankF f 3, rankF f 4].getD j 0) = true := by
  refine chk_g h1 h4 (rank_lt f (by (first | (with_reducible first | assumption | exact Nat.le_trans (by assumption) (by decide) | exact Nat.lt_of_le_of_lt (by assumption) (by decide) | (refine Nat.ne_of_lt ?_; (repeat (first | assumption | refine Nat.lt_trans (by assumption) ?_)); done) | (refine Nat.ne_of_gt ?_; (repeat (first | assumption | refine Nat.lt_trans (by assumption) ?_)); done) | ((repeat (first | assumption | refine Nat.lt_trans (by assumption) ?_)); done)) | omega))) (rank_lt f (by (first | (with_reducible first | assumption | exact Nat.le_trans (by assumption) (by decide) | exact Nat.lt_of_le_of_lt (by assumption) (by decide) | (refine Nat.ne_of_lt ?_; (repeat (first | assumption | refine Nat.lt_trans (by assumption) ?_)); done) | (refine Nat.ne_of_gt ?_; (repeat (first | assumption | refine Nat.lt_trans (by assumption) ?_)); done) | ((repeat (first | assumption | refine Nat.lt_trans (by assumption) ?_)); done)) | omega))) (rank_lt f (by (first | (with_reducible first | assumption | exact Nat.le_trans (by assumption) (by decide) | exact Nat.lt_of_le_of_lt (by assumption) (by decide) | (refine Nat.ne_of_lt ?_; (repeat (first | assumption | refine Nat.lt_trans (by assumption) ?_)); done) | (refine Nat.ne_of_gt ?_; (repeat (first | assumption | refine Nat.lt_trans (by assumption) ?_)); done) | ((repeat (first | assumption | refine Nat.lt_trans (by assumption) ?_)); done)) | omega))) (rank_lt f (by (first | (with_reducible first | assumption | exact Nat.le_trans (by assumption) (by decide) | exact Nat.lt_of_le_of_lt (by assumption) (by decide) | (refine Nat.ne_of_lt ?_; (repeat (first | assumption | refine Nat.lt_trans (by assumption) ?_)); done) | (refine Nat.ne_of_gt ?_; (repeat (first | assumption | refine Nat.lt_trans (by assumption) ?_)); done) | ((repeat (first | assumption | refine Nat.lt_trans (by assumption) ?_)); done)) | omega))) (rank_lt f (by (first | (with_reducible first | assumption | exact Nat.le_trans (by assumption) (by decide) | exact Nat.lt_of_le_of_lt (by assumption) (by decide) | (refine Nat.ne_of_lt ?_; (repeat (first | assumption | refine Nat.lt_trans (by assumption) ?_)); done) | (refine Nat.ne_of_gt ?_; (repeat (first | assumption | refine Nat.lt_trans (by assumption) ?_)); done) | ((repeat (first | assumption | refine Nat.lt_trans (by assumption) ?_)); done)) | omega))) ?_
  have r := fun {a b : Nat} ha hb hab => rank_ne hf (a := a) (b := b) ha hb hab
  unfold dist5
  simp [r (a := 0) (b := 1) (by (first | (with_reducible first | assumption | exact Nat.le_trans (by assumption) (by decide) | exact Nat.lt_of_le_of_lt (by assumption) (by decide) | (refine Nat.ne_of_lt ?_; (repeat (first | assumption | refine Nat.lt_trans (by assumption) ?_)); done) | (refine Nat.ne_of_gt ?_; (repeat (first | assumption | refine Nat.lt_trans (by assumption) ?_)); done) | ((repeat (first | assumption | refine Nat.lt_trans (by assumption) ?_)); done)) | omega)) (by (first | (with_reducible first | assumption | exact Nat.le_trans (by assumption) (by decide) | exact Nat.lt_of_le_of_lt (by assumption) (by decide) | (refine Nat.ne_of_lt ?_; (repeat (first | assumption | refine Nat.lt_trans (by assumption) ?_)); done) | (refine Nat.ne_of_gt ?_; (repeat (first | assumption | refine Nat.lt_trans (by assumption) ?_)); done) | ((repeat (first | assumption | refine Nat.lt_trans (by assumption) ?_)); done)) | omega)) (by (first | (with_reducible first | assumption | exact Nat.le_trans (by assumption) (by decide) | exact Nat.lt_of_le_of_lt (by assumption) (by decide) | (refine Nat.ne_of_lt ?_; (repeat (first | assumption | refine Nat.lt_trans (by assumption) ?_)); done) | (refine Nat.ne_of_gt ?_; (repeat (first | assumption | refine Nat.lt_trans (by assumption) ?_)); done) | ((repeat (first | assumption | refine Nat.lt_trans (by assumption) ?_)); done)) | omega)), r (a := 0) (b := 2) (by (first | (with_reducible first | assumption | exact Nat.le_trans (by assumption) (by decide) | exact Nat.lt_of_le_of_lt (by assumption) (by decide) | (refine Nat.ne_of_lt ?_; (repeat (first | assumption | refine Nat.lt_trans (by assumption) ?_)); done) | (refine Nat.ne_of_gt ?_; (repeat (first | assumption | refine Nat.lt_trans (by assumption) ?_)); done) | ((repeat (first | assumption | refine Nat.lt_trans (by assumption) ?_)); done)) | omega)) (by (first | (with_reducible first | assumption | exact Nat.le_trans (by assumption) (by decide) | exact Nat.lt_of_le_of_lt (by assumption) (by decide) | (refine Nat.ne_of_lt ?_; (repeat (first | assumption | refine Nat.lt_trans (by assumption) ?_)); done) | (refine Nat.ne_of_gt ?_; (repeat (first | assumption | refine Nat.lt_trans (by assumption) ?_)); done) | ((repeat (first | assumption | refine Nat.lt_trans (by assumption) ?_)); done)) | omega)) (by (first | (with_reducible first | assumption | exact Nat.le_trans (by assumption) (by decide) | exact Nat.lt_of_le_of_lt (by assumption) (by decide) | (refine Nat.ne_of_lt ?_; (repeat (first | assumption | refine Nat.lt_trans (by assumption) ?_)); done) | (refine Nat.ne_of_gt ?_; (repeat (first | assumption | refine Nat.lt_trans (by assumption) ?_)); done) | ((repeat (first | assumption | refine Nat.lt_trans (by assumption) ?_)); done)) | omega)), r (a := 0) (b := 3) (by (first | (with_reducible first | assumption | exact Nat.le_trans (by assumption) (by decide) | exact Nat.lt_of_le_of_lt (by assumption) (by decide) | (refine Nat.ne_of_lt ?_; (repeat (first | assumption | refine Nat.lt_trans (by assumption) ?_)); done) | (refine Nat.ne_of_gt ?_; (repeat (first | assumption | refine Nat.lt_trans (by assumption) ?_)); done) | ((repeat (first | assumption | refine Nat.lt_trans (by assumption) ?_)); done)) | omega)) (by (first | (with_reducible first | assumption | exact Nat.le_trans (by assumption) (by decide) | exact Nat.lt_of_le_of_lt (by assumption) (by decide) | (refine Nat.ne_of_lt ?_; (repeat (first | assumption | refine Nat.lt_trans (by assumption) ?_)); done) | (refine Nat.ne_of_gt ?_; (repeat (first | assumption | refine Nat.lt_trans (by assumption) ?_)); done) | ((repeat (first | assumption | refine Nat.lt_trans (by assumption) ?_)); done)) | omega)) (by (first | (with_reducible first | assumption | exact Nat.le_trans (by assumption) (by decide) | exact Nat.lt_of_le_of_lt (by assumption) (by decide) | (refine Nat.ne_of_lt ?_; (repeat (first | assumption | refine Nat.lt_trans (by assumption) ?_)); done) | (refine Nat.ne_of_gt ?_; (repeat (first | assumption | refine Nat.lt_trans (by assumption) ?_)); done) | ((repeat (first | assumption | refine Nat.lt_trans (by assumption) ?_)); done)) | omega)), r (a := 0) (b := 4) (by (first | (with_reducible first | assumption | exact Nat.le_trans (by assumption) (by decide) | exact Nat.lt_of_le_of_lt (by assumption) (by decide) | (refine Nat.ne_of_lt ?_; (repeat (first | assumption | refine Nat.lt_trans (by assumption) ?_)); done) | (refine Nat.ne_of_gt ?_; (repeat (first | assumption | refine Nat.lt_trans (by assumption) ?_)); done) | ((repeat (first | assumption | refine Nat.lt_trans (by assumption) ?_)); done)) | omega)) (by (first | (with_reducible first | assumption | exact Nat.le_trans (by assumption) (by decide) | exact Nat.lt_of_le_of_lt (by assumption) (by decide) | (refine Nat.ne_of_lt ?_; (repeat (first | assumption | refine Nat.lt_trans (by assumption) ?_)); done) | (refine Nat.ne_of_gt ?_; (repeat (first | assumption | refine Nat.lt_trans (by assumption) ?_)); done) | ((repeat (first | assumption | refine Nat.lt_trans (by assumption) ?_)); done)) | omega)) (by (first | (with_reducible first | assumption | exact Nat.le_trans (by assumption) (by decide) | exact Nat.lt_of_le_of_lt (by assumption) (by decide) | (refine Nat.ne_of_lt ?_; (repeat (first | assumption | refine Nat.lt_trans (by assumption) ?_)); done) | (refine Nat.ne_of_gt ?_; (repeat (first | assumption | refine Nat.lt_trans (by assumption) ?_)); done) | ((repeat (first | assumption | refine Nat.lt_trans (by assumption) ?_)); done)) | omega)),
    r (a := 1) (b := 2) (by (first | (with_reducible first | assumption | exact Nat.le_trans (by assumption) (by decide) | exact Nat.lt_of_le_of_lt (by assumption) (by decide) | (refine Nat.ne_of_lt ?_; (repeat (first | assumption | refine Nat.lt_trans (by assumption) ?_)); done) | (refine Nat.ne_of_gt ?_; (repeat (first | assumption | refine Nat.lt_trans (by assumption) ?_)); done) | ((repeat (first | assumption | refine Nat.lt_trans (by assumption) ?_)); done)) | omega)) (by (first | (with_reducible first | assumption | exact Nat.le_trans (by assumption) (by decide) | exact Nat.lt_of_le_of_lt (by assumption) (by decide) | (refine Nat.ne_of_lt ?_; (repeat (first | assumption | refine Nat.lt_trans (by assumption) ?_)); done) | (refine Nat.ne_of_gt ?_; (repeat (first | assumption | refine Nat.lt_trans (by assumption) ?_)); done) | ((repeat (first | assumption | refine Nat.lt_trans (by assumption) ?_)); done)) | omega)) (by (first | (with_reducible first | assumption | exact Nat.le_trans (by assumption) (by decide) | exact Nat.lt_of_le_of_lt (by assumption) (by decide) | (refine Nat.ne_of_lt ?_; (repeat (first | assumption | refine Nat.lt_trans (by assumption) ?_)); done) | (refine Nat.ne_of_gt ?_; (repeat (first | assumption | refine Nat.lt_trans (by assumption) ?_)); done) | ((repeat (first | assumption | refine Nat.lt_trans (by assumption) ?_)); done)) | omega)), r (a := 1) (b := 3) (by (first | (with_reducible first | assumption | exact Nat.le_trans (by assumption) (by decide) | exact Nat.lt_of_le_of_lt (by assumption) (by decide) | (refine Nat.ne_of_lt ?_; (repeat (first | assumption | refine Nat.lt_trans (by assumption) ?_)); done) | (refine Nat.ne_of_gt ?_; (repeat (first | assumption | refine Nat.lt_trans (by assumption) ?_)); done) | ((repeat (first | assumption | refine Nat.lt_trans (by assumption) ?_)); done)) | omega)) (by (first | (with_reducible first | assumption | exact Nat.le_trans (by assumption) (by decide) | exact Nat.lt_of_le_of_lt (by assumption) (by decide) | (refine Nat.ne_of_lt ?_; (repeat (first | assumption | refine Nat.lt_trans (by assumption) ?_)); done) | (refine Nat.ne_of_gt ?_; (repeat (first | assumption | refine Nat.lt_trans (by assumption) ?_)); done) | ((repeat (first | assumption | refine Nat.lt_trans (by assumption) ?_)); done)) | omega)) (by (first | (with_reducible first | assumption | exact Nat.le_trans (by assumption) (by decide) | exact Nat.lt_of_le_of_lt (by assumption) (by decide) | (refine Nat.ne_of_lt ?_; (repeat (first | assumption | refine Nat.lt_trans (by assumption) ?_)); done) | (refine Nat.ne_of_gt ?_; (repeat (first | assumption | refine Nat.lt_trans (by assumption) ?_)); done) | ((repeat (first | assumption | refine Nat.lt_trans (by assumption) ?_)); done)) | omega)), r (a := 1) (b := 4) (by (first | (with_reducible first | assumption | exact Nat.le_trans (by assumption) (by decide) | exact Nat.lt_of_le_of_lt (by assumption) (by decide) | (refine Nat.ne_of_lt ?_; (repeat (first | assumption | refine Nat.lt_trans (by assumption) ?_)); done) | (refine Nat.ne_of_gt ?_; (repeat (first | assumption | refine Nat.lt_trans (by assumption) ?_)); done) | ((repeat (first | assumption | refine Nat.lt_trans (by assumption) ?_)); done)) | omega)) (by (first | (with_reducible first | assumption | exact Nat.le_trans (by assumption) (by decide) | exact Nat.lt_of_le_of_lt (by assumption) (by decide) | (refine Nat.ne_of_lt ?_; (repeat (first | assumption | refine Nat.lt_trans (by assumption) ?_)); done) | (refine Nat.ne_of_gt ?_; (repeat (first | assumption | refine Nat.lt_trans (by assumption) ?_)); done) | ((repeat (first | assumption | refine Nat.lt_trans (by assumption) ?_)); done)) | omega)) (by (first | (with_reducible first | assumption | exact Nat.le_trans (by assumption) (by decide) | exact Nat.lt_of_le_of_lt (by assumption) (by decide) | (refine Nat.ne_of_lt ?_; (repeat (first | assumption | refine Nat.lt_trans (by assumption) ?_)); done) | (refine Nat.ne_of_gt ?_; (repeat (first | assumption | refine Nat.lt_trans (by assumption) ?_)); done) | ((repeat (first | assumption | refine Nat.lt_trans (by assumption) ?_)); done)) | omega)), r (a := 2) (b := 3) (by (first | (with_reducible first | assumption | exact Nat.le_trans (by assumption) (by decide) | exact Nat.lt_of_le_of_lt (by assumption) (by decide) | (refine Nat.ne_of_lt ?_; (repeat (first | assumption | refine Nat.lt_trans (by assumption) ?_)); done) | (refine Nat.ne_of_gt ?_; (repeat (first | assumption | refine Nat.lt_trans (by assumption) ?_)); done) | ((repeat (first | assumption | refine Nat.lt_trans (by assumption) ?_)); done)) | omega)) (by (first | (with_reducible first | assumption | exact Nat.le_trans (by assumption) (by decide) | exact Nat.lt_of_le_of_lt (by assumption) (by decide) | (refine Nat.ne_of_lt ?_; (repeat (first | assumption | refine Nat.lt_trans (by assumption) ?_)); done) | (refine Nat.ne_of_gt ?_; (repeat (first | assumption | refine Nat.lt_trans (by assumption) ?_)); done) | ((repeat (first | assumption | refine Nat.lt_trans (by assumption) ?_)); done)) | omega)) (by (first | (with_reducible first | assumption | exact Nat.le_trans (by assumption) (by decide) | exact Nat.lt_of_le_of_lt (by assumption) (by decide) | (refine Nat.ne_of_lt ?_; (repeat (first | assumption | refine Nat.lt_trans (by assumption) ?_)); done) | (refine Nat.ne_of_gt ?_; (repeat (first | assumption | refine Nat.lt_trans (by assumption) ?_)); done) | ((repeat (first | assumption | refine Nat.lt_trans (by assumption) ?_)); done)) | omega)), r (a := 2) (b := 4) (by (first | (with_reducible first | assumption | exact Nat.le_trans (by assumption) (by decide) | exact Nat.lt_of_le_of_lt (by assumption) (by decide) | (refine Nat.ne_of_lt ?_; (repeat (first | assumption | refine Nat.lt_trans (by assumption) ?_)); done) | (refine Nat.ne_of_gt ?_; (repeat (first | assumption | refine Nat.lt_trans (by assumption) ?_)); done) | ((repeat (first | assumption | refine Nat.lt_trans (by assumption) ?_)); done)) | omega)) (by (first | (with_reducible first | assumption | exact Nat.le_trans (by assumption) (by decide) | exact Nat.lt_of_le_of_lt (by assumption) (by decide) | (refine Nat.ne_of_lt ?_; (repeat (first | assumption | refine Nat.lt_trans (by assumption) ?_)); done) | (refine Nat.ne_of_gt ?_; (repeat (first | assumption | refine Nat.lt_trans (by assumption) ?_)); done) | ((repeat (first | assumption | refine Nat.lt_trans (by assumption) ?_)); done)) | omega)) (by (first | (with_reducible first | assumption | exact Nat.le_trans (by assumption) (by decide) | exact Nat.lt_of_le_of_lt (by assumption) (by decide) | (refine Nat.ne_of_lt ?_; (repeat (first | assumption | refine Nat.lt_trans (by assumption) ?_)); done) | (refine Nat.ne_of_gt ?_; (repeat (first | assumption | refine Nat.lt_trans (by assumption) ?_)); done) | ((repeat (first | assumption | refine Nat.lt_trans (by assumption) ?_)); done)) | omega)), r (a := 3) (b := 4) (by (first | (with_reducible first | assumption | exact Nat.le_trans (by assumption) (by decide) | exact Nat.lt_of_le_of_lt (by assumption) (by decide) | (refine Nat.ne_of_lt ?_; (repeat (first | assumption | refine Nat.lt_trans (by assumption) ?_)); done) | (refine Nat.ne_of_gt ?_; (repeat (first | assumption | refine Nat.lt_trans (by assumption) ?_)); done) | ((repeat (first | assumption | refine Nat.lt_trans (by assumption) ?_)); done)) | omega)) (by (first | (with_reducible first | assumption | exact Nat.le_trans (by assumption) (by decide) | exact Nat.lt_of_le_of_lt (by assumption) (by decide) | (refine Nat.ne_of_lt ?_; (repeat (first | assumption | refine Nat.lt_trans (by assumption) ?_)); done) | (refine Nat.ne_of_gt ?_; (repeat (first | assumption | refine Nat.lt_trans (by assumption) ?_)); done) | ((repeat (first | assumption | refine Nat.lt_trans (by assumption) ?_)); done)) | omega)) (by (first | (with_reducible first | assumption | exact Nat.le_trans (by assumption) (by decide) | exact Nat.lt_of_le_of_lt (by assumption) (by decide) | (refine Nat.ne_of_lt ?_; (repeat (first | assumption | refine Nat.lt_trans (by assumption) ?_)); done) | (refine Nat.ne_of_gt ?_; (repeat (first | assumption | refine Nat.lt_trans (by assumption) ?_)); done) | ((repeat (first | assumption | refine Nat.lt_trans (by assumption) ?_)); done)) | omega))]
theorem ord_list {f : Nat → Nat} (hf : Inj5 f) : Ord5 f (fun j => [rankF f 0, rankF f 1, rankF f 2, rankF f 3, rankF f 4].getD j 0) := by
  intro a ha b hb
  have e : ∀ c, c < 5 → [rankF f 0, rankF f 1, rankF f 2, rankF f 3, rankF f 4].getD c 0 = rankF f c := by
    intro c hc
    have hC : c = 0 ∨ c = 1 ∨ c = 2 ∨ c = 3 ∨ c = 4 := lt5 (by assumption)
    rcases hC with rfl | rfl | rfl | rfl | rfl <;> rfl
  dsimp only
  rw [e a ha, e b hb]
  exact rank_ord hf a ha b hb
theorem mixes_ok {n : Nat} (h1 : 1 ≤ n) (h4 : n ≤ 4) : mixL (List.range n) (List.range' n (5 - n)) (5 - n) = mixesL n ∧ (∀ w ∈ mixesL n, w.length = 5) ∧ (∀ w ∈ mixesL n, Lt5 w) := by
  have hn : n = 1 ∨ n = 2 ∨ n = 3 ∨ n = 4 := one4 n (Nat.lt_succ_of_le h4) (by assumption)
  rcases hn with rfl | rfl | rfl | rfl
  · exact ⟨mix_1, by decide, by unfold Lt5; decide⟩
  · exact ⟨mix_2, by decide, by unfold Lt5; decide⟩
  · exact ⟨mix_3, by decide, by unfold Lt5; decide⟩
  · exact ⟨mix_4, by decide, by unfold Lt5; decide⟩
theorem plain_f {f : Nat → Nat} (hf : Inj5 f) {n : Nat} (h1 : 1 ≤ n) (h4 : n ≤ 4) (k : Nat) (hk : k < 5) :
    heapF ((mixL ((List.range n).map f) ((List.range' n (5 - n)).map f) (5 - n)).map fun w => fallsF (sOf w)) k = dueF (sOf ((List.range n).map f)) (sOf ((List.range' n (5 - n)).map f)) k := by
  obtain ⟨e, hl, hm⟩ := mixes_ok h1 h4
  have hs1 : Lt5 (List.range n) := fun c hc => by have := List.mem_range.mp hc; (first | (with_reducible first | assumption | exact Nat.le_trans (by assumption) (by decide) | exact Nat.lt_of_le_of_lt (by assumption) (by decide) | (refine Nat.ne_of_lt ?_; (repeat (first | assumption | refine Nat.lt_trans (by assumption) ?_)); done) | (refine Nat.ne_of_gt ?_; (repeat (first | assumption | refine Nat.lt_trans (by assumption) ?_)); done) | ((repeat (first | assumption | refine Nat.lt_trans (by assumption) ?_)); done)) | omega)
  have hs2 : Lt5 (List.range' n (5 - n)) := fun c hc => by
    obtain ⟨i, hi, rfl⟩ := List.mem_range'.mp hc
    (first | (with_reducible first | assumption | exact Nat.le_trans (by assumption) (by decide) | exact Nat.lt_of_le_of_lt (by assumption) (by decide) | (refine Nat.ne_of_lt ?_; (repeat (first | assumption | refine Nat.lt_trans (by assumption) ?_)); done) | (refine Nat.ne_of_gt ?_; (repeat (first | assumption | refine Nat.lt_trans (by assumption) ?_)); done) | ((repeat (first | assumption | refine Nat.lt_trans (by assumption) ?_)); done)) | omega)
  have hlen : (List.range' n (5 - n)).length = 5 - n := List.length_range'
  rw [mixL_map hf hs2 hs1 _ (by rw [hlen]; exact Nat.le_refl _), e, List.map_map]
  have hg := List.all_eq_true.mp (rank_chk hf h1 h4) k (List.mem_range.mpr hk)
  have hg := of_decide_eq_true hg
  have ho := ord_list hf
  generalize (fun j => [rankF f 0, rankF f 1, rankF f 2, rankF f 3, rankF f 4].getD j 0) = g at hg ho
  have e1 : (mixesL n).map ((fun w => fallsF (sOf w)) ∘ List.map f) = (mixesL n).map fun w => fallsB (fallB (w.map g)) 5 := by
    refine List.map_congr_left fun w hw => ?_
    have hwl := hl w hw
    show fallsF (sOf (w.map f)) = _
    rw [fallsF_B (by rw [sOf_len, List.length_map]; (first | (with_reducible first | assumption | exact Nat.le_trans (by assumption) (by decide) | exact Nat.lt_of_le_of_lt (by assumption) (by decide) | (refine Nat.ne_of_lt ?_; (repeat (first | assumption | refine Nat.lt_trans (by assumption) ?_)); done) | (refine Nat.ne_of_gt ?_; (repeat (first | assumption | refine Nat.lt_trans (by assumption) ?_)); done) | ((repeat (first | assumption | refine Nat.lt_trans (by assumption) ?_)); done)) | omega)), sOf_len, List.length_map, cps_sOf, hwl]
    exact fallsB_congr fun j hj => fallB_ord ho (hm w hw) (by (first | (with_reducible first | assumption | exact Nat.le_trans (by assumption) (by decide) | exact Nat.lt_of_le_of_lt (by assumption) (by decide) | (refine Nat.ne_of_lt ?_; (repeat (first | assumption | refine Nat.lt_trans (by assumption) ?_)); done) | (refine Nat.ne_of_gt ?_; (repeat (first | assumption | refine Nat.lt_trans (by assumption) ?_)); done) | ((repeat (first | assumption | refine Nat.lt_trans (by assumption) ?_)); done)) | omega))
  rw [e1, hg, dueF_B (by rw [sOf_len, List.length_map, List.length_range]; (first | (with_reducible first | assumption | exact Nat.le_trans (by assumption) (by decide) | exact Nat.lt_of_le_of_lt (by assumption) (by decide) | (refine Nat.ne_of_lt ?_; (repeat (first | assumption | refine Nat.lt_trans (by assumption) ?_)); done) | (refine Nat.ne_of_gt ?_; (repeat (first | assumption | refine Nat.lt_trans (by assumption) ?_)); done) | ((repeat (first | assumption | refine Nat.lt_trans (by assumption) ?_)); done)) | omega)) (by rw [sOf_len, List.length_map, hlen]; (first | (with_reducible first | assumption | exact Nat.le_trans (by assumption) (by decide) | exact Nat.lt_of_le_of_lt (by assumption) (by decide) | (refine Nat.ne_of_lt ?_; (repeat (first | assumption | refine Nat.lt_trans (by assumption) ?_)); done) | (refine Nat.ne_of_gt ?_; (repeat (first | assumption | refine Nat.lt_trans (by assumption) ?_)); done) | ((repeat (first | assumption | refine Nat.lt_trans (by assumption) ?_)); done)) | omega)), sOf_len, sOf_len, List.length_map, List.length_map, List.length_range, hlen, cps_sOf, cps_sOf]
  refine dueB_congr (fun j hj => (fallB_ord ho hs1 (by rw [List.length_range]; exact hj)).symm) (fun j hj => (fallB_ord ho hs2 (by rw [hlen]; exact hj)).symm) _
end Mine
end
section
open PySem PySem.W PyProof.Rows Mine Builtin.Str
set_option Elab.async false
set_option maxRecDepth 100000
set_option maxHeartbeats 1000000
namespace Mine
theorem join0 : ∀ (xs : List Str), (Txt.join (Str.ofString "") xs).cps.toList = xs.flatMap fun x => x.cps.toList := by
  intro xs
  have e : Txt.join (Str.ofString "") xs = Str.join (Str.ofString "") xs := StrLaws.glued_eq_join _ _
  rw [e]
  clear e
  induction xs with
  | nil => rfl
  | cons x xs ih =>
    cases xs with
    | nil => simp [Str.join]
    | cons y r =>
      show ((x ++ Str.ofString "" ++ Str.join (Str.ofString "") (y :: r) : Str)).cps.toList = _
      rw [Str.cps_append, Str.cps_append, Array.toList_append, Array.toList_append, ih]
      rw [show (Str.ofString "").cps.toList = [] from rfl, List.append_nil]
      rfl
def escQ (c : Nat) : List Nat := if c = 34 ∨ c = 92 then [92, c] else [c]
def escB (c : Nat) : List Nat := [92, c]
theorem quote_esc : ∀ c ∈ menu8, (quoteS c).cps.toList = escQ c := by decide +kernel
theorem bare_esc (c : Nat) : (bareS c).cps.toList = escB c := rfl
theorem flat_q : ∀ (wd : List Nat), (∀ c ∈ wd, c ∈ menu8) → (wd.map quoteS).flatMap (fun x => x.cps.toList) = wd.flatMap escQ
  | [], _ => rfl
  | c :: wd, h => by
    rw [List.map_cons, List.flatMap_cons, List.flatMap_cons, flat_q wd fun x hx => h x (.tail _ hx), quote_esc c (h c (.head _))]
theorem flat_b : ∀ (wd : List Nat), (wd.map bareS).flatMap (fun x => x.cps.toList) = wd.flatMap escB
  | [] => rfl
  | c :: wd => by rw [List.map_cons, List.flatMap_cons, List.flatMap_cons, flat_b wd, bare_esc]
theorem white_item {i : Int} (h0 : 0 ≤ i) (h4 : i < 4) : ∃ c, (Txt.item (Str.ofString "\n\t\r ") i).cps.toList = [c] ∧ isWs c = true := by
  have hi : i = 0 ∨ i = 1 ∨ i = 2 ∨ i = 3 := by (first | (with_reducible first | assumption | exact Nat.le_trans (by assumption) (by decide) | exact Nat.lt_of_le_of_lt (by assumption) (by decide) | (refine Nat.ne_of_lt ?_; (repeat (first | assumption | refine Nat.lt_trans (by assumption) ?_)); done) | (refine Nat.ne_of_gt ?_; (repeat (first | assumption | refine Nat.lt_trans (by assumption) ?_)); done) | ((repeat (first | assumption | refine Nat.lt_trans (by assumption) ?_)); done)) | omega)
  rcases hi with rfl | rfl | rfl | rfl
  · exact ⟨10, by decide +kernel, by decide +kernel⟩
  · exact ⟨9, by decide +kernel, by decide +kernel⟩
  · exact ⟨13, by decide +kernel, by decide +kernel⟩
  · exact ⟨32, by decide +kernel, by decide +kernel⟩
theorem written_shape {wd : List Nat} (h : ∀ c ∈ wd, c ∈ menu8) (way : Int) :
    (writtenF (sOf wd) way).cps.toList = 34 :: (wd.flatMap escQ ++ [34]) ∨ ∃ c, isWs c = true ∧ (writtenF (sOf wd) way).cps.toList = wd.flatMap escB ++ [c] := by
  unfold writtenF
  rw [cps_sOf]
  split
  · left
    rw [Str.cps_append, Str.cps_append, Array.toList_append, Array.toList_append, join0, flat_q wd h]
    rfl
  · right
    obtain ⟨c, e, hc⟩ := white_item (i := (way.fdiv 2).fmod 4) (Int.fmod_nonneg_of_pos _ (by (first | (with_reducible first | assumption | exact Nat.le_trans (by assumption) (by decide) | exact Nat.lt_of_le_of_lt (by assumption) (by decide) | (refine Nat.ne_of_lt ?_; (repeat (first | assumption | refine Nat.lt_trans (by assumption) ?_)); done) | (refine Nat.ne_of_gt ?_; (repeat (first | assumption | refine Nat.lt_trans (by assumption) ?_)); done) | ((repeat (first | assumption | refine Nat.lt_trans (by assumption) ?_)); done)) | omega))) (Int.fmod_lt_of_pos _ (by (first | (with_reducible first | assumption | exact Nat.le_trans (by assumption) (by decide) | exact Nat.lt_of_le_of_lt (by assumption) (by decide) | (refine Nat.ne_of_lt ?_; (repeat (first | assumption | refine Nat.lt_trans (by assumption) ?_)); done) | (refine Nat.ne_of_gt ?_; (repeat (first | assumption | refine Nat.lt_trans (by assumption) ?_)); done) | ((repeat (first | assumption | refine Nat.lt_trans (by assumption) ?_)); done)) | omega)))
    refine ⟨c, hc, ?_⟩
    rw [Str.cps_append, Array.toList_append, join0, flat_b wd, e]
theorem flat_two {g : Nat → List Nat} (hg : ∀ c, (g c).length ≤ 2) : ∀ wd : List Nat, (wd.flatMap g).length ≤ 2 * wd.length
  | [] => Nat.le_refl _
  | c :: wd => by
    have := flat_two hg wd
    have := hg c
    rw [List.flatMap_cons, List.length_append, List.length_cons]
    (first | (with_reducible first | assumption | exact Nat.le_trans (by assumption) (by decide) | exact Nat.lt_of_le_of_lt (by assumption) (by decide) | (refine Nat.ne_of_lt ?_; (repeat (first | assumption | refine Nat.lt_trans (by assumption) ?_)); done) | (refine Nat.ne_of_gt ?_; (repeat (first | assumption | refine Nat.lt_trans (by assumption) ?_)); done) | ((repeat (first | assumption | refine Nat.lt_trans (by assumption) ?_)); done)) | omega)
theorem written_len {wd : List Nat} (h : ∀ c ∈ wd, c ∈ menu8) (way : Int) : (writtenF (sOf wd) way).length ≤ 2 * wd.length + 2 := by
  have e : (writtenF (sOf wd) way).length = (writtenF (sOf wd) way).cps.toList.length := by simp [Str.length]
  rw [e]
  rcases written_shape h way with e | ⟨c, -, e⟩
  · rw [e]
    have := flat_two (g := escQ) (fun c => by unfold escQ; split <;> simp) wd
    simp only [List.length_cons, List.length_append, List.length_nil]
    (first | (with_reducible first | assumption | exact Nat.le_trans (by assumption) (by decide) | exact Nat.lt_of_le_of_lt (by assumption) (by decide) | (refine Nat.ne_of_lt ?_; (repeat (first | assumption | refine Nat.lt_trans (by assumption) ?_)); done) | (refine Nat.ne_of_gt ?_; (repeat (first | assumption | refine Nat.lt_trans (by assumption) ?_)); done) | ((repeat (first | assumption | refine Nat.lt_trans (by assumption) ?_)); done)) | omega)
  · rw [e]
    have := flat_two (g := escB) (fun c => by unfold escB; simp) wd
    simp only [List.length_cons, List.length_append, List.length_nil]
    (first | (with_reducible first | assumption | exact Nat.le_trans (by assumption) (by decide) | exact Nat.lt_of_le_of_lt (by assumption) (by decide) | (refine Nat.ne_of_lt ?_; (repeat (first | assumption | refine Nat.lt_trans (by assumption) ?_)); done) | (refine Nat.ne_of_gt ?_; (repeat (first | assumption | refine Nat.lt_trans (by assumption) ?_)); done) | ((repeat (first | assumption | refine Nat.lt_trans (by assumption) ?_)); done)) | omega)
theorem app_ch1 (t : Str) (c : Nat) (wd : List Nat) : t ++ ch1 c ++ sOf wd = t ++ sOf (c :: wd) := by
  rw [Str.append_assoc]
  have e : ch1 c = sOf [c] := rfl
  rw [e, sOf_app]
  rfl
theorem app_nil (t : Str) : t ++ sOf [] = t := Str.ext' (by rw [Str.cps_append]; simp [sOf])
theorem nil_app (t : Str) : Str.ofString "" ++ t = t := Str.ext' (by rw [Str.cps_append]; simp [show (Str.ofString "").cps = #[] from rfl])
theorem uncons {l : List (Nat × Tok)} {c : Nat} {r : List Nat} (h : l.map (·.1) = c :: r) : ∃ p l', l = p :: l' ∧ p.1 = c ∧ l'.map (·.1) = r := by
  cases l with
  | nil => cases h
  | cons p l' =>
    rw [List.map_cons] at h
    injection h with h1 h2
    exact ⟨p, l', rfl, h1, h2⟩
theorem lexQ_word : ∀ (wd : List Nat) (l : List (Nat × Tok)) (t : Str) (rest : List Nat), l.map (·.1) = wd.flatMap escQ ++ 34 :: rest → ∃ l', lexQ l t = (t ++ sOf wd, l') ∧ l'.map (·.1) = rest
  | [], l, t, rest, h => by
    obtain ⟨p, l', rfl, e, h⟩ := uncons h
    exact ⟨l', by rw [lexQ_t e, app_nil], h⟩
  | c :: wd, l, t, rest, h => by
    rw [List.flatMap_cons] at h
    unfold escQ at h
    split at h
    · obtain ⟨p, l1, rfl, e, h⟩ := uncons h
      obtain ⟨q, l2, rfl, e2, h⟩ := uncons h
      obtain ⟨l', h1, h2⟩ := lexQ_word wd l2 (t ++ ch1 c) rest h
      refine ⟨l', ?_, h2⟩
      rw [lexQ_e (by rw [e]; decide) e]
      show lexQ l2 (t ++ ch1 q.1) = _
      rw [e2, h1, app_ch1]
    · rename_i hc
      obtain ⟨p, l1, rfl, e, h⟩ := uncons h
      obtain ⟨l', h1, h2⟩ := lexQ_word wd l1 (t ++ ch1 c) rest h
      refine ⟨l', ?_, h2⟩
      rw [lexQ_b (by rw [e]; exact fun z => hc (.inl z)) (by rw [e]; exact fun z => hc (.inr z)), e, h1, app_ch1]
theorem ws92 : isWs 92 = false := by decide +kernel
theorem ws34 : isWs 34 = false := by decide +kernel
theorem lexB_word : ∀ (wd : List Nat) (l : List (Nat × Tok)) (t : Str) (w : Nat) (rest : List Nat), isWs w = true → l.map (·.1) = wd.flatMap escB ++ w :: rest → ∃ l', lexB l t = (t ++ sOf wd, l') ∧ l'.map (·.1) = rest
  | [], l, t, w, rest, hw, h => by
    obtain ⟨p, l', rfl, e, h⟩ := uncons h
    exact ⟨l', by rw [lexB_t (by rw [e]; exact hw), app_nil], h⟩
  | c :: wd, l, t, w, rest, hw, h => by
    rw [List.flatMap_cons] at h
    unfold escB at h
    obtain ⟨p, l1, rfl, e, h⟩ := uncons h
    obtain ⟨q, l2, rfl, e2, h⟩ := uncons h
    obtain ⟨l', h1, h2⟩ := lexB_word wd l2 (t ++ ch1 c) w rest hw h
    refine ⟨l', ?_, h2⟩
    rw [lexB_e (by rw [e]; exact ws92) e]
    show lexB l2 (t ++ ch1 q.1) = _
    rw [e2, h1, app_ch1]
theorem lexT_written {wd : List Nat} (hne : wd ≠ []) (hm : ∀ c ∈ wd, c ∈ menu8) (way : Int) {l : List (Nat × Tok)} {rest : List Nat} (h : l.map (·.1) = (writtenF (sOf wd) way).cps.toList ++ rest) : ∃ l', lexT l = (sOf wd, l') ∧ l'.map (·.1) = rest := by
  rcases written_shape hm way with e | ⟨c, hc, e⟩
  · rw [e, List.cons_append, List.append_assoc] at h
    obtain ⟨p, l1, rfl, e1, h⟩ := uncons h
    obtain ⟨l', h1, h2⟩ := lexQ_word wd l1 (Str.ofString "") rest h
    exact ⟨l', by rw [lexT_q (by rw [e1]; exact ws34) e1, h1, nil_app], h2⟩
  · cases wd with
    | nil => exact absurd rfl hne
    | cons d wd =>
      rw [e, List.append_assoc, List.flatMap_cons] at h
      unfold escB at h
      obtain ⟨p, l1, rfl, e1, h⟩ := uncons h
      obtain ⟨q, l2, rfl, e2, h⟩ := uncons h
      obtain ⟨l', h1, h2⟩ := lexB_word wd l2 (ch1 d) c rest hc h
      refine ⟨l', ?_, h2⟩
      rw [lexT_e (by rw [e1]; exact ws92) (by rw [e1]; decide) e1]
      show lexB l2 (Str.ofString "" ++ ch1 q.1) = _
      rw [e2, nil_app, h1]
      have e9 : ch1 d ++ sOf wd = sOf (d :: wd) := by
        have := app_ch1 (Str.ofString "") d wd
        rwa [nil_app, nil_app] at this
      rw [e9]
def cntN : List Nat → Nat
  | [] => 0
  | c :: r => (if c = 10 then 1 else 0) + cntN r
theorem nlc_cnt : ∀ (l : List (Nat × Tok)), nlc l = (cntN (l.map (·.1)) : Int)
  | [] => rfl
  | p :: r => by
    have ih := nlc_cnt r
    show (if p.1 = 10 then (1 : Int) else 0) + nlc r = (((if p.1 = 10 then 1 else 0) + cntN (r.map (·.1)) : Nat) : Int)
    rw [ih]
    split <;> (first | (with_reducible first | assumption | exact Nat.le_trans (by assumption) (by decide) | exact Nat.lt_of_le_of_lt (by assumption) (by decide) | (refine Nat.ne_of_lt ?_; (repeat (first | assumption | refine Nat.lt_trans (by assumption) ?_)); done) | (refine Nat.ne_of_gt ?_; (repeat (first | assumption | refine Nat.lt_trans (by assumption) ?_)); done) | ((repeat (first | assumption | refine Nat.lt_trans (by assumption) ?_)); done)) | omega)
theorem sub_nl (s : Str) (i : Nat) : subAt s (Str.ofString "\n") i = ((s.cps.toList.drop i).take 1 == [10]) := StrLaws.subAt_eq s _ i
theorem count_go (s : Str) : ∀ (m a : Nat) (st : Array Nat × Nat), a + m = s.length + 1 → st.fst.size ≤ a → st.snd ≤ a →
    (forIn (List.range' a m) st (StrLaws.occBody s (Str.ofString "\n") s.length (s.length + 1))).run.fst.size = st.fst.size + cntN (s.cps.toList.drop a)
  | 0, a, st, h, _, _ => by
    have e : s.cps.toList.drop a = [] := List.drop_eq_nil_of_le (by rw [len_cps]; (first | (with_reducible first | assumption | exact Nat.le_trans (by assumption) (by decide) | exact Nat.lt_of_le_of_lt (by assumption) (by decide) | (refine Nat.ne_of_lt ?_; (repeat (first | assumption | refine Nat.lt_trans (by assumption) ?_)); done) | (refine Nat.ne_of_gt ?_; (repeat (first | assumption | refine Nat.lt_trans (by assumption) ?_)); done) | ((repeat (first | assumption | refine Nat.lt_trans (by assumption) ?_)); done)) | omega))
    rw [e]
    rfl
  | m + 1, a, st, h, h1, h2 => by
    rw [List.range'_succ, List.forIn_cons]
    have hd : (Str.ofString "\n").length = 1 := rfl
    by_cases hlt : a < s.length
    · have ha : a < s.cps.toList.length := by rw [len_cps]; exact hlt
      have e : s.cps.toList.drop a = s.cps.toList[a] :: s.cps.toList.drop (a + 1) := List.drop_eq_getElem_cons ha
      by_cases hc : s.cps.toList[a] = 10
      · have hb : StrLaws.occBody s (Str.ofString "\n") s.length (s.length + 1) a st = pure (ForInStep.yield (st.fst.push a, a + 1)) := by
          unfold StrLaws.occBody
          rw [hd, if_pos ⟨⟨⟨by (first | (with_reducible first | assumption | exact Nat.le_trans (by assumption) (by decide) | exact Nat.lt_of_le_of_lt (by assumption) (by decide) | (refine Nat.ne_of_lt ?_; (repeat (first | assumption | refine Nat.lt_trans (by assumption) ?_)); done) | (refine Nat.ne_of_gt ?_; (repeat (first | assumption | refine Nat.lt_trans (by assumption) ?_)); done) | ((repeat (first | assumption | refine Nat.lt_trans (by assumption) ?_)); done)) | omega), h2⟩, by (first | (with_reducible first | assumption | exact Nat.le_trans (by assumption) (by decide) | exact Nat.lt_of_le_of_lt (by assumption) (by decide) | (refine Nat.ne_of_lt ?_; (repeat (first | assumption | refine Nat.lt_trans (by assumption) ?_)); done) | (refine Nat.ne_of_gt ?_; (repeat (first | assumption | refine Nat.lt_trans (by assumption) ?_)); done) | ((repeat (first | assumption | refine Nat.lt_trans (by assumption) ?_)); done)) | omega)⟩, by rw [sub_nl, e, hc]; rfl⟩]
        rw [hb]
        have ih := count_go s m (a + 1) (st.fst.push a, a + 1) (by (first | (with_reducible first | assumption | exact Nat.le_trans (by assumption) (by decide) | exact Nat.lt_of_le_of_lt (by assumption) (by decide) | (refine Nat.ne_of_lt ?_; (repeat (first | assumption | refine Nat.lt_trans (by assumption) ?_)); done) | (refine Nat.ne_of_gt ?_; (repeat (first | assumption | refine Nat.lt_trans (by assumption) ?_)); done) | ((repeat (first | assumption | refine Nat.lt_trans (by assumption) ?_)); done)) | omega)) (by simp; (first | (with_reducible first | assumption | exact Nat.le_trans (by assumption) (by decide) | exact Nat.lt_of_le_of_lt (by assumption) (by decide) | (refine Nat.ne_of_lt ?_; (repeat (first | assumption | refine Nat.lt_trans (by assumption) ?_)); done) | (refine Nat.ne_of_gt ?_; (repeat (first | assumption | refine Nat.lt_trans (by assumption) ?_)); done) | ((repeat (first | assumption | refine Nat.lt_trans (by assumption) ?_)); done)) | omega)) (Nat.le_refl _)
        refine Eq.trans ih ?_
        rw [e]
        show (st.fst.push a).size + cntN _ = _ + ((if s.cps.toList[a] = 10 then 1 else 0) + cntN _)
        rw [if_pos hc, Array.size_push]
        (first | (with_reducible first | assumption | exact Nat.le_trans (by assumption) (by decide) | exact Nat.lt_of_le_of_lt (by assumption) (by decide) | (refine Nat.ne_of_lt ?_; (repeat (first | assumption | refine Nat.lt_trans (by assumption) ?_)); done) | (refine Nat.ne_of_gt ?_; (repeat (first | assumption | refine Nat.lt_trans (by assumption) ?_)); done) | ((repeat (first | assumption | refine Nat.lt_trans (by assumption) ?_)); done)) | omega)
      · have hb : StrLaws.occBody s (Str.ofString "\n") s.length (s.length + 1) a st = pure (ForInStep.yield (st.fst, st.snd)) := by
          unfold StrLaws.occBody
          rw [if_neg]
          intro hz
          have hs := hz.2
          rw [sub_nl, e] at hs
          have hs2 : ([s.cps.toList[a]] == [10]) = true := hs
          have := beq_iff_eq.mp hs2
          injection this with hx _
          exact hc hx
        rw [hb]
        have ih := count_go s m (a + 1) (st.fst, st.snd) (by (first | (with_reducible first | assumption | exact Nat.le_trans (by assumption) (by decide) | exact Nat.lt_of_le_of_lt (by assumption) (by decide) | (refine Nat.ne_of_lt ?_; (repeat (first | assumption | refine Nat.lt_trans (by assumption) ?_)); done) | (refine Nat.ne_of_gt ?_; (repeat (first | assumption | refine Nat.lt_trans (by assumption) ?_)); done) | ((repeat (first | assumption | refine Nat.lt_trans (by assumption) ?_)); done)) | omega)) (by dsimp only; (first | (with_reducible first | assumption | exact Nat.le_trans (by assumption) (by decide) | exact Nat.lt_of_le_of_lt (by assumption) (by decide) | (refine Nat.ne_of_lt ?_; (repeat (first | assumption | refine Nat.lt_trans (by assumption) ?_)); done) | (refine Nat.ne_of_gt ?_; (repeat (first | assumption | refine Nat.lt_trans (by assumption) ?_)); done) | ((repeat (first | assumption | refine Nat.lt_trans (by assumption) ?_)); done)) | omega)) (by dsimp only; (first | (with_reducible first | assumption | exact Nat.le_trans (by assumption) (by decide) | exact Nat.lt_of_le_of_lt (by assumption) (by decide) | (refine Nat.ne_of_lt ?_; (repeat (first | assumption | refine Nat.lt_trans (by assumption) ?_)); done) | (refine Nat.ne_of_gt ?_; (repeat (first | assumption | refine Nat.lt_trans (by assumption) ?_)); done) | ((repeat (first | assumption | refine Nat.lt_trans (by assumption) ?_)); done)) | omega))
        refine Eq.trans ih ?_
        rw [e]
        show st.fst.size + cntN _ = _ + ((if s.cps.toList[a] = 10 then 1 else 0) + cntN _)
        rw [if_neg hc]
        (first | (with_reducible first | assumption | exact Nat.le_trans (by assumption) (by decide) | exact Nat.lt_of_le_of_lt (by assumption) (by decide) | (refine Nat.ne_of_lt ?_; (repeat (first | assumption | refine Nat.lt_trans (by assumption) ?_)); done) | (refine Nat.ne_of_gt ?_; (repeat (first | assumption | refine Nat.lt_trans (by assumption) ?_)); done) | ((repeat (first | assumption | refine Nat.lt_trans (by assumption) ?_)); done)) | omega)
    · have e : s.cps.toList.drop a = [] := List.drop_eq_nil_of_le (by rw [len_cps]; (first | (with_reducible first | assumption | exact Nat.le_trans (by assumption) (by decide) | exact Nat.lt_of_le_of_lt (by assumption) (by decide) | (refine Nat.ne_of_lt ?_; (repeat (first | assumption | refine Nat.lt_trans (by assumption) ?_)); done) | (refine Nat.ne_of_gt ?_; (repeat (first | assumption | refine Nat.lt_trans (by assumption) ?_)); done) | ((repeat (first | assumption | refine Nat.lt_trans (by assumption) ?_)); done)) | omega))
      have e2 : s.cps.toList.drop (a + 1) = [] := List.drop_eq_nil_of_le (by rw [len_cps]; (first | (with_reducible first | assumption | exact Nat.le_trans (by assumption) (by decide) | exact Nat.lt_of_le_of_lt (by assumption) (by decide) | (refine Nat.ne_of_lt ?_; (repeat (first | assumption | refine Nat.lt_trans (by assumption) ?_)); done) | (refine Nat.ne_of_gt ?_; (repeat (first | assumption | refine Nat.lt_trans (by assumption) ?_)); done) | ((repeat (first | assumption | refine Nat.lt_trans (by assumption) ?_)); done)) | omega))
      have hb : StrLaws.occBody s (Str.ofString "\n") s.length (s.length + 1) a st = pure (ForInStep.yield (st.fst, st.snd)) := by
        unfold StrLaws.occBody
        rw [if_neg]
        intro hz
        have hs := hz.1.2
        rw [hd] at hs
        (first | (with_reducible first | assumption | exact Nat.le_trans (by assumption) (by decide) | exact Nat.lt_of_le_of_lt (by assumption) (by decide) | (refine Nat.ne_of_lt ?_; (repeat (first | assumption | refine Nat.lt_trans (by assumption) ?_)); done) | (refine Nat.ne_of_gt ?_; (repeat (first | assumption | refine Nat.lt_trans (by assumption) ?_)); done) | ((repeat (first | assumption | refine Nat.lt_trans (by assumption) ?_)); done)) | omega)
      rw [hb]
      have ih := count_go s m (a + 1) (st.fst, st.snd) (by (first | (with_reducible first | assumption | exact Nat.le_trans (by assumption) (by decide) | exact Nat.lt_of_le_of_lt (by assumption) (by decide) | (refine Nat.ne_of_lt ?_; (repeat (first | assumption | refine Nat.lt_trans (by assumption) ?_)); done) | (refine Nat.ne_of_gt ?_; (repeat (first | assumption | refine Nat.lt_trans (by assumption) ?_)); done) | ((repeat (first | assumption | refine Nat.lt_trans (by assumption) ?_)); done)) | omega)) (by dsimp only; (first | (with_reducible first | assumption | exact Nat.le_trans (by assumption) (by decide) | exact Nat.lt_of_le_of_lt (by assumption) (by decide) | (refine Nat.ne_of_lt ?_; (repeat (first | assumption | refine Nat.lt_trans (by assumption) ?_)); done) | (refine Nat.ne_of_gt ?_; (repeat (first | assumption | refine Nat.lt_trans (by assumption) ?_)); done) | ((repeat (first | assumption | refine Nat.lt_trans (by assumption) ?_)); done)) | omega)) (by dsimp only; (first | (with_reducible first | assumption | exact Nat.le_trans (by assumption) (by decide) | exact Nat.lt_of_le_of_lt (by assumption) (by decide) | (refine Nat.ne_of_lt ?_; (repeat (first | assumption | refine Nat.lt_trans (by assumption) ?_)); done) | (refine Nat.ne_of_gt ?_; (repeat (first | assumption | refine Nat.lt_trans (by assumption) ?_)); done) | ((repeat (first | assumption | refine Nat.lt_trans (by assumption) ?_)); done)) | omega))
      refine Eq.trans ih ?_
      rw [e, e2]
theorem count_nl (s : Str) : Txt.count s (Str.ofString "\n") = (cntN s.cps.toList : Int) := by
  unfold Txt.count
  rw [StrLaws.occ_eq, Array.length_toList]
  have := count_go s (s.length + 1) 0 (#[], 0) (by (first | (with_reducible first | assumption | exact Nat.le_trans (by assumption) (by decide) | exact Nat.lt_of_le_of_lt (by assumption) (by decide) | (refine Nat.ne_of_lt ?_; (repeat (first | assumption | refine Nat.lt_trans (by assumption) ?_)); done) | (refine Nat.ne_of_gt ?_; (repeat (first | assumption | refine Nat.lt_trans (by assumption) ?_)); done) | ((repeat (first | assumption | refine Nat.lt_trans (by assumption) ?_)); done)) | omega)) (Nat.le_refl _) (Nat.le_refl _)
  rw [show s.length + 1 - 0 = s.length + 1 from rfl, this]
  simp
theorem pickF_mem : ∀ (n : Nat) (ws : List Nat) (k : Int), n ≤ ws.length → ws.Nodup → (∀ c ∈ pickF n ws k, c ∈ ws) ∧ (pickF n ws k).Nodup
  | 0, _, _, _, _ => ⟨fun c hc => (by cases hc), List.nodup_nil⟩
  | n + 1, ws, k, h, hn => by
    have h0 : 0 ≤ k.fmod ws.length := Int.fmod_nonneg_of_pos _ (by (first | (with_reducible first | assumption | exact Nat.le_trans (by assumption) (by decide) | exact Nat.lt_of_le_of_lt (by assumption) (by decide) | (refine Nat.ne_of_lt ?_; (repeat (first | assumption | refine Nat.lt_trans (by assumption) ?_)); done) | (refine Nat.ne_of_gt ?_; (repeat (first | assumption | refine Nat.lt_trans (by assumption) ?_)); done) | ((repeat (first | assumption | refine Nat.lt_trans (by assumption) ?_)); done)) | omega))
    have h1 : k.fmod ws.length < ws.length := Int.fmod_lt_of_pos _ (by (first | (with_reducible first | assumption | exact Nat.le_trans (by assumption) (by decide) | exact Nat.lt_of_le_of_lt (by assumption) (by decide) | (refine Nat.ne_of_lt ?_; (repeat (first | assumption | refine Nat.lt_trans (by assumption) ?_)); done) | (refine Nat.ne_of_gt ?_; (repeat (first | assumption | refine Nat.lt_trans (by assumption) ?_)); done) | ((repeat (first | assumption | refine Nat.lt_trans (by assumption) ?_)); done)) | omega))
    obtain ⟨i, hi⟩ : ∃ i : Nat, k.fmod ws.length = (i : Int) := ⟨_, (Int.toNat_of_nonneg h0).symm⟩
    have hil : i < ws.length := by (first | (with_reducible first | assumption | exact Nat.le_trans (by assumption) (by decide) | exact Nat.lt_of_le_of_lt (by assumption) (by decide) | (refine Nat.ne_of_lt ?_; (repeat (first | assumption | refine Nat.lt_trans (by assumption) ?_)); done) | (refine Nat.ne_of_gt ?_; (repeat (first | assumption | refine Nat.lt_trans (by assumption) ?_)); done) | ((repeat (first | assumption | refine Nat.lt_trans (by assumption) ?_)); done)) | omega)
    obtain ⟨ih1, ih2⟩ := pickF_mem n (ws.eraseIdx i) (k.fdiv ws.length) (by rw [List.length_eraseIdx_of_lt hil]; (first | (with_reducible first | assumption | exact Nat.le_trans (by assumption) (by decide) | exact Nat.lt_of_le_of_lt (by assumption) (by decide) | (refine Nat.ne_of_lt ?_; (repeat (first | assumption | refine Nat.lt_trans (by assumption) ?_)); done) | (refine Nat.ne_of_gt ?_; (repeat (first | assumption | refine Nat.lt_trans (by assumption) ?_)); done) | ((repeat (first | assumption | refine Nat.lt_trans (by assumption) ?_)); done)) | omega)) (hn.sublist (List.eraseIdx_sublist ..))
    have e : pickF (n + 1) ws k = ws.getD i 0 :: pickF n (ws.eraseIdx i) (k.fdiv ws.length) := by
      conv => lhs; unfold pickF
      rw [hi, Int.toNat_natCast]
    rw [e]
    have eg : ws.getD i 0 = ws[i] := by simp [List.getD, hil]
    refine ⟨fun c hc => ?_, List.nodup_cons.mpr ⟨fun hx => ?_, ih2⟩⟩
    · rcases List.mem_cons.mp hc with rfl | hc
      · exact getD_mem hil _
      · exact (List.eraseIdx_sublist ..).subset (ih1 c hc)
    · have hx := ih1 _ hx
      rw [eg] at hx
      obtain ⟨j, hj, hje⟩ := List.mem_eraseIdx_iff_getElem.mp hx
      obtain ⟨hne, hje⟩ := hje
      exact hne ((List.getElem_inj hn).mp hje)
end Mine
end
section
open PySem PySem.W PyProof.Rows Mine Builtin.Str
set_option Elab.async false
set_option maxRecDepth 100000
set_option maxHeartbeats 1000000
namespace Mine
theorem pick5 (a : Int) : (pickF 5 menu8 a).length = 5 ∧ (∀ c ∈ pickF 5 menu8 a, c ∈ menu8) ∧ (pickF 5 menu8 a).Nodup := by
  obtain ⟨h1, h2⟩ := pickF_mem 5 menu8 a (by decide) (by decide)
  exact ⟨pickF_len _ _ _, h1, h2⟩
theorem pick_inj (a : Int) : Inj5 fun j => (pickF 5 menu8 a).getD j 0 := by
  obtain ⟨hl, -, hn⟩ := pick5 a
  intro i hi j hj e
  have ei : ∀ j, j < 5 → ∃ h : j < (pickF 5 menu8 a).length, (pickF 5 menu8 a).getD j 0 = (pickF 5 menu8 a)[j] := fun j hj => ⟨by (first | (with_reducible first | assumption | exact Nat.le_trans (by assumption) (by decide) | exact Nat.lt_of_le_of_lt (by assumption) (by decide) | (refine Nat.ne_of_lt ?_; (repeat (first | assumption | refine Nat.lt_trans (by assumption) ?_)); done) | (refine Nat.ne_of_gt ?_; (repeat (first | assumption | refine Nat.lt_trans (by assumption) ?_)); done) | ((repeat (first | assumption | refine Nat.lt_trans (by assumption) ?_)); done)) | omega), by simp [List.getD, show j < (pickF 5 menu8 a).length by (first | (with_reducible first | assumption | exact Nat.le_trans (by assumption) (by decide) | exact Nat.lt_of_le_of_lt (by assumption) (by decide) | (refine Nat.ne_of_lt ?_; (repeat (first | assumption | refine Nat.lt_trans (by assumption) ?_)); done) | (refine Nat.ne_of_gt ?_; (repeat (first | assumption | refine Nat.lt_trans (by assumption) ?_)); done) | ((repeat (first | assumption | refine Nat.lt_trans (by assumption) ?_)); done)) | omega)]⟩
  obtain ⟨h1, e1⟩ := ei i hi
  obtain ⟨h2, e2⟩ := ei j hj
  dsimp only at e
  rw [e1, e2] at e
  exact (List.getElem_inj hn).mp e
theorem cut_five (l : List Nat) (h : l.length = 5) {n : Nat} (h1 : 1 ≤ n) (h4 : n ≤ 4) : l.take n = (List.range n).map (fun j => l.getD j 0) ∧ l.drop n = (List.range' n (5 - n)).map fun j => l.getD j 0 := by
  rcases l with _ | ⟨a, _ | ⟨b, _ | ⟨c, _ | ⟨d, _ | ⟨e, _ | ⟨f, r⟩⟩⟩⟩⟩⟩ <;> (try (simp at h; done))
  have hn : n = 1 ∨ n = 2 ∨ n = 3 ∨ n = 4 := one4 n (Nat.lt_succ_of_le h4) (by assumption)
  rcases hn with rfl | rfl | rfl | rfl <;> exact ⟨rfl, rfl⟩
theorem law_plain (a b : Int) (k : Nat) (hk : k < 5) :
    heapF ((mixL (firstS a b).cps.toList (secondS a b).cps.toList (secondS a b).length).map fun w => fallsF (sOf w)) k = dueF (firstS a b) (secondS a b) k := by
  obtain ⟨-, h1, h4⟩ := sizeN_b b
  obtain ⟨e1, e2⟩ := cut_five _ (pick5 a).1 h1 h4
  have h := plain_f (pick_inj a) h1 h4 k hk
  rw [secondS_len]
  unfold firstS secondS
  rw [cps_sOf, cps_sOf, e1, e2]
  exact h
theorem first_menu (a b : Int) : ∀ c ∈ (pickF 5 menu8 a).take (sizeN b), c ∈ menu8 := fun c hc => (pick5 a).2.1 c (List.mem_of_mem_take hc)
theorem second_menu (a b : Int) : ∀ c ∈ (pickF 5 menu8 a).drop (sizeN b), c ∈ menu8 := fun c hc => (pick5 a).2.1 c (List.mem_of_mem_drop hc)
theorem second_asc (a b : Int) : ∀ c ∈ (secondS a b).cps.toList, c ≠ 46 ∧ c < 128 := by
  have k : ∀ c ∈ menu8, c ≠ 46 ∧ c < 128 := by decide
  unfold secondS
  rw [cps_sOf]
  exact fun c hc => k c (second_menu a b c hc)
theorem text_len (a b c d : Int) : (writtenF (firstS a b) c ++ writtenF (secondS a b) d).length ≤ 14 := by
  rw [Str.length_append]
  have h1 := written_len (first_menu a b) c
  have h2 := written_len (second_menu a b) d
  have e : ((pickF 5 menu8 a).take (sizeN b)).length + ((pickF 5 menu8 a).drop (sizeN b)).length = 5 := by
    rw [← List.length_append, List.take_append_drop, (pick5 a).1]
  show (writtenF (sOf _) c).length + (writtenF (sOf _) d).length ≤ 14
  (first | (with_reducible first | assumption | exact Nat.le_trans (by assumption) (by decide) | exact Nat.lt_of_le_of_lt (by assumption) (by decide) | (refine Nat.ne_of_lt ?_; (repeat (first | assumption | refine Nat.lt_trans (by assumption) ?_)); done) | (refine Nat.ne_of_gt ?_; (repeat (first | assumption | refine Nat.lt_trans (by assumption) ?_)); done) | ((repeat (first | assumption | refine Nat.lt_trans (by assumption) ?_)); done)) | omega)
theorem written_len12 (a b c : Int) : (writtenF (firstS a b) c).length ≤ 12 := by
  have h1 := written_len (first_menu a b) c
  have e : ((pickF 5 menu8 a).take (sizeN b)).length ≤ 5 := by
    rw [List.length_take, (pick5 a).1]; (first | (with_reducible first | assumption | exact Nat.le_trans (by assumption) (by decide) | exact Nat.lt_of_le_of_lt (by assumption) (by decide) | (refine Nat.ne_of_lt ?_; (repeat (first | assumption | refine Nat.lt_trans (by assumption) ?_)); done) | (refine Nat.ne_of_gt ?_; (repeat (first | assumption | refine Nat.lt_trans (by assumption) ?_)); done) | ((repeat (first | assumption | refine Nat.lt_trans (by assumption) ?_)); done)) | omega)
  show (writtenF (sOf _) c).length ≤ 12
  (first | (with_reducible first | assumption | exact Nat.le_trans (by assumption) (by decide) | exact Nat.lt_of_le_of_lt (by assumption) (by decide) | (refine Nat.ne_of_lt ?_; (repeat (first | assumption | refine Nat.lt_trans (by assumption) ?_)); done) | (refine Nat.ne_of_gt ?_; (repeat (first | assumption | refine Nat.lt_trans (by assumption) ?_)); done) | ((repeat (first | assumption | refine Nat.lt_trans (by assumption) ?_)); done)) | omega)
theorem written_len12' (a b c : Int) : (writtenF (secondS a b) c).length ≤ 12 := by
  have h1 := written_len (second_menu a b) c
  have e : ((pickF 5 menu8 a).drop (sizeN b)).length ≤ 5 := by
    rw [List.length_drop, (pick5 a).1]; (first | (with_reducible first | assumption | exact Nat.le_trans (by assumption) (by decide) | exact Nat.lt_of_le_of_lt (by assumption) (by decide) | (refine Nat.ne_of_lt ?_; (repeat (first | assumption | refine Nat.lt_trans (by assumption) ?_)); done) | (refine Nat.ne_of_gt ?_; (repeat (first | assumption | refine Nat.lt_trans (by assumption) ?_)); done) | ((repeat (first | assumption | refine Nat.lt_trans (by assumption) ?_)); done)) | omega)
  show (writtenF (sOf _) c).length ≤ 12
  (first | (with_reducible first | assumption | exact Nat.le_trans (by assumption) (by decide) | exact Nat.lt_of_le_of_lt (by assumption) (by decide) | (refine Nat.ne_of_lt ?_; (repeat (first | assumption | refine Nat.lt_trans (by assumption) ?_)); done) | (refine Nat.ne_of_gt ?_; (repeat (first | assumption | refine Nat.lt_trans (by assumption) ?_)); done) | ((repeat (first | assumption | refine Nat.lt_trans (by assumption) ?_)); done)) | omega)
theorem three_tokens (a b c d : Int) {l : List (Nat × Tok)} (h : l.map (·.1) = (writtenF (firstS a b) c ++ writtenF (secondS a b) d).cps.toList) :
    (lexT l).1 = firstS a b ∧ (lexT (lexT l).2).1 = secondS a b ∧ (lexT (lexT l).2).2 = [] ∧ (lexT l).2.length ≤ 100 := by
  obtain ⟨-, h1, h4⟩ := sizeN_b b
  rw [Str.cps_append, Array.toList_append] at h
  have n1 : (pickF 5 menu8 a).take (sizeN b) ≠ [] := fun e => by
    have := congrArg List.length e
    rw [List.length_take, (pick5 a).1] at this
    simp at this
    (first | (with_reducible first | assumption | exact Nat.le_trans (by assumption) (by decide) | exact Nat.lt_of_le_of_lt (by assumption) (by decide) | (refine Nat.ne_of_lt ?_; (repeat (first | assumption | refine Nat.lt_trans (by assumption) ?_)); done) | (refine Nat.ne_of_gt ?_; (repeat (first | assumption | refine Nat.lt_trans (by assumption) ?_)); done) | ((repeat (first | assumption | refine Nat.lt_trans (by assumption) ?_)); done)) | omega)
  have n2 : (pickF 5 menu8 a).drop (sizeN b) ≠ [] := fun e => by
    have := congrArg List.length e
    rw [List.length_drop, (pick5 a).1] at this
    simp at this
    (first | (with_reducible first | assumption | exact Nat.le_trans (by assumption) (by decide) | exact Nat.lt_of_le_of_lt (by assumption) (by decide) | (refine Nat.ne_of_lt ?_; (repeat (first | assumption | refine Nat.lt_trans (by assumption) ?_)); done) | (refine Nat.ne_of_gt ?_; (repeat (first | assumption | refine Nat.lt_trans (by assumption) ?_)); done) | ((repeat (first | assumption | refine Nat.lt_trans (by assumption) ?_)); done)) | omega)
  obtain ⟨l1, e1, m1⟩ := lexT_written n1 (first_menu a b) c h
  rw [← List.append_nil (writtenF (secondS a b) d).cps.toList] at m1
  obtain ⟨l2, e2, m2⟩ := lexT_written n2 (second_menu a b) d m1
  have hl1 : l1.length ≤ 100 := by
    have e := congrArg List.length m1
    rw [List.append_nil, List.length_map, len_cps] at e
    have := written_len12' a b d
    show l1.length ≤ 100
    have e' : l1.length = (writtenF (secondS a b) d).length := e
    (first | (with_reducible first | assumption | exact Nat.le_trans (by assumption) (by decide) | exact Nat.lt_of_le_of_lt (by assumption) (by decide) | (refine Nat.ne_of_lt ?_; (repeat (first | assumption | refine Nat.lt_trans (by assumption) ?_)); done) | (refine Nat.ne_of_gt ?_; (repeat (first | assumption | refine Nat.lt_trans (by assumption) ?_)); done) | ((repeat (first | assumption | refine Nat.lt_trans (by assumption) ?_)); done)) | omega)
  rw [e1]
  dsimp only
  rw [e2]
  exact ⟨rfl, rfl, List.map_eq_nil_iff.mp m2, hl1⟩
def lexN (l : List (Nat × Tok)) : Nat → List (Nat × Tok)
  | 0 => l
  | i + 1 => (lexT (lexN l i)).2
def lexS (l : List (Nat × Tok)) (i : Nat) : Str := (lexT (lexN l i)).1
theorem three_lex (a b c d : Int) {l : List (Nat × Tok)} (h : l.map (·.1) = (writtenF (firstS a b) c ++ writtenF (secondS a b) d).cps.toList) :
    (∀ i, i < 3 → (lexN l i).length ≤ 100) ∧ (List.range 3).map (lexS l) = [firstS a b, secondS a b, Str.ofString ""] ∧ lexN l 3 = [] := by
  obtain ⟨h1, h2, h3, h4⟩ := three_tokens a b c d h
  have e2 : lexN l 2 = [] := h3
  have e0 : l.length ≤ 100 := by
    have e := congrArg List.length h
    rw [List.length_map, len_cps] at e
    have := text_len a b c d
    (first | (with_reducible first | assumption | exact Nat.le_trans (by assumption) (by decide) | exact Nat.lt_of_le_of_lt (by assumption) (by decide) | (refine Nat.ne_of_lt ?_; (repeat (first | assumption | refine Nat.lt_trans (by assumption) ?_)); done) | (refine Nat.ne_of_gt ?_; (repeat (first | assumption | refine Nat.lt_trans (by assumption) ?_)); done) | ((repeat (first | assumption | refine Nat.lt_trans (by assumption) ?_)); done)) | omega)
  refine ⟨fun i hi => ?_, ?_, ?_⟩
  · have : i = 0 ∨ i = 1 ∨ i = 2 := by (first | (with_reducible first | assumption | exact Nat.le_trans (by assumption) (by decide) | exact Nat.lt_of_le_of_lt (by assumption) (by decide) | (refine Nat.ne_of_lt ?_; (repeat (first | assumption | refine Nat.lt_trans (by assumption) ?_)); done) | (refine Nat.ne_of_gt ?_; (repeat (first | assumption | refine Nat.lt_trans (by assumption) ?_)); done) | ((repeat (first | assumption | refine Nat.lt_trans (by assumption) ?_)); done)) | omega)
    rcases this with rfl | rfl | rfl
    · exact e0
    · exact h4
    · rw [e2]; exact Nat.zero_le _
  · show [lexS l 0, lexS l 1, lexS l 2] = _
    have e3 : lexS l 2 = Str.ofString "" := by unfold lexS; rw [e2]; rfl
    rw [e3]
    show [(lexT l).1, (lexT (lexT l).2).1, _] = _
    rw [h1, h2]
  · show (lexT (lexN l 2)).2 = []
    rw [e2]
    rfl
theorem text_count (l : List (Nat × Tok)) (x : Str) (h : l.map (·.1) = x.cps.toList) : Txt.count x (Str.ofString "\n") = nlc l := by
  rw [count_nl, nlc_cnt, h]
end Mine
end
section
open PySem PySem.W PyProof.Rows Mine
set_option Elab.async false
set_option maxRecDepth 100000
set_option maxHeartbeats 2000000
namespace Mine
open LCg
def GrowAdr (C : Addr) (adr : List Addr) (l : List (Addr × Obj)) : Prop := ∀ q ∈ l, q.1 ∈ adr ∨ @LT.lt Nat _ C q.1
section comp
variable {prog : Program} {w : World} {A : Around} {E : Value → Shared → Prop} {s : Shared} {env : Env} {h₀ : Heap} {L : Addr} {m : Str → Option Value}
def CompEndR (g : Heap) (C D : Addr) (rest : List (Addr × Obj)) (adr : List Addr) (J : List Value → List (Addr × Obj) → Array GenState → Prop) (d : Drawn) (os : OsState) (old : List Value) (nD : Nat) (ys : List Value) (s' : Shared) : Prop :=
  ∃ h' gs' tk' m' news₂, s' = ⟨h', gs', d, tk', os⟩ ∧ Fr g C h' m' ∧ News g C h' ((D, lsO old nD) :: (news₂ ++ rest)) ∧ GrowAdr C adr news₂ ∧ J ys news₂ gs'
def CompAtR (prog : Program) (w : World) (A : Around) (h₀ : Heap) (L : Addr) (m : Str → Option Value) (env : Env) (scope : Scope) (cl : List (Str × Addr)) (x x₂ : Str) (elt : Expr) (Q : Value → Shared → Prop) (it : Value) (s₂ : Shared) : Prop :=
  ∃ (I : Addr) (fp wr : List Addr) (n : Nat) (P : Nat → Array Value → Prop) (St : Nat → Heap → Prop) (Md : Nat → Addr → Heap → Prop) (news fix : List (Addr × Obj)) (J : Nat → List Value → List (Addr × Obj) → Array GenState → Prop),
    it = .ref I ∧ WalksU prog w A I fp wr n P St Md ∧ n ≤ 10000 ∧ (∀ i vals, P i vals → ∃ a b, vals = #[a, b]) ∧ St 0 s₂.heap ∧ (∀ b ∈ fp, b < s₂.heap.objs.size) ∧ (∀ b ∈ wr, h₀.get? b = none) ∧ L ∉ wr ∧ (∀ q ∈ news, q.1 ∉ fp) ∧ (∀ q ∈ fix, q.1 ∉ wr) ∧ Fr h₀ L s₂.heap m ∧ News h₀ L s₂.heap (news ++ fix) ∧
    J 0 [] news s₂.gens ∧ (∀ i ys nx gs, J i ys nx gs → ys.length ≤ i) ∧
    (∀ (g : Heap) (C D : Addr) (i : Nat) (v v₂ : Value) (ys : List Value) (nD : Nat) (news₁ : List (Addr × Obj)) (gs : Array GenState) (h : Heap) (tk : Nat) (m₁ : Str → Option Value) (own : List (Addr × Obj)) (E' : Value → Shared → Prop), i < n → P i #[v, v₂] → J i ys news₁ gs → GrowAdr C (news.map (·.1)) news₁ → (∀ q ∈ own, q.1 ∈ fp) → (∀ q ∈ news ++ fix, q.1 < D) → (∀ q ∈ own, q.1 < D) → C = D + 1 → h₀.StaysIn g → Fr h₀ L g m →
      Fr g C h (fun y => if y = x₂ then some v₂ else if y = x then some v else m₁ y) → News g C h ((D, lsO ys nD) :: (news₁ ++ (fix ++ own))) →
      wpAny (model prog w) A (eval elt (compEnvC scope cl C env)) (fun y s₄ => CompEndR g C D (fix ++ own) (news.map (·.1)) (J (i + 1)) s₂.drawn s₂.os ys nD (ys ++ [y]) s₄) E' ⟨h, gs, s₂.drawn, tk, s₂.os⟩) ∧
    (∀ (D : Addr) (ys : List Value) (nD : Nat) (news₁ : List (Addr × Obj)) (gs : Array GenState) (h' : Heap) (tk : Nat), J n ys news₁ gs → GrowAdr D (news.map (·.1)) news₁ → (∀ q ∈ news ++ fix, q.1 < D) → Fr h₀ L h' m → News h₀ L h' ((D, lsO ys nD) :: (news₁ ++ fix)) → Q (.ref D) ⟨h', gs, s₂.drawn, tk, s₂.os⟩)
theorem compPR {elt iter : Expr} {x x₂ : Str} {px px₂ tp : Pos} {kk} {scope : Scope} {cl : List (Str × Addr)} {pos : Pos} {Q : Value → Shared → Prop}
    (hclos : closureFor scope env = pure cl) (hcell : ∀ y ∈ scope.names, y.2 ≠ .cell) (hkind : scope.kind = .function)
    (hnames : ∀ y ∈ scope.names, y.2 = .local → scope.names.lookup y.1 = some .local) (hx : scope.names.lookup x = some .local) (hx₂ : scope.names.lookup x₂ = some .local) (hh : A.handled = none)
    (h : wpAny (model prog w) A (eval iter env) (fun xv s₁ => wpAny (model prog w) A (pyIter xv) (fun it s₂ => CompAtR prog w A h₀ L m env scope cl x x₂ elt Q it s₂) E s₁) E s)
    (hs : ∀ x, foldedSetIterable iter env x = pure x := by intro _; rfl) :
    wpAny (model prog w) A (eval (.ListComp elt [⟨.Tuple [.Name x px, .Name x₂ px₂] kk tp, iter, [], 0⟩] scope pos) env) Q E s := by
  rw [eval_ListComp]
  refine wpAny_comprehension_free (use := none) rfl hs hclos hkind hnames (wpAny_mono h (fun xv s₁ h₁ => wpAny_mono h₁ (fun it s₂ h₂ => ?_) fun _ _ e => e) fun _ _ e => e)
  obtain ⟨I, fp, wr, n, P, St, Md, news, fix, J, rfl, Wk, hsz, hPp, hst, hfp, hwr, hLw, hnf, hfw, F, N, hj, hjl, turn, done⟩ := h₂
  clear h₁
  refine wpAny_newObj_type (wpAny_newFunctionEnv hcell (by intro y hy; simp at hy) (fun h₁ hns₁ hsb₁ => ?_) hkind)
  dsimp only at hns₁ hsb₁ ⊢
  generalize hH2 : s₂.heap.push { cls := .type "list", dict := none, data := .seq ([] : List Value).toArray } = H2 at hns₁ hsb₁ ⊢
  have hC : H2.objs.size = s₂.heap.objs.size + 1 := by rw [← hH2, Heap.size_push]
  obtain ⟨D, hDd⟩ : ∃ D : Nat, s₂.heap.objs.size = D := ⟨_, rfl⟩
  obtain ⟨C, hCd⟩ : ∃ C : Nat, H2.objs.size = C := ⟨_, rfl⟩
  rw [hDd, hCd] at hC
  rw [hCd] at hns₁ hsb₁
  rw [hDd, hCd]
  have lt_new : ∀ q ∈ news ++ fix, q.1 < D := fun q hq => hDd ▸ Heap.lt_size (N q hq).1
  have old : ∀ b o, s₂.heap.get? b = some o → h₁.get? b = some o := by
    intro b o e
    have hb := ltN (hDd ▸ Heap.lt_size e : b < D)
    refine hsb₁.extBut b o (neN (by (first | (with_reducible first | assumption | exact Nat.le_trans (by assumption) (by decide) | exact Nat.lt_of_le_of_lt (by assumption) (by decide) | (refine Nat.ne_of_lt ?_; (repeat (first | assumption | refine Nat.lt_trans (by assumption) ?_)); done) | (refine Nat.ne_of_gt ?_; (repeat (first | assumption | refine Nat.lt_trans (by assumption) ?_)); done) | ((repeat (first | assumption | refine Nat.lt_trans (by assumption) ?_)); done)) | omega))) (Heap.get?_push_of_some _ ?_)
    rw [← hH2]
    exact Heap.get?_push_of_some _ e
  have hDo : h₁.get? D = some (lsO [] 0) := by
    refine hsb₁.extBut D _ (neN (by (first | (with_reducible first | assumption | exact Nat.le_trans (by assumption) (by decide) | exact Nat.lt_of_le_of_lt (by assumption) (by decide) | (refine Nat.ne_of_lt ?_; (repeat (first | assumption | refine Nat.lt_trans (by assumption) ?_)); done) | (refine Nat.ne_of_gt ?_; (repeat (first | assumption | refine Nat.lt_trans (by assumption) ?_)); done) | ((repeat (first | assumption | refine Nat.lt_trans (by assumption) ?_)); done)) | omega))) (Heap.get?_push_of_some _ ?_)
    rw [← hH2, ← hDd]
    exact Heap.get?_push_size _ rfl
  obtain ⟨g, hg⟩ : ∃ g, g = hideAll s₂.heap ((news ++ fix).map (·.1) ++ wr) := ⟨_, rfl⟩
  have hgs : ∀ b o, g.get? b = some o → s₂.heap.get? b = some o := fun b o e => of_hideAll _ (hg ▸ e)
  have hgsz : g.objs.size = D := by rw [hg, hideAll_size, hDd]
  have g_in : ∀ b o, s₂.heap.get? b = some o → b ∉ (news ++ fix).map (·.1) → b ∉ wr → g.get? b = some o := fun b o e h1 h2 => by
    rw [hg]
    exact hideAll_get _ e fun q => (List.mem_append.mp q).elim h1 h2
  have g_no : ∀ b, b ∈ (news ++ fix).map (·.1) ∨ b ∈ wr → g.get? b = none := fun b hb => by
    rw [hg]
    exact hideAll_none _ (List.mem_append.mpr hb)
  have g_new : ∀ b, D ≤ b → g.get? b = none := fun b hb => by
    cases q : g.get? b with
    | none => rfl
    | some o => exact absurd (Nat.lt_of_lt_of_le (hgsz ▸ Heap.lt_size q) hb) (Nat.lt_irrefl _)
  have stay : h₀.StaysIn g := fun b o e => by
    refine g_in b o (F.keep b o e) (fun hb => ?_) fun hb => ?_
    · obtain ⟨q, hq, rfl⟩ := List.mem_map.mp hb
      have := (N q hq).2.2
      rw [e] at this
      cases this
    · rw [hwr b hb] at e
      cases e
  obtain ⟨oL, esL, epL, hL, hLr⟩ := id F.ns
  have hLg : g.get? L = some oL := by
    refine g_in L oL hL (fun hb => ?_) hLw
    obtain ⟨q, hq, e⟩ := List.mem_map.mp hb
    exact (N q hq).2.1 e
  have FG : Fr h₀ L g m := ⟨⟨oL, esL, epL, hLg, hLr⟩, stay, F.above⟩
  have hfpD : ∀ b ∈ fp, @LT.lt Nat _ b D := fun b hb => ltN (hDd ▸ hfp b hb)
  have hCf : C ∉ fp := fun hb => by have := hfpD C hb; (first | (with_reducible first | assumption | exact Nat.le_trans (by assumption) (by decide) | exact Nat.lt_of_le_of_lt (by assumption) (by decide) | (refine Nat.ne_of_lt ?_; (repeat (first | assumption | refine Nat.lt_trans (by assumption) ?_)); done) | (refine Nat.ne_of_gt ?_; (repeat (first | assumption | refine Nat.lt_trans (by assumption) ?_)); done) | ((repeat (first | assumption | refine Nat.lt_trans (by assumption) ?_)); done)) | omega)
  have hDf : D ∉ fp := fun hb => by have := hfpD D hb; (first | (with_reducible first | assumption | exact Nat.le_trans (by assumption) (by decide) | exact Nat.lt_of_le_of_lt (by assumption) (by decide) | (refine Nat.ne_of_lt ?_; (repeat (first | assumption | refine Nat.lt_trans (by assumption) ?_)); done) | (refine Nat.ne_of_gt ?_; (repeat (first | assumption | refine Nat.lt_trans (by assumption) ?_)); done) | ((repeat (first | assumption | refine Nat.lt_trans (by assumption) ?_)); done)) | omega)
  have hCw : C ∉ wr := fun hb => hCf (Wk.sub _ hb)
  have hDw : D ∉ wr := fun hb => hDf (Wk.sub _ hb)
  have loop : ∀ s₃ : Shared, s₃ = { s₂ with heap := h₁, toks := s₂.toks + ([] : List (Str × Value)).length } →
      codeAny (model prog w) A (.compLoop (.ListComp elt [⟨.Tuple [.Name x px, .Name x₂ px₂] kk tp, iter, [], 0⟩] scope pos) 0 (.ref I) (.ref D) (compEnvC scope cl C env))
        (compPost (model prog w) A E none Q (.ref D) C) s₃ := by
    rintro s₃ rfl
    refine quietC ?_
    intro R9 hR9
    refine compLoopP
      (fun k s' => ∃ i ys nD news₁ gs h tk m₁, s' = ⟨h, gs, s₂.drawn, tk, s₂.os⟩ ∧ i ≤ n ∧ k = n + 1 - i ∧ St i h ∧ Fr g C h m₁ ∧ News g C h ((D, lsO ys nD) :: (news₁ ++ fix)) ∧ GrowAdr C (news.map (·.1)) news₁ ∧ J i ys news₁ gs) ?_ (n + 1)
      ⟨0, [], 0, news, s₂.gens, h₁, _, _, rfl, Nat.zero_le _, rfl, Wk.frame _ _ _ hst fun b _ o e => old b o e, ⟨hns₁, fun b o e => old b o (hgs b o e), by (first | (with_reducible first | assumption | exact Nat.le_trans (by assumption) (by decide) | exact Nat.lt_of_le_of_lt (by assumption) (by decide) | (refine Nat.ne_of_lt ?_; (repeat (first | assumption | refine Nat.lt_trans (by assumption) ?_)); done) | (refine Nat.ne_of_gt ?_; (repeat (first | assumption | refine Nat.lt_trans (by assumption) ?_)); done) | ((repeat (first | assumption | refine Nat.lt_trans (by assumption) ?_)); done)) | omega)⟩, ?_, fun q hq => .inl (List.mem_map_of_mem hq), hj⟩
    · rintro k s' ⟨i, ys, nD, news₁, gs, H, tk, m₁, rfl, hi, rfl, hst', F', N', hadr, hJ⟩ Qb E9 hQb
      have noff : ∀ q ∈ news₁, q.1 ∉ fp := fun q hq => by
        rcases hadr q hq with this | this
        · obtain ⟨q', hq', e⟩ := List.mem_map.mp this
          rw [← e]
          exact hnf q' hq'
        · exact fun hb => by
            have a1 := hfpD _ hb
            have a2 := ltN this
            (first | (with_reducible first | assumption | exact Nat.le_trans (by assumption) (by decide) | exact Nat.lt_of_le_of_lt (by assumption) (by decide) | (refine Nat.ne_of_lt ?_; (repeat (first | assumption | refine Nat.lt_trans (by assumption) ?_)); done) | (refine Nat.ne_of_gt ?_; (repeat (first | assumption | refine Nat.lt_trans (by assumption) ?_)); done) | ((repeat (first | assumption | refine Nat.lt_trans (by assumption) ?_)); done)) | omega)
      have noff' : ∀ q ∈ (D, lsO ys nD) :: (news₁ ++ fix), q.1 ∉ wr := fun q hq => by
        rcases List.mem_cons.mp hq with rfl | hq
        · exact hDw
        · rcases List.mem_append.mp hq with hq | hq
          · exact fun hb => noff q hq (Wk.sub _ hb)
          · exact hfw q hq
      have pass : ∀ h₂ : Heap, (∀ b o, b ∉ wr → H.get? b = some o → h₂.get? b = some o) → Fr g C h₂ m₁ ∧ News g C h₂ ((D, lsO ys nD) :: (news₁ ++ fix)) := fun h₂ hk =>
        ⟨⟨F'.ns.at' fun o e => hk _ o hCw e, fun b o e => hk b o (fun hb => by rw [g_no b (.inr hb)] at e; cases e) (F'.keep b o e), F'.above⟩, fun q hq => ⟨hk _ _ (noff' q hq) (N' q hq).1, (N' q hq).2⟩⟩
      by_cases hlt : i < n
      · refine Wk.item i _ _ _ hlt hst' fun T vals h₇ tk₂ hP hT₇ hmid hk₇ => ?_
        obtain ⟨v, v₂, rfl⟩ := hPp _ _ hP
        refine Wk.go _ _ _ i T _ _ _ hmid fun h₂ hst₂ hk₂' => ?_
        have hTw := Wk.apart _ _ _ hmid
        have hk₂ : ∀ b o, b ∉ wr → H.get? b = some o → h₂.get? b = some o := fun b o hb e => hk₂' b o hb (hk₇ b o hb e)
        obtain ⟨F₂, N₂⟩ := pass h₂ hk₂
        have hT₂ : h₂.IsTuple T #[v, v₂] := by
          obtain ⟨o, ho, r⟩ := hT₇
          exact ⟨o, hk₂' _ _ hTw ho, r⟩
        refine wpAny_assign_Tuple hh hT₂ rfl rfl fun h₈ he₈ => ?_
        have he₈' : ∀ b o, h₂.get? b = some o → h₈.get? b = some o := fun b o e => he₈ b o (Nat.ne_of_lt (Heap.lt_size e)) e
        have F₈ := F₂.keeps he₈'
        have N₈ : News g C h₈ ((D, lsO ys nD) :: (news₁ ++ fix)) := fun q hq => ⟨he₈' _ _ (N₂ q hq).1, (N₂ q hq).2⟩
        have hst₈ : St (i + 1) h₈ := Wk.frame _ _ _ hst₂ fun b _ o e => he₈' b o e
        refine assignInOrder_cons (wpAny_assign_Name (wpAny_storeName_local (env := compEnvC scope cl C env) (lookup_relabel_local hx) F₈.ns (fun h₉ hn₉ hs₉ => ?_) (by simp [compEnvC, relabel, hkind])))
        have F₉ : Fr g C h₉ (fun y => if y = x then some v else m₁ y) := F₈.set hn₉ hs₉
        have N₉ : News g C h₉ ((D, lsO ys nD) :: (news₁ ++ fix)) := N₈.set hs₉
        have hst₉ : St (i + 1) h₉ := Wk.frame _ _ _ hst₈ fun b hb o e => (hs₉.2 b fun q => hCf ((show b = C from q) ▸ hb)).trans e
        refine assignInOrder_cons (wpAny_assign_Name (wpAny_storeName_local (env := compEnvC scope cl C env) (lookup_relabel_local hx₂) F₉.ns (fun h₃ hn₃ hs₃ => ?_) (by simp [compEnvC, relabel, hkind])))
        refine assignInOrder_nil ?_
        have F₃ : Fr g C h₃ (fun y => if y = x₂ then some v₂ else if y = x then some v else m₁ y) := F₉.set hn₃ hs₃
        have N₃ : News g C h₃ ((D, lsO ys nD) :: (news₁ ++ fix)) := N₉.set hs₃
        have hst₃ : St (i + 1) h₃ := Wk.frame _ _ _ hst₉ fun b hb o e => (hs₃.2 b fun q => hCf ((show b = C from q) ▸ hb)).trans e
        have Nown : News g C h₃ (ownOf g fp h₃) := news_ownOf hCf
        have up : ∀ h₄ : Heap, (∀ b o, g.get? b = some o → h₄.get? b = some o) → (∀ q ∈ ownOf g fp h₃, h₄.get? q.1 = some q.2) → St (i + 1) h₄ := fun h₄ k1 k2 => by
          refine Wk.frame _ _ _ hst₃ fun b hb o e => ?_
          cases hn : g.get? b with
          | none => exact k2 _ (mem_ownOf hb hn e)
          | some o' =>
            have := F₃.keep b o' hn
            rw [e] at this
            cases this
            exact k1 b o hn
        have all : News g C h₃ ((D, lsO ys nD) :: (news₁ ++ (fix ++ ownOf g fp h₃))) := fun q hq => by
          rcases List.mem_cons.mp hq with rfl | hq
          · exact N₃ _ (.head _)
          · rcases List.mem_append.mp hq with hq | hq
            · exact N₃ _ (.tail _ (List.mem_append_left _ hq))
            · rcases List.mem_append.mp hq with hq | hq
              · exact N₃ _ (.tail _ (List.mem_append_right _ hq))
              · exact Nown _ hq
        refine wpAny_mono (turn g C D i v v₂ ys nD news₁ gs h₃ _ m₁ (ownOf g fp h₃) _ hlt hP hJ hadr ownOf_sub lt_new (fun q hq => hfpD _ (ownOf_sub q hq)) hC stay FG F₃ all) (fun y s₄ hy => ?_) fun _ _ e => e
        · skip
          obtain ⟨h₄, gs', tk', m', news₂, rfl, F₄, N₄, ha₄, hJ₄⟩ := hy
          have hD4 := (N₄ _ (.head _)).1
          refine wpAny_list_append_plain (hsz := by have := hjl _ _ _ _ hJ; rw [sizeLine_eq]; simp; (first | (with_reducible first | assumption | exact Nat.le_trans (by assumption) (by decide) | exact Nat.lt_of_le_of_lt (by assumption) (by decide) | (refine Nat.ne_of_lt ?_; (repeat (first | assumption | refine Nat.lt_trans (by assumption) ?_)); done) | (refine Nat.ne_of_gt ?_; (repeat (first | assumption | refine Nat.lt_trans (by assumption) ?_)); done) | ((repeat (first | assumption | refine Nat.lt_trans (by assumption) ?_)); done)) | omega)) (items := ys.toArray) ⟨nD, hD4⟩ fun h₅ hl₅ hs₅ => ?_
          obtain ⟨n5, hD5⟩ := hl₅
          have e5 : ys.toArray.push y = (ys ++ [y]).toArray := by simp
          rw [e5] at hD5
          have nD' : ∀ q ∈ news₂ ++ (fix ++ ownOf g fp h₃), q.1 ≠ D := fun q hq => by
            rcases List.mem_append.mp hq with hq | hq
            · rcases ha₄ q hq with this | this
              · obtain ⟨q', hq', e⟩ := List.mem_map.mp this
                have := ltN (lt_new q' (List.mem_append_left _ hq'))
                rw [← e]
                exact neN (by (first | (with_reducible first | assumption | exact Nat.le_trans (by assumption) (by decide) | exact Nat.lt_of_le_of_lt (by assumption) (by decide) | (refine Nat.ne_of_lt ?_; (repeat (first | assumption | refine Nat.lt_trans (by assumption) ?_)); done) | (refine Nat.ne_of_gt ?_; (repeat (first | assumption | refine Nat.lt_trans (by assumption) ?_)); done) | ((repeat (first | assumption | refine Nat.lt_trans (by assumption) ?_)); done)) | omega))
              · have := ltN this
                exact neN (by (first | (with_reducible first | assumption | exact Nat.le_trans (by assumption) (by decide) | exact Nat.lt_of_le_of_lt (by assumption) (by decide) | (refine Nat.ne_of_lt ?_; (repeat (first | assumption | refine Nat.lt_trans (by assumption) ?_)); done) | (refine Nat.ne_of_gt ?_; (repeat (first | assumption | refine Nat.lt_trans (by assumption) ?_)); done) | ((repeat (first | assumption | refine Nat.lt_trans (by assumption) ?_)); done)) | omega))
            · rcases List.mem_append.mp hq with hq | hq
              · have := ltN (lt_new q (List.mem_append_right _ hq)); exact neN (by (first | (with_reducible first | assumption | exact Nat.le_trans (by assumption) (by decide) | exact Nat.lt_of_le_of_lt (by assumption) (by decide) | (refine Nat.ne_of_lt ?_; (repeat (first | assumption | refine Nat.lt_trans (by assumption) ?_)); done) | (refine Nat.ne_of_gt ?_; (repeat (first | assumption | refine Nat.lt_trans (by assumption) ?_)); done) | ((repeat (first | assumption | refine Nat.lt_trans (by assumption) ?_)); done)) | omega))
              · have := hfpD _ (ownOf_sub q hq); exact neN (by (first | (with_reducible first | assumption | exact Nat.le_trans (by assumption) (by decide) | exact Nat.lt_of_le_of_lt (by assumption) (by decide) | (refine Nat.ne_of_lt ?_; (repeat (first | assumption | refine Nat.lt_trans (by assumption) ?_)); done) | (refine Nat.ne_of_gt ?_; (repeat (first | assumption | refine Nat.lt_trans (by assumption) ?_)); done) | ((repeat (first | assumption | refine Nat.lt_trans (by assumption) ?_)); done)) | omega))
          have F₅ : Fr g C h₅ m' := F₄.change hs₅ (neN (by (first | (with_reducible first | assumption | exact Nat.le_trans (by assumption) (by decide) | exact Nat.lt_of_le_of_lt (by assumption) (by decide) | (refine Nat.ne_of_lt ?_; (repeat (first | assumption | refine Nat.lt_trans (by assumption) ?_)); done) | (refine Nat.ne_of_gt ?_; (repeat (first | assumption | refine Nat.lt_trans (by assumption) ?_)); done) | ((repeat (first | assumption | refine Nat.lt_trans (by assumption) ?_)); done)) | omega))) (g_new D (Nat.le_refl _))
          have N₅ : ∀ q ∈ news₂ ++ (fix ++ ownOf g fp h₃), h₅.get? q.1 = some q.2 ∧ q.1 ≠ C ∧ g.get? q.1 = none := fun q hq =>
            ⟨(hs₅.2 q.1 (nD' q hq)).trans (N₄ q (.tail _ hq)).1, (N₄ q (.tail _ hq)).2⟩
          refine hQb _ ⟨n + 1 - (i + 1), dec_lt hlt, i + 1, ys ++ [y], n5, news₂, gs', h₅, tk', m', rfl, hlt, rfl, up h₅ F₅.keep (fun q hq => (N₅ q (List.mem_append_right _ (List.mem_append_right _ hq))).1), F₅, fun q hq => ?_, ha₄, hJ₄⟩
          rcases List.mem_cons.mp hq with rfl | hq
          · exact ⟨hD5, (N₄ _ (.head _)).2⟩
          · exact N₅ q (by rw [← List.append_assoc]; exact List.mem_append_left _ hq)
      · have hin : i = n := sub_end (by assumption) hlt
        subst hin
        refine Wk.done _ _ _ hst' fun h₂ tk₂ hk₂ => ?_
        obtain ⟨F₂, N₂⟩ := pass h₂ hk₂
        refine hR9 _ _ ⟨m₁, F₂.ns, fun h₃ hs₃ => ?_⟩
        have keep3 : ∀ b o, b ≠ C → h₂.get? b = some o → h₃.get? b = some o := fun b o hb e => (hs₃.2 b hb).trans e
        refine done D ys nD news₁ gs h₃ tk₂ hJ (fun q hq => (hadr q hq).imp id fun z => ltN (by have := ltN z; (first | (with_reducible first | assumption | exact Nat.le_trans (by assumption) (by decide) | exact Nat.lt_of_le_of_lt (by assumption) (by decide) | (refine Nat.ne_of_lt ?_; (repeat (first | assumption | refine Nat.lt_trans (by assumption) ?_)); done) | (refine Nat.ne_of_gt ?_; (repeat (first | assumption | refine Nat.lt_trans (by assumption) ?_)); done) | ((repeat (first | assumption | refine Nat.lt_trans (by assumption) ?_)); done)) | omega))) lt_new ⟨⟨oL, esL, epL, keep3 L oL (neN (by have := ltN (hDd ▸ Heap.lt_size hL : L < D); (first | (with_reducible first | assumption | exact Nat.le_trans (by assumption) (by decide) | exact Nat.lt_of_le_of_lt (by assumption) (by decide) | (refine Nat.ne_of_lt ?_; (repeat (first | assumption | refine Nat.lt_trans (by assumption) ?_)); done) | (refine Nat.ne_of_gt ?_; (repeat (first | assumption | refine Nat.lt_trans (by assumption) ?_)); done) | ((repeat (first | assumption | refine Nat.lt_trans (by assumption) ?_)); done)) | omega))) (F₂.keep L oL hLg), hLr⟩, fun b o e => keep3 b o (neN (by have := ltN (hDd ▸ Heap.lt_size (F.keep b o e) : b < D); (first | (with_reducible first | assumption | exact Nat.le_trans (by assumption) (by decide) | exact Nat.lt_of_le_of_lt (by assumption) (by decide) | (refine Nat.ne_of_lt ?_; (repeat (first | assumption | refine Nat.lt_trans (by assumption) ?_)); done) | (refine Nat.ne_of_gt ?_; (repeat (first | assumption | refine Nat.lt_trans (by assumption) ?_)); done) | ((repeat (first | assumption | refine Nat.lt_trans (by assumption) ?_)); done)) | omega))) (F₂.keep b o (stay b o e)), F.above⟩ ?_
        intro q hq
        have q2 := N₂ q hq
        have hqL : q.1 ≠ L := fun e => by
          rw [e, hLg] at q2
          cases q2.2.2
        refine ⟨keep3 _ _ q2.2.1 q2.1, hqL, ?_⟩
        · cases hc : h₀.get? q.1 with
          | none => rfl
          | some o =>
            rw [stay _ _ hc] at q2
            cases q2.2.2
    · intro q hq
      rcases List.mem_cons.mp hq with rfl | hq
      · exact ⟨hDo, neN (by (first | (with_reducible first | assumption | exact Nat.le_trans (by assumption) (by decide) | exact Nat.lt_of_le_of_lt (by assumption) (by decide) | (refine Nat.ne_of_lt ?_; (repeat (first | assumption | refine Nat.lt_trans (by assumption) ?_)); done) | (refine Nat.ne_of_gt ?_; (repeat (first | assumption | refine Nat.lt_trans (by assumption) ?_)); done) | ((repeat (first | assumption | refine Nat.lt_trans (by assumption) ?_)); done)) | omega)), g_new D (Nat.le_refl _)⟩
      · exact ⟨old _ _ (N q hq).1, neN (by have := ltN (lt_new q hq); (first | (with_reducible first | assumption | exact Nat.le_trans (by assumption) (by decide) | exact Nat.lt_of_le_of_lt (by assumption) (by decide) | (refine Nat.ne_of_lt ?_; (repeat (first | assumption | refine Nat.lt_trans (by assumption) ?_)); done) | (refine Nat.ne_of_gt ?_; (repeat (first | assumption | refine Nat.lt_trans (by assumption) ?_)); done) | ((repeat (first | assumption | refine Nat.lt_trans (by assumption) ?_)); done)) | omega)), g_no _ (.inl (List.mem_map_of_mem hq))⟩
  exact codeAny_compStart_list (loop _ rfl) (Wk.self 0 _ _ _ (Wk.frame _ _ _ hst fun b _ o e => old b o e) (loop _ rfl))
end comp
end Mine
end
section
open PySem PySem.W PyProof.Rows Mine
set_option Elab.async false
set_option maxRecDepth 100000
set_option maxHeartbeats 1000000
namespace Mine
def GoodB (h₁ : Heap) (os : OsState) (r : Result) (s' : Shared) : Prop := r = .ok (.ret (.bool true)) ∧ h₁.StaysIn s'.heap ∧ s'.os = os ∧ Mine.AllBare s'.gens
theorem kn_postB {M : Model} {A : Around} {cd : Code} {s s₁ : Shared} {cw : ClaimW} {cl : Str → Option Addr} {mean : ExcName → Option Value} {args : List WData} {tabs : List (Addr × Addr)} (hT : TabsAt tabs s₁.heap) (hr : ∀ a x, cw.raises a x = false) (hp : cw.post args (.bool true) args = true)
    (h : codeAny M A cd (fun r s' => GoodB (ghostOf s₁.heap tabs) s₁.os r s' ∧ GrownAll tabs s'.heap) s) : codeAny M A cd (GoodWG cw cl mean args s₁) s := by
  refine codeAny_mono h ?_
  rintro r s' ⟨⟨rfl, hk, ho, hb⟩, hg⟩
  have tab : ∀ b o, b ∈ tabs.map (·.2) → s₁.heap.get? b = some o → isCodeTable s₁.heap b ∧ o = tabObj #[] ∧ ∃ ps, s'.heap.get? b = some (tabObj ps) := by
    intro b o hm e
    obtain ⟨q, hq, rfl⟩ := List.mem_map.mp hm
    obtain ⟨c1, c2⟩ := hT q hq
    refine ⟨(c1.tab c2).isCodeTable, ?_, hg.get q hq⟩
    rw [c2] at e
    exact (Option.some.inj e).symm
  refine ⟨.inl ⟨.bool true, .bool true, [], rfl, hr args, .bool true, hp, fun _ => ⟨List.nodup_nil, fun _ h => nomatch h⟩⟩, ⟨fun b o e => ?_, fun b o e => ?_⟩, ho, hb⟩
  · by_cases hm : b ∈ tabs.map (·.2)
    · obtain ⟨t1, rfl, ps, t3⟩ := tab b o hm e
      exact .inr (.inl ⟨t1, rfl, #[], ps, rfl, by rw [Array.empty_append]; exact t3⟩)
    · exact .inl (hk b o (ghost_ne e hm))
  · by_cases hm : b ∈ tabs.map (·.2)
    · obtain ⟨-, -, ps, t3⟩ := tab b o hm e
      exact ⟨_, t3⟩
    · exact ⟨o, hk b o (ghost_ne e hm)⟩
theorem storeC_at {M : Model} {A : Around} {E : Value → Shared → Prop} {s : Shared} {h₀ : Heap} {L c : Addr} {m : Str → Option Value} {env : Env} {name : Str} {o : Obj} {l : List (Addr × Obj)} {v₀ : Option Value} {v : Value} {Q : Unit → Shared → Prop}
    (hk : env.scope.kind = .function) (hl : env.kindOf name = some .cell) (hc : env.cells.lookup name = some c) (F : Fr h₀ L s.heap m) (N : News h₀ L s.heap l) (hm : (c, o) ∈ l) (hd : o.data = .cell v₀)
    (h : ∀ h' o', Fr h₀ L h' m → (∀ l', (∀ q ∈ l', q = (c, o') ∨ (q ∈ l ∧ q.1 ≠ c)) → News h₀ L h' l') → o'.data = .cell (some v) → Q () { s with heap := h' }) : wpAny M A (storeName env name v) Q E s := by
  have z := N _ hm
  refine wpAny_storeName_cell hk hl hc ⟨o, z.1, hd⟩ fun h' hv hs => ?_
  obtain ⟨o', ho', hd'⟩ := hv
  refine h h' o' (F.change hs z.2.1 z.2.2) (fun l' hl' q hq => ?_) hd'
  rcases hl' q hq with rfl | ⟨h1, h2⟩
  · exact ⟨ho', z.2⟩
  · exact ⟨(hs.2 _ h2).trans (N q h1).1, (N q h1).2⟩
theorem store_third {M : Model} {A : Around} {E : Value → Shared → Prop} {s : Shared} {h₀ : Heap} {L : Addr} {m : Str → Option Value} {env : Env} {name : Str} {v₀ : Option Value} {v : Value} {Q : Unit → Shared → Prop}
    {w : World} {P : LexP} {line : Int} {tl : Tok} {l : List (Nat × Tok)} {cl : Nat} {pbs : List Value} {n : Nat} {a b c d e : Addr × Obj}
    (hk : env.scope.kind = .function) (hl : env.kindOf name = some .cell) (hc : env.cells.lookup name = some c.1) (F : Fr h₀ L s.heap m) (N : News h₀ L s.heap (lexLed w P line tl l cl pbs n [a, b, c, d, e])) (hd : c.2.data = .cell v₀)
    (hO : OwnOff [a, b, c, d, e] (lexAdr P)) (n1 : a.1 ≠ c.1) (n2 : b.1 ≠ c.1) (n3 : d.1 ≠ c.1) (n4 : e.1 ≠ c.1)
    (h : ∀ h' o', Fr h₀ L h' m → News h₀ L h' (lexLed w P line tl l cl pbs n [a, b, (c.1, o'), d, e]) → o'.data = .cell (some v) → Q () { s with heap := h' }) : wpAny M A (storeName env name v) Q E s := by
  refine storeC_at (o := c.2) (l := lexLed w P line tl l cl pbs n [a, b, c, d, e]) hk hl hc F N ?_ hd fun h' o' F' N' d' => h h' o' F' (N' _ ?_) d'
  · exact lex_own (r := []) (r' := [a, b, c, d, e]) (.tail _ (.tail _ (.head _)))
  · intro q hq
    rcases lex_iff.mp hq with h | h
    · exact .inr ⟨lex_iff.mpr (.inl h), fun e => hO c (.tail _ (.tail _ (.head _))) q.1 (show q.1 ∈ lexAdr P from List.mem_map_of_mem (f := (·.1)) h) e.symm⟩
    · rcases List.mem_cons.mp h with rfl | h
      · exact .inr ⟨lex_iff.mpr (.inr (.head _)), n1⟩
      rcases List.mem_cons.mp h with rfl | h
      · exact .inr ⟨lex_iff.mpr (.inr (.tail _ (.head _))), n2⟩
      rcases List.mem_cons.mp h with rfl | h
      · exact .inl rfl
      rcases List.mem_cons.mp h with rfl | h
      · exact .inr ⟨lex_iff.mpr (.inr (.tail _ (.tail _ (.tail _ (.head _))))), n3⟩
      rcases List.mem_cons.mp h with rfl | h
      · exact .inr ⟨lex_iff.mpr (.inr (.tail _ (.tail _ (.tail _ (.tail _ (.head _)))))), n4⟩
      cases h
theorem off_third {a b c d e : Addr × Obj} {o' : Obj} {as : List Addr} (h : OwnOff [a, b, c, d, e] as) : OwnOff [a, b, (c.1, o'), d, e] as := by
  intro q hq x hx
  have h1 := h a (.head _) x hx
  have h2 := h b (.tail _ (.head _)) x hx
  have h3 := h c (.tail _ (.tail _ (.head _))) x hx
  have h4 := h d (.tail _ (.tail _ (.tail _ (.head _)))) x hx
  have h5 := h e (.tail _ (.tail _ (.tail _ (.tail _ (.head _))))) x hx
  simp only [List.mem_cons, List.not_mem_nil, or_false] at hq
  rcases hq with rfl | rfl | rfl | rfl | rfl <;> assumption
end Mine
end
section
open PySem PySem.W PyProof.Rows Mine
set_option Elab.async false
set_option maxRecDepth 100000
set_option maxHeartbeats 1000000
namespace Mine
theorem lay_strs : ∀ l : List Str, (∀ x ∈ l, PyData.strOk x = true) → PyData.canLayAll0 (l.map PyData.str) = true ∧ PyData.depthAll (l.map PyData.str) = 0
  | [], _ => ⟨rfl, rfl⟩
  | x :: r, h => by simp [PyData.canLayAll0, PyData.canLay0, PyData.depthAll, PyData.depth, lay_strs r fun y hy => h y (.tail _ hy), h x (.head _)]
theorem same_strs : ∀ l : List Str, PySem.Spec.sameAll (l.map PyData.str) (l.map PyData.str) = true
  | [] => by simp [PySem.Spec.sameAll]
  | _ :: r => by simp [PySem.Spec.sameAll, PySem.Spec.same, same_strs r]
theorem carried_strs {vs : List Value} {l : List Str} (h : StrsAre vs l) : CarriedAll vs (l.map PyData.str) := by
  induction h with
  | nil => exact .nil
  | cons y t _ ih => exact .cons (.str y t) ih
theorem ne_strs {prog : Program} {w : World} {A : Around} {E : Value → Shared → Prop} {s : Shared} {a b : Addr} {xs ys : List Value} {l : List Str} {Q : Value → Shared → Prop}
    (ha : s.heap.IsList a xs.toArray) (hb : s.heap.IsList b ys.toArray) (hi : StrsAre xs l) (hj : StrsAre ys l) (hok : ∀ x ∈ l, PyData.strOk x = true) (hu : A.units + 64 < cLine) (h : Q (.bool false) s) :
    wpAny (model prog w) A (compareOp .NotEq (.ref a) (.ref b)) Q E s := by
  have hs : PySem.SeqAt.shaped (.list (l.map PyData.str)) = true := by
    simp [PySem.SeqAt.shaped, PyData.canLay0, PyData.depth, lay_strs l hok]
  have hm : PySem.Spec.same (.list (l.map PyData.str)) (.list (l.map PyData.str)) = true := by
    simp only [PySem.Spec.same]; exact same_strs l
  refine ne_dataH_same (reads_newData ha (carried_strs hi)) (reads_newData hb (carried_strs hj)) hs hs hu (SeqAt.noMix_of_shape (.list .str) rfl _ _ (list_map_has fun _ => rfl) (list_map_has fun _ => rfl)) ?_
  rw [hm]
  exact h
theorem ok_menu {wd : List Nat} (h : ∀ c ∈ wd, c ∈ menu8) : PyData.strOk (sOf wd) = true := by
  have k : ∀ c ∈ menu8, c < 0x110000 := by decide
  unfold PyData.strOk sOf
  simp
  exact fun c hc => k c (h c hc)
theorem ok_three (a b : Int) : ∀ x ∈ [firstS a b, secondS a b, Str.ofString ""], PyData.strOk x = true := by
  intro x hx
  simp only [List.mem_cons, List.not_mem_nil, or_false] at hx
  rcases hx with rfl | rfl | rfl
  · exact ok_menu (first_menu a b)
  · exact ok_menu (second_menu a b)
  · decide +kernel
end Mine
end
section
open PySem PySem.W PyProof.Rows Mine
set_option Elab.async false
set_option maxRecDepth 100000
set_option maxHeartbeats 2000000
namespace Mine
section comp
variable {prog : Program} {w : World} {A : Around} {E : Value → Shared → Prop} {s : Shared} {env : Env} {h₀ : Heap} {L : Addr} {m : Str → Option Value}
theorem compEnumR {elt : Expr} {x x₂ : Str} {scope : Scope} {cl : List (Str × Addr)} {Q : Value → Shared → Prop} {l : Addr} {vs : List Value} (fix : List (Addr × Obj)) (J : Nat → List Value → List (Addr × Obj) → Array GenState → Prop)
    (hh : A.handled = none) (hl : s.heap.IsList l vs.toArray) (hsz : vs.length ≤ 10000) (F : Fr h₀ L s.heap m) (N : News h₀ L s.heap fix)
    (hj : J 0 [] [] s.gens) (hjl : ∀ i ys nx gs, J i ys nx gs → ys.length ≤ i)
    (turn : ∀ (g : Heap) (C D : Addr) (i : Nat) (t : Tok) (v : Value) (ys : List Value) (nD : Nat) (news₁ : List (Addr × Obj)) (gs : Array GenState) (h : Heap) (tk : Nat) (m₁ : Str → Option Value) (own : List (Addr × Obj)) (E' : Value → Shared → Prop), vs[i]? = some v → J i ys news₁ gs → GrowAdr C [] news₁ →
      (∀ q ∈ fix, q.1 < D) → (∀ q ∈ own, q.1 < D) → C = D + 1 → h₀.StaysIn g → Fr h₀ L g m →
      Fr g C h (fun y => if y = x₂ then some v else if y = x then some (.int (i : Nat) t) else m₁ y) → News g C h ((D, lsO ys nD) :: (news₁ ++ (fix ++ own))) →
      wpAny (model prog w) A (eval elt (compEnvC scope cl C env)) (fun y s₄ => CompEndR g C D (fix ++ own) [] (J (i + 1)) s.drawn s.os ys nD (ys ++ [y]) s₄) E' ⟨h, gs, s.drawn, tk, s.os⟩)
    (done : ∀ (D : Addr) (ys : List Value) (nD : Nat) (news₁ : List (Addr × Obj)) (gs : Array GenState) (h' : Heap) (tk : Nat), J vs.length ys news₁ gs → GrowAdr D [] news₁ → (∀ q ∈ fix, q.1 < D) → Fr h₀ L h' m → News h₀ L h' ((D, lsO ys nD) :: (news₁ ++ fix)) → Q (.ref D) ⟨h', gs, s.drawn, tk, s.os⟩) :
    wpAny (model prog w) A (call (.type "enumerate") [.ref l]) (fun xv s₁ => wpAny (model prog w) A (pyIter xv) (fun it s₂ => CompAtR prog w A h₀ L m env scope cl x x₂ elt Q it s₂) E s₁) E s := by
  obtain ⟨ol, hol, hlr⟩ := id hl
  have hlt : l < s.heap.objs.size := Heap.lt_size hol
  have hLs : L < s.heap.objs.size := F.ns.lt
  refine call_enumerate_list hl fun h' hE hI hsz' hk => ?_
  refine wpAny_pyIter_enum hE ?_
  have lt_new : ∀ p ∈ fix, p.1 < s.heap.objs.size := fun p hp => Heap.lt_size (N p hp).1
  obtain ⟨I, hIe⟩ : ∃ I : Nat, s.heap.objs.size = I := ⟨_, rfl⟩
  rw [hIe] at hE hI hsz' hlt hLs lt_new
  rw [hIe]
  have fresh : ∀ b : Addr, I ≤ b → h₀.get? b = none := fun b hb => ktu_new F (by rw [hIe]; exact hb)
  have hwr : ∀ b ∈ [I + 1, I], h₀.get? b = none := fun b hb => by
    rcases List.mem_cons.mp hb with rfl | hb
    · exact fresh _ (Nat.le_succ _)
    · rw [List.mem_singleton.mp hb]; exact fresh _ (Nat.le_refl _)
  have nwr : ∀ p : Addr × Obj, p.1 < I → p.1 ∉ [I + 1, I] := fun p hp hb => by
    rcases List.mem_cons.mp hb with e | hb
    · rw [e] at hp; exact absurd hp (Nat.not_lt.mpr (Nat.le_succ _))
    · rw [List.mem_singleton.mp hb] at hp; exact absurd hp (Nat.lt_irrefl _)
  refine ⟨I + 1, [I + 1, I, l], [I + 1, I], vs.toArray.size, _, _, _, [], fix, J, rfl, (WalksT.enumerate hh (I + 1) I l (Nat.succ_ne_self _) (ktu_ne 1 hlt) (Nat.ne_of_lt hlt) vs.toArray).toU, (by simpa using hsz), ?_, ⟨⟨_, hE⟩, hI, hl.at fun o e => hk _ _ e⟩, ?_, hwr, ?_, fun q hq => (nomatch hq), fun q hq => nwr q (lt_new q hq), F.keeps hk, N.grown hk, hj, hjl, ?_, ?_⟩
  · rintro i vals ⟨t, x, -, rfl⟩
    exact ⟨_, _, rfl⟩
  · intro b hb
    have h2 : @LT.lt Nat _ (I + 1) h'.objs.size := by rw [hsz']; exact Nat.lt_succ_self _
    rcases List.mem_cons.mp hb with e | hb
    · rw [e]; exact h2
    · rcases List.mem_cons.mp hb with e | hb
      · rw [e]; exact Nat.lt_trans (Nat.lt_succ_self _) h2
      · rw [List.mem_singleton.mp hb]; exact Nat.lt_trans hlt (Nat.lt_trans (Nat.lt_succ_self _) h2)
  · intro hb
    rcases List.mem_cons.mp hb with e | hb
    · rw [e] at hLs; exact absurd hLs (Nat.not_lt.mpr (Nat.le_succ _))
    · rw [List.mem_singleton.mp hb] at hLs; exact absurd hLs (Nat.lt_irrefl _)
  · rintro g C D i v v₂ ys nD news₁ gs h tk m₁ own E' hi ⟨t, x, hx, hv⟩ hJ hadr hown hlt1 hlo hC st FG F₁ N₁
    obtain ⟨rfl, rfl⟩ : v = .int i t ∧ v₂ = x := by
      have e := congrArg Array.toList hv
      simpa using e
    exact turn g C D i t v₂ ys nD news₁ gs h tk m₁ own E' (by simpa using hx) hJ hadr hlt1 hlo hC st FG F₁ N₁
  · intro D ys nD news₁ gs h'' tk hJ hadr hlt1 F₁ N₁
    exact done D ys nD news₁ gs h'' tk (by simpa using hJ) hadr hlt1 F₁ N₁
theorem compPRF {elt iter : Expr} {x x₂ : Str} {px px₂ tp : Pos} {kk} {scope : Scope} {cl : List (Str × Addr)} {pos : Pos} {Q : Value → Shared → Prop} (hF9 : Fr h₀ L s.heap m)
    (hclos : closureFor scope env = pure cl) (hcell : ∀ y ∈ scope.names, y.2 ≠ .cell) (hkind : scope.kind = .function)
    (hnames : ∀ y ∈ scope.names, y.2 = .local → scope.names.lookup y.1 = some .local) (hx : scope.names.lookup x = some .local) (hx₂ : scope.names.lookup x₂ = some .local) (hh : A.handled = none)
    (h : wpAny (model prog w) A (eval iter env) (fun xv s₁ => wpAny (model prog w) A (pyIter xv) (fun it s₂ => CompAtR prog w A h₀ L m env scope cl x x₂ elt Q it s₂) E s₁) E s)
    (hs : ∀ x, foldedSetIterable iter env x = pure x := by intro _; rfl) :
    wpAny (model prog w) A (eval (.ListComp elt [⟨.Tuple [.Name x px, .Name x₂ px₂] kk tp, iter, [], 0⟩] scope pos) env) Q E s := compPR hclos hcell hkind hnames hx hx₂ hh h hs
def ToldAt (Ds : List (Addr × List Value × Nat)) (fs : List (List Int)) : Prop := Ds.length = fs.length ∧ ∀ (j : Nat) d f, Ds[j]? = some d → fs[j]? = some f → IntsAre d.2.1 f
def toldLed (Ds : List (Addr × List Value × Nat)) : List (Addr × Obj) := Ds.map fun d => (d.1, lsO d.2.1 d.2.2)
def toldVals (Ds : List (Addr × List Value × Nat)) : List Value := Ds.map fun d => .ref d.1
theorem ToldAt.snoc {Ds : List (Addr × List Value × Nat)} {fs : List (List Int)} (h : ToldAt Ds fs) {d : Addr × List Value × Nat} {f : List Int} (hd : IntsAre d.2.1 f) : ToldAt (Ds ++ [d]) (fs ++ [f]) := by
  refine ⟨by simp [h.1], fun j d' f' h1 h2 => ?_⟩
  by_cases hj : j < Ds.length
  · rw [List.getElem?_append_left hj] at h1
    rw [List.getElem?_append_left (h.1 ▸ hj)] at h2
    exact h.2 j d' f' h1 h2
  · have hj2 : ¬ j < fs.length := h.1 ▸ hj
    rw [List.getElem?_append_right (Nat.le_of_not_lt hj)] at h1
    rw [List.getElem?_append_right (Nat.le_of_not_lt hj2)] at h2
    have e1 : j - Ds.length = 0 := by
      by_cases e : j - Ds.length = 0
      · exact e
      · rw [List.getElem?_singleton, if_neg e] at h1; cases h1
    have e2 : j - fs.length = 0 := by rw [← h.1]; exact e1
    rw [e1] at h1
    rw [e2] at h2
    cases h1
    cases h2
    exact hd
end comp
end Mine
end
section
open PySem PySem.W PyProof.Rows Mine
set_option Elab.async false
set_option maxRecDepth 100000
set_option maxHeartbeats 2000000
namespace Mine
open LCg
theorem mem4 {α : Type} {a : α} {l₁ l₂ l₃ : List α} {d k : α} (h : a ∈ d :: k :: (l₁ ++ l₂)) : a ∈ d :: k :: (l₁ ++ (l₂ ++ l₃)) := by
  rcases List.mem_cons.mp h with rfl | h
  · exact .head _
  · exact .tail _ (mem3 h)
section one
variable {M : Model} {A : Around} {E : Value → Shared → Prop} {s : Shared}
theorem wpAny_newEnv_one {scope : Scope} {globals : Addr} {cl : List (Str × Addr)} {qual : Str} {env : Env} {x : Str} {Q : Env → Shared → Prop}
    (hcf : ∀ n cl, cellsFrom n scope.names cl = (x, n) :: cl) (hpc : ∀ h, pushCells h scope.names = h.push { cls := .type "cell", data := .cell none })
    (hQ : ∀ h', h'.Ns s.heap.objs.size (fun _ => none) → (∀ b o, s.heap.get? b = some o → h'.get? b = some o) → h'.get? (s.heap.objs.size + 1) = some { cls := .type "cell", data := .cell none } →
      Q { scope, locals := s.heap.objs.size, globals, cells := (x, s.heap.objs.size + 1) :: cl, qual, func := none, code := env.code, frame := env.frame, builtins := env.builtins } { s with heap := h' }) :
    wpAny M A (newFunctionEnv scope globals cl [] qual none .none (some env)) Q E s := by
  simp only [newFunctionEnv, Option.isSome_some, if_true]
  refine wpAny_bind (wpAny_alloc ?_)
  refine wpAny_bind (wpAny_layCells _ (fun name kind cells => by cases hkc : kind == NameKind.cell <;> simp [hkc]) _ _ _ _ ?_)
  rw [hcf, hpc]
  rw [show ({ s with heap := s.heap.push { cls := .type "dict", data := .dict #[] } } : Shared).heap.objs.size = s.heap.objs.size + 1 from Heap.size_push ..]
  refine wpAny_bind ?_
  rw [List.forIn_nil]
  refine wpAny_pure (wpAny_pure ?_)
  refine hQ _ ((Heap.Ns.new s.heap (.type "dict")).keeps fun b o e => Heap.get?_push_of_some _ e) (fun b o e => Heap.get?_push_of_some _ (Heap.get?_push_of_some _ e)) ?_
  have e : ((s.heap.push { cls := .type "dict", data := .dict #[] }).push { cls := .type "cell", data := .cell none }).get? (s.heap.push { cls := .type "dict", data := .dict #[] }).objs.size = some { cls := .type "cell", data := .cell none } := Heap.get?_push_size _ rfl
  rw [Heap.size_push] at e
  exact e
end one
section comp
variable {prog : Program} {w : World} {A : Around} {E : Value → Shared → Prop} {s : Shared} {env : Env} {h₀ : Heap} {L : Addr} {m : Str → Option Value}
def CompEndK (g : Heap) (C D : Addr) (rest : List (Addr × Obj)) (adr : List Addr) (J : List Value → List (Addr × Obj) → Array GenState → Prop) (d : Drawn) (os : OsState) (old : List Value) (nD : Nat) (ys : List Value) (s' : Shared) : Prop :=
  ∃ h' gs' tk' m' news₂ oK v₀, s' = ⟨h', gs', d, tk', os⟩ ∧ Fr g C h' m' ∧ News g C h' ((D, lsO old nD) :: (C + 1, oK) :: (news₂ ++ rest)) ∧ oK.data = Data.cell v₀ ∧ news₂.map (·.1) = adr ∧ J ys news₂ gs'
def CompAtK (prog : Program) (w : World) (A : Around) (h₀ : Heap) (L : Addr) (m : Str → Option Value) (env : Env) (scope : Scope) (cl : List (Str × Addr)) (x : Str) (ifs : List Expr) (elt : Expr) (md : Addr → Str → Option Value) (Q : Value → Shared → Prop) (it : Value) (s₂ : Shared) : Prop :=
  ∃ (I : Addr) (fp wr : List Addr) (n : Nat) (P : Nat → Value → Prop) (St : Nat → Heap → Prop) (news fix : List (Addr × Obj)) (J : Nat → List Value → List (Addr × Obj) → Array GenState → Prop),
    it = .ref I ∧ Walks prog w A I fp wr n P St ∧ n ≤ 10000 ∧ St 0 s₂.heap ∧ (∀ b ∈ fp, b < s₂.heap.objs.size) ∧ (∀ b ∈ wr, h₀.get? b = none) ∧ L ∉ wr ∧ (∀ q ∈ news, q.1 ∉ fp) ∧ (∀ q ∈ fix, q.1 ∉ wr) ∧ Fr h₀ L s₂.heap m ∧ News h₀ L s₂.heap (news ++ fix) ∧
    J 0 [] news s₂.gens ∧ (∀ i ys nx gs, J i ys nx gs → ys.length ≤ i) ∧
    (∀ (g : Heap) (C D : Addr) (i : Nat) (v : Value) (ys : List Value) (nD : Nat) (news₁ : List (Addr × Obj)) (gs : Array GenState) (h : Heap) (tk : Nat) (m₁ : Str → Option Value) (own : List (Addr × Obj)) (E' : Value → Shared → Prop) (oK : Obj), i < n → P i v → J i ys news₁ gs → news₁.map (·.1) = news.map (·.1) → (∀ q ∈ own, q.1 ∈ fp) → (∀ q ∈ news ++ fix, q.1 < D) → (∀ q ∈ own, q.1 < D) → C = D + 1 → h₀.StaysIn g → Fr h₀ L g m →
      Fr g C h m₁ → oK.data = Data.cell (some v) → News g C h ((D, lsO ys nD) :: (C + 1, oK) :: (news₁ ++ (fix ++ own))) →
      wpAny (model prog w) A (forIn ifs true fun c r => if r = true then do let ok ← isTrue c (compEnvC scope ((x, C + 1) :: cl) C env) (eval c (compEnvC scope ((x, C + 1) :: cl) C env)); pure (ForInStep.yield ok) else pure (ForInStep.yield r))
        (fun ok s₃ => if ok = true then wpAny (model prog w) A (eval elt (compEnvC scope ((x, C + 1) :: cl) C env)) (fun y s₄ => CompEndK g C D (fix ++ own) (news.map (·.1)) (J (i + 1)) s₂.drawn s₂.os ys nD (ys ++ [y]) s₄) E' s₃
          else CompEndK g C D (fix ++ own) (news.map (·.1)) (J (i + 1)) s₂.drawn s₂.os ys nD ys s₃) E' ⟨h, gs, s₂.drawn, tk, s₂.os⟩) ∧
    (∀ (D : Addr) (ys : List Value) (nD : Nat) (news₁ : List (Addr × Obj)) (gs : Array GenState) (h' : Heap) (tk : Nat), J n ys news₁ gs → news₁.map (·.1) = news.map (·.1) → (∀ q ∈ news ++ fix, q.1 < D) → Fr h₀ L h' (md D) → News h₀ L h' ((D, lsO ys nD) :: (news₁ ++ fix)) → Q (.ref D) ⟨h', gs, s₂.drawn, tk, s₂.os⟩)
theorem compKA {elt iter : Expr} {x y : Str} {px py : Pos} {ifs : List Expr} {scope : Scope} {cl : List (Str × Addr)} {pos spos : Pos} {Q : Flow → Shared → Prop}
    (hLe : env.locals = L) (hsw : swapsWith (.ListComp elt [⟨.Name x px, iter, ifs, 0⟩] scope pos) (some (.Name y py)) spos.line env = pure true)
    (hclos : closureFor scope env = pure cl) (hcf : ∀ n cl, cellsFrom n scope.names cl = (x, n) :: cl) (hpc : ∀ h, pushCells h scope.names = h.push { cls := .type "cell", data := .cell none }) (hkind : scope.kind = .function)
    (hnames : ∀ y ∈ scope.names, y.2 = .local → scope.names.lookup y.1 = some .local) (hx : ∀ C cl, (compEnvC scope ((x, C + 1) :: cl) C env).kindOf x = some .cell)
    (hy : env.kindOf y = some .local) (hp : (env.scope.kind == .class || (env.scope.kind == .module && env.locals != env.globals)) = false)
    (h : wpAny (model prog w) A (eval iter env) (fun xv s₁ => wpAny (model prog w) A (pyIter xv) (fun it s₂ => CompAtK prog w A h₀ L m env scope cl x ifs elt (fun D z => if z = y then some (.ref D) else m z) (fun _ s' => Q .next s') it s₂) E s₁) E s)
    (hs : ∀ x, foldedSetIterable iter env x = pure x := by intro _; rfl) :
    wpAny (model prog w) A (exec (.Assign [.Name y py] (.ListComp elt [⟨.Name x px, iter, ifs, 0⟩] scope pos) spos) env) Q E s := by
  rw [exec_Assign_Name_used _ _ _ _ hsw]
  refine wpAny_bind (wpAny_standAt (wpAny_bind ?_))
  show wpAny _ A (do let _ ← comprehension (.ListComp elt [⟨.Name x px, iter, ifs, 0⟩] scope pos) scope env _ (newList []) false (eval iter env) (some (assign (.Name y py) env))) _ _ s
  refine wpAny_bind (wpAny_mono (wpAny_comprehension_free (use := some (assign (.Name y py) env)) (Q := fun _ s' => Q .next s') rfl hs hclos hkind hnames
    (wpAny_mono h (fun xv s₁ h₁ => wpAny_mono h₁ (fun it s₂ h₂ => ?_) fun _ _ e => e) fun _ _ e => e)) (fun _ s' hq => wpAny_pure (wpAny_pure hq)) fun _ _ e => e)
  obtain ⟨I, fp, wr, n, P, St, news, fix, J, rfl, Wk, hsz, hst, hfp, hwr, hLw, hnf, hfw, F, N, hj, hjl, turn, done⟩ := h₂
  clear h₁
  refine wpAny_newObj_type (wpAny_newEnv_one hcf hpc (fun h₁ hns₁ hsb₁ hk₁ => ?_))
  dsimp only at hns₁ hsb₁ hk₁ ⊢
  generalize hH2 : s₂.heap.push { cls := .type "list", dict := none, data := .seq ([] : List Value).toArray } = H2 at hns₁ hsb₁ hk₁ ⊢
  have hC : H2.objs.size = s₂.heap.objs.size + 1 := by rw [← hH2, Heap.size_push]
  obtain ⟨D, hDd⟩ : ∃ D : Nat, s₂.heap.objs.size = D := ⟨_, rfl⟩
  obtain ⟨C, hCd⟩ : ∃ C : Nat, H2.objs.size = C := ⟨_, rfl⟩
  rw [hDd, hCd] at hC
  rw [hCd] at hns₁ hk₁
  rw [hDd, hCd]
  have lt_new : ∀ q ∈ news ++ fix, q.1 < D := fun q hq => hDd ▸ Heap.lt_size (N q hq).1
  have old : ∀ b o, s₂.heap.get? b = some o → h₁.get? b = some o := by
    intro b o e
    have hb := ltN (hDd ▸ Heap.lt_size e : b < D)
    refine hsb₁ b o ?_
    rw [← hH2]
    exact Heap.get?_push_of_some _ e
  have hDo : h₁.get? D = some (lsO [] 0) := by
    refine hsb₁ D _ ?_
    rw [← hH2, ← hDd]
    exact Heap.get?_push_size _ rfl
  obtain ⟨g, hg⟩ : ∃ g, g = hideAll s₂.heap ((news ++ fix).map (·.1) ++ wr) := ⟨_, rfl⟩
  have hgs : ∀ b o, g.get? b = some o → s₂.heap.get? b = some o := fun b o e => of_hideAll _ (hg ▸ e)
  have hgsz : g.objs.size = D := by rw [hg, hideAll_size, hDd]
  have g_in : ∀ b o, s₂.heap.get? b = some o → b ∉ (news ++ fix).map (·.1) → b ∉ wr → g.get? b = some o := fun b o e h1 h2 => by
    rw [hg]
    exact hideAll_get _ e fun q => (List.mem_append.mp q).elim h1 h2
  have g_no : ∀ b, b ∈ (news ++ fix).map (·.1) ∨ b ∈ wr → g.get? b = none := fun b hb => by
    rw [hg]
    exact hideAll_none _ (List.mem_append.mpr hb)
  have g_new : ∀ b, D ≤ b → g.get? b = none := fun b hb => by
    cases q : g.get? b with
    | none => rfl
    | some o => exact absurd (Nat.lt_of_lt_of_le (hgsz ▸ Heap.lt_size q) hb) (Nat.lt_irrefl _)
  have stay : h₀.StaysIn g := fun b o e => by
    refine g_in b o (F.keep b o e) (fun hb => ?_) fun hb => ?_
    · obtain ⟨q, hq, rfl⟩ := List.mem_map.mp hb
      have := (N q hq).2.2
      rw [e] at this
      cases this
    · rw [hwr b hb] at e
      cases e
  have hC2 : C = D + 1 := hC
  obtain ⟨oL, esL, epL, hL, hLr⟩ := id F.ns
  have hLg : g.get? L = some oL := by
    refine g_in L oL hL (fun hb => ?_) hLw
    obtain ⟨q, hq, e⟩ := List.mem_map.mp hb
    exact (N q hq).2.1 e
  have FG : Fr h₀ L g m := ⟨⟨oL, esL, epL, hLg, hLr⟩, stay, F.above⟩
  have hfpD : ∀ b ∈ fp, @LT.lt Nat _ b D := fun b hb => ltN (hDd ▸ hfp b hb)
  have hCf : C ∉ fp := fun hb => by have := hfpD C hb; (first | (with_reducible first | assumption | exact Nat.le_trans (by assumption) (by decide) | exact Nat.lt_of_le_of_lt (by assumption) (by decide) | (refine Nat.ne_of_lt ?_; (repeat (first | assumption | refine Nat.lt_trans (by assumption) ?_)); done) | (refine Nat.ne_of_gt ?_; (repeat (first | assumption | refine Nat.lt_trans (by assumption) ?_)); done) | ((repeat (first | assumption | refine Nat.lt_trans (by assumption) ?_)); done)) | omega)
  have hDf : D ∉ fp := fun hb => by have := hfpD D hb; (first | (with_reducible first | assumption | exact Nat.le_trans (by assumption) (by decide) | exact Nat.lt_of_le_of_lt (by assumption) (by decide) | (refine Nat.ne_of_lt ?_; (repeat (first | assumption | refine Nat.lt_trans (by assumption) ?_)); done) | (refine Nat.ne_of_gt ?_; (repeat (first | assumption | refine Nat.lt_trans (by assumption) ?_)); done) | ((repeat (first | assumption | refine Nat.lt_trans (by assumption) ?_)); done)) | omega)
  have hCw : C ∉ wr := fun hb => hCf (Wk.sub _ hb)
  have hKf : (C + 1 : Nat) ∉ fp := fun hb => by have := hfpD (C + 1) hb; (first | (with_reducible first | assumption | exact Nat.le_trans (by assumption) (by decide) | exact Nat.lt_of_le_of_lt (by assumption) (by decide) | (refine Nat.ne_of_lt ?_; (repeat (first | assumption | refine Nat.lt_trans (by assumption) ?_)); done) | (refine Nat.ne_of_gt ?_; (repeat (first | assumption | refine Nat.lt_trans (by assumption) ?_)); done) | ((repeat (first | assumption | refine Nat.lt_trans (by assumption) ?_)); done)) | omega)
  have hKw : (C + 1 : Nat) ∉ wr := fun hb => hKf (Wk.sub _ hb)
  have hDw : D ∉ wr := fun hb => hDf (Wk.sub _ hb)
  have loop : ∀ s₃ : Shared, s₃ = { s₂ with heap := h₁, toks := s₂.toks } →
      codeAny (model prog w) A (.compLoop (.ListComp elt [⟨.Name x px, iter, ifs, 0⟩] scope pos) 0 (.ref I) (.ref D) (compEnvC scope ((x, C + 1) :: cl) C env))
        (compPost (model prog w) A E (some (assign (.Name y py) env)) (fun _ s' => Q .next s') (.ref D) C) s₃ := by
    rintro s₃ rfl
    refine quietC ?_
    intro R9 hR9
    refine compLoopQ
      (fun k s' => ∃ i ys nD news₁ gs h tk m₁ oK v₀, s' = ⟨h, gs, s₂.drawn, tk, s₂.os⟩ ∧ i ≤ n ∧ k = n + 1 - i ∧ St i h ∧ Fr g C h m₁ ∧ News g C h ((D, lsO ys nD) :: (C + 1, oK) :: (news₁ ++ fix)) ∧ oK.data = Data.cell v₀ ∧ news₁.map (·.1) = news.map (·.1) ∧ J i ys news₁ gs) ?_ (n + 1)
      ⟨0, [], 0, news, s₂.gens, h₁, _, _, { cls := .type "cell", data := .cell none }, none, rfl, Nat.zero_le _, rfl, Wk.frame _ _ _ hst fun b _ o e => old b o e, ⟨hns₁, fun b o e => old b o (hgs b o e), by (first | (with_reducible first | assumption | exact Nat.le_trans (by assumption) (by decide) | exact Nat.lt_of_le_of_lt (by assumption) (by decide) | (refine Nat.ne_of_lt ?_; (repeat (first | assumption | refine Nat.lt_trans (by assumption) ?_)); done) | (refine Nat.ne_of_gt ?_; (repeat (first | assumption | refine Nat.lt_trans (by assumption) ?_)); done) | ((repeat (first | assumption | refine Nat.lt_trans (by assumption) ?_)); done)) | omega)⟩, ?_, rfl, rfl, hj⟩
    · rintro k s' ⟨i, ys, nD, news₁, gs, H, tk, m₁, oK, v₀, rfl, hi, rfl, hst', F', N', hoK, hadr, hJ⟩ Qb E9 hQb
      have noff : ∀ q ∈ news₁, q.1 ∉ fp := fun q hq => by
        have : q.1 ∈ news₁.map (·.1) := List.mem_map_of_mem hq
        rw [hadr] at this
        obtain ⟨q', hq', e⟩ := List.mem_map.mp this
        rw [← e]
        exact hnf q' hq'
      have noff' : ∀ q ∈ (D, lsO ys nD) :: (C + 1, oK) :: (news₁ ++ fix), q.1 ∉ wr := fun q hq => by
        rcases List.mem_cons.mp hq with rfl | hq
        · exact hDw
        rcases List.mem_cons.mp hq with rfl | hq
        · exact hKw
        · rcases List.mem_append.mp hq with hq | hq
          · exact fun hb => noff q hq (Wk.sub _ hb)
          · exact hfw q hq
      have pass : ∀ h₂ : Heap, (∀ b o, b ∉ wr → H.get? b = some o → h₂.get? b = some o) → Fr g C h₂ m₁ ∧ News g C h₂ ((D, lsO ys nD) :: (C + 1, oK) :: (news₁ ++ fix)) := fun h₂ hk =>
        ⟨⟨F'.ns.at' fun o e => hk _ o hCw e, fun b o e => hk b o (fun hb => by rw [g_no b (.inr hb)] at e; cases e) (F'.keep b o e), F'.above⟩, fun q hq => ⟨hk _ _ (noff' q hq) (N' q hq).1, (N' q hq).2⟩⟩
      by_cases hlt : i < n
      · refine Wk.item i _ _ _ hlt hst' fun v h₂ tk₂ hP hst₂ hk₂ => ?_
        obtain ⟨F₂, N₂⟩ := pass h₂ hk₂
        have zK := N₂ (C + 1, oK) (.tail _ (.head _))
        refine wpAny_assign_Name (wpAny_storeName_cell (env := compEnvC scope ((x, C + 1) :: cl) C env) hkind (hx _ _) (by simp [compEnvC]) ⟨oK, zK.1, hoK⟩ fun h₃ hv₃ hs₃ => ?_)
        obtain ⟨oK', hoK', hdK'⟩ := hv₃
        have F₃ : Fr g C h₃ m₁ := F₂.change hs₃ zK.2.1 zK.2.2
        have small : ∀ q ∈ news₁ ++ fix, @LT.lt Nat _ q.1 D := fun q hq => by
          rcases List.mem_append.mp hq with hq | hq
          · have : q.1 ∈ news₁.map (·.1) := List.mem_map_of_mem hq
            rw [hadr] at this
            obtain ⟨q', hq', e⟩ := List.mem_map.mp this
            rw [← e]
            exact ltN (lt_new q' (List.mem_append_left _ hq'))
          · exact ltN (lt_new q (List.mem_append_right _ hq))
        have N₃ : News g C h₃ ((D, lsO ys nD) :: (C + 1, oK') :: (news₁ ++ fix)) := fun q hq => by
          rcases List.mem_cons.mp hq with rfl | hq
          · exact ⟨(hs₃.2 _ (neN (by dsimp only; (first | (with_reducible first | assumption | exact Nat.le_trans (by assumption) (by decide) | exact Nat.lt_of_le_of_lt (by assumption) (by decide) | (refine Nat.ne_of_lt ?_; (repeat (first | assumption | refine Nat.lt_trans (by assumption) ?_)); done) | (refine Nat.ne_of_gt ?_; (repeat (first | assumption | refine Nat.lt_trans (by assumption) ?_)); done) | ((repeat (first | assumption | refine Nat.lt_trans (by assumption) ?_)); done)) | omega)))).trans (N₂ _ (.head _)).1, (N₂ _ (.head _)).2⟩
          rcases List.mem_cons.mp hq with rfl | hq
          · exact ⟨hoK', zK.2⟩
          · have n2 := N₂ q (.tail _ (.tail _ hq))
            exact ⟨(hs₃.2 _ (neN (by have := small q hq; (first | (with_reducible first | assumption | exact Nat.le_trans (by assumption) (by decide) | exact Nat.lt_of_le_of_lt (by assumption) (by decide) | (refine Nat.ne_of_lt ?_; (repeat (first | assumption | refine Nat.lt_trans (by assumption) ?_)); done) | (refine Nat.ne_of_gt ?_; (repeat (first | assumption | refine Nat.lt_trans (by assumption) ?_)); done) | ((repeat (first | assumption | refine Nat.lt_trans (by assumption) ?_)); done)) | omega)))).trans n2.1, n2.2⟩
        have Nown : News g C h₃ (ownOf g fp h₃) := news_ownOf hCf
        have hst₃ : St (i + 1) h₃ := Wk.frame _ _ _ hst₂ fun b hb o e => (hs₃.2 b fun q => hKf ((show b = C + 1 from q) ▸ hb)).trans e
        have up : ∀ h₄ : Heap, (∀ b o, g.get? b = some o → h₄.get? b = some o) → (∀ q ∈ ownOf g fp h₃, h₄.get? q.1 = some q.2) → St (i + 1) h₄ := fun h₄ k1 k2 => by
          refine Wk.frame _ _ _ hst₃ fun b hb o e => ?_
          cases hn : g.get? b with
          | none => exact k2 _ (mem_ownOf hb hn e)
          | some o' =>
            have := F₃.keep b o' hn
            rw [e] at this
            cases this
            exact k1 b o hn
        have all : News g C h₃ ((D, lsO ys nD) :: (C + 1, oK') :: (news₁ ++ (fix ++ ownOf g fp h₃))) := fun q hq => by
          rcases List.mem_cons.mp hq with rfl | hq
          · exact N₃ _ (.head _)
          rcases List.mem_cons.mp hq with rfl | hq
          · exact N₃ _ (.tail _ (.head _))
          · rcases List.mem_append.mp hq with hq | hq
            · exact N₃ _ (.tail _ (.tail _ (List.mem_append_left _ hq)))
            · rcases List.mem_append.mp hq with hq | hq
              · exact N₃ _ (.tail _ (.tail _ (List.mem_append_right _ hq)))
              · exact Nown _ hq
        refine wpAny_mono (turn g C D i v ys nD news₁ gs h₃ _ m₁ (ownOf g fp h₃) _ oK' hlt hP hJ hadr ownOf_sub lt_new (fun q hq => hfpD _ (ownOf_sub q hq)) hC2 stay FG F₃ hdK' all) (fun ok s₃ hok => ?_) fun _ _ e => e
        cases ok with
        | false =>
          simp only [Bool.false_eq_true, if_false] at hok ⊢
          obtain ⟨h₄, gs', tk', m', news₂, oK₂, v₂, rfl, F₄, N₄, hoK₂, ha₄, hJ₄⟩ := hok
          exact hQb _ ⟨n + 1 - (i + 1), dec_lt hlt, i + 1, ys, nD, news₂, gs', h₄, tk', m', oK₂, v₂, rfl, hlt, rfl, up h₄ F₄.keep fun q hq => (N₄ q (.tail _ (.tail _ (List.mem_append_right _ (List.mem_append_right _ hq))))).1, F₄, fun q hq => N₄ q (mem4 hq), hoK₂, ha₄, hJ₄⟩
        | true =>
          simp only [if_true] at hok ⊢
          refine wpAny_mono hok (fun y s₄ hy => ?_) fun _ _ e => e
          obtain ⟨h₄, gs', tk', m', news₂, oK₂, v₂, rfl, F₄, N₄, hoK₂, ha₄, hJ₄⟩ := hy
          have hD4 := (N₄ _ (.head _)).1
          refine wpAny_list_append_plain (hsz := by have := hjl _ _ _ _ hJ; rw [sizeLine_eq]; simp; (first | (with_reducible first | assumption | exact Nat.le_trans (by assumption) (by decide) | exact Nat.lt_of_le_of_lt (by assumption) (by decide) | (refine Nat.ne_of_lt ?_; (repeat (first | assumption | refine Nat.lt_trans (by assumption) ?_)); done) | (refine Nat.ne_of_gt ?_; (repeat (first | assumption | refine Nat.lt_trans (by assumption) ?_)); done) | ((repeat (first | assumption | refine Nat.lt_trans (by assumption) ?_)); done)) | omega)) (items := ys.toArray) ⟨nD, hD4⟩ fun h₅ hl₅ hs₅ => ?_
          obtain ⟨n5, hD5⟩ := hl₅
          have e5 : ys.toArray.push y = (ys ++ [y]).toArray := by simp
          rw [e5] at hD5
          have nD' : ∀ q ∈ (C + 1, oK₂) :: (news₂ ++ (fix ++ ownOf g fp h₃)), q.1 ≠ D := fun q hq => by
            rcases List.mem_cons.mp hq with rfl | hq
            · exact neN (by dsimp only; (first | (with_reducible first | assumption | exact Nat.le_trans (by assumption) (by decide) | exact Nat.lt_of_le_of_lt (by assumption) (by decide) | (refine Nat.ne_of_lt ?_; (repeat (first | assumption | refine Nat.lt_trans (by assumption) ?_)); done) | (refine Nat.ne_of_gt ?_; (repeat (first | assumption | refine Nat.lt_trans (by assumption) ?_)); done) | ((repeat (first | assumption | refine Nat.lt_trans (by assumption) ?_)); done)) | omega))
            rcases List.mem_append.mp hq with hq | hq
            · have : q.1 ∈ news₂.map (·.1) := List.mem_map_of_mem hq
              rw [ha₄] at this
              obtain ⟨q', hq', e⟩ := List.mem_map.mp this
              have := ltN (lt_new q' (List.mem_append_left _ hq'))
              rw [← e]
              exact neN (by (first | (with_reducible first | assumption | exact Nat.le_trans (by assumption) (by decide) | exact Nat.lt_of_le_of_lt (by assumption) (by decide) | (refine Nat.ne_of_lt ?_; (repeat (first | assumption | refine Nat.lt_trans (by assumption) ?_)); done) | (refine Nat.ne_of_gt ?_; (repeat (first | assumption | refine Nat.lt_trans (by assumption) ?_)); done) | ((repeat (first | assumption | refine Nat.lt_trans (by assumption) ?_)); done)) | omega))
            · rcases List.mem_append.mp hq with hq | hq
              · have := ltN (lt_new q (List.mem_append_right _ hq)); exact neN (by (first | (with_reducible first | assumption | exact Nat.le_trans (by assumption) (by decide) | exact Nat.lt_of_le_of_lt (by assumption) (by decide) | (refine Nat.ne_of_lt ?_; (repeat (first | assumption | refine Nat.lt_trans (by assumption) ?_)); done) | (refine Nat.ne_of_gt ?_; (repeat (first | assumption | refine Nat.lt_trans (by assumption) ?_)); done) | ((repeat (first | assumption | refine Nat.lt_trans (by assumption) ?_)); done)) | omega))
              · have := hfpD _ (ownOf_sub q hq); exact neN (by (first | (with_reducible first | assumption | exact Nat.le_trans (by assumption) (by decide) | exact Nat.lt_of_le_of_lt (by assumption) (by decide) | (refine Nat.ne_of_lt ?_; (repeat (first | assumption | refine Nat.lt_trans (by assumption) ?_)); done) | (refine Nat.ne_of_gt ?_; (repeat (first | assumption | refine Nat.lt_trans (by assumption) ?_)); done) | ((repeat (first | assumption | refine Nat.lt_trans (by assumption) ?_)); done)) | omega))
          have F₅ : Fr g C h₅ m' := F₄.change hs₅ (neN (by (first | (with_reducible first | assumption | exact Nat.le_trans (by assumption) (by decide) | exact Nat.lt_of_le_of_lt (by assumption) (by decide) | (refine Nat.ne_of_lt ?_; (repeat (first | assumption | refine Nat.lt_trans (by assumption) ?_)); done) | (refine Nat.ne_of_gt ?_; (repeat (first | assumption | refine Nat.lt_trans (by assumption) ?_)); done) | ((repeat (first | assumption | refine Nat.lt_trans (by assumption) ?_)); done)) | omega))) (g_new D (Nat.le_refl _))
          have N₅ : ∀ q ∈ (C + 1, oK₂) :: (news₂ ++ (fix ++ ownOf g fp h₃)), h₅.get? q.1 = some q.2 ∧ q.1 ≠ C ∧ g.get? q.1 = none := fun q hq =>
            ⟨(hs₅.2 q.1 (nD' q hq)).trans (N₄ q (.tail _ hq)).1, (N₄ q (.tail _ hq)).2⟩
          refine hQb _ ⟨n + 1 - (i + 1), dec_lt hlt, i + 1, ys ++ [y], n5, news₂, gs', h₅, tk', m', oK₂, v₂, rfl, hlt, rfl, up h₅ F₅.keep (fun q hq => (N₅ q (.tail _ (List.mem_append_right _ (List.mem_append_right _ hq)))).1), F₅, fun q hq => ?_, hoK₂, ha₄, hJ₄⟩
          rcases List.mem_cons.mp hq with rfl | hq
          · exact ⟨hD5, (N₄ _ (.head _)).2⟩
          rcases List.mem_cons.mp hq with rfl | hq
          · exact N₅ _ (.head _)
          · exact N₅ q (.tail _ (by rw [← List.append_assoc]; exact List.mem_append_left _ hq))
      · have hin : i = n := sub_end (by assumption) hlt
        subst hin
        refine Wk.done _ _ _ hst' fun h₂ tk₂ hk₂ => ?_
        obtain ⟨F₂, N₂⟩ := pass h₂ hk₂
        have FL : Fr h₀ L h₂ m := ⟨⟨oL, esL, epL, F₂.keep L oL hLg, hLr⟩, fun b o e => F₂.keep b o (stay b o e), F.above⟩
        have hLC : C ≠ L := (neN (by have := ltN (hDd ▸ Heap.lt_size hL : L < D); (first | (with_reducible first | assumption | exact Nat.le_trans (by assumption) (by decide) | exact Nat.lt_of_le_of_lt (by assumption) (by decide) | (refine Nat.ne_of_lt ?_; (repeat (first | assumption | refine Nat.lt_trans (by assumption) ?_)); done) | (refine Nat.ne_of_gt ?_; (repeat (first | assumption | refine Nat.lt_trans (by assumption) ?_)); done) | ((repeat (first | assumption | refine Nat.lt_trans (by assumption) ?_)); done)) | omega)))
        refine hR9 _ _ ?_
        show wpAny _ A (assign (.Name y py) env (.ref D)) _ _ _
        refine wpAny_assign_Name (wpAny_storeName_local hy (hLe.symm ▸ FL.ns) (fun h₅ hn₅ hs₅ => ?_) hp)
        rw [hLe] at hn₅ hs₅
        have F₅ : Fr h₀ L h₅ (fun z => if z = y then some (.ref D) else m z) := FL.set hn₅ hs₅
        refine ⟨m₁, F₂.ns.sameBut hs₅ hLC, fun h₃ hs₃ => ?_⟩
        have keep3 : ∀ b o, b ≠ C → h₅.get? b = some o → h₃.get? b = some o := fun b o hb e => (hs₃.2 b hb).trans e
        refine done D ys nD news₁ gs h₃ _ hJ hadr lt_new (F₅.change hs₃ hLC (by cases hc : h₀.get? C with | none => rfl | some o => exact absurd (Heap.lt_size (stay _ _ hc)) (by rw [hgsz]; exact Nat.not_lt.mpr (by (first | (with_reducible first | assumption | exact Nat.le_trans (by assumption) (by decide) | exact Nat.lt_of_le_of_lt (by assumption) (by decide) | (refine Nat.ne_of_lt ?_; (repeat (first | assumption | refine Nat.lt_trans (by assumption) ?_)); done) | (refine Nat.ne_of_gt ?_; (repeat (first | assumption | refine Nat.lt_trans (by assumption) ?_)); done) | ((repeat (first | assumption | refine Nat.lt_trans (by assumption) ?_)); done)) | omega))))) ?_
        intro q hq
        have q2 := N₂ q (by rcases List.mem_cons.mp hq with rfl | hq; exact .head _; exact .tail _ (.tail _ hq))
        have hqL : q.1 ≠ L := fun e => by
          rw [e, hLg] at q2
          cases q2.2.2
        refine ⟨keep3 _ _ q2.2.1 (hs₅.extBut _ _ hqL q2.1), hqL, ?_⟩
        · cases hc : h₀.get? q.1 with
          | none => rfl
          | some o =>
            rw [stay _ _ hc] at q2
            cases q2.2.2
    · intro q hq
      rcases List.mem_cons.mp hq with rfl | hq
      · exact ⟨hDo, neN (by (first | (with_reducible first | assumption | exact Nat.le_trans (by assumption) (by decide) | exact Nat.lt_of_le_of_lt (by assumption) (by decide) | (refine Nat.ne_of_lt ?_; (repeat (first | assumption | refine Nat.lt_trans (by assumption) ?_)); done) | (refine Nat.ne_of_gt ?_; (repeat (first | assumption | refine Nat.lt_trans (by assumption) ?_)); done) | ((repeat (first | assumption | refine Nat.lt_trans (by assumption) ?_)); done)) | omega)), g_new D (Nat.le_refl _)⟩
      rcases List.mem_cons.mp hq with rfl | hq
      · exact ⟨hk₁, neN (by dsimp only; (first | (with_reducible first | assumption | exact Nat.le_trans (by assumption) (by decide) | exact Nat.lt_of_le_of_lt (by assumption) (by decide) | (refine Nat.ne_of_lt ?_; (repeat (first | assumption | refine Nat.lt_trans (by assumption) ?_)); done) | (refine Nat.ne_of_gt ?_; (repeat (first | assumption | refine Nat.lt_trans (by assumption) ?_)); done) | ((repeat (first | assumption | refine Nat.lt_trans (by assumption) ?_)); done)) | omega)), g_new (C + 1) (by show @LE.le Nat _ D (C + 1); (first | (with_reducible first | assumption | exact Nat.le_trans (by assumption) (by decide) | exact Nat.lt_of_le_of_lt (by assumption) (by decide) | (refine Nat.ne_of_lt ?_; (repeat (first | assumption | refine Nat.lt_trans (by assumption) ?_)); done) | (refine Nat.ne_of_gt ?_; (repeat (first | assumption | refine Nat.lt_trans (by assumption) ?_)); done) | ((repeat (first | assumption | refine Nat.lt_trans (by assumption) ?_)); done)) | omega))⟩
      · exact ⟨old _ _ (N q hq).1, neN (by have := ltN (lt_new q hq); (first | (with_reducible first | assumption | exact Nat.le_trans (by assumption) (by decide) | exact Nat.lt_of_le_of_lt (by assumption) (by decide) | (refine Nat.ne_of_lt ?_; (repeat (first | assumption | refine Nat.lt_trans (by assumption) ?_)); done) | (refine Nat.ne_of_gt ?_; (repeat (first | assumption | refine Nat.lt_trans (by assumption) ?_)); done) | ((repeat (first | assumption | refine Nat.lt_trans (by assumption) ?_)); done)) | omega)), g_no _ (.inl (List.mem_map_of_mem hq))⟩
  exact codeAny_compStart_list (loop _ rfl) (Wk.self 0 _ _ _ (Wk.frame _ _ _ hst fun b _ o e => old b o e) (loop _ rfl))
theorem compRangeK {elt : Expr} {x : Str} {ifs : List Expr} {scope : Scope} {cl : List (Str × Addr)} {md : Addr → Str → Option Value} {Q : Value → Shared → Prop} {r : Addr} {a b : Int} {t u v : Tok} {n : Nat} (news fix : List (Addr × Obj)) (J : Nat → List Value → List (Addr × Obj) → Array GenState → Prop)
    (hh : A.handled = none) (hr : IsRange s.heap r a b 1 t u v) (hsmall : Builtin.Range.small a b 1 = true) (hn : Builtin.Range.rangeSize a b 1 = (n : Int)) (hsz : n ≤ 10000) (F : Fr h₀ L s.heap m) (N : News h₀ L s.heap (news ++ fix))
    (hj : J 0 [] news s.gens) (hjl : ∀ i ys nx gs, J i ys nx gs → ys.length ≤ i)
    (turn : ∀ (g : Heap) (C D : Addr) (i : Nat) (tv : Tok) (ys : List Value) (nD : Nat) (news₁ : List (Addr × Obj)) (gs : Array GenState) (h : Heap) (tk : Nat) (m₁ : Str → Option Value) (own : List (Addr × Obj)) (E' : Value → Shared → Prop) (oK : Obj), i < n → J i ys news₁ gs → news₁.map (·.1) = news.map (·.1) →
      (∀ q ∈ own, ∀ p ∈ news ++ fix, p.1 < q.1) → (∀ q ∈ news ++ fix, q.1 < D) → (∀ q ∈ own, q.1 < D) → C = D + 1 → h₀.StaysIn g → Fr h₀ L g m →
      Fr g C h m₁ → oK.data = Data.cell (some (.int (a + i) tv)) → News g C h ((D, lsO ys nD) :: (C + 1, oK) :: (news₁ ++ (fix ++ own))) →
      wpAny (model prog w) A (forIn ifs true fun c r => if r = true then do let ok ← isTrue c (compEnvC scope ((x, C + 1) :: cl) C env) (eval c (compEnvC scope ((x, C + 1) :: cl) C env)); pure (ForInStep.yield ok) else pure (ForInStep.yield r))
        (fun ok s₃ => if ok = true then wpAny (model prog w) A (eval elt (compEnvC scope ((x, C + 1) :: cl) C env)) (fun y s₄ => CompEndK g C D (fix ++ own) (news.map (·.1)) (J (i + 1)) s.drawn s.os ys nD (ys ++ [y]) s₄) E' s₃
          else CompEndK g C D (fix ++ own) (news.map (·.1)) (J (i + 1)) s.drawn s.os ys nD ys s₃) E' ⟨h, gs, s.drawn, tk, s.os⟩)
    (done : ∀ (D : Addr) (ys : List Value) (nD : Nat) (news₁ : List (Addr × Obj)) (gs : Array GenState) (h' : Heap) (tk : Nat), J n ys news₁ gs → news₁.map (·.1) = news.map (·.1) → (∀ q ∈ news ++ fix, q.1 < D) → Fr h₀ L h' (md D) → News h₀ L h' ((D, lsO ys nD) :: (news₁ ++ fix)) → Q (.ref D) ⟨h', gs, s.drawn, tk, s.os⟩) :
    wpAny (model prog w) A (pyIter (.ref r)) (fun it s₂ => CompAtK prog w A h₀ L m env scope cl x ifs elt md Q it s₂) E s := by
  refine wpAny_pyIter_range hr hsmall ?_
  have off : ∀ q ∈ news ++ fix, q.1 ≠ s.heap.objs.size := fun q hq => Nat.ne_of_lt (Heap.lt_size (N q hq).1)
  refine ⟨s.heap.objs.size, [s.heap.objs.size], [s.heap.objs.size], n, _, _, news, fix, J, rfl, (Walks.range hh _ a 1 n).bound, hsz, (by show IsRangeIter _ _ _ _ _; rw [hn]; simpa using Heap.get?_push_size _ rfl), ?_, ?_, ?_, ?_, ?_, F.push _, (fun q hq => ⟨Heap.get?_push_of_some _ (N q hq).1, (N q hq).2⟩), hj, hjl, ?_, ?_⟩
  · intro b hb
    rw [List.mem_singleton.mp hb, Heap.size_push]
    exact Nat.lt_succ_self _
  · intro b hb
    rw [List.mem_singleton.mp hb]
    exact next_is_new F
  · intro hb
    exact absurd F.ns.lt ((List.mem_singleton.mp hb) ▸ Nat.lt_irrefl _)
  · intro q hq hb
    exact off q (List.mem_append_left _ hq) (List.mem_singleton.mp hb)
  · intro q hq hb
    exact off q (List.mem_append_right _ hq) (List.mem_singleton.mp hb)
  · rintro g C D i v ys nD news₁ gs h tk m₁ own E' oK hi ⟨_, tv, rfl⟩ hJ hadr hown hlt hlo hDC st FG F₁ hd₁ N₁
    rw [Int.mul_one] at hd₁
    exact turn g C D i tv ys nD news₁ gs h tk m₁ own E' oK hi hJ hadr (fun q hq p hp => by rw [List.mem_singleton.mp (hown q hq)]; exact Heap.lt_size (N p hp).1) hlt hlo hDC st FG F₁ hd₁ N₁
  · exact done
end comp
end Mine
end
section
open PySem PySem.W PyProof.Rows Mine
set_option Elab.async false
set_option maxRecDepth 100000
set_option maxHeartbeats 1000000
namespace Mine
theorem sum_in {B : Int} : ∀ (l : List Int), (∀ x ∈ l, 0 ≤ x ∧ x ≤ B) → 0 ≤ l.sum ∧ l.sum ≤ B * l.length
  | [], _ => by simp
  | x :: l, h => by
    have h1 := h x (.head _)
    have h2 := sum_in l fun y hy => h y (.tail _ hy)
    have e : B * ((x :: l).length : Int) = B * (l.length : Int) + B := by
      rw [List.length_cons, Int.natCast_add, Int.mul_add]; simp
    rw [e, List.sum_cons]
    (first | (with_reducible first | assumption | exact Nat.le_trans (by assumption) (by decide) | exact Nat.lt_of_le_of_lt (by assumption) (by decide) | (refine Nat.ne_of_lt ?_; (repeat (first | assumption | refine Nat.lt_trans (by assumption) ?_)); done) | (refine Nat.ne_of_gt ?_; (repeat (first | assumption | refine Nat.lt_trans (by assumption) ?_)); done) | ((repeat (first | assumption | refine Nat.lt_trans (by assumption) ?_)); done)) | omega)
theorem fallsF_bound {w : Str} (h1 : 1 ≤ w.length) (h5 : w.length ≤ 5) : 0 ≤ (fallsF w).sum ∧ (fallsF w).sum ≤ 1000 ∧ (fallsF w).length ≤ 10 := by
  have hl := runsF_len w (w.length - 1)
  have hv := runsF_val w (w.length - 1)
  unfold fallsF
  generalize hR : (runsF w (w.length - 1)).take ((runsF w (w.length - 1)).length - 1) = R
  have hRl : R.length ≤ 10 := by rw [← hR, List.length_take]; (first | (with_reducible first | assumption | exact Nat.le_trans (by assumption) (by decide) | exact Nat.lt_of_le_of_lt (by assumption) (by decide) | (refine Nat.ne_of_lt ?_; (repeat (first | assumption | refine Nat.lt_trans (by assumption) ?_)); done) | (refine Nat.ne_of_gt ?_; (repeat (first | assumption | refine Nat.lt_trans (by assumption) ?_)); done) | ((repeat (first | assumption | refine Nat.lt_trans (by assumption) ?_)); done)) | omega)
  have hRv : ∀ x ∈ R, 0 ≤ x ∧ x ≤ 10 := fun x hx => by
    rw [← hR] at hx
    have := hv x (List.take_subset _ _ hx)
    (first | (with_reducible first | assumption | exact Nat.le_trans (by assumption) (by decide) | exact Nat.lt_of_le_of_lt (by assumption) (by decide) | (refine Nat.ne_of_lt ?_; (repeat (first | assumption | refine Nat.lt_trans (by assumption) ?_)); done) | (refine Nat.ne_of_gt ?_; (repeat (first | assumption | refine Nat.lt_trans (by assumption) ?_)); done) | ((repeat (first | assumption | refine Nat.lt_trans (by assumption) ?_)); done)) | omega)
  have key := sum_in (B := 100) ((List.range R.length).map fun i => (R.take (i + 1)).sum) (fun x hx => by
    obtain ⟨i, -, rfl⟩ := List.mem_map.mp hx
    have := sum_in (B := 10) (R.take (i + 1)) fun y hy => hRv y (List.mem_of_mem_take hy)
    have hl2 : (R.take (i + 1)).length ≤ 10 := by rw [List.length_take]; (first | (with_reducible first | assumption | exact Nat.le_trans (by assumption) (by decide) | exact Nat.lt_of_le_of_lt (by assumption) (by decide) | (refine Nat.ne_of_lt ?_; (repeat (first | assumption | refine Nat.lt_trans (by assumption) ?_)); done) | (refine Nat.ne_of_gt ?_; (repeat (first | assumption | refine Nat.lt_trans (by assumption) ?_)); done) | ((repeat (first | assumption | refine Nat.lt_trans (by assumption) ?_)); done)) | omega)
    (first | (with_reducible first | assumption | exact Nat.le_trans (by assumption) (by decide) | exact Nat.lt_of_le_of_lt (by assumption) (by decide) | (refine Nat.ne_of_lt ?_; (repeat (first | assumption | refine Nat.lt_trans (by assumption) ?_)); done) | (refine Nat.ne_of_gt ?_; (repeat (first | assumption | refine Nat.lt_trans (by assumption) ?_)); done) | ((repeat (first | assumption | refine Nat.lt_trans (by assumption) ?_)); done)) | omega))
  rw [List.length_map, List.length_range] at key
  refine ⟨key.1, by (first | (with_reducible first | assumption | exact Nat.le_trans (by assumption) (by decide) | exact Nat.lt_of_le_of_lt (by assumption) (by decide) | (refine Nat.ne_of_lt ?_; (repeat (first | assumption | refine Nat.lt_trans (by assumption) ?_)); done) | (refine Nat.ne_of_gt ?_; (repeat (first | assumption | refine Nat.lt_trans (by assumption) ?_)); done) | ((repeat (first | assumption | refine Nat.lt_trans (by assumption) ?_)); done)) | omega), ?_⟩
  rw [List.length_map, List.length_range]
  exact hRl
theorem strv_at {ws : List (Str × Tok)} {i : Nat} {v : Value} (h : (strValues ws)[i]? = some v) : ∃ p, ws[i]? = some p ∧ v = .str p.1 p.2 := by
  unfold strValues at h
  rw [List.getElem?_map] at h
  cases q : ws[i]? with
  | none => rw [q] at h; cases h
  | some p => rw [q] at h; exact ⟨p, rfl, (Option.some.inj h).symm⟩
theorem told_get {Ds : List (Addr × List Value × Nat)} {fs : List (List Int)} (hT : ToldAt Ds fs) {j : Nat} {v : Value} (h : (toldVals Ds)[j]? = some v) : ∃ d f, Ds[j]? = some d ∧ v = .ref d.1 ∧ fs[j]? = some f ∧ IntsAre d.2.1 f ∧ (d.1, lsO d.2.1 d.2.2) ∈ toldLed Ds := by
  unfold toldVals at h
  rw [List.getElem?_map] at h
  cases q : Ds[j]? with
  | none => rw [q] at h; cases h
  | some d =>
    rw [q] at h
    have hj : j < fs.length := hT.1 ▸ (List.getElem?_eq_some_iff.mp q).1
    exact ⟨d, fs[j], rfl, (Option.some.inj h).symm, List.getElem?_eq_getElem hj, hT.2 j d _ q (List.getElem?_eq_getElem hj), List.mem_map.mpr ⟨d, List.mem_of_getElem? q, rfl⟩⟩
theorem mem_snoc {α : Type} {q x y : α} {a b : List α} (h : q ∈ x :: ((a ++ [y]) ++ b)) : q ∈ y :: x :: (a ++ b) := by
  rcases List.mem_cons.mp h with rfl | h
  · exact .tail _ (.head _)
  rcases List.mem_append.mp h with h | h
  · rcases List.mem_append.mp h with h | h
    · exact .tail _ (.tail _ (List.mem_append_left _ h))
    · rw [List.mem_singleton.mp h]; exact .head _
  · exact .tail _ (.tail _ (List.mem_append_right _ h))
theorem grow_snoc {C D Di : Addr} {l : List (Addr × Obj)} {o : Obj} (h : GrowAdr C [] l) (hC : C = D + 1) (h1 : @LT.lt Nat _ D Di) (h2 : Di ≠ C) : GrowAdr C [] (l ++ [(Di, o)]) := by
  intro q hq
  rcases List.mem_append.mp hq with hq | hq
  · exact h q hq
  · rw [List.mem_singleton.mp hq]
    exact .inr (Nat.lt_of_le_of_ne (hC ▸ Nat.succ_le_of_lt h1) fun e => h2 e.symm)
def heapS (fs : List (List Int)) (k : Int) : List Int := (fs.filter fun ys => decide ((ys.length : Int) = k)).map fun ys => (64 : Int) ^ ys.sum.toNat
theorem heapS_t {fs : List (List Int)} {k : Int} {j : Nat} {f : List Int} (h : fs[j]? = some f) (hk : (f.length : Int) = k) : heapS (fs.take (j + 1)) k = heapS (fs.take j) k ++ [(64 : Int) ^ f.sum.toNat] := by
  unfold heapS
  rw [List.take_add_one, h]
  simp [List.filter_append, hk]
theorem heapS_f {fs : List (List Int)} {k : Int} {j : Nat} {f : List Int} (h : fs[j]? = some f) (hk : (f.length : Int) ≠ k) : heapS (fs.take (j + 1)) k = heapS (fs.take j) k := by
  unfold heapS
  rw [List.take_add_one, h]
  simp [List.filter_append, hk]
theorem heapS_sum (fs : List (List Int)) (k : Int) : (heapS fs k).sum = heapF fs k := rfl
theorem heapS_len (fs : List (List Int)) (k : Int) : (heapS fs k).length ≤ fs.length := by
  unfold heapS
  rw [List.length_map]
  exact List.length_filter_le _ _
abbrev lastLed (LL DT : Addr) (oT o2 o1 t86 : Obj) (Ds : List (Addr × List Value × Nat)) (nT : Nat) : List (Addr × Obj) :=
  (LL + 1 + 1 + 1 + 1, oT) :: (LL + 1 + 1, o2) :: (LL + 1, o1) :: (86, t86) :: (DT, lsO (toldVals Ds) nT) :: toldLed Ds
theorem lastN_led {h₀ hT : Heap} {LL DT : Addr} {oT o2 o1 : Obj} {Ds : List (Addr × List Value × Nat)} {nT : Nat} {w : World} {P : LexP} {line : Int} {tl : Tok} {l : List (Nat × Tok)} {c : Nat} {pbs : List Value} {n : Nat} {x a b cc : Addr × Obj}
    (hN : ∀ l', (∀ q ∈ l', q = (LL + 1 + 1 + 1 + 1, oT) ∨ (q ∈ (DT, lsO (toldVals Ds) nT) :: (toldLed Ds ++ (x :: lexLed w P line tl l c pbs n [a, b, cc, (LL + 1 + 1, o2), (LL + 1, o1)])) ∧ q.1 ≠ LL + 1 + 1 + 1 + 1)) → News h₀ LL hT l')
    (hlt : @LT.lt Nat _ (LL + 1 + 1 + 1 + 1) DT) (h86 : @LT.lt Nat _ 86 LL) (hg : GrowAdr DT [] (toldLed Ds)) : News h₀ LL hT (lastLed LL DT oT o2 o1 P.t86 Ds nT) := by
  have e86 : (86, P.t86) ∈ lexLed w P line tl l c pbs n [a, b, cc, (LL + 1 + 1, o2), (LL + 1, o1)] := by simp [lexLed]
  have e2 : (LL + 1 + 1, o2) ∈ lexLed w P line tl l c pbs n [a, b, cc, (LL + 1 + 1, o2), (LL + 1, o1)] := by simp [lexLed]
  have e1 : (LL + 1, o1) ∈ lexLed w P line tl l c pbs n [a, b, cc, (LL + 1 + 1, o2), (LL + 1, o1)] := by simp [lexLed]
  refine hN _ fun q hq => ?_
  rcases List.mem_cons.mp hq with rfl | hq
  · exact .inl rfl
  rcases List.mem_cons.mp hq with rfl | hq
  · exact .inr ⟨.tail _ (List.mem_append_right _ (.tail _ e2)), neN (by dsimp only; (first | (with_reducible first | assumption | exact Nat.le_trans (by assumption) (by decide) | exact Nat.lt_of_le_of_lt (by assumption) (by decide) | (refine Nat.ne_of_lt ?_; (repeat (first | assumption | refine Nat.lt_trans (by assumption) ?_)); done) | (refine Nat.ne_of_gt ?_; (repeat (first | assumption | refine Nat.lt_trans (by assumption) ?_)); done) | ((repeat (first | assumption | refine Nat.lt_trans (by assumption) ?_)); done)) | omega))⟩
  rcases List.mem_cons.mp hq with rfl | hq
  · exact .inr ⟨.tail _ (List.mem_append_right _ (.tail _ e1)), neN (by dsimp only; (first | (with_reducible first | assumption | exact Nat.le_trans (by assumption) (by decide) | exact Nat.lt_of_le_of_lt (by assumption) (by decide) | (refine Nat.ne_of_lt ?_; (repeat (first | assumption | refine Nat.lt_trans (by assumption) ?_)); done) | (refine Nat.ne_of_gt ?_; (repeat (first | assumption | refine Nat.lt_trans (by assumption) ?_)); done) | ((repeat (first | assumption | refine Nat.lt_trans (by assumption) ?_)); done)) | omega))⟩
  rcases List.mem_cons.mp hq with rfl | hq
  · exact .inr ⟨.tail _ (List.mem_append_right _ (.tail _ e86)), neN (by dsimp only; (first | (with_reducible first | assumption | exact Nat.le_trans (by assumption) (by decide) | exact Nat.lt_of_le_of_lt (by assumption) (by decide) | (refine Nat.ne_of_lt ?_; (repeat (first | assumption | refine Nat.lt_trans (by assumption) ?_)); done) | (refine Nat.ne_of_gt ?_; (repeat (first | assumption | refine Nat.lt_trans (by assumption) ?_)); done) | ((repeat (first | assumption | refine Nat.lt_trans (by assumption) ?_)); done)) | omega))⟩
  rcases List.mem_cons.mp hq with rfl | hq
  · exact .inr ⟨.head _, neN (by dsimp only; (first | (with_reducible first | assumption | exact Nat.le_trans (by assumption) (by decide) | exact Nat.lt_of_le_of_lt (by assumption) (by decide) | (refine Nat.ne_of_lt ?_; (repeat (first | assumption | refine Nat.lt_trans (by assumption) ?_)); done) | (refine Nat.ne_of_gt ?_; (repeat (first | assumption | refine Nat.lt_trans (by assumption) ?_)); done) | ((repeat (first | assumption | refine Nat.lt_trans (by assumption) ?_)); done)) | omega))⟩
  · refine .inr ⟨.tail _ (List.mem_append_left _ hq), ?_⟩
    rcases hg q hq with z | z
    · cases z
    · exact neN (by have := ltN z; (first | (with_reducible first | assumption | exact Nat.le_trans (by assumption) (by decide) | exact Nat.lt_of_le_of_lt (by assumption) (by decide) | (refine Nat.ne_of_lt ?_; (repeat (first | assumption | refine Nat.lt_trans (by assumption) ?_)); done) | (refine Nat.ne_of_gt ?_; (repeat (first | assumption | refine Nat.lt_trans (by assumption) ?_)); done) | ((repeat (first | assumption | refine Nat.lt_trans (by assumption) ?_)); done)) | omega))
theorem last_mems {LL DT : Addr} {oT o2 o1 t86 : Obj} {Ds : List (Addr × List Value × Nat)} {nT : Nat} {LED : List (Addr × Obj)} (h : LED = lastLed LL DT oT o2 o1 t86 Ds nT) :
    (LL + 1 + 1 + 1 + 1, oT) ∈ LED ∧ (LL + 1 + 1, o2) ∈ LED ∧ (LL + 1, o1) ∈ LED ∧ (86, t86) ∈ LED ∧ (DT, lsO (toldVals Ds) nT) ∈ LED ∧ ∀ q ∈ toldLed Ds, q ∈ LED := by
  subst h
  exact ⟨.head _, .tail _ (.head _), .tail _ (.tail _ (.head _)), .tail _ (.tail _ (.tail _ (.head _))), .tail _ (.tail _ (.tail _ (.tail _ (.head _)))), fun q hq => .tail _ (.tail _ (.tail _ (.tail _ (.tail _ hq))))⟩
theorem compKAF {prog : Program} {w : World} {A : Around} {E : Value → Shared → Prop} {s : Shared} {env : Env} {h₀ : Heap} {L : Addr} {m : Str → Option Value} {elt iter : Expr} {x y : Str} {px py : Pos} {ifs : List Expr} {scope : Scope} {cl : List (Str × Addr)} {pos spos : Pos} {Q : Flow → Shared → Prop} (hF9 : Fr h₀ L s.heap m)
    (hLe : env.locals = L) (hsw : swapsWith (.ListComp elt [⟨.Name x px, iter, ifs, 0⟩] scope pos) (some (.Name y py)) spos.line env = pure true)
    (hclos : closureFor scope env = pure cl) (hcf : ∀ n cl, cellsFrom n scope.names cl = (x, n) :: cl) (hpc : ∀ h, pushCells h scope.names = h.push { cls := .type "cell", data := .cell none }) (hkind : scope.kind = .function)
    (hnames : ∀ y ∈ scope.names, y.2 = .local → scope.names.lookup y.1 = some .local) (hx : ∀ C cl, (compEnvC scope cl C env).kindOf x = some .cell)
    (hy : env.kindOf y = some .local) (hp : (env.scope.kind == .class || (env.scope.kind == .module && env.locals != env.globals)) = false)
    (h : wpAny (model prog w) A (eval iter env) (fun xv s₁ => wpAny (model prog w) A (pyIter xv) (fun it s₂ => CompAtK prog w A h₀ L m env scope cl x ifs elt (fun D z => if z = y then some (.ref D) else m z) (fun _ s' => Q .next s') it s₂) E s₁) E s)
    (hs : ∀ x, foldedSetIterable iter env x = pure x := by intro _; rfl) :
    wpAny (model prog w) A (exec (.Assign [.Name y py] (.ListComp elt [⟨.Name x px, iter, ifs, 0⟩] scope pos) spos) env) Q E s := compKA hLe hsw hclos hcf hpc hkind hnames hx hy hp h hs
theorem told_fs {first second : Str} {ws : List (Str × Tok)} (h : ws.map wl = mixL first.cps.toList second.cps.toList second.length) :
    (ws.map fun p => fallsF p.1) = (mixL first.cps.toList second.cps.toList second.length).map fun w => fallsF (sOf w) := by
  rw [← h, List.map_map]
  refine List.map_congr_left fun p _ => ?_
  show fallsF p.1 = fallsF (sOf p.1.cps.toList)
  rw [sOf_cps]
theorem mixed_words {a b : Int} {ws : List (Str × Tok)} (h : ws.map wl = mixL (firstS a b).cps.toList (secondS a b).cps.toList (secondS a b).length) : (∀ p ∈ ws, p.1.length = 5) ∧ ws.length ≤ 120 := by
  have sz := sizeN_b b
  have e1 : (firstS a b).cps.toList.length = sizeN b := by rw [len_cps, firstS_len]
  refine ⟨fun p hp => ?_, ?_⟩
  · have hm : wl p ∈ ws.map wl := List.mem_map_of_mem hp
    rw [h] at hm
    have := mixL_word _ _ hm
    rw [e1, secondS_len] at this
    have e : (wl p).length = p.1.length := len_cps _
    (first | (with_reducible first | assumption | exact Nat.le_trans (by assumption) (by decide) | exact Nat.lt_of_le_of_lt (by assumption) (by decide) | (refine Nat.ne_of_lt ?_; (repeat (first | assumption | refine Nat.lt_trans (by assumption) ?_)); done) | (refine Nat.ne_of_gt ?_; (repeat (first | assumption | refine Nat.lt_trans (by assumption) ?_)); done) | ((repeat (first | assumption | refine Nat.lt_trans (by assumption) ?_)); done)) | omega)
  · have h1 := mixL_len (fi := (firstS a b).cps.toList) (sc := (secondS a b).cps.toList) (secondS a b).length
    rw [← h, List.length_map, e1, secondS_len] at h1
    have h2 := bnd_ok ⟨sizeN b, by (first | (with_reducible first | assumption | exact Nat.le_trans (by assumption) (by decide) | exact Nat.lt_of_le_of_lt (by assumption) (by decide) | (refine Nat.ne_of_lt ?_; (repeat (first | assumption | refine Nat.lt_trans (by assumption) ?_)); done) | (refine Nat.ne_of_gt ?_; (repeat (first | assumption | refine Nat.lt_trans (by assumption) ?_)); done) | ((repeat (first | assumption | refine Nat.lt_trans (by assumption) ?_)); done)) | omega)⟩ ⟨5 - sizeN b, by (first | (with_reducible first | assumption | exact Nat.le_trans (by assumption) (by decide) | exact Nat.lt_of_le_of_lt (by assumption) (by decide) | (refine Nat.ne_of_lt ?_; (repeat (first | assumption | refine Nat.lt_trans (by assumption) ?_)); done) | (refine Nat.ne_of_gt ?_; (repeat (first | assumption | refine Nat.lt_trans (by assumption) ?_)); done) | ((repeat (first | assumption | refine Nat.lt_trans (by assumption) ?_)); done)) | omega)⟩ (by dsimp only; (first | (with_reducible first | assumption | exact Nat.le_trans (by assumption) (by decide) | exact Nat.lt_of_le_of_lt (by assumption) (by decide) | (refine Nat.ne_of_lt ?_; (repeat (first | assumption | refine Nat.lt_trans (by assumption) ?_)); done) | (refine Nat.ne_of_gt ?_; (repeat (first | assumption | refine Nat.lt_trans (by assumption) ?_)); done) | ((repeat (first | assumption | refine Nat.lt_trans (by assumption) ?_)); done)) | omega)) (by dsimp only; (first | (with_reducible first | assumption | exact Nat.le_trans (by assumption) (by decide) | exact Nat.lt_of_le_of_lt (by assumption) (by decide) | (refine Nat.ne_of_lt ?_; (repeat (first | assumption | refine Nat.lt_trans (by assumption) ?_)); done) | (refine Nat.ne_of_gt ?_; (repeat (first | assumption | refine Nat.lt_trans (by assumption) ?_)); done) | ((repeat (first | assumption | refine Nat.lt_trans (by assumption) ?_)); done)) | omega))
    dsimp only at h2
    (first | (with_reducible first | assumption | exact Nat.le_trans (by assumption) (by decide) | exact Nat.lt_of_le_of_lt (by assumption) (by decide) | (refine Nat.ne_of_lt ?_; (repeat (first | assumption | refine Nat.lt_trans (by assumption) ?_)); done) | (refine Nat.ne_of_gt ?_; (repeat (first | assumption | refine Nat.lt_trans (by assumption) ?_)); done) | ((repeat (first | assumption | refine Nat.lt_trans (by assumption) ?_)); done)) | omega)
end Mine
end
section
open PySem PySem.W PyProof.Rows Mine
set_option Elab.async false
set_option maxRecDepth 100000
set_option maxHeartbeats 8000000
namespace Mine
theorem news_86 {h₀ h : Heap} {L : Addr} {a b c d e f : Addr × Obj} (N : News h₀ L h [a, b, c, d, e, f]) : News h₀ L h [f, a, b, c, d, e] := fun q hq => N q (by
  simp only [List.mem_cons, List.not_mem_nil, or_false] at hq ⊢
  grind)
theorem law_w : PySem.Challenge.rw_re0041_01.Holds := hd (by
  k_fill
  intro w s₀ s₁ mg mb G Y fa o pm cd doc dV kV ho hd' hcd hD hmg hg0 args vals as hpre hlay hrd hwl hlo
  have KX := km_in_of Y
  km_tabs Y
  have X := (Ground.X G).1
  have V := (Ground.X G).2
  refine Ground.open G ?_
  intro T B D TE TW
  try (refine guard_noD D (by decide +kernel) ?_; clear D)
  km_lay T hmg ho hd' cd
  clear hmg
  wrow_args hpre hlay hrd hwl hlo
  all_goals (
    first | refine callC_kw (enter_call ?_) | refine enter_call ?_
    w_top on
    refine' kn_postB hT9 (fun _ _ => rfl) ?hp ?_
    case hp =>
      refine' postW_of ?pA ?pB ?pC
      case pA => o_shape
      case pB => wtm_val
      case pC => first | rfl | w_fin
    w_call any ho hd' hcd hD T F
    clear hd'
    kn_ghosts F T
    k_drop
    skip)
  (all_goals try k_fold)
  have k1 := held "call ref"
  have k2 := held "compareOp NotEq ref ref"
  have k3 := held "compareOp Eq ref ref"
  have k4 := held "call builtin:str.count"
  have k5 := held "compareOp NotEq int int"
  have k6 := held "call type:enumerate"
  have k7 := held "call builtin:sum"
  have k8 := held "call builtin:len"
  have k9 := held "call builtin:len cons nil"
  have k10 := held "compareOp Eq int int"
  have k11 := held "binaryOp Pow int int"
  have k12 := held "GoodB"
  have k13 := held "pyIter ref"
  have k14 := held "eval ListComp"
  have k15 := held "exec Assign cons ListComp"
  refine quiet ?_
  intro Q9 hQ9
  k_steps
  all_goals try (refine hQ9 _ _ ?_; k_steps)
  refine unhold ?_
  rename IntsAre _ _ => hI
  rename Fr _ _ _ _ => F1
  rename News _ _ _ _ => N1
  rename Top _ _ _ _ _ _ => T1
  rename Frag.In _ _ => X1
  rename _ ∧ _ ∧ _ ∧ _ ∧ @LT.lt Nat _ 86 _ => lS

  refine' forgetA rfl (Nat.le_refl _) (Nat.le_refl _) (sums_c _ _ _ _ hI ?hz 579 1 8 _ _ _ _ _ ?hoff (by decide) (by decide) (by decide) (by decide) (by decide) (by decide) _ _ _ _ _ _ _ _ F1 X1 N1 T1 ?hr ?hu ⟨lifted, ?_⟩)
  case hz => have := hI.length; (first | (with_reducible first | assumption | exact Nat.le_trans (by assumption) (by decide) | exact Nat.lt_of_le_of_lt (by assumption) (by decide) | (refine Nat.ne_of_lt ?_; (repeat (first | assumption | refine Nat.lt_trans (by assumption) ?_)); done) | (refine Nat.ne_of_gt ?_; (repeat (first | assumption | refine Nat.lt_trans (by assumption) ?_)); done) | ((repeat (first | assumption | refine Nat.lt_trans (by assumption) ?_)); done)) | omega)
  case hoff =>
    intro q hq
    simp only [List.mem_cons, List.not_mem_nil, or_false] at hq
    rcases hq with rfl | rfl | rfl | rfl | rfl <;> exact neN (by (first | (with_reducible first | assumption | exact Nat.le_trans (by assumption) (by decide) | exact Nat.lt_of_le_of_lt (by assumption) (by decide) | (refine Nat.ne_of_lt ?_; (repeat (first | assumption | refine Nat.lt_trans (by assumption) ?_)); done) | (refine Nat.ne_of_gt ?_; (repeat (first | assumption | refine Nat.lt_trans (by assumption) ?_)); done) | ((repeat (first | assumption | refine Nat.lt_trans (by assumption) ?_)); done)) | omega))
  case hr => dsimp only [Around.deeper, callerA]; decide
  case hu => dsimp only [Around.deeper, callerA]; decide
  intro a b c ta tb tc n hS tkS ha hb hc ha1 hb1 hc1 FS NS
  clear F1 N1
  dsimp only
  k_steps
  all_goals try (refine hQ9 _ _ ?_; k_steps)
  refine unhold ?_
  rename Fr _ _ _ _ => F1
  rename News _ _ _ _ => N1
  refine' forgetA rfl (Nat.le_refl _) (Nat.le_refl _) (picked_c a _ _ ha ha1 _ _ _ _ _ _ _ _ F1 X1 N1 T1 ?hr ?hu ?_)
  case hr => dsimp only [Around.deeper, callerA]; decide
  case hu => dsimp only [Around.deeper, callerA]; decide
  intro tP hP tkP FP NP
  clear F1 N1
  dsimp only
  k_steps
  all_goals try (refine hQ9 _ _ ?_; k_steps)
  refine unhold ?_
  rename Fr _ _ _ _ => F1
  rename News _ _ _ _ => N1
  rename _ = Data.cell (some (Value.str (Txt.slice (pickS a) (some _) none) _)) => d2
  rename _ = Data.cell (some (Value.str (Txt.slice (pickS a) none (some _)) _)) => d1
  rw [show [a, b, c].getD (Int.toNat 1) 0 = b from rfl] at d1 d2 F1 ⊢
  rw [firstS_eq] at d1 ⊢
  rw [secondS_eq] at d2
  rw [show [a, b, c].getD (Int.toNat 2) 0 = c from rfl]
  have sz := sizeN_b b
  refine' forgetA rfl (Nat.le_refl _) (Nat.le_refl _) (written_c (firstS a b) c _ _ _ ?w1 ?w2 hc hc1 _ _ _ _ _ _ _ _ F1 X1 N1 T1 ?hr ?hu ?_)
  case w1 => rw [firstS_len]; (first | (with_reducible first | assumption | exact Nat.le_trans (by assumption) (by decide) | exact Nat.lt_of_le_of_lt (by assumption) (by decide) | (refine Nat.ne_of_lt ?_; (repeat (first | assumption | refine Nat.lt_trans (by assumption) ?_)); done) | (refine Nat.ne_of_gt ?_; (repeat (first | assumption | refine Nat.lt_trans (by assumption) ?_)); done) | ((repeat (first | assumption | refine Nat.lt_trans (by assumption) ?_)); done)) | omega)
  case w2 => rw [firstS_len]; (first | (with_reducible first | assumption | exact Nat.le_trans (by assumption) (by decide) | exact Nat.lt_of_le_of_lt (by assumption) (by decide) | (refine Nat.ne_of_lt ?_; (repeat (first | assumption | refine Nat.lt_trans (by assumption) ?_)); done) | (refine Nat.ne_of_gt ?_; (repeat (first | assumption | refine Nat.lt_trans (by assumption) ?_)); done) | ((repeat (first | assumption | refine Nat.lt_trans (by assumption) ?_)); done)) | omega)
  case hr => dsimp only [Around.deeper, callerA]; decide
  case hu => dsimp only [Around.deeper, callerA]; decide
  intro tW hW tkW FW NW
  clear F1 N1
  dsimp only
  k_steps
  all_goals try (refine hQ9 _ _ ?_; k_steps)
  refine unhold ?_
  rename Fr _ _ _ _ => F1
  rename News _ _ _ _ => N1
  try rw [show [a, b, c].getD (Int.toNat 2) 0 = c from rfl]
  try rw [secondS_eq]
  have c8 : 0 ≤ c.fdiv 8 ∧ c.fdiv 8 < 1000000000 := by
    have := Int.mul_fdiv_add_fmod c 8
    have q1 := Int.fmod_nonneg_of_pos c (show (0 : Int) < 8 by decide)
    have q2 := Int.fmod_lt_of_pos c (show (0 : Int) < 8 by decide)
    (first | (with_reducible first | assumption | exact Nat.le_trans (by assumption) (by decide) | exact Nat.lt_of_le_of_lt (by assumption) (by decide) | (refine Nat.ne_of_lt ?_; (repeat (first | assumption | refine Nat.lt_trans (by assumption) ?_)); done) | (refine Nat.ne_of_gt ?_; (repeat (first | assumption | refine Nat.lt_trans (by assumption) ?_)); done) | ((repeat (first | assumption | refine Nat.lt_trans (by assumption) ?_)); done)) | omega)
  refine' forgetA rfl (Nat.le_refl _) (Nat.le_refl _) (written_c (secondS a b) (c.fdiv 8) _ _ _ ?w1 ?w2 c8.1 c8.2 _ _ _ _ _ _ _ _ F1 X1 N1 T1 ?hr ?hu ?_)
  case w1 => rw [secondS_len]; (first | (with_reducible first | assumption | exact Nat.le_trans (by assumption) (by decide) | exact Nat.lt_of_le_of_lt (by assumption) (by decide) | (refine Nat.ne_of_lt ?_; (repeat (first | assumption | refine Nat.lt_trans (by assumption) ?_)); done) | (refine Nat.ne_of_gt ?_; (repeat (first | assumption | refine Nat.lt_trans (by assumption) ?_)); done) | ((repeat (first | assumption | refine Nat.lt_trans (by assumption) ?_)); done)) | omega)
  case w2 => rw [secondS_len]; (first | (with_reducible first | assumption | exact Nat.le_trans (by assumption) (by decide) | exact Nat.lt_of_le_of_lt (by assumption) (by decide) | (refine Nat.ne_of_lt ?_; (repeat (first | assumption | refine Nat.lt_trans (by assumption) ?_)); done) | (refine Nat.ne_of_gt ?_; (repeat (first | assumption | refine Nat.lt_trans (by assumption) ?_)); done) | ((repeat (first | assumption | refine Nat.lt_trans (by assumption) ?_)); done)) | omega)
  case hr => dsimp only [Around.deeper, callerA]; decide
  case hu => dsimp only [Around.deeper, callerA]; decide
  intro tV hV tkV FV NV
  clear F1 N1
  have q1 := written_len12 a b c
  have q2 := written_len12' a b (c.fdiv 8)
  have q3 := text_len a b c (c.fdiv 8)
  dsimp only
  k_steps
  all_goals try (refine hQ9 _ _ ?_; k_steps)
  refine unhold ?_
  rename Fr _ _ _ _ => F1
  rename News _ _ _ _ => N1
  have N2 := news_86 N1
  clear N1
  refine' forgetA rfl (Nat.le_refl _) (Nat.le_refl _) (lexer_c (writtenF (firstS a b) c ++ writtenF (secondS a b) (c.fdiv 8)) _ _ ?lz ?l86 _ _ _ _ _ _ _ _ F1 X1 N2 T1 ?hr ?hu ⟨codeHd, ?_⟩)
  case lz => (first | (with_reducible first | assumption | exact Nat.le_trans (by assumption) (by decide) | exact Nat.lt_of_le_of_lt (by assumption) (by decide) | (refine Nat.ne_of_lt ?_; (repeat (first | assumption | refine Nat.lt_trans (by assumption) ?_)); done) | (refine Nat.ne_of_gt ?_; (repeat (first | assumption | refine Nat.lt_trans (by assumption) ?_)); done) | ((repeat (first | assumption | refine Nat.lt_trans (by assumption) ?_)); done)) | omega)
  case l86 =>
    intro q hq
    simp only [List.mem_cons, List.not_mem_nil, or_false] at hq
    rcases hq with rfl | rfl | rfl | rfl | rfl <;> exact neN (by (first | (with_reducible first | assumption | exact Nat.le_trans (by assumption) (by decide) | exact Nat.lt_of_le_of_lt (by assumption) (by decide) | (refine Nat.ne_of_lt ?_; (repeat (first | assumption | refine Nat.lt_trans (by assumption) ?_)); done) | (refine Nat.ne_of_gt ?_; (repeat (first | assumption | refine Nat.lt_trans (by assumption) ?_)); done) | ((repeat (first | assumption | refine Nat.lt_trans (by assumption) ?_)); done)) | omega))
  case hr => dsimp only [Around.deeper, callerA]; decide
  case hu => dsimp only [Around.deeper, callerA]; decide
  rintro P tl l cl hX tkX hLex ⟨ps86, h86⟩ hl FX NX
  clear F1 N2
  refine store_third rfl rfl rfl FX NX (by assumption) hLex.n1 (neN (by (first | (with_reducible first | assumption | exact Nat.le_trans (by assumption) (by decide) | exact Nat.lt_of_le_of_lt (by assumption) (by decide) | (refine Nat.ne_of_lt ?_; (repeat (first | assumption | refine Nat.lt_trans (by assumption) ?_)); done) | (refine Nat.ne_of_gt ?_; (repeat (first | assumption | refine Nat.lt_trans (by assumption) ?_)); done) | ((repeat (first | assumption | refine Nat.lt_trans (by assumption) ?_)); done)) | omega))) (neN (by (first | (with_reducible first | assumption | exact Nat.le_trans (by assumption) (by decide) | exact Nat.lt_of_le_of_lt (by assumption) (by decide) | (refine Nat.ne_of_lt ?_; (repeat (first | assumption | refine Nat.lt_trans (by assumption) ?_)); done) | (refine Nat.ne_of_gt ?_; (repeat (first | assumption | refine Nat.lt_trans (by assumption) ?_)); done) | ((repeat (first | assumption | refine Nat.lt_trans (by assumption) ?_)); done)) | omega))) (neN (by (first | (with_reducible first | assumption | exact Nat.le_trans (by assumption) (by decide) | exact Nat.lt_of_le_of_lt (by assumption) (by decide) | (refine Nat.ne_of_lt ?_; (repeat (first | assumption | refine Nat.lt_trans (by assumption) ?_)); done) | (refine Nat.ne_of_gt ?_; (repeat (first | assumption | refine Nat.lt_trans (by assumption) ?_)); done) | ((repeat (first | assumption | refine Nat.lt_trans (by assumption) ?_)); done)) | omega))) (neN (by (first | (with_reducible first | assumption | exact Nat.le_trans (by assumption) (by decide) | exact Nat.lt_of_le_of_lt (by assumption) (by decide) | (refine Nat.ne_of_lt ?_; (repeat (first | assumption | refine Nat.lt_trans (by assumption) ?_)); done) | (refine Nat.ne_of_gt ?_; (repeat (first | assumption | refine Nat.lt_trans (by assumption) ?_)); done) | ((repeat (first | assumption | refine Nat.lt_trans (by assumption) ?_)); done)) | omega))) ?_
  intro hY oL FY NY dL
  have hO5 := hLex.n1
  have hLex2 := hLex.to (off_third hO5 (o' := oL))
  clear FX NX hLex
  obtain ⟨m0, t0, hm0, F0⟩ : ∃ m0 t0, m0 (Str.ofString "text") = some (Value.str (writtenF (firstS a b) c ++ writtenF (secondS a b) (c.fdiv 8)) t0) ∧ Fr _ _ _ m0 := ⟨_, _, by with_unfolding_all rfl, FY⟩
  clear FY
  have FY := frB [(Str.ofString "text", Value.str (writtenF (firstS a b) c ++ writtenF (secondS a b) (c.fdiv 8)) t0)] (List.forall_mem_cons.mpr ⟨hm0, List.forall_mem_nil _⟩) F0
  dsimp only [kstB] at FY
  clear F0
  dsimp only
  have NY' := NY
  dsimp only [lexLed] at NY
  k_steps
  all_goals try (refine hQ9 _ _ ?_; k_steps)
  refine unhold ?_
  clear NY
  have XX := X1
  have TT := T1
  have hl0 := hl
  obtain ⟨hlx, hls, hl3⟩ := three_lex a b c (c.fdiv 8) hl
  rename Fr _ _ _ _ => F1
  with_unfolding_all refine' compGF F1 ?k1 ?k2 ?k3 ?k4 ?k5 ?_
  case k1 => exact rfl
  case k2 => decide
  case k3 => exact rfl
  case k4 => decide
  case k5 => exact rfl
  k_steps
  all_goals try (refine hQ9 _ _ ?_; k_steps)
  refine unhold ?_
  rename IsRange _ _ _ _ _ _ _ _ => hr
  rename Fr _ _ _ _ => F3
  rename News _ _ _ _ => N3
  refine' compRange (n := 3) (lexLed w P 1 tl l cl [] 0 ?NW) [] (fun i ys nx gs => ∃ tl' c', nx = lexLed w P (1 + nlc l - nlc (lexN l i)) tl' (lexN l i) c' [] 0 ?NW ∧ StrsAre ys ((List.range i).map (lexS l)) ∧ Mine.AllBare gs) rfl hr (by decide) (by decide) (by (first | (with_reducible first | assumption | exact Nat.le_trans (by assumption) (by decide) | exact Nat.lt_of_le_of_lt (by assumption) (by decide) | (refine Nat.ne_of_lt ?_; (repeat (first | assumption | refine Nat.lt_trans (by assumption) ?_)); done) | (refine Nat.ne_of_gt ?_; (repeat (first | assumption | refine Nat.lt_trans (by assumption) ?_)); done) | ((repeat (first | assumption | refine Nat.lt_trans (by assumption) ?_)); done)) | omega)) F3 (by rw [List.append_nil]; exact N3) ⟨tl, cl, ?j0, .nil, ?jb⟩ ?len ?turn ?done
  case j0 => rw [show 1 + nlc l - nlc (lexN l 0) = 1 from by show 1 + nlc l - nlc l = 1; (first | (with_reducible first | assumption | exact Nat.le_trans (by assumption) (by decide) | exact Nat.lt_of_le_of_lt (by assumption) (by decide) | (refine Nat.ne_of_lt ?_; (repeat (first | assumption | refine Nat.lt_trans (by assumption) ?_)); done) | (refine Nat.ne_of_gt ?_; (repeat (first | assumption | refine Nat.lt_trans (by assumption) ?_)); done) | ((repeat (first | assumption | refine Nat.lt_trans (by assumption) ?_)); done)) | omega)]; rfl
  case jb =>
    dsimp only
    rw [hg0]
    exact fun _ h => by simp at h
  case len =>
    rintro i ys nx gs ⟨tl', c', -, hy, -⟩
    rw [strs_len hy]
    simp
  case turn =>
    rintro g C D2 i tv ys nD news₁ gs h tk m₁ own E' hi ⟨tl', c', rfl, hys, hbare⟩ hadr hown hlt hlo hDC st2 FG F N
    have X1 := XX.keeps st2
    have T1 := TT.keeps st2
    have hD2 : @LT.lt Nat _ P.pb D2 := ltN (hlt (P.pb, _) (.tail _ (.head _)))
    have N7 : News g C h (lexLed w P (1 + nlc l - nlc (lexN l i)) tl' (lexN l i) c' [] 0 ((D2, lsO ys nD) :: _ :: (_ ++ own))) := fun q hq => N q (lex_in hq)
    have hP4 := hLex2.to (off_cons (a := D2) (o := lsO ys nD) (fun b hb => neN (by have := hLex2.top b hb; (first | (with_reducible first | assumption | exact Nat.le_trans (by assumption) (by decide) | exact Nat.lt_of_le_of_lt (by assumption) (by decide) | (refine Nat.ne_of_lt ?_; (repeat (first | assumption | refine Nat.lt_trans (by assumption) ?_)); done) | (refine Nat.ne_of_gt ?_; (repeat (first | assumption | refine Nat.lt_trans (by assumption) ?_)); done) | ((repeat (first | assumption | refine Nat.lt_trans (by assumption) ?_)); done)) | omega))) (off_app hLex2.n1 (fun q hq b hb => neN (by
        have a1 := ltN (hown q hq (P.pb, _) (.tail _ (.head _)))
        have a2 := hLex2.top b hb
        (first | (with_reducible first | assumption | exact Nat.le_trans (by assumption) (by decide) | exact Nat.lt_of_le_of_lt (by assumption) (by decide) | (refine Nat.ne_of_lt ?_; (repeat (first | assumption | refine Nat.lt_trans (by assumption) ?_)); done) | (refine Nat.ne_of_gt ?_; (repeat (first | assumption | refine Nat.lt_trans (by assumption) ?_)); done) | ((repeat (first | assumption | refine Nat.lt_trans (by assumption) ?_)); done)) | omega)) : OwnOff own (lexAdr P))))
    clear N
    dsimp only [List.cons_append, List.nil_append] at hP4
    dsimp only [lexLed, List.cons_append, List.nil_append] at N7
    k_steps
    all_goals try (refine hQ9 _ _ ?_; k_steps)
    refine unhold ?_
    dsimp only [List.append_nil]
    rename Fr g C _ _ => F5
    rename News g C _ _ => N5
    refine' forgetA rfl (Nat.le_refl _) (Nat.le_refl _) (token_c P _ hP4 _ tl' (lexN l i) c' 0 (hlx i hi) _ _ _ _ _ _ _ _ F5 X1 N5 T1 ?hr ?hu ?_)
    case hr => dsimp only [Around.deeper, callerA]; decide
    case hu => dsimp only [Around.deeper, callerA]; decide
    intro t6 tl6 c6 h6 tk6 F6 N6
    rw [show 1 + nlc l - nlc (lexN l i) + nlc (lexN l i) - nlc (lexT (lexN l i)).2 = 1 + nlc l - nlc (lexN l (i + 1)) from by show _ = 1 + nlc l - nlc (lexT (lexN l i)).2; (first | (with_reducible first | assumption | exact Nat.le_trans (by assumption) (by decide) | exact Nat.lt_of_le_of_lt (by assumption) (by decide) | (refine Nat.ne_of_lt ?_; (repeat (first | assumption | refine Nat.lt_trans (by assumption) ?_)); done) | (refine Nat.ne_of_gt ?_; (repeat (first | assumption | refine Nat.lt_trans (by assumption) ?_)); done) | ((repeat (first | assumption | refine Nat.lt_trans (by assumption) ?_)); done)) | omega), show (lexT (lexN l i)).2 = lexN l (i + 1) from rfl] at N6
    refine ⟨_, _, _, _, lexLed w P (1 + nlc l - nlc (lexN l (i + 1))) tl6 (lexN l (i + 1)) c6 [] 0 _, rfl, F6, fun q hq => N6 q (lex_out hq), rfl, tl6, c6, rfl, ?_, hbare⟩
    rw [List.range_succ, List.map_append]
    exact strs_snoc hys
  case done =>
    rintro D2 ys nD news₁ gs h' tk ⟨tl', c', rfl, hys, hbare⟩ - hlt F N
    rw [hl3] at N
    rw [hls] at hys
    rw [show 1 + nlc l - nlc [] = 1 + nlc l from by show 1 + nlc l - 0 = _; (first | (with_reducible first | assumption | exact Nat.le_trans (by assumption) (by decide) | exact Nat.lt_of_le_of_lt (by assumption) (by decide) | (refine Nat.ne_of_lt ?_; (repeat (first | assumption | refine Nat.lt_trans (by assumption) ?_)); done) | (refine Nat.ne_of_gt ?_; (repeat (first | assumption | refine Nat.lt_trans (by assumption) ?_)); done) | ((repeat (first | assumption | refine Nat.lt_trans (by assumption) ?_)); done)) | omega)] at N
    dsimp only [List.append_nil, lexLed] at N
    k_steps
    all_goals try (refine hQ9 _ _ ?_; k_steps)
    refine unhold ?_
    rename News _ _ _ _ => N9
    refine ne_strs (isList_led N9 (by k_mem)) (isList_led N9 (by k_mem)) hys (.cons _ _ (.cons _ _ (.cons _ _ .nil))) (ok_three a b) (by dsimp only [Around.deeper, callerA]; decide) ?_
    k_steps
    all_goals try (refine hQ9 _ _ ?_; k_steps)
    refine unhold ?_
    dsimp only [List.nil_append, List.cons_append]
    refine KXw.count (text_count l _ hl0) ?_
    intro tC kC
    k_steps
    all_goals try (refine hQ9 _ _ ?_; k_steps)
    refine unhold ?_
    refine ne_int ?_
    rw [bne_self_eq_false]
    k_steps
    all_goals try (refine hQ9 _ _ ?_; k_steps)
    refine unhold ?_
    refine assign_one ?_ rfl
    have N2 := news_t (news_t N9)
    clear N9 hys
    rename Fr _ _ _ _ => F9
    with_unfolding_all refine' compPRF F9 ?k1 ?k2 ?k3 ?k4 ?k5 ?k6 ?k7 ?_
    case k1 => exact rfl
    case k2 => decide
    case k3 => exact rfl
    case k4 => decide
    case k5 => exact rfl
    case k6 => exact rfl
    case k7 => exact rfl
    k_steps
    all_goals try (refine hQ9 _ _ ?_; k_steps)
    refine unhold ?_
    try rw [List.append_nil] at N2
    rename Fr _ _ _ _ => F8
    refine' forgetA rfl (Nat.le_refl _) (Nat.le_refl _) (mixed_c P _ hLex2 (1 + nlc l) tl' [] c' 0 (firstS a b) (secondS a b) _ _ ?m1 ?m2 ?m3 (second_asc a b) _ _ _ _ _ _ _ _ F8 XX N2 TT ?hr ?hu ?_)
    case m1 => rw [firstS_len, secondS_len]; (first | (with_reducible first | assumption | exact Nat.le_trans (by assumption) (by decide) | exact Nat.lt_of_le_of_lt (by assumption) (by decide) | (refine Nat.ne_of_lt ?_; (repeat (first | assumption | refine Nat.lt_trans (by assumption) ?_)); done) | (refine Nat.ne_of_gt ?_; (repeat (first | assumption | refine Nat.lt_trans (by assumption) ?_)); done) | ((repeat (first | assumption | refine Nat.lt_trans (by assumption) ?_)); done)) | omega)
    case m2 => rw [firstS_len]; (first | (with_reducible first | assumption | exact Nat.le_trans (by assumption) (by decide) | exact Nat.lt_of_le_of_lt (by assumption) (by decide) | (refine Nat.ne_of_lt ?_; (repeat (first | assumption | refine Nat.lt_trans (by assumption) ?_)); done) | (refine Nat.ne_of_gt ?_; (repeat (first | assumption | refine Nat.lt_trans (by assumption) ?_)); done) | ((repeat (first | assumption | refine Nat.lt_trans (by assumption) ?_)); done)) | omega)
    case m3 => rw [secondS_len]; (first | (with_reducible first | assumption | exact Nat.le_trans (by assumption) (by decide) | exact Nat.lt_of_le_of_lt (by assumption) (by decide) | (refine Nat.ne_of_lt ?_; (repeat (first | assumption | refine Nat.lt_trans (by assumption) ?_)); done) | (refine Nat.ne_of_gt ?_; (repeat (first | assumption | refine Nat.lt_trans (by assumption) ?_)); done) | ((repeat (first | assumption | refine Nat.lt_trans (by assumption) ?_)); done)) | omega)
    case hr => dsimp only [Around.deeper, callerA]; decide
    case hu => dsimp only [Around.deeper, callerA]; decide
    intro DM ws nM nP hM tkM hws hDM hNW FM NM
    clear N2 F8
    obtain ⟨hw5, hwn⟩ := mixed_words hws
    have hfs := told_fs hws
    dsimp only
    k_steps
    all_goals try (refine hQ9 _ _ ?_; k_steps)
    refine unhold ?_
    refine compEnumR (vs := strValues ws) ((DM, lsO (strValues ws) nM) :: lexLed w P (1 + nlc l) tl' [] c' [] nP _) (fun i ys nx gs => ∃ Ds, nx = toldLed Ds ∧ ys = toldVals Ds ∧ ToldAt Ds ((ws.map fun p => fallsF p.1).take i) ∧ Mine.AllBare gs) rfl (isList_led NM (.head _)) ?vsz FM NM ⟨[], rfl, rfl, ⟨rfl, fun j d f h => by simp at h⟩, hbare⟩ ?len ?turn ?done
    case vsz => unfold strValues; rw [List.length_map]; (first | (with_reducible first | assumption | exact Nat.le_trans (by assumption) (by decide) | exact Nat.lt_of_le_of_lt (by assumption) (by decide) | (refine Nat.ne_of_lt ?_; (repeat (first | assumption | refine Nat.lt_trans (by assumption) ?_)); done) | (refine Nat.ne_of_gt ?_; (repeat (first | assumption | refine Nat.lt_trans (by assumption) ?_)); done) | ((repeat (first | assumption | refine Nat.lt_trans (by assumption) ?_)); done)) | omega)
    case len =>
      rintro i ys nx gs ⟨Ds, -, rfl, hT, -⟩
      have := hT.1
      unfold toldVals
      rw [List.length_map, this, List.length_take]
      (first | (with_reducible first | assumption | exact Nat.le_trans (by assumption) (by decide) | exact Nat.lt_of_le_of_lt (by assumption) (by decide) | (refine Nat.ne_of_lt ?_; (repeat (first | assumption | refine Nat.lt_trans (by assumption) ?_)); done) | (refine Nat.ne_of_gt ?_; (repeat (first | assumption | refine Nat.lt_trans (by assumption) ?_)); done) | ((repeat (first | assumption | refine Nat.lt_trans (by assumption) ?_)); done)) | omega)
    case turn =>
      rintro g C D i t v ys nD news₁ gs h tk m₁ own E' hvi ⟨Ds, rfl, rfl, hT, hb1⟩ hgrow hlt hlo hC st2 FG F N
      obtain ⟨⟨wd, tw⟩, hwi, rfl⟩ := strv_at hvi
      have X1 := XX.keeps st2
      have T1 := TT.keeps st2
      have hwd : wd.length = 5 := hw5 _ (List.mem_of_getElem? hwi)
      obtain ⟨LED, hLED, N7⟩ : ∃ LED, LED = _ ∧ News g C h LED := ⟨_, rfl, N⟩
      clear N
      dsimp only
      k_steps
      all_goals try (refine hQ9 _ _ ?_; k_steps)
      all_goals try k_data
      refine unhold ?_
      refine eq_int ?_
      k_steps
      all_goals try (refine hQ9 _ _ ?_; k_steps)
      all_goals try k_data
      refine unhold ?_
      try dsimp only [List.append_nil]
      rename Fr g C _ _ => F5
      rename News g C _ _ => N5
      refine' forgetA rfl (Nat.le_refl _) (Nat.le_refl _) (falls_c wd _ tw LED (unhold (by (first | (with_reducible first | assumption | exact Nat.le_trans (by assumption) (by decide) | exact Nat.lt_of_le_of_lt (by assumption) (by decide) | (refine Nat.ne_of_lt ?_; (repeat (first | assumption | refine Nat.lt_trans (by assumption) ?_)); done) | (refine Nat.ne_of_gt ?_; (repeat (first | assumption | refine Nat.lt_trans (by assumption) ?_)); done) | ((repeat (first | assumption | refine Nat.lt_trans (by assumption) ?_)); done)) | omega))) (by (first | (with_reducible first | assumption | exact Nat.le_trans (by assumption) (by decide) | exact Nat.lt_of_le_of_lt (by assumption) (by decide) | (refine Nat.ne_of_lt ?_; (repeat (first | assumption | refine Nat.lt_trans (by assumption) ?_)); done) | (refine Nat.ne_of_gt ?_; (repeat (first | assumption | refine Nat.lt_trans (by assumption) ?_)); done) | ((repeat (first | assumption | refine Nat.lt_trans (by assumption) ?_)); done)) | omega)) _ _ _ _ _ _ _ _ F5 X1 N5 T1 ?hr ?hu ?_)
      case hr => dsimp only [Around.deeper, callerA]; decide
      case hu => dsimp only [Around.deeper, callerA]; decide
      intro Di its nI h6 tk6 gs6 hIts hDi hb6 F6 N6
      subst hLED
      refine ⟨h6, gs6, tk6, _, toldLed Ds ++ [(Di, lsO its nI)], rfl, F6, fun q hq => N6 q (mem_snoc hq), grow_snoc hgrow hC (hDi _ (.head _)) (N6 _ (.head _)).2.1, Ds ++ [(Di, its, nI)], by simp [toldLed], by simp [toldVals], ?_, hb6 hb1⟩
      have e : ((ws.map fun p => fallsF p.1).take (i + 1)) = ((ws.map fun p => fallsF p.1).take i) ++ [fallsF wd] := by rw [List.take_add_one, List.getElem?_map, hwi]; rfl
      rw [e]
      exact hT.snoc hIts
    case done =>
      rintro DT ys nT news₁ gs h' tk ⟨Ds, rfl, rfl, hT, hb1⟩ hgrow hlt FT NT
      have e : ((ws.map fun p => fallsF p.1).take (strValues ws).length) = ws.map fun p => fallsF p.1 := List.take_of_length_le (by simp [strValues])
      rw [e] at hT
      clear e
      dsimp only
      refine wpAny_assign_Name ?_
      refine storeC_at rfl rfl rfl FT NT (.tail _ (List.mem_append_right _ (.tail _ (lex_own (r := []) (.tail _ (.head _)))))) (by assumption) ?_
      intro hT2 oT FT2 NT2 dT
      have hDT := hlt (_, _) (.tail _ (lex_own (r := []) (.tail _ (.head _))))
      have N8 := lastN_led NT2 hDT (by assumption) hgrow
      clear NT2 NT FT NM FM
      dsimp only
      k_steps
      all_goals try (refine hQ9 _ _ ?_; k_steps)
      refine unhold ?_
      rename Fr _ _ _ _ => F9
      have N9 := N8
      clear N8
      obtain ⟨LED, hLED, N8⟩ : ∃ LED, LED = _ ∧ News _ _ _ LED := ⟨_, rfl, N9⟩
      clear N9
      obtain ⟨hmT, hm2, hm1, hm86, hmD, hmDs⟩ := last_mems hLED
      clear hLED
      with_unfolding_all refine' compKAF F9 ?k0 ?k1 ?k2 ?k3 ?k4 ?k5 ?k6 ?k7 ?k8 ?k9 ?_
      case k0 => exact rfl
      case k1 => exact rfl
      case k2 => exact rfl
      case k3 => exact fun _ _ => rfl
      case k4 => exact fun _ => rfl
      case k5 => exact rfl
      case k6 => decide
      case k7 => exact fun _ _ => rfl
      case k8 => exact rfl
      case k9 => exact rfl
      k_steps
      all_goals try (refine hQ9 _ _ ?_; k_steps)
      all_goals try k_data
      refine unhold ?_
      rename IsRange _ _ _ _ _ _ _ _ => hr5
      rename Fr _ _ _ _ => F10
      rename News _ _ _ _ => N10
      refine compRangeK (n := 5) [] LED (fun i ys nx gs => nx = [] ∧ IntsAre ys ((List.range i).map fun (k : Nat) => heapF (ws.map fun p => fallsF p.1) (k : Int)) ∧ Mine.AllBare gs) rfl hr5 (by decide) (by decide) (by (first | (with_reducible first | assumption | exact Nat.le_trans (by assumption) (by decide) | exact Nat.lt_of_le_of_lt (by assumption) (by decide) | (refine Nat.ne_of_lt ?_; (repeat (first | assumption | refine Nat.lt_trans (by assumption) ?_)); done) | (refine Nat.ne_of_gt ?_; (repeat (first | assumption | refine Nat.lt_trans (by assumption) ?_)); done) | ((repeat (first | assumption | refine Nat.lt_trans (by assumption) ?_)); done)) | omega)) F10 N10 ⟨rfl, .nil, hb1⟩ ?len ?turn ?done
      case len =>
        rintro i ys nx gs ⟨-, hy, -⟩
        rw [hy.length]
        simp
      case turn =>
        rintro g C D i tv ys nD news₁ gs1 h tk m₁ own E' oK hi ⟨rfl, hys, hb2⟩ - hown hlt2 hlo hC st2 FG F hoK N
        have X1 := XX.keeps st2
        have T1 := TT.keeps st2
        obtain ⟨LQ, hLQ, N3⟩ : ∃ LQ, LQ = _ ∧ News g C h LQ := ⟨_, rfl, N⟩
        have sub : ∀ q ∈ LED, q ∈ LQ := fun q hq => by rw [hLQ]; exact .tail _ (.tail _ (List.mem_append_right _ (List.mem_append_left _ hq)))
        have hmK : (C + 1, oK) ∈ LQ := by rw [hLQ]; exact .tail _ (.head _)
        have N7 := news_c N3 (sub _ hmT) (news_c N3 hmK N3)
        clear N N3 N10
        dsimp only
        k_steps
        all_goals try (refine hQ9 _ _ ?_; k_steps)
        all_goals try k_data
        refine unhold ?_
        rename Fr g C _ _ => F5
        with_unfolding_all refine' compGF F5 ?k1 ?k2 ?k3 ?k4 ?k5 ?_
        case k1 => exact rfl
        case k2 => decide
        case k3 => exact rfl
        case k4 => decide
        case k5 => exact rfl
        k_steps
        all_goals try (refine hQ9 _ _ ?_; k_steps)
        all_goals try k_data
        refine unhold ?_
        rename Fr g C _ _ => F6
        rename News g C _ _ => N6
        refine compList (ax := DT) (vs := toldVals Ds) [] _ (fun j zs nx gs' => nx = [] ∧ IntsAre zs (heapS ((ws.map fun p => fallsF p.1).take j) (i : Int)) ∧ Mine.AllBare gs') rfl (isList_led N6 (.tail _ (.tail _ (sub _ hmD)))) (fun _ h => nomatch h) ?tl F6 N6 ⟨rfl, .nil, hb2⟩ ?len2 ?turn2 ?done2
        case tl =>
          have := hT.1
          unfold toldVals
          rw [List.length_map, this, List.length_map]
          (first | (with_reducible first | assumption | exact Nat.le_trans (by assumption) (by decide) | exact Nat.lt_of_le_of_lt (by assumption) (by decide) | (refine Nat.ne_of_lt ?_; (repeat (first | assumption | refine Nat.lt_trans (by assumption) ?_)); done) | (refine Nat.ne_of_gt ?_; (repeat (first | assumption | refine Nat.lt_trans (by assumption) ?_)); done) | ((repeat (first | assumption | refine Nat.lt_trans (by assumption) ?_)); done)) | omega)
        case len2 =>
          rintro j zs nx gs' ⟨-, hz, -⟩
          rw [hz.length]
          exact Nat.le_trans (heapS_len _ _) (by rw [List.length_take]; (first | (with_reducible first | assumption | exact Nat.le_trans (by assumption) (by decide) | exact Nat.lt_of_le_of_lt (by assumption) (by decide) | (refine Nat.ne_of_lt ?_; (repeat (first | assumption | refine Nat.lt_trans (by assumption) ?_)); done) | (refine Nat.ne_of_gt ?_; (repeat (first | assumption | refine Nat.lt_trans (by assumption) ?_)); done) | ((repeat (first | assumption | refine Nat.lt_trans (by assumption) ?_)); done)) | omega))
        case turn2 =>
          rintro g2 C2 D2 j v zs nD2 news₂ gs2 h2 tk2 m₂ own2 E2 hvj ⟨rfl, hzs, hb3⟩ - hown2 hlt3 hlo2 hDC2 st3 FG2 F2 N2
          obtain ⟨d, f, hdj, rfl, hfj, hdf, hmd⟩ := told_get hT hvj
          have X2 := X1.keeps st3
          have T2 := T1.keeps st3
          have hfm := List.mem_of_getElem? hfj
          obtain ⟨pw, hpw, hpe⟩ := List.mem_map.mp hfm
          have hfb := fallsF_bound (w := pw.1) (by have := hw5 _ hpw; (first | (with_reducible first | assumption | exact Nat.le_trans (by assumption) (by decide) | exact Nat.lt_of_le_of_lt (by assumption) (by decide) | (refine Nat.ne_of_lt ?_; (repeat (first | assumption | refine Nat.lt_trans (by assumption) ?_)); done) | (refine Nat.ne_of_gt ?_; (repeat (first | assumption | refine Nat.lt_trans (by assumption) ?_)); done) | ((repeat (first | assumption | refine Nat.lt_trans (by assumption) ?_)); done)) | omega)) (by have := hw5 _ hpw; (first | (with_reducible first | assumption | exact Nat.le_trans (by assumption) (by decide) | exact Nat.lt_of_le_of_lt (by assumption) (by decide) | (refine Nat.ne_of_lt ?_; (repeat (first | assumption | refine Nat.lt_trans (by assumption) ?_)); done) | (refine Nat.ne_of_gt ?_; (repeat (first | assumption | refine Nat.lt_trans (by assumption) ?_)); done) | ((repeat (first | assumption | refine Nat.lt_trans (by assumption) ?_)); done)) | omega))
          have hpe' : fallsF pw.1 = f := hpe
          rw [hpe'] at hfb
          have hdl := hdf.length
          obtain ⟨LR, hLR, N4⟩ : ∃ LR, LR = _ ∧ News g2 C2 h2 LR := ⟨_, rfl, N2⟩
          have hmd2 : (d.1, lsO d.2.1 d.2.2) ∈ LR := by rw [hLR]; exact .tail _ (List.mem_append_right _ (List.mem_append_left _ (.tail _ (.tail _ (sub _ (hmDs _ hmd))))))
          have hmK2 : (C + 1, oK) ∈ LR := by rw [hLR]; exact .tail _ (List.mem_append_right _ (List.mem_append_left _ (.tail _ (.head _))))
          have N5 := news_c N4 hmK2 N4
          clear N2 N4
          try clear N6
          try clear F6
          try clear F5
          try clear N7
          dsimp only
          k_steps
          all_goals try (refine hQ9 _ _ ?_; k_steps)
          all_goals try k_data
          refine unhold ?_
          rename News g2 C2 _ _ => N6
          refine len_led N6 (.tail _ hmd2) (by (first | (with_reducible first | assumption | exact Nat.le_trans (by assumption) (by decide) | exact Nat.lt_of_le_of_lt (by assumption) (by decide) | (refine Nat.ne_of_lt ?_; (repeat (first | assumption | refine Nat.lt_trans (by assumption) ?_)); done) | (refine Nat.ne_of_gt ?_; (repeat (first | assumption | refine Nat.lt_trans (by assumption) ?_)); done) | ((repeat (first | assumption | refine Nat.lt_trans (by assumption) ?_)); done)) | omega)) ?_
          k_steps
          all_goals try (refine hQ9 _ _ ?_; k_steps)
          all_goals try k_data
          refine unhold ?_
          refine eq_int ?_
          by_cases hq : (d.2.1.length : Int) = (i : Int)
          · rw [show ((d.2.1.length : Int) == 0 + (i : Int)) = true from by simp; (first | (with_reducible first | assumption | exact Nat.le_trans (by assumption) (by decide) | exact Nat.lt_of_le_of_lt (by assumption) (by decide) | (refine Nat.ne_of_lt ?_; (repeat (first | assumption | refine Nat.lt_trans (by assumption) ?_)); done) | (refine Nat.ne_of_gt ?_; (repeat (first | assumption | refine Nat.lt_trans (by assumption) ?_)); done) | ((repeat (first | assumption | refine Nat.lt_trans (by assumption) ?_)); done)) | omega)]
            k_steps
            all_goals try (refine hQ9 _ _ ?_; k_steps)
            all_goals try k_data
            refine unhold ?_
            rename Fr g2 C2 _ _ => F8
            rename News g2 C2 _ _ => N9
            refine sumK rfl F8 N9 (isList_led N9 (.tail _ hmd2)) hdf ?_
            intro h9 tk9 t9 F9 N9'
            k_steps
            all_goals try (refine hQ9 _ _ ?_; k_steps)
            all_goals try k_data
            refine unhold ?_
            refine pow_int_small hfb.1 (by (first | (with_reducible first | assumption | exact Nat.le_trans (by assumption) (by decide) | exact Nat.lt_of_le_of_lt (by assumption) (by decide) | (refine Nat.ne_of_lt ?_; (repeat (first | assumption | refine Nat.lt_trans (by assumption) ?_)); done) | (refine Nat.ne_of_gt ?_; (repeat (first | assumption | refine Nat.lt_trans (by assumption) ?_)); done) | ((repeat (first | assumption | refine Nat.lt_trans (by assumption) ?_)); done)) | omega)) (by decide) ?_
            refine ⟨_, _, _, _, [], rfl, F9, fun q hq => N9' q (.tail _ (by rw [hLR]; exact hq)), rfl, rfl, ?_, hb3⟩
            rw [heapS_t hfj (by (first | (with_reducible first | assumption | exact Nat.le_trans (by assumption) (by decide) | exact Nat.lt_of_le_of_lt (by assumption) (by decide) | (refine Nat.ne_of_lt ?_; (repeat (first | assumption | refine Nat.lt_trans (by assumption) ?_)); done) | (refine Nat.ne_of_gt ?_; (repeat (first | assumption | refine Nat.lt_trans (by assumption) ?_)); done) | ((repeat (first | assumption | refine Nat.lt_trans (by assumption) ?_)); done)) | omega))]
            exact ints_snoc hzs
          · rw [show ((d.2.1.length : Int) == 0 + (i : Int)) = false from by simp; (first | (with_reducible first | assumption | exact Nat.le_trans (by assumption) (by decide) | exact Nat.lt_of_le_of_lt (by assumption) (by decide) | (refine Nat.ne_of_lt ?_; (repeat (first | assumption | refine Nat.lt_trans (by assumption) ?_)); done) | (refine Nat.ne_of_gt ?_; (repeat (first | assumption | refine Nat.lt_trans (by assumption) ?_)); done) | ((repeat (first | assumption | refine Nat.lt_trans (by assumption) ?_)); done)) | omega)]
            k_steps
            all_goals try (refine hQ9 _ _ ?_; k_steps)
            all_goals try k_data
            rename Fr g2 C2 _ _ => F8
            rename News g2 C2 _ _ => N9
            refine ⟨_, _, _, _, [], rfl, F8, fun q hq => N9 q (.tail _ (by rw [hLR]; exact hq)), rfl, rfl, ?_, hb3⟩
            rw [heapS_f hfj (by (first | (with_reducible first | assumption | exact Nat.le_trans (by assumption) (by decide) | exact Nat.lt_of_le_of_lt (by assumption) (by decide) | (refine Nat.ne_of_lt ?_; (repeat (first | assumption | refine Nat.lt_trans (by assumption) ?_)); done) | (refine Nat.ne_of_gt ?_; (repeat (first | assumption | refine Nat.lt_trans (by assumption) ?_)); done) | ((repeat (first | assumption | refine Nat.lt_trans (by assumption) ?_)); done)) | omega))]
            exact hzs
        case done2 =>
          rintro D3 zs nD3 news₃ gs3 h3 tk3 ⟨rfl, hzs, hb3⟩ - hlt4 F3 N3
          have e : ((ws.map fun p => fallsF p.1).take (toldVals Ds).length) = ws.map fun p => fallsF p.1 := List.take_of_length_le (by rw [← hT.1]; simp [toldVals])
          rw [e] at hzs
          dsimp only [List.nil_append] at N3
          k_steps
          all_goals try (refine hQ9 _ _ ?_; k_steps)
          all_goals try k_data
          refine unhold ?_
          rename Fr g C _ _ => F8
          rename News g C _ _ => N9
          refine sumK rfl F8 N9 (isList_led N9 (.head _)) hzs ?_
          intro h9 tk9 t9 F9 N9'
          refine ⟨_, _, _, _, [], oK, _, rfl, F9, fun q hq => N9' q (.tail _ (.tail _ (.tail _ (by rw [hLQ]; exact hq)))), hoK, rfl, rfl, ?_, hb3⟩
          rw [List.range_succ, List.map_append]
          exact ints_snoc hys
      case done =>
        rintro DH ys nH news₁ gs1 h1 tk1 ⟨rfl, hys, hb2⟩ - hlt2 F N
        dsimp only [List.nil_append] at N
        have N7 := news_c N (.tail _ hm2) (news_c N (.tail _ hm1) N)
        clear N N10
        dsimp only
        k_steps
        all_goals try (refine hQ9 _ _ ?_; k_steps)
        all_goals try k_data
        refine unhold ?_
        rename Fr _ _ _ _ => F5
        with_unfolding_all refine' compGF F5 ?k1 ?k2 ?k3 ?k4 ?k5 ?_
        case k1 => exact rfl
        case k2 => decide
        case k3 => exact rfl
        case k4 => decide
        case k5 => exact rfl
        k_steps
        all_goals try (refine hQ9 _ _ ?_; k_steps)
        all_goals try k_data
        refine unhold ?_
        rename IsRange _ _ _ _ _ _ _ _ => hr6
        rename Fr _ _ _ _ => F6
        rename News _ _ _ _ => N6
        refine compRange (n := 5) [] _ (fun i zs nx gs' => nx = [] ∧ IntsAre zs ((List.range i).map fun (k : Nat) => dueF (firstS a b) (secondS a b) (k : Int)) ∧ Mine.AllBare gs') rfl hr6 (by decide) (by decide) (by (first | (with_reducible first | assumption | exact Nat.le_trans (by assumption) (by decide) | exact Nat.lt_of_le_of_lt (by assumption) (by decide) | (refine Nat.ne_of_lt ?_; (repeat (first | assumption | refine Nat.lt_trans (by assumption) ?_)); done) | (refine Nat.ne_of_gt ?_; (repeat (first | assumption | refine Nat.lt_trans (by assumption) ?_)); done) | ((repeat (first | assumption | refine Nat.lt_trans (by assumption) ?_)); done)) | omega)) F6 N6 ⟨rfl, .nil, hb2⟩ ?len3 ?turn3 ?done3
        case len3 =>
          rintro i ys nx gs ⟨-, hy, -⟩
          rw [hy.length]
          simp
        case turn3 =>
          rintro g C D i tv zs nD news₁ gs2 h tk m₁ own E' hi ⟨rfl, hzs, hb3⟩ - hown hlt3 hlo hDC st2 FG F N
          have X1 := XX.keeps st2
          have T1 := TT.keeps st2
          obtain ⟨LQ, hLQ, N3⟩ : ∃ LQ, LQ = _ ∧ News g C h LQ := ⟨_, rfl, N⟩
          have N8 := news_c N3 (by rw [hLQ]; exact .tail _ (List.mem_append_right _ (List.mem_append_left _ (.head _)))) (news_c N3 (by rw [hLQ]; exact .tail _ (List.mem_append_right _ (List.mem_append_left _ (.tail _ (.head _))))) N3)
          clear N N3
          try clear N6
          try clear N7
          dsimp only
          k_steps
          all_goals try (refine hQ9 _ _ ?_; k_steps)
          all_goals try k_data
          refine unhold ?_
          try dsimp only [List.append_nil]
          rename Fr g C _ _ => F7
          rename News g C _ _ => N9
          refine' forgetA rfl (Nat.le_refl _) (Nat.le_refl _) (due_c (firstS a b) (secondS a b) (0 + (i : Int)) _ _ _ _ ?h1 ?h2 ?h3 ?h4 ?h5 ?h6 _ _ _ _ _ _ _ _ F7 X1 N9 T1 ?hr ?hu ?_)
          case h1 => rw [firstS_len]; (first | (with_reducible first | assumption | exact Nat.le_trans (by assumption) (by decide) | exact Nat.lt_of_le_of_lt (by assumption) (by decide) | (refine Nat.ne_of_lt ?_; (repeat (first | assumption | refine Nat.lt_trans (by assumption) ?_)); done) | (refine Nat.ne_of_gt ?_; (repeat (first | assumption | refine Nat.lt_trans (by assumption) ?_)); done) | ((repeat (first | assumption | refine Nat.lt_trans (by assumption) ?_)); done)) | omega)
          case h2 => rw [firstS_len]; (first | (with_reducible first | assumption | exact Nat.le_trans (by assumption) (by decide) | exact Nat.lt_of_le_of_lt (by assumption) (by decide) | (refine Nat.ne_of_lt ?_; (repeat (first | assumption | refine Nat.lt_trans (by assumption) ?_)); done) | (refine Nat.ne_of_gt ?_; (repeat (first | assumption | refine Nat.lt_trans (by assumption) ?_)); done) | ((repeat (first | assumption | refine Nat.lt_trans (by assumption) ?_)); done)) | omega)
          case h3 => rw [secondS_len]; (first | (with_reducible first | assumption | exact Nat.le_trans (by assumption) (by decide) | exact Nat.lt_of_le_of_lt (by assumption) (by decide) | (refine Nat.ne_of_lt ?_; (repeat (first | assumption | refine Nat.lt_trans (by assumption) ?_)); done) | (refine Nat.ne_of_gt ?_; (repeat (first | assumption | refine Nat.lt_trans (by assumption) ?_)); done) | ((repeat (first | assumption | refine Nat.lt_trans (by assumption) ?_)); done)) | omega)
          case h4 => rw [secondS_len]; (first | (with_reducible first | assumption | exact Nat.le_trans (by assumption) (by decide) | exact Nat.lt_of_le_of_lt (by assumption) (by decide) | (refine Nat.ne_of_lt ?_; (repeat (first | assumption | refine Nat.lt_trans (by assumption) ?_)); done) | (refine Nat.ne_of_gt ?_; (repeat (first | assumption | refine Nat.lt_trans (by assumption) ?_)); done) | ((repeat (first | assumption | refine Nat.lt_trans (by assumption) ?_)); done)) | omega)
          case h5 => (first | (with_reducible first | assumption | exact Nat.le_trans (by assumption) (by decide) | exact Nat.lt_of_le_of_lt (by assumption) (by decide) | (refine Nat.ne_of_lt ?_; (repeat (first | assumption | refine Nat.lt_trans (by assumption) ?_)); done) | (refine Nat.ne_of_gt ?_; (repeat (first | assumption | refine Nat.lt_trans (by assumption) ?_)); done) | ((repeat (first | assumption | refine Nat.lt_trans (by assumption) ?_)); done)) | omega)
          case h6 => (first | (with_reducible first | assumption | exact Nat.le_trans (by assumption) (by decide) | exact Nat.lt_of_le_of_lt (by assumption) (by decide) | (refine Nat.ne_of_lt ?_; (repeat (first | assumption | refine Nat.lt_trans (by assumption) ?_)); done) | (refine Nat.ne_of_gt ?_; (repeat (first | assumption | refine Nat.lt_trans (by assumption) ?_)); done) | ((repeat (first | assumption | refine Nat.lt_trans (by assumption) ?_)); done)) | omega)
          case hr => dsimp only [Around.deeper, callerA]; decide
          case hu => dsimp only [Around.deeper, callerA]; decide
          intro t6 h6 tk6 F8 N10
          refine ⟨_, _, _, _, [], rfl, F8, fun q hq => N10 q (.tail _ (.tail _ (by rw [hLQ]; exact hq))), rfl, rfl, ?_, hb3⟩
          rw [List.range_succ, List.map_append, show (0 : Int) + (i : Int) = (i : Int) from Int.zero_add _]
          exact ints_snoc hzs
        case done3 =>
          rintro D4 zs nD4 news₁ gs4 h4 tk4 ⟨rfl, hzs, hb4⟩ - hlt4 F N
          dsimp only [List.nil_append] at N
          k_steps
          all_goals try (refine hQ9 _ _ ?_; k_steps)
          all_goals try k_data
          refine unhold ?_
          rename News _ _ _ _ => N9
          have hall : ((List.range 5).map fun (k : Nat) => dueF (firstS a b) (secondS a b) (k : Int)) = (List.range 5).map fun (k : Nat) => heapF (ws.map fun p => fallsF p.1) (k : Int) := List.map_congr_left fun k hk => by
            rw [hfs]
            exact (law_plain a b k (List.mem_range.mp hk)).symm
          rw [hall] at hzs
          refine ke_eq_ints (isList_led N9 (.tail _ (.tail _ (.tail _ (.head _))))) (isList_led N9 (.head _)) (by assumption) hzs (by dsimp only [Around.deeper, callerA]; decide) ?_
          have hde : ∀ q : List Int, decide (q = q) = true := fun q => decide_eq_true rfl
          rw [hde]
          rename Fr _ _ _ _ => F11
          have e86 := (N9 (86, P.t86) (.tail _ (.tail _ (.tail _ (.tail _ hm86))))).1
          rw [h86] at e86
          refine hQ9 _ _ ?_
          exact ⟨⟨rfl, F11.keep, rfl, hb4⟩, ⟨⟨ps86, e86⟩, trivial⟩⟩)
end Mine
end
theorem PySem.Challenge.cw_re0041_01_holds : PySem.Challenge.rw_re0041_01.Holds :=
  Mine.law_w
