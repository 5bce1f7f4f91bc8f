import PyProof.Rows.All
import Wide.All
import OpenK.AllK
import Wide.FinOn
import PySem.Challenge.RW_gq0003_01
set_option Elab.async false
set_option rowWalk.seconds 0
section
open PySem PySem.W PyProof.Rows
set_option maxRecDepth 100000
set_option maxHeartbeats 8000000
namespace Mine
open_top hd for PySem.Challenge.rw_gq0003_01
theorem fill : (∀ w : World, hd.heap_39 w.params = hd.heap_39 w.params) ∧ PySem.Challenge.rw_gq0003_01 = PySem.Challenge.rw_gq0003_01 := by
  k_fill
  exact ⟨fun _ => rfl, rfl⟩
end Mine
end

/-! ### MBase -/
section MBaseP
open PySem PySem.W PySem.Calls PyProof.Rows
namespace Mine

section
variable {prog : Program} {w : World} {A : Around} {s : Shared} {loose : List Str} {mean : ExcName → Option Value} {mg mb : Str → Option Value} {K : Frag}
  {name qual : Str} {params : Arguments} {body : List Stmt} {scope : Scope} {dV kV doc pm cdv ct oc : Value} {an od : Option Addr} {osl : Array (Option Value)} {f : Addr} {args : Args} {binds : List (Str × Value)}
  {R : Result → Shared → Prop}

/-- entering a def without cells: nothing that stood is changed -/
theorem enter0 (X : K.In s.heap) (hlim : s.heap.NoLimit)
    (ho : K.lookup f = some ⟨oc, od, .func (fnOf name qual params body scope dV kV doc pm an cdv ct), osl⟩) (hcd : codeIn K cdv qual = true) (hroom : A.depth < recursionLimit)
    (hbind : BindsTo s (fnOf name qual params body scope dV kV doc pm an cdv ct) args binds) (hloc : ∀ y ∈ binds, scope.names.lookup y.1 = some .local)
    (h : ∀ h₁ tk, Fr s.heap s.heap.objs.size h₁ (fun y => binds.reverse.lookup y) → News s.heap s.heap.objs.size h₁ [] →
      wpAny (model prog w) (A.deeper (envOf qual scope s.heap.objs.size f cdv)) (execs body (envOf qual scope s.heap.objs.size f cdv))
        (fun fl s' => R (.ok (.ret (match fl with | .ret v => v | _ => .none))) s')
        (fun _ _ => False)
        { s with heap := h₁, toks := tk })
    (hco : scope.isCoroutine = false := by rfl) (hgen : scope.isGenerator = false := by rfl) (hk : scope.kind = .function := by rfl)
    (hcell : ∀ x ∈ scope.names, x.2 ≠ .cell := by decide) : codeAny (model prog w) A (.call (.ref f) args) R s := by
  refine codeAny_call_def (fd := fnOf name qual params body scope dV kV doc pm an cdv ct) (body := body) (binds := binds) hroom (X _ _ ho) rfl hlim (codeRec_of X hcd) rfl hbind hcell hloc (fun h₁ hns hk₁ => ?_) hco hgen hk
  exact wpAny_mono (h h₁ _ ⟨hns, hk₁, Nat.le_refl _⟩ News.nil) (fun _ _ x => x) (fun _ _ x => x.elim)

/-- entering a def without cells: one object that stood may be changed -/
theorem enter1 {q : Addr} {oq : Obj} (X : K.In s.heap) (hlim : s.heap.NoLimit) (hq : s.heap.get? q = some oq)
    (ho : K.lookup f = some ⟨oc, od, .func (fnOf name qual params body scope dV kV doc pm an cdv ct), osl⟩) (hcd : codeIn K cdv qual = true) (hroom : A.depth < recursionLimit)
    (hbind : BindsTo s (fnOf name qual params body scope dV kV doc pm an cdv ct) args binds) (hloc : ∀ y ∈ binds, scope.names.lookup y.1 = some .local)
    (h : ∀ h₁ tk, Fr (s.heap.hide q) s.heap.objs.size h₁ (fun y => binds.reverse.lookup y) → News (s.heap.hide q) s.heap.objs.size h₁ [(q, oq)] →
      wpAny (model prog w) (A.deeper (envOf qual scope s.heap.objs.size f cdv)) (execs body (envOf qual scope s.heap.objs.size f cdv))
        (fun fl s' => R (.ok (.ret (match fl with | .ret v => v | _ => .none))) s')
        (fun _ _ => False)
        { s with heap := h₁, toks := tk })
    (hco : scope.isCoroutine = false := by rfl) (hgen : scope.isGenerator = false := by rfl) (hk : scope.kind = .function := by rfl)
    (hcell : ∀ x ∈ scope.names, x.2 ≠ .cell := by decide) : codeAny (model prog w) A (.call (.ref f) args) R s := by
  refine codeAny_call_def (fd := fnOf name qual params body scope dV kV doc pm an cdv ct) (body := body) (binds := binds) hroom (X _ _ ho) rfl hlim (codeRec_of X hcd) rfl hbind hcell hloc (fun h₁ hns hk₁ => ?_) hco hgen hk
  refine wpAny_mono (h h₁ _ ⟨hns, fun b o e => hk₁ b o (Heap.of_hide e), Nat.le_of_eq (Heap.hide_size _ _)⟩ ?_) (fun _ _ x => x) (fun _ _ x => x.elim)
  intro p hp
  cases hp with
  | head => exact ⟨hk₁ _ _ hq, Nat.ne_of_lt (Heap.lt_size hq), Heap.hide_self _ _⟩
  | tail _ hp => cases hp

/-- entering a def with cells -/
theorem enterC (X : K.In s.heap) (hlim : s.heap.NoLimit)
    (ho : K.lookup f = some ⟨oc, od, .func (fnOf name qual params body scope dV kV doc pm an cdv ct), osl⟩) (hcd : codeIn K cdv qual = true) (hroom : A.depth < recursionLimit)
    (hbind : BindsTo s (fnOf name qual params body scope dV kV doc pm an cdv ct) args binds)
    (hkind : (binds.all fun y => scope.names.lookup y.1 == some .local || scope.names.lookup y.1 == some .cell) = true)
    (hnd : ((cellsFrom 0 scope.names []).map (·.1)).Nodup)
    (h : ∀ h₁ tk cells, Fr s.heap s.heap.objs.size h₁ (bindL (envOfC qual scope s.heap.objs.size f cdv).kindOf binds fun _ => none) → News s.heap s.heap.objs.size h₁ cells →
      CellsAre (bindC (envOfC qual scope s.heap.objs.size f cdv).kindOf binds fun _ => none) (cellsFrom (s.heap.objs.size + 1) scope.names []) cells →
      wpAny (model prog w) (A.deeper (envOfC qual scope s.heap.objs.size f cdv)) (execs body (envOfC qual scope s.heap.objs.size f cdv))
        (fun fl s' => R (.ok (.ret (match fl with | .ret v => v | _ => .none))) s')
        (fun _ _ => False)
        { s with heap := h₁, toks := tk })
    (hco : scope.isCoroutine = false := by rfl) (hgen : scope.isGenerator = false := by rfl) (hk : scope.kind = .function := by rfl) : codeAny (model prog w) A (.call (.ref f) args) R s := by
  refine codeAny_call_function (fd := fnOf name qual params body scope dV kV doc pm an cdv ct) hroom (X _ _ ho) rfl hco hgen rfl (codeRec_of X hcd) (hbind _ _ _ _ ?_)
  refine wpAny_newFunctionEnv_cells hk (kindsX hkind _) fun env' he s' x => ?_
  subst he
  refine ⟨hlim.keeps x.toInCall.keep, codeAny_func ?_⟩
  obtain ⟨h₁, tk, rfl, _⟩ := x.done
  have hk₁ := x.toInCall.keep
  obtain ⟨cells, NC, Y⟩ := Cl.news (h₀ := s.heap) (Nat.le_refl _) fun n c hm => ⟨x.cell n c (lookup_of_mem_nodup (cellsFrom_names scope.names 0 (s.heap.objs.size + 1) [] [] rfl ▸ hnd) hm), x.above n c hm⟩
  exact wpAny_mono (h h₁ tk cells ⟨x.toInCall.ns, hk₁, Nat.le_refl _⟩ NC Y) (fun _ _ x => x) (fun _ _ x => x.elim)
end
end Mine
end MBaseP

/-! ### MLoop -/
section MLoopP
open PySem PySem.W PySem.Calls PyProof.Rows
namespace Mine

/-- where the walk is to stand still -/
def Box (P : Prop) : Prop := P
theorem box {P : Prop} (h : Box P) : P := h
theorem unbox {P : Prop} (h : P) : Box P := h

section
variable {prog : Program} {w : World} {A : Around} {E : Value → Shared → Prop} {s : Shared} {env : Env} {h₀ : Heap} {x : Str} {body : List Stmt} {Q : Flow → Shared → Prop}

theorem iter_str {word : Str} {t : Tok} {m₀ : Str → Option Value} {news : List (Addr × Obj)} (J : Nat → (Str → Option Value) → List (Addr × Obj) → Prop)
    (hh : A.handled = none) (F : Fr h₀ env.locals s.heap m₀) (N : News h₀ env.locals s.heap news) (hj : J 0 m₀ news)
    (turn : ∀ i c u m₁ news₁ h tk own, word.cps[i]? = some c → news₁.map (·.1) = news.map (·.1) → OwnOff own (news.map (·.1)) → J i m₁ news₁ → Fr h₀ env.locals h (fun y => if y = x then some (.str ⟨#[c]⟩ u) else m₁ y) → News h₀ env.locals h (news₁ ++ own) →
      wpAny (model prog w) A (execs body env) (InvPostN h₀ env.locals (J (i + 1)) own (news.map (·.1)) { s with heap := h, toks := tk } Q) E { s with heap := h, toks := tk })
    (done : ∀ m₁ news₁ h tk, J word.cps.size m₁ news₁ → Fr h₀ env.locals h m₁ → News h₀ env.locals h news₁ → Q .next { s with heap := h, toks := tk }) :
    wpAny (model prog w) A (pyIter (.str word t)) (fun it s₂ => LoopAtV prog w A h₀ env x body Q E it s₂) E s := by
  refine wpAny_pyIter_str fun o St W st => ?_
  have hnew : ∀ p ∈ news, p.1 ∉ [s.heap.objs.size] := fun p hp hI =>
    absurd (Heap.lt_size (N p hp).1) ((List.mem_singleton.mp hI) ▸ Nat.lt_irrefl _)
  refine loop_invN J (W A hh) ?_ ?_ hnew hnew st (F.push _) (fun p hp => ⟨Heap.get?_push_of_some _ (N p hp).1, (N p hp).2⟩) hj ?_ ?_
  · intro hm
    exact absurd F.ns.lt ((List.mem_singleton.mp hm) ▸ Nat.lt_irrefl _)
  · intro b hb
    rw [List.mem_singleton.mp hb]
    exact next_is_new F
  · rintro i v m₁ news₁ h tk own hi ⟨c, u, hc, rfl⟩ hadr hoff hJ F₁ N₁
    exact turn i c u m₁ news₁ h tk own hc hadr hoff hJ F₁ N₁
  · exact done

theorem iter_list {l : Addr} {vs : List Value} {m₀ : Str → Option Value} {news : List (Addr × Obj)} (J : Nat → (Str → Option Value) → List (Addr × Obj) → Prop)
    (hh : A.handled = none) (F : Fr h₀ env.locals s.heap m₀) (N : News h₀ env.locals s.heap news) (hl : s.heap.IsList l vs.toArray) (hlL : l ≠ env.locals) (hoff : ∀ p ∈ news, p.1 ≠ l) (hj : J 0 m₀ news)
    (turn : ∀ i v m₁ news₁ h tk own, vs[i]? = some v → news₁.map (·.1) = news.map (·.1) → OwnOff own (news.map (·.1)) → J i m₁ news₁ → Fr h₀ env.locals h (fun y => if y = x then some v else m₁ y) → News h₀ env.locals h (news₁ ++ own) →
      wpAny (model prog w) A (execs body env) (InvPostN h₀ env.locals (J (i + 1)) own (news.map (·.1)) { s with heap := h, toks := tk } Q) E { s with heap := h, toks := tk })
    (done : ∀ m₁ news₁ h tk, J vs.length m₁ news₁ → Fr h₀ env.locals h m₁ → News h₀ env.locals h news₁ → Q .next { s with heap := h, toks := tk }) :
    wpAny (model prog w) A (pyIter (.ref l)) (fun it s₂ => LoopAtV prog w A h₀ env x body Q E it s₂) E s := by
  obtain ⟨ol, hol, _⟩ := id hl
  have hlt : l < s.heap.objs.size := Heap.lt_size hol
  have hne : l ≠ s.heap.objs.size := Nat.ne_of_lt hlt
  refine wpAny_pyIter_list hl ?_
  have W := Walks.list (prog := prog) (w := w) hh s.heap.objs.size l hne vs.toArray
  rw [List.size_toArray] at W
  have hnew : ∀ p ∈ news, p.1 ∉ [s.heap.objs.size] := fun p hp hI =>
    absurd (Heap.lt_size (N p hp).1) ((List.mem_singleton.mp hI) ▸ Nat.lt_irrefl _)
  refine loop_invN J W ?_ ?_ hnew ?_ ⟨⟨_, Heap.get?_push_size _ rfl, rfl, rfl⟩, hl.at fun o e => Heap.get?_push_of_some _ e⟩ (F.push _) (fun p hp => ⟨Heap.get?_push_of_some _ (N p hp).1, (N p hp).2⟩) hj ?_ ?_
  · intro hm
    rcases List.mem_cons.mp hm with e | hm
    · exact absurd F.ns.lt (e ▸ Nat.lt_irrefl _)
    · exact hlL (List.mem_singleton.mp hm).symm
  · intro b hb
    rw [List.mem_singleton.mp hb]
    exact next_is_new F
  · intro q hq hm
    rcases List.mem_cons.mp hm with e | hm
    · exact hnew q hq (e ▸ List.mem_singleton.mpr rfl)
    · exact hoff q hq (List.mem_singleton.mp hm)
  · rintro i v m₁ news₁ h tk own hi hP hadr hoff hJ F₁ N₁
    exact turn i v m₁ news₁ h tk own (by simpa using hP) hadr hoff hJ F₁ N₁
  · exact done

theorem iter_range {r : Addr} {b₀ : Int} {t₀ u₀ v₀ : Tok} {n : Nat} {m₀ : Str → Option Value} {news : List (Addr × Obj)} (J : Nat → (Str → Option Value) → List (Addr × Obj) → Prop)
    (hh : A.handled = none) (F : Fr h₀ env.locals s.heap m₀) (N : News h₀ env.locals s.heap news) (hr : IsRange s.heap r 0 b₀ 1 t₀ u₀ v₀) (hsmall : Builtin.Range.small 0 b₀ 1 = true) (hn : Builtin.Range.rangeSize 0 b₀ 1 = (n : Int)) (hj : J 0 m₀ news)
    (turn : ∀ (i : Nat) u m₁ news₁ h tk own, i < n → news₁.map (·.1) = news.map (·.1) → OwnOff own (news.map (·.1)) → J i m₁ news₁ → Fr h₀ env.locals h (fun y => if y = x then some (.int i u) else m₁ y) → News h₀ env.locals h (news₁ ++ own) →
      wpAny (model prog w) A (execs body env) (InvPostN h₀ env.locals (J (i + 1)) own (news.map (·.1)) { s with heap := h, toks := tk } Q) E { s with heap := h, toks := tk })
    (done : ∀ m₁ news₁ h tk, J n m₁ news₁ → Fr h₀ env.locals h m₁ → News h₀ env.locals h news₁ → Q .next { s with heap := h, toks := tk }) :
    wpAny (model prog w) A (pyIter (.ref r)) (fun it s₂ => LoopAtV prog w A h₀ env x body Q E it s₂) E s := by
  refine wpAny_pyIter_range hr hsmall ?_
  have W : Walks prog w A s.heap.objs.size [s.heap.objs.size] [s.heap.objs.size] n (fun i v => i < n ∧ ∃ t, v = .int (0 + i * 1) t)
      (fun i h => IsRangeIter h s.heap.objs.size (0 + (i : Nat) * 1) ((n : Int) - (i : Nat)) 1) := (Walks.range hh _ 0 1 n).bound
  have hnew : ∀ p ∈ news, p.1 ∉ [s.heap.objs.size] := fun p hp hI =>
    absurd (Heap.lt_size (N p hp).1) ((List.mem_singleton.mp hI) ▸ Nat.lt_irrefl _)
  refine loop_invN J W ?_ ?_ hnew hnew (by show IsRangeIter _ _ _ _ _; rw [hn]; simpa using Heap.get?_push_size _ rfl) (F.push _) (fun p hp => ⟨Heap.get?_push_of_some _ (N p hp).1, (N p hp).2⟩) hj ?_ ?_
  · intro hm
    exact absurd F.ns.lt ((List.mem_singleton.mp hm) ▸ Nat.lt_irrefl _)
  · intro b hb
    rw [List.mem_singleton.mp hb]
    exact next_is_new F
  · rintro i v m₁ news₁ h tk own hi ⟨_, t, rfl⟩ hadr hoff hJ F₁ N₁
    rw [Int.mul_one, Int.zero_add] at F₁
    exact turn i t m₁ news₁ h tk own hi hadr hoff hJ F₁ N₁
  · exact done
end
end Mine
namespace Mine
/-- the map with one name set -/
abbrev setM (m : Str → Option Value) (x : Str) (u : Option Value) : Str → Option Value := fun y => if y = x then u else m y
theorem setM_self (m : Str → Option Value) (x : Str) : m = setM m x (m x) := by
  funext y; unfold setM; split
  · rename_i h; rw [h]
  · rfl
theorem setM_set (m : Str → Option Value) (x : Str) (u v : Option Value) : (fun y => if y = x then v else setM m x u y) = setM m x v := by
  funext y; unfold setM; split <;> rfl
end Mine
namespace Mine
theorem endN {h₀ : Heap} {L : Addr} {J : (Str → Option Value) → List (Addr × Obj) → Prop} {m' : Str → Option Value} {own nx : List (Addr × Obj)} {adr : List Addr} {s₁ : Shared} {h' : Heap} {tk : Nat}
    {Q : Flow → Shared → Prop} (F : Fr h₀ L h' m') (N : News h₀ L h' (nx ++ own)) (hj : J m' nx) (ha : nx.map (·.1) = adr) : Box (InvPostN h₀ L J own adr s₁ Q .next { s₁ with heap := h', toks := tk }) :=
  InvEndN.intro F N hj ha (fun _ hp => List.mem_append_left _ hp) (fun _ hp => List.mem_append_right _ hp)
end Mine
namespace Mine
theorem while_rule {prog : Program} {w : World} {A : Around} {s : Shared} {env : Env} {Q : Flow → Shared → Prop} {test : Expr} {body : List Stmt} {pos : Pos} (I : Nat → Shared → Prop)
    (turn : ∀ n s, I n s →
      wpAny (model prog w) A (isTrue test env (eval test env)) (fun b s₂ =>
        if b then wpAny (model prog w) A (execs body env) (fun f s₃ => match f with
            | .next | .cont => Box (∃ m, m < n ∧ I m s₃)
            | .brk => Q .next s₃
            | .ret v => Q (.ret v) s₃) (fun _ _ => False) s₂
        else Q .next s₂) (fun _ _ => False) s)
    (n : Nat) (h : I n s) : wpAny (model prog w) A (exec (.While test body [] pos) env) Q (fun _ _ => False) s := by
  refine wpAny_While (codeAny_whileLoop I (fun n s hI => ?_) n h)
  refine wpAny_mono (turn n s hI) (fun b s₂ h₂ => ?_) fun _ _ e => e.elim
  cases b with
  | true => 
    simp only [if_true] at h₂ ⊢
    refine wpAny_mono h₂ (fun f s₃ h₃ => ?_) fun _ _ e => e.elim
    cases f <;> exact h₃
  | false =>
    simp only [Bool.false_eq_true, if_false] at h₂ ⊢
    exact wpAny_execs_nil h₂
def ltS (a b : Str) : Prop := a.cps.toList < b.cps.toList
theorem ltS.trans {a b c : Str} (h : ltS a b) (k : ltS b c) : ltS a c := List.lt_trans h k
end Mine
namespace Mine
theorem frCast {h₀ h : Heap} {L : Addr} {m m' : Str → Option Value} (e : m = m') (F : Fr h₀ L h m) : Fr h₀ L h m' := e ▸ F
end Mine
namespace Mine
theorem newsKeep {h₀ h h' : Heap} {L : Addr} {news : List (Addr × Obj)} (N : News h₀ L h news) (k : ∀ b o, h.get? b = some o → h'.get? b = some o) : News h₀ L h' news :=
  fun p hp => ⟨k _ _ (N p hp).1, (N p hp).2⟩
theorem hideKeep {g h : Heap} {q : Addr} (k : ∀ b o, g.get? b = some o → h.get? b = some o) (hq : g.get? q = none) : ∀ b o, g.get? b = some o → (h.hide q).get? b = some o := fun b o e => by
  refine (Heap.hide_ne h fun (e' : b = q) => ?_).trans (k b o e)
  subst e'; rw [hq] at e; cases e
theorem strsIns {vs : List Value} {ss : List Str} (h : StrsAre vs ss) (x : Str) (t : Tok) (p : Nat) : StrsAre (vs.take p ++ .str x t :: vs.drop p) (ss.take p ++ x :: ss.drop p) :=
  StrsAre.append' (h.take' p) (.cons x t (h.drop' p))
end Mine
namespace Mine
section
variable {prog : Program} {w : World} {A : Around} {E : Value → Shared → Prop} {s : Shared} {env : Env} {h₀ : Heap} {x : Str} {body : List Stmt} {Q : Flow → Shared → Prop}
/-- a range whose turns put new objects in the place of the old ones -/
theorem iter_rangeG {r : Addr} {b₀ : Int} {t₀ u₀ v₀ : Tok} {n : Nat} {m₀ : Str → Option Value} {news : List (Addr × Obj)} (J : Nat → (Str → Option Value) → List (Addr × Obj) → Prop)
    (hh : A.handled = none) (F : Fr h₀ env.locals s.heap m₀) (N : News h₀ env.locals s.heap news) (hr : IsRange s.heap r 0 b₀ 1 t₀ u₀ v₀) (hsmall : Builtin.Range.small 0 b₀ 1 = true) (hn : Builtin.Range.rangeSize 0 b₀ 1 = (n : Int)) (hj : J 0 m₀ news)
    (turn : ∀ (i : Nat) u m₁ news₁ h tk own, i < n → OwnOff own (news₁.map (·.1)) → J i m₁ news₁ → Fr h₀ env.locals h (fun y => if y = x then some (.int i u) else m₁ y) → News h₀ env.locals h (news₁ ++ own) →
      wpAny (model prog w) A (execs body env) (InvPostG h₀ env.locals (J (i + 1)) own { s with heap := h, toks := tk } Q) E { s with heap := h, toks := tk })
    (done : ∀ m₁ news₁ h tk, J n m₁ news₁ → Fr h₀ env.locals h m₁ → News h₀ env.locals h news₁ → Q .next { s with heap := h, toks := tk }) :
    wpAny (model prog w) A (pyIter (.ref r)) (fun it s₂ => LoopAtV prog w A h₀ env x body Q E it s₂) E s := by
  refine wpAny_pyIter_range hr hsmall ?_
  have W : Walks prog w A s.heap.objs.size [s.heap.objs.size] [s.heap.objs.size] n (fun i v => i < n ∧ ∃ t, v = .int (0 + i * 1) t)
      (fun i h => IsRangeIter h s.heap.objs.size (0 + (i : Nat) * 1) ((n : Int) - (i : Nat)) 1) := (Walks.range hh _ 0 1 n).bound
  have hnew : ∀ p ∈ news, p.1 ∉ [s.heap.objs.size] := fun p hp hI =>
    absurd (Heap.lt_size (N p hp).1) ((List.mem_singleton.mp hI) ▸ Nat.lt_irrefl _)
  refine ⟨_, _, _, n, _, _, m₀, news, J, rfl, W, ?_, ?_, hnew, (by show IsRangeIter _ _ _ _ _; rw [hn]; simpa using Heap.get?_push_size _ rfl), F.push _, (fun p hp => ⟨Heap.get?_push_of_some _ (N p hp).1, (N p hp).2⟩), hj, ?_, ?_⟩
  · intro hm
    exact absurd F.ns.lt ((List.mem_singleton.mp hm) ▸ Nat.lt_irrefl _)
  · intro b hb
    rw [List.mem_singleton.mp hb]
    exact next_is_new F
  · rintro i v m₁ news₁ s₁ own ⟨hh', tk', rfl⟩ hin hP hJ hoff hown _ hfp hst F₁ N₁
    obtain ⟨_, t, rfl⟩ := hP
    rw [Int.mul_one, Int.zero_add] at F₁
    have hIown := hfp _ (List.mem_singleton.mpr rfl) (next_is_new F) _ hst
    have hsep : OwnOff own (news₁.map (·.1)) := by
      intro p hp b hb e
      obtain ⟨q, hq, rfl⟩ := List.mem_map.mp hb
      exact hoff q hq (e ▸ hown p hp)
    have N₂ : News h₀ env.locals hh' (news₁ ++ own) := fun p hp => N₁ p ((List.mem_append.mp hp).elim (fun h => List.mem_append.mpr (.inr h)) fun h => List.mem_append.mpr (.inl h))
    refine wpAny_mono (turn i t m₁ news₁ hh' tk' own hin hsep hJ F₁ N₂) (fun f s₂ p => ?_) fun _ _ e => e
    have fin : InvEndG h₀ env.locals (J (i + 1)) own { s with heap := hh', toks := tk' } s₂ → LoopStepU h₀ env.locals [s.heap.objs.size] own (J (i + 1)) { s with heap := hh', toks := tk' } .next s₂ := by
      rintro ⟨h', tk, m', news', nx, e, F', N', hn, ho, ha, hm⟩
      refine ⟨rfl, h', tk, m', nx, e, F', fun p hp => N' p ((List.mem_append.mp hp).elim (ho p) (hn p)), fun p hp hq => ?_, hm⟩
      exact ha _ hIown p.1 (List.mem_map.mpr ⟨p, hp, rfl⟩) (List.mem_singleton.mp hq).symm
    cases f with
    | ret v => exact .ret p
    | brk => exact .brk p
    | next => exact .next (fin p)
    | cont => exact .cont (fin p)
  · rintro h' tk m' news' F' N' _ hJ
    exact done m' news' h' tk hJ F' N'
theorem endG {L : Addr} {J : (Str → Option Value) → List (Addr × Obj) → Prop} {m' : Str → Option Value} {own nx news' : List (Addr × Obj)} {s₁ : Shared} {h' : Heap} {tk : Nat}
    {Q : Flow → Shared → Prop} (F : Fr h₀ L h' m') (N : News h₀ L h' news') (hj : J m' nx) (ha : OwnOff own (nx.map (·.1))) (hx : ∀ p ∈ nx, p ∈ news') (ho : ∀ p ∈ own, p ∈ news') : Box (InvPostG h₀ L J own s₁ Q .next { s₁ with heap := h', toks := tk }) :=
  InvEndG.intro F N hj ha hx ho
end
end Mine
end MLoopP

/-! ### MTold -/
section MToldP
open PySem PySem.W PySem.Calls PyProof.Rows
set_option maxRecDepth 100000
set_option maxHeartbeats 8000000
namespace Mine
theorem modeMTold : True := by
  w_top off
  trivial

/-! ## the plain function -/
def toldStep (st : List (Nat × Int) × Int) (c : Nat) : List (Nat × Int) × Int := ((c, st.2) :: st.1, 2 * st.2 - (st.1.lookup c).getD 0)
def toldAt (l : List Nat) : List (Nat × Int) × Int := l.foldl toldStep ([], 1)
def told (l : List Nat) : Int := (toldAt l).2

/-- the dict of the last places -/
def LastIs (kvs : List (Str × Value)) (last : List (Nat × Int)) : Prop :=
  ∀ c, (valueAt kvs ⟨#[c]⟩ = none ∧ last.lookup c = none) ∨ ∃ x t, valueAt kvs ⟨#[c]⟩ = some (.int x t) ∧ last.lookup c = some x

theorem valueAt_stored {kvs : List (Str × Value)} {k k' : Str} {v : Value} : valueAt (stored kvs k v) k' = if k' = k then some v else valueAt kvs k' := by
  unfold valueAt stored
  by_cases hk : k' = k
  · subst hk
    rw [if_pos rfl]
    split
    · rename_i h
      induction kvs with
      | nil => simp at h
      | cons p r ih =>
        by_cases hp : p.1 = k'
        · simp [hp]
        · simp only [List.any_cons, hp, decide_false, Bool.false_or] at h
          have := ih h
          simpa [hp] using this
    · rename_i h
      have hn : kvs.find? (fun kv => decide (kv.1 = k')) = none := by
        rw [List.find?_eq_none]
        intro x hx hd
        exact h (List.any_eq_true.mpr ⟨x, hx, hd⟩)
      simp [List.find?_append, hn]
  · rw [if_neg hk]
    split
    · congr 1
      induction kvs with
      | nil => rfl
      | cons p r ih =>
        rename_i h
        by_cases hp : p.1 = k
        · have : ¬ p.1 = k' := fun e => hk (e ▸ hp)
          have h2 : ¬ k = k' := fun e => hk e.symm
          simp only [List.map_cons, hp, if_true, List.find?_cons, h2, decide_false]
          by_cases hr : (r.any fun kv => decide (kv.1 = k)) = true
          · exact ih hr
          · congr 1
            have : r.map (fun kv => if kv.1 = k then (kv.1, v) else kv) = r := by
              conv => rhs; rw [← List.map_id r]
              apply List.map_congr_left
              intro x hx
              have : ¬ x.1 = k := fun e => hr (List.any_eq_true.mpr ⟨x, hx, by simpa using e⟩)
              simp [this]
            rw [this]
        · simp only [List.map_cons, hp, if_false, List.find?_cons]
          by_cases hp' : p.1 = k'
          · simp [hp']
          · simp only [hp', decide_false]
            exact ih (by simpa [hp] using h)
    · have h2 : ¬ k = k' := fun e => hk e.symm
      simp [List.find?_append, h2]

theorem LastIs.step {kvs : List (Str × Value)} {last : List (Nat × Int)} (h : LastIs kvs last) (c : Nat) (x : Int) (t : Tok) : LastIs (stored kvs ⟨#[c]⟩ (.int x t)) ((c, x) :: last) := by
  intro c'
  rw [valueAt_stored, List.lookup_cons]
  by_cases hc : c' = c
  · subst hc
    simp only [if_true, beq_self_eq_true]
    exact .inr ⟨x, t, rfl, rfl⟩
  · have : ¬ (⟨#[c']⟩ : Str) = ⟨#[c]⟩ := fun e => hc (by simpa using e)
    have hb : (c' == c) = false := by simpa using hc
    rw [if_neg this, hb]
    exact h c'
theorem stored_length {kvs : List (Str × Value)} {k : Str} {v : Value} : (stored kvs k v).length ≤ kvs.length + 1 := by
  unfold stored
  split <;> simp

section
variable {prog : Program} {w : World} {A : Around} {E : Value → Shared → Prop} {s : Shared} {h₀ : Heap} {L l : Addr} {news : List (Addr × Obj)} {Q : Value → Shared → Prop} {value slice : Expr} {pre : List Value} {v y : Value} {k : Nat} {u : Tok}
theorem item_last (N : News h₀ L s.heap news) (hm : (l, listOf (pre ++ [v]).toArray k) ∈ news) (h : Q v s)
    (hs : subscripted slice false (.ref l) (.int (-1) u) = operate [.ref l, .int (-1) u] (getItem (.ref l) (.int (-1) u)) := by with_unfolding_all rfl) (hg : ∀ r, letTemporaryGo value (.ref l) r = pure () := by intro _; with_unfolding_all rfl) :
    wpAny (model prog w) A (subscriptTail value slice (.ref l) (.int (-1) u)) Q E s := by
  have hl : s.heap.IsList l (pre ++ [v]).toArray := News.isList N hm
  refine subscriptTail_builtin hl.typeIs slot_list_getitem.lookup (wpAny_getItem_list_neg hl (by decide) ?_ (by decide) (x := v) ?_ h) hs hg
  · simp only [List.size_toArray, List.length_append, List.length_cons, List.length_nil]; omega
  · have : ((-1 : Int) + ((pre ++ [v]).toArray.size : Nat)).toNat = pre.length := by
      simp only [List.size_toArray, List.length_append, List.length_cons, List.length_nil]; omega
    rw [this]; simp
theorem item_prev (N : News h₀ L s.heap news) (hm : (l, listOf ((pre ++ [v]).toArray.push y) k) ∈ news) (h : Q v s)
    (hs : subscripted slice false (.ref l) (.int (-2) u) = operate [.ref l, .int (-2) u] (getItem (.ref l) (.int (-2) u)) := by with_unfolding_all rfl) (hg : ∀ r, letTemporaryGo value (.ref l) r = pure () := by intro _; with_unfolding_all rfl) :
    wpAny (model prog w) A (subscriptTail value slice (.ref l) (.int (-2) u)) Q E s := by
  have hl : s.heap.IsList l ((pre ++ [v]).toArray.push y) := News.isList N hm
  refine subscriptTail_builtin hl.typeIs slot_list_getitem.lookup (wpAny_getItem_list_neg hl (by decide) ?_ (by decide) (x := v) ?_ h) hs hg
  · simp only [Array.size_push, List.size_toArray, List.length_append, List.length_cons, List.length_nil]; omega
  · have : ((-2 : Int) + (((pre ++ [v]).toArray.push y).size : Nat)).toNat = pre.length := by
      simp only [Array.size_push, List.size_toArray, List.length_append, List.length_cons, List.length_nil]; omega
    rw [this]
    simp
end

local macro_rules | `(tactic| walk_at "exec For Name Name cons nil") => `(tactic| (k_here; refine box ?_))
local macro_rules | `(tactic| walk_at "subscriptTail Name UnaryOp ref int") => `(tactic| (k_here; (with_reducible show wpAny _ _ (subscriptTail _ _ (Value.ref _) (Value.int (-1) _)) _ _ _); (refine' item_last ?N ?m ?_ ?a ?b; (case N => k_asm); (case m => k_mem); (case a => with_unfolding_all rfl); (case b => (intro _; with_unfolding_all rfl)); k_whole)))
local macro_rules | `(tactic| walk_at "subscriptTail Name UnaryOp ref int") => `(tactic| (k_here; (with_reducible show wpAny _ _ (subscriptTail _ _ (Value.ref _) (Value.int (-2) _)) _ _ _); (refine' item_prev ?N ?m ?_ ?a ?b; (case N => k_asm); (case m => k_mem); (case a => with_unfolding_all rfl); (case b => (intro _; with_unfolding_all rfl)); k_whole)))
local macro_rules | `(tactic| walk_at "call builtin:dict.get") => `(tactic| (k_here; k_dflt (refine' kdg_get2 (knd := PySem.strKind _ _) ?N ?p ?d ?lo (strKind_is _ _ _ _) _ ?hl ?_; (case N => k_asm); (case p => k_mem); (case d => k_asm); (case lo => k_asm); (case hl => assumption); k_whole); (try dsimp only [Option.getD_some, Option.getD_none])))
local macro_rules | `(tactic| walk_at "setItem ref str") => `(tactic| (k_here; k_dflt (refine' kda_set (knd := PySem.strKind _ _) ?F ?N ?U ?d (strKind_is _ _ _ _) ?z ?_; (case F => k_asm); (case N => k_asm); (case U => k_updF); (case d => k_asm); (case z => (rw [sizeLine_eq]; omega))); intro h' o' F' N' hd'; (try dsimp only at N')))
local macro_rules | `(tactic| walk_at "InvPostN") => `(tactic| (refine box ?_))
def ToldJ (prog : Program) (w : World) (word : Str) (m₀ : Str → Option Value) (l d : Addr) (i : Nat) (m : Str → Option Value) (news : List (Addr × Obj)) : Prop :=
  ∃ uL od kvs pre t k, m = setM m₀ (Str.ofString "letter") uL ∧ news = [(d, od), (l, W.listOf (pre ++ [Value.int (toldAt (word.cps.toList.take i)).2 t]).toArray k)] ∧
    od.IsDictOf (PySem.strKind prog w) kvs ∧ LastIs kvs (toldAt (word.cps.toList.take i)).1 ∧ kvs.length ≤ i ∧ pre.length ≤ i

theorem push_eq {pre : List Value} {v : Value} {z z' : Int} {tz : Tok} {kz : Nat} (h : z = z') : W.listOf ((pre ++ [v]).toArray.push (Value.int z tz)) kz = W.listOf ((pre ++ [v]) ++ [Value.int z' tz]).toArray kz := by subst h; simp
theorem toldAt_succ {l : List Nat} {i c : Nat} (h : l[i]? = some c) : toldAt (l.take (i + 1)) = toldStep (toldAt (l.take i)) c := by
  unfold toldAt
  rw [List.take_add_one, h, List.foldl_append]; rfl
theorem told_spec {prog : Program} {w : World} {dp un : Nat} {fr : Option (List Env)} {gd : Option (List Code)} {s : Shared} {loose : List Str} {mean : ExcName → Option Value} {mg mb : Str → Option Value} {word : Str} {t : Tok}
   (X : (hd.heap_39 w.params).In s.heap) (T : Top hd.view_39 loose mean mg mb s.heap) (hdep : dp < 600) (hun : un < 100) (hz : word.cps.size < 100)
   {R : Result → Shared → Prop} 
   (hR : ∀ h' tk' tok, (∀ b o, s.heap.get? b = some o → h'.get? b = some o) → R (.ok (.ret (.int (told word.cps.toList) tok))) { s with heap := h', toks := tk' }) :
   codeAny (model prog w) { handled := none, depth := dp, frames := fr, guards := gd, units := un } (.call (.ref 51) ⟨[.str word t], []⟩) R s := by
  k_dflt (refine' enter0 (binds := [(Str.ofString "word", .str word t)]) X ?nl ?lk ?cd ?room ?b ?l ?_ ?h1 ?h2 ?h3 ?h4; (case lk => k_is); (case cd => k_is); (case h1 => exact rfl); (case h2 => exact rfl); (case h3 => exact rfl); (case h4 => decide))
  case nl => exact T.nolimit
  case room => exact Nat.lt_trans hdep (by decide)
  case b => exact BindsTo.of_eq rfl
  case l => exact locs rfl
  intro h₁ tk F N
  w_strict k_steps
  (with_reducible rename Fr _ _ _ _ => F); (with_reducible rename News _ _ _ _ => N); (rename (_ == sysModules) = false => lo); (rename Obj.IsDictOf (PySem.strKind _ _) _ _ => hs)
  refine unbox (For_invV s.heap (by rfl) (by rfl) ?_)
  refine ld F rfl ?_
  refine iter_str (ToldJ prog w word _ _ _) rfl F (news := [(_, _), (_, W.listOf ([] ++ [Value.int 1 _]).toArray 0)]) (fun p hp => N p (.tail _ hp)) ⟨_, _, [], [], _, 0, setM_self _ _, rfl, hs, ?_, Nat.le_refl _, Nat.le_refl _⟩ ?_ ?_
  · intro c; exact .inl ⟨rfl, rfl⟩
  · clear F N hs
    rintro i c u m₁ news₁ h tk3 own hc hadr hoff ⟨uL, od', kvs, pre, t', k, rfl, rfl, hd, hlast, hk1, hk2⟩ F N
    have KX := X
    have hil : i < word.cps.size := (Array.getElem?_eq_some_iff.mp hc).1
    simp only [List.cons_append, List.nil_append, List.map_cons, List.map_nil] at N hoff ⊢
    have hsc := toldAt_succ (l := word.cps.toList) (i := i) (c := c) (by simpa using hc)
    unfold toldStep at hsc
    generalize hst : toldAt (word.cps.toList.take i) = st at hsc hlast N
    obtain ⟨last, cur⟩ := st
    dsimp only at hsc hlast N
    rcases hlast c with ⟨hv, hx⟩ | ⟨x, tx, hv, hx⟩
    · w_strict k_steps
      (with_reducible rename Fr _ _ _ _ => F); (with_reducible rename News _ _ _ _ => N); (rename Obj.IsDictOf _ _ (stored _ _ _) => hd')
      rw [push_eq (z' := (toldAt (word.cps.toList.take (i+1))).2) (by rw [hsc, hx]; rfl)] at N
      exact endN (nx := [(_, _), (_, _)]) F N ⟨_, _, _, pre ++ [Value.int cur t'], _, _, setM_set _ _ _ _, rfl, hd', by rw [hsc]; exact hlast.step _ _ _, Nat.le_trans stored_length (by omega), by simp; omega⟩ rfl
    · w_strict k_steps
      (with_reducible rename Fr _ _ _ _ => F); (with_reducible rename News _ _ _ _ => N); (rename Obj.IsDictOf _ _ (stored _ _ _) => hd')
      rw [push_eq (z' := (toldAt (word.cps.toList.take (i+1))).2) (by rw [hsc, hx]; rfl)] at N
      exact endN (nx := [(_, _), (_, _)]) F N ⟨_, _, _, pre ++ [Value.int cur t'], _, _, setM_set _ _ _ _, rfl, hd', by rw [hsc]; exact hlast.step _ _ _, Nat.le_trans stored_length (by omega), by simp; omega⟩ rfl
  · clear F N hs
    rintro m₁ news₁ h tk3 ⟨uL, od', kvs, pre, t', k, rfl, rfl, hd, hlast, hk1, hk2⟩ F N
    have KX := X
    dsimp only
    w_strict k_steps
    have e : word.cps.toList.take word.cps.size = word.cps.toList := List.take_of_length_le (by simp)
    rw [e]
    exact hR _ _ _ F.keep
end Mine
end MToldP

/-! ### MBisect -/
section MBisectP
open PySem PySem.W PySem.Calls PyProof.Rows
set_option maxRecDepth 100000
set_option maxHeartbeats 400000
namespace Mine
theorem modeMBisect : True := by
  w_top off
  trivial
local macro_rules | `(tactic| walk_at "exec While Compare cons nil") => `(tactic| (k_here; refine box ?_))

theorem mid_bounds {lo hi : Int} (h : lo < hi) : lo ≤ (lo + hi).fdiv 2 ∧ (lo + hi).fdiv 2 < hi := by
  rw [Int.fdiv_eq_ediv_of_nonneg _ (by decide)]; omega
local macro_rules | `(tactic| walk_at "subscriptTail Name Name ref int") => `(tactic| (k_here; k_dflt (refine' KTb.item_list ?k1 ?k2 ?k3 ?k4 ?k5 ?_ ?k6; (case k1 => is_list); (case k2 => with_reducible assumption); (case k3 => (have hm9 := mid_bounds (by assumption); omega)); (case k4 => (have hm9 := mid_bounds (by assumption); omega)); (case k5 => (have hm9 := mid_bounds (by assumption); omega)); (case k6 => with_unfolding_all rfl)); intro t' hlt'))
abbrev bsM (m₀ : Str → Option Value) (lo hi : Int) (t1 t2 : Tok) (um : Option Value) : Str → Option Value :=
  setM (setM (setM m₀ (Str.ofString "mid") um) (Str.ofString "hi") (some (.int hi t2))) (Str.ofString "lo") (some (.int lo t1))
abbrev bs0 (q : Addr) (x : Str) (t t0 : Tok) : Str → Option Value := fun y => List.lookup y [(Str.ofString "a", Value.ref q), (Str.ofString "x", Value.str x t), (Str.ofString "lo", Value.int 0 t0), (Str.ofString "hi", Value.none), (Str.ofString "key", Value.none)].reverse
theorem bs_start (q : Addr) (x : Str) (t t0 : Tok) (n : Int) (t2 : Tok) : (fun y => if y = Str.ofString "hi" then some (Value.int n t2) else bs0 q x t t0 y) = bsM (bs0 q x t t0) 0 n t0 t2 none := by
  funext y
  by_cases h1 : y = Str.ofString "lo"
  · subst h1; rfl
  by_cases h2 : y = Str.ofString "hi"
  · subst h2; rfl
  by_cases h3 : y = Str.ofString "mid"
  · subst h3; rfl
  simp only [bsM, setM, if_neg h1, if_neg h2, if_neg h3]
theorem bs_lo (m₀ : Str → Option Value) (lo hi lo' : Int) (t1 t2 t1' : Tok) (um um' : Option Value) : (fun y => if y = Str.ofString "lo" then some (Value.int lo' t1') else if y = Str.ofString "mid" then um' else bsM m₀ lo hi t1 t2 um y) = bsM m₀ lo' hi t1' t2 um' := by
  funext y
  by_cases h1 : y = Str.ofString "lo"
  · subst h1; rfl
  by_cases h2 : y = Str.ofString "hi"
  · subst h2; rfl
  by_cases h3 : y = Str.ofString "mid"
  · subst h3; rfl
  simp only [bsM, setM, if_neg h1, if_neg h2, if_neg h3]
theorem bs_hi (m₀ : Str → Option Value) (lo hi hi' : Int) (t1 t2 t2' : Tok) (um um' : Option Value) : (fun y => if y = Str.ofString "hi" then some (Value.int hi' t2') else if y = Str.ofString "mid" then um' else bsM m₀ lo hi t1 t2 um y) = bsM m₀ lo hi' t1 t2' um' := by
  funext y
  by_cases h1 : y = Str.ofString "lo"
  · subst h1; rfl
  by_cases h2 : y = Str.ofString "hi"
  · subst h2; rfl
  by_cases h3 : y = Str.ofString "mid"
  · subst h3; rfl
  simp only [bsM, setM, if_neg h1, if_neg h2, if_neg h3]
theorem bisect_spec {prog : Program} {w : World} {dp un : Nat} {fr : Option (List Env)} {gd : Option (List Code)} {s : Shared} {loose : List Str} {mean : ExcName → Option Value} {mg mb : Str → Option Value} {x : Str} {t : Tok}
   {q : Addr} {vs : List Value} {ss : List Str} {n : Nat}
   (X : (hd.heap_39 w.params).In s.heap) (T : Top hd.view_39 loose mean mg mb s.heap) (hdep : dp < 600) (hun : un < 100) 
   (hq : s.heap.get? q = some (W.listOf vs.toArray n)) (hS : StrsAre vs ss) (hlen : ss.length < 1000)
   (hsort : ∀ i j, i < j → j < ss.length → ltS (ss.getD i Str.empty) (ss.getD j Str.empty))
   {args : Args} {t0 : Tok} (hargs : (args = ⟨[.ref q, .str x t], []⟩ ∧ t0 = 218) ∨ args = ⟨[.ref q, .str x t, .int 0 t0, .none], []⟩)
   {R : Result → Shared → Prop}
   (hR : ∀ h' tk' tok (p : Nat), p ≤ ss.length → (∀ i, i < p → ltS (ss.getD i Str.empty) x) → (∀ i, p ≤ i → i < ss.length → ¬ ltS (ss.getD i Str.empty) x) →
     (∀ b o, s.heap.get? b = some o → h'.get? b = some o) → R (.ok (.ret (.int p tok))) { s with heap := h', toks := tk' }) :
   codeAny (model prog w) { handled := none, depth := dp, frames := fr, guards := gd, units := un } (.call (.ref 39) args) R s := by
  k_dflt (refine' enter0 (binds := [(Str.ofString "a", .ref q), (Str.ofString "x", .str x t), (Str.ofString "lo", .int 0 t0), (Str.ofString "hi", .none), (Str.ofString "key", .none)]) X ?nl ?lk ?cd ?room ?b ?l ?_ ?h1 ?h2 ?h3 ?h4; (case lk => k_is); (case cd => k_is); (case h1 => exact rfl); (case h2 => exact rfl); (case h3 => exact rfl); (case h4 => decide))
  case nl => exact T.nolimit
  case room => exact Nat.lt_trans hdep (by decide)
  case b => 
    rcases hargs with ⟨rfl, rfl⟩ | rfl
    · exact kp_binds X (fun S => by with_unfolding_all rfl)
    · exact kp_binds X (fun S => by with_unfolding_all rfl)
  case l => exact locs rfl
  intro h₁ tk F N
  have hl : s.heap.IsList q vs.toArray := ⟨_, hq, rfl, _, rfl⟩
  w_strict k_steps
  (with_reducible rename Fr _ _ _ _ => F); (with_reducible rename News _ _ _ _ => N)
  have e0 := bs_start q x t t0 (ss.length : Int) _ ▸ F
  refine unbox (while_rule (fun k s' => ∃ (h' : Heap) (tk : Nat) (lo hi : Int) (t1 t2 : Tok) (um : Option Value), s' = { s with heap := h', toks := tk } ∧ Fr s.heap s.heap.objs.size h' (bsM (bs0 q x t t0) lo hi t1 t2 um) ∧ News s.heap s.heap.objs.size h' [] ∧ 0 ≤ lo ∧ lo ≤ hi ∧ hi ≤ (ss.length : Int) ∧ k = (hi - lo).toNat ∧
      (∀ i : Nat, (i : Int) < lo → ltS (ss.getD i Str.empty) x) ∧ (∀ i : Nat, hi ≤ (i : Int) → i < ss.length → ¬ ltS (ss.getD i Str.empty) x)) ?_ ss.length ⟨_, _, 0, ss.length, t0, _, none, rfl, e0, N, by omega, by omega, by omega, by omega, fun i hi => by omega, fun i hi => by omega⟩)
  rintro k s' ⟨h', tk, lo, hi, t1, t2, um, rfl, F, N, h0, h1, h2, rfl, hlo, hhi⟩
  have KX := X
  w_strict k_steps
  · (rename lo < hi => hlh); (rename Fr _ _ _ (fun y => if y = Str.ofString "lo" then _ else _) => F); (rename List.lt _ _ => hc)
    obtain ⟨m1, m2⟩ := mid_bounds hlh
    refine unbox ⟨_, ?_, _, _, (lo + hi).fdiv 2 + 1, hi, _, _, _, rfl, frCast (bs_lo _ _ _ _ _ _ _ _ _) F, by assumption, by omega, by omega, h2, rfl, ?_, hhi⟩
    · omega
    · intro i hi'
      by_cases he : i = ((lo + hi).fdiv 2).toNat
      · subst he; exact hc
      · exact (hsort i _ (by omega) (by omega)).trans hc
  · (rename lo < hi => hlh); (rename Fr _ _ _ (fun y => if y = Str.ofString "hi" then _ else _) => F); (rename ¬ _ => hc)
    obtain ⟨m1, m2⟩ := mid_bounds hlh
    refine unbox ⟨_, ?_, _, _, lo, (lo + hi).fdiv 2, _, _, _, rfl, frCast (bs_hi _ _ _ _ _ _ _ _ _) F, by assumption, by omega, by omega, by omega, rfl, hlo, ?_⟩
    · omega
    · intro i hi' hil
      by_cases he : i = ((lo + hi).fdiv 2).toNat
      · subst he; exact hc
      · exact fun hx => hc ((hsort _ i (by omega) hil).trans hx)
  · (rename ¬ _ < _ => hc)
    obtain ⟨p, rfl⟩ := Int.eq_ofNat_of_zero_le h0
    have : hi = (p : Int) := by omega
    subst this
    exact hR _ _ _ p (by omega) (fun i h => hlo i (by omega)) (fun i h h' => hhi i (by omega) h') F.keep
end Mine
end MBisectP

/-! ### MInsort -/
section MInsortP
open PySem PySem.W PySem.Calls PyProof.Rows
set_option maxRecDepth 100000
set_option maxHeartbeats 400000
namespace Mine
theorem modeMInsort : True := by
  w_top off
  trivial
local macro_rules | `(tactic| walk_at "no such step MInsort 0") => `(tactic| skip)
local macro_rules | `(tactic| walk_at "call ref") => `(tactic| (k_here; refine box ?_))
local macro_rules | `(tactic| walk_at "call builtin:list.insert") => `(tactic| (k_here; refine box ?_))

theorem insort_spec {prog : Program} {w : World} {dp un : Nat} {fr : Option (List Env)} {gd : Option (List Code)} {s : Shared} {loose : List Str} {mean : ExcName → Option Value} {mg mb : Str → Option Value} {x : Str} {t : Tok}
   {q : Addr} {vs : List Value} {ss : List Str} {n : Nat}
   (X : (hd.heap_39 w.params).In s.heap) (T : Top hd.view_39 loose mean mg mb s.heap) (hdep : dp < 590) (hun : un < 90) 
   (hq : s.heap.get? q = some (W.listOf vs.toArray n)) (hqX : (hd.heap_39 w.params).In (s.heap.hide q)) (hqT : Top hd.view_39 loose mean mg mb (s.heap.hide q)) (hS : StrsAre vs ss) (hlen : ss.length < 1000)
   (hsort : ∀ i j, i < j → j < ss.length → ltS (ss.getD i Str.empty) (ss.getD j Str.empty))
   {R : Result → Shared → Prop}
   (hR : ∀ h' tk' (p : Nat) vs' n', p ≤ ss.length → (∀ i, i < p → ltS (ss.getD i Str.empty) x) → (∀ i, p ≤ i → i < ss.length → ¬ ltS (ss.getD i Str.empty) x) →
     h'.get? q = some (W.listOf vs'.toArray n') → StrsAre vs' (ss.take p ++ x :: ss.drop p) → (∀ b o, b ≠ q → s.heap.get? b = some o → h'.get? b = some o) → R (.ok (.ret .none)) { s with heap := h', toks := tk' }) :
   codeAny (model prog w) { handled := none, depth := dp, frames := fr, guards := gd, units := un } (.call (.ref 30) ⟨[.ref q, .str x t], []⟩) R s := by
  k_dflt (refine' enter1 (binds := [(Str.ofString "a", .ref q), (Str.ofString "x", .str x t), (Str.ofString "lo", .int 0 205), (Str.ofString "hi", .none), (Str.ofString "key", .none)]) X ?nl hq ?lk ?cd ?room ?b ?l ?_ ?h1 ?h2 ?h3 ?h4; (case lk => k_is); (case cd => k_is); (case h1 => exact rfl); (case h2 => exact rfl); (case h3 => exact rfl); (case h4 => decide))
  case nl => exact T.nolimit
  case room => exact Nat.lt_trans hdep (by decide)
  case b => exact kp_binds X (fun S => by with_unfolding_all rfl)
  case l => exact locs rfl
  intro h₁ tk F N
  have KX := hqX
  have KT := hqT
  w_strict k_steps
  refine unbox (wpAny_call (bisect_spec (dp := dp + 1) (un := un + 3) (t0 := 205) (KX.keeps F.keep) (KT.keeps F.keep) (by omega) (by omega) (N.get (.head _)) hS hlen hsort (.inr rfl) fun h' tk' tok p hp hlo hhi hk => ?_))
  have F := F.keeps hk
  have N := newsKeep N hk
  dsimp only
  w_strict k_steps
  (with_reducible rename Fr _ _ _ _ => F); (with_reducible rename News _ _ _ _ => N)
  have hv : vs.length = ss.length := hS.length
  refine unbox (kl_insert F N (l := vs.take p ++ .str x t :: vs.drop p) ?_ ?_ (Upd.head (fun _ h => nomatch h)) ?_ fun h2 F N => wpAny_execs_nil ?_)
  · unfold Builtin.List.listFitsIndex
    simp only [Bool.and_eq_true, decide_eq_true_eq]; omega
  · unfold kl_ins
    rw [if_neg (by omega), Int.toNat_natCast]
    simp only [Nat.min_eq_left (hv ▸ hp : p ≤ vs.length)]
  · rw [sizeLine_eq]; simp only [hv]; omega
  · refine hR _ _ p _ _ hp hlo hhi (N.get (.head _)) (strsIns hS x t p) fun b o hb e => F.keep b o ?_
    exact (Heap.hide_ne _ hb).trans e
end Mine
end MInsortP

/-! ### MComp -/
section MCompP
open PySem PySem.W PySem.Calls PyProof.Rows
namespace Mine

section
variable {prog : Program} {w : World} {A : Around} {E : Value → Shared → Prop} {s : Shared} {env : Env} {h₀ : Heap} {L : Addr} {m : Str → Option Value} {news : List (Addr × Obj)}
  {elt iter : Expr} {x : Str} {px : Pos} {ifs : List Expr} {scope : Scope} {cl : List (Str × Addr)} {pos : Pos} {Q : Value → Shared → Prop}

/-- what a comprehension's element does with the item v, from any heap that holds h -/
structure EltOK (prog : Program) (w : World) (A : Around) (env : Env) (scope : Scope) (cl : List (Str × Addr)) (x : Str) (ifs : List Expr) (elt : Expr) (p : Value → Bool) (G : Value → Value → Prop) (h : Heap) (v : Value) : Prop where
  tests : ∀ C s₃ m₃ E', s₃.heap.Ns C m₃ → m₃ x = some v → (∀ b o, h.get? b = some o → s₃.heap.get? b = some o) →
    wpAny (model prog w) A (forIn ifs true fun c r => if r = true then do let ok ← isTrue c (compEnvC scope cl C env) (eval c (compEnvC scope cl C env)); pure (ForInStep.yield ok) else pure (ForInStep.yield r))
      (fun ok s₄ => ok = p v ∧ Keeps s₃ s₄) E' s₃
  elt : ∀ C s₃ m₃ E', p v = true → s₃.heap.Ns C m₃ → m₃ x = some v → (∀ b o, h.get? b = some o → s₃.heap.get? b = some o) →
    wpAny (model prog w) A (eval elt (compEnvC scope cl C env)) (fun y s₄ => G v y ∧ Keeps s₃ s₄) E' s₃

/-- the goal that a source leaves -/
def CSrc (prog : Program) (w : World) (A : Around) (env : Env) (scope : Scope) (cl : List (Str × Addr)) (x : Str) (ifs : List Expr) (elt : Expr) (p : Value → Bool) (G : Value → Value → Prop) (Q : Value → Shared → Prop) (it : Value) (s₂ : Shared) : Prop :=
  ∃ I fp wr n P St, it = .ref I ∧ Walks prog w A I fp wr n P St ∧ n ≤ sizeLine ∧ St 0 s₂.heap ∧ (∀ b ∈ fp, b < s₂.heap.objs.size) ∧
      QuietOnC prog w A env scope cl x ifs elt wr P p G s₂ ∧
      (∀ D h' tk ys (vs : List Value), s₂.heap.get? D = none → h'.IsList D ys → h'.PlainList D ys → vs.length = n → (∀ j v, vs[j]? = some v → P j v) → Paired G (vs.filter p) ys.toList →
        (∀ b o, b ∉ wr → s₂.heap.get? b = some o → h'.get? b = some o) → Q (.ref D) { s₂ with heap := h', toks := tk })

theorem comp_rule (p : Value → Bool) (G : Value → Value → Prop)
    (hclos : closureFor scope env = pure cl) (hcell : ∀ y ∈ scope.names, y.2 ≠ .cell) (hkind : scope.kind = .function)
    (hnames : ∀ y ∈ scope.names, y.2 = .local → scope.names.lookup y.1 = some .local) (hx : scope.names.lookup x = some .local)
    (h : wpAny (model prog w) A (eval iter env) (fun xv s₁ => wpAny (model prog w) A (pyIter xv) (CSrc prog w A env scope cl x ifs elt p G Q) E s₁) E s)
    (hs : ∀ x, foldedSetIterable iter env x = pure x := by intro _; rfl) :
    wpAny (model prog w) A (eval (.ListComp elt [⟨.Name x px, iter, ifs, 0⟩] scope pos) env) Q E s :=
  wpAny_ListComp_free p G hclos hcell hkind hnames hx h hs

theorem news_of_keep {D : Addr} {o : Obj} {h h' : Heap} (F : Fr h₀ L h m) (N : News h₀ L h news) (hk : ∀ b o, h.get? b = some o → h'.get? b = some o) (hD : h.get? D = none) (ho : h'.get? D = some o) :
    News h₀ L h' ((D, o) :: news) := by
  intro q hq
  rcases List.mem_cons.mp hq with rfl | hq
  · refine ⟨ho, ?_, ?_⟩
    · rintro rfl
      obtain ⟨oL, _, _, hL, _⟩ := F.ns
      rw [hD] at hL; cases hL
    · cases e : h₀.get? D with
      | none => rfl
      | some o' => have := F.keep _ _ e; rw [hD] at this; cases this
  · exact ⟨hk _ _ (N q hq).1, (N q hq).2⟩

theorem src_list {l : Addr} {vs : List Value} {p : Value → Bool} {G : Value → Value → Prop} (hh : A.handled = none) (hl : s.heap.IsList l vs.toArray) (hsz : vs.length ≤ 1000) (F : Fr h₀ L s.heap m) (N : News h₀ L s.heap news)
    (elts : ∀ v ∈ vs, EltOK prog w A env scope cl x ifs elt p G s.heap v)
    (hQ : ∀ D h' tk ys k, Fr h₀ L h' m → News h₀ L h' ((D, listOf ys.toArray k) :: news) → Paired G (vs.filter p) ys → (∀ b o, s.heap.get? b = some o → h'.get? b = some o) → s.heap.get? D = none → Q (.ref D) { s with heap := h', toks := tk }) :
    wpAny (model prog w) A (pyIter (.ref l)) (CSrc prog w A env scope cl x ifs elt p G Q) E s := by
  obtain ⟨ol, hol, _⟩ := id hl
  have hlt : l < s.heap.objs.size := Heap.lt_size hol
  refine wpAny_pyIter_list hl ?_
  have W := Walks.list (prog := prog) (w := w) hh s.heap.objs.size l (Nat.ne_of_lt hlt) vs.toArray
  rw [List.size_toArray] at W
  have up : ∀ b o, s.heap.get? b = some o → (s.heap.push { cls := .type "list_iterator", data := .fields #[.ref l, .int 0 0] }).get? b = some o := fun b o e => Heap.get?_push_of_some _ e
  have off : ∀ b o, s.heap.get? b = some o → b ∉ [s.heap.objs.size] := fun b o e hm => absurd (Heap.lt_size e) ((List.mem_singleton.mp hm) ▸ Nat.lt_irrefl _)
  refine ⟨_, _, _, _, _, _, rfl, W, by rw [sizeLine_eq]; simp only [List.size_toArray]; omega, ⟨⟨_, Heap.get?_push_size _ rfl, rfl, rfl⟩, hl.at fun o e => up _ o e⟩, ?_, ⟨?_, ?_⟩, ?_⟩
  · intro b hb
    show b < (s.heap.push _).objs.size
    rw [Heap.size_push]
    rcases List.mem_cons.mp hb with rfl | hb
    · exact Nat.lt_succ_self _
    · rw [List.mem_singleton.mp hb]; exact Nat.lt_succ_of_lt hlt
  · intro C i v s₃ m₃ E' _ hP hn hm hk _
    have hv : v ∈ vs := List.mem_of_getElem? (by simpa using hP : vs[i]? = some v)
    exact (elts v hv).tests C s₃ m₃ E' hn hm fun b o e => hk b o (off b o e) (up b o e)
  · intro C i v s₃ m₃ E' _ hP hpv hn hm hk _
    have hv : v ∈ vs := List.mem_of_getElem? (by simpa using hP : vs[i]? = some v)
    exact (elts v hv).elt C s₃ m₃ E' hpv hn hm fun b o e => hk b o (off b o e) (up b o e)
  · intro D h' tk ys vs' hD _ hpl hlen hP hF hk
    have e : vs' = vs := List.ext_getElem? fun j => by
      by_cases hj : j < vs'.length
      · have := hP j vs'[j] (by simp [hj])
        rw [List.getElem?_eq_getElem hj, ← (by simpa using this : vs[j]? = some vs'[j])]
      · simp only [List.size_toArray] at hlen
        rw [List.getElem?_eq_none (by omega), List.getElem?_eq_none (by omega)]
    subst e
    obtain ⟨k, hk'⟩ := hpl
    have hkk : ∀ b o, s.heap.get? b = some o → h'.get? b = some o := fun b o e => hk b o (off b o e) (up b o e)
    have hD' : s.heap.get? D = none := by
      cases e : s.heap.get? D with
      | none => rfl
      | some o => have := up D o e; rw [hD] at this; cases this
    exact hQ D h' tk ys.toList k (F.keeps hkk) (news_of_keep F N hkk hD' (by rw [hk'])) hF hkk hD'

theorem src_range {r : Addr} {b₀ : Int} {t₀ u₀ v₀ : Tok} {n : Nat} {p : Value → Bool} {G : Value → Value → Prop} (hh : A.handled = none) (hr : IsRange s.heap r 0 b₀ 1 t₀ u₀ v₀) (hsmall : Builtin.Range.small 0 b₀ 1 = true) (hn : Builtin.Range.rangeSize 0 b₀ 1 = (n : Int)) (hsz : n ≤ 1000) (F : Fr h₀ L s.heap m) (N : News h₀ L s.heap news)
    (elts : ∀ (i : Nat) u, i < n → EltOK prog w A env scope cl x ifs elt p G s.heap (.int i u))
    (hQ : ∀ D h' tk ys k (vs : List Value), vs.length = n → (∀ (j : Nat) v, vs[j]? = some v → ∃ u, v = .int j u) → Fr h₀ L h' m → News h₀ L h' ((D, listOf ys.toArray k) :: news) → Paired G (vs.filter p) ys → (∀ b o, s.heap.get? b = some o → h'.get? b = some o) → s.heap.get? D = none → Q (.ref D) { s with heap := h', toks := tk }) :
    wpAny (model prog w) A (pyIter (.ref r)) (CSrc prog w A env scope cl x ifs elt p G Q) E s := by
  refine wpAny_pyIter_range hr hsmall ?_
  have W : Walks prog w A s.heap.objs.size [s.heap.objs.size] [s.heap.objs.size] n (fun i v => i < n ∧ ∃ t, v = .int (0 + i * 1) t)
      (fun i h => IsRangeIter h s.heap.objs.size (0 + (i : Nat) * 1) ((n : Int) - (i : Nat)) 1) := (Walks.range hh _ 0 1 n).bound
  have off : ∀ b o, s.heap.get? b = some o → b ∉ [s.heap.objs.size] := fun b o e hm => absurd (Heap.lt_size e) ((List.mem_singleton.mp hm) ▸ Nat.lt_irrefl _)
  have up : ∀ oo b o, s.heap.get? b = some o → (s.heap.push oo).get? b = some o := fun oo b o e => Heap.get?_push_of_some _ e
  refine ⟨_, _, _, _, _, _, rfl, W, by rw [sizeLine_eq]; omega, (by show IsRangeIter _ _ _ _ _; rw [hn]; simpa using Heap.get?_push_size _ rfl), ?_, ⟨?_, ?_⟩, ?_⟩
  · intro b hb
    rw [List.mem_singleton.mp hb]
    show s.heap.objs.size < (s.heap.push _).objs.size
    rw [Heap.size_push]; exact Nat.lt_succ_self _
  · rintro C i v s₃ m₃ E' _ ⟨hi, u, rfl⟩ hn' hm hk _
    rw [Int.mul_one, Int.zero_add] at hm ⊢
    exact (elts i u hi).tests C s₃ m₃ E' hn' hm fun b o e => hk b o (off b o e) (up _ b o e)
  · rintro C i v s₃ m₃ E' _ ⟨hi, u, rfl⟩ hpv hn' hm hk _
    rw [Int.mul_one, Int.zero_add] at hm hpv ⊢
    exact (elts i u hi).elt C s₃ m₃ E' hpv hn' hm fun b o e => hk b o (off b o e) (up _ b o e)
  · intro D h' tk ys vs hD _ hpl hlen hP hF hk
    obtain ⟨k, hk'⟩ := hpl
    have hkk : ∀ b o, s.heap.get? b = some o → h'.get? b = some o := fun b o e => hk b o (off b o e) (up _ b o e)
    have hD' : s.heap.get? D = none := by
      cases e : s.heap.get? D with
      | none => rfl
      | some o => exact absurd ((Heap.get?_push_of_some _ e).symm.trans hD) (by simp)
    refine hQ D h' tk ys.toList k vs hlen (fun j v hj => ?_) (F.keeps hkk) (news_of_keep F N hkk hD' (by rw [hk'])) hF hkk hD'
    obtain ⟨_, u, rfl⟩ := hP j v hj
    exact ⟨u, by rw [Int.mul_one, Int.zero_add]⟩

theorem src_str {word : Str} {t : Tok} {p : Value → Bool} {G : Value → Value → Prop} (hh : A.handled = none) (hsz : word.cps.size ≤ 1000)
    (elts : ∀ (i : Nat) c u, word.cps[i]? = some c → EltOK prog w A env scope cl x ifs elt p G s.heap (.str ⟨#[c]⟩ u))
    (hQ : ∀ D h' tk ys k (vs : List Value), vs.length = word.cps.size → (∀ (j : Nat) v, vs[j]? = some v → SignAt word j v) → h'.get? D = some (listOf ys.toArray k) → Paired G (vs.filter p) ys → (∀ b o, s.heap.get? b = some o → h'.get? b = some o) → s.heap.get? D = none → Q (.ref D) { s with heap := h', toks := tk }) :
    wpAny (model prog w) A (pyIter (.str word t)) (CSrc prog w A env scope cl x ifs elt p G Q) E s := by
  refine wpAny_pyIter_str fun oo St W st => ?_
  have off : ∀ b o, s.heap.get? b = some o → b ∉ [s.heap.objs.size] := fun b o e hm => absurd (Heap.lt_size e) ((List.mem_singleton.mp hm) ▸ Nat.lt_irrefl _)
  have up : ∀ b o, s.heap.get? b = some o → (s.heap.push oo).get? b = some o := fun b o e => Heap.get?_push_of_some _ e
  refine ⟨_, _, _, _, _, _, rfl, W A hh, by rw [sizeLine_eq]; omega, st, ?_, ⟨?_, ?_⟩, ?_⟩
  · intro b hb
    rw [List.mem_singleton.mp hb]
    show s.heap.objs.size < (s.heap.push _).objs.size
    rw [Heap.size_push]; exact Nat.lt_succ_self _
  · rintro C i v s₃ m₃ E' _ ⟨c, u, hc, rfl⟩ hn' hm hk _
    exact (elts i c u hc).tests C s₃ m₃ E' hn' hm fun b o e => hk b o (off b o e) (up b o e)
  · rintro C i v s₃ m₃ E' _ ⟨c, u, hc, rfl⟩ hpv hn' hm hk _
    exact (elts i c u hc).elt C s₃ m₃ E' hpv hn' hm fun b o e => hk b o (off b o e) (up b o e)
  · intro D h' tk ys vs hD _ hpl hlen hP hF hk
    obtain ⟨k, hk'⟩ := hpl
    have hkk : ∀ b o, s.heap.get? b = some o → h'.get? b = some o := fun b o e => hk b o (off b o e) (up b o e)
    have hD' : s.heap.get? D = none := by
      cases e : s.heap.get? D with
      | none => rfl
      | some o => have := up D o e; rw [hD] at this; cases this
    exact hQ D h' tk ys.toList k vs hlen hP (by rw [hk']) hF hkk hD'
end
end Mine
namespace Mine
section
variable {M : Model} {A : Around} {E : Value → Shared → Prop} {s : Shared} {scope : Scope} {cl : List (Str × Addr)} {C c : Addr} {env : Env} {m : Str → Option Value} {x : Str} {pos : Pos} {v : Value} {Q : Value → Shared → Prop}
theorem cn_local (hn : s.heap.Ns C m) (hv : m x = some v) (h : Q v s) (hk : scope.kind = .function) (hl : (compEnvC scope cl C env).kindOf x = some .local) (hd : (x == ("__debug__" : Str)) = false) :
    wpAny M A (eval (.Name x pos) (compEnvC scope cl C env)) Q E s :=
  wpAny_Name (wpAny_loadName_local hk hl hn hv h) hd
theorem cn_cell (hv : s.heap.IsCell c (some v)) (h : Q v s) (hc : cl.lookup x = some c) (hk : scope.kind = .function) (hl : (compEnvC scope cl C env).kindOf x = some .cell) (hd : (x == ("__debug__" : Str)) = false) :
    wpAny M A (eval (.Name x pos) (compEnvC scope cl C env)) Q E s :=
  wpAny_Name (wpAny_loadName_cell hk hl hc hv h) hd
end
end Mine
end MCompP

/-! ### MComp2 -/
section MComp2P
open PySem PySem.W PySem.Calls PyProof.Rows
namespace Mine

abbrev two (elt iter iter2 : Expr) (x y : Str) (px py : Pos) (scope : Scope) (pos : Pos) : Expr := .ListComp elt [⟨.Name x px, iter, [], 0⟩, ⟨.Name y py, iter2, [], 0⟩] scope pos

section
variable {prog : Program} {w : World} {A : Around} {R : Result → Shared → Prop} {s : Shared} {elt iter iter2 : Expr} {x y : Str} {px py : Pos} {scope : Scope} {pos : Pos} {it acc : Value} {env : Env}

theorem compTurn_two1 : compTurn (two elt iter iter2 x y px py scope pos) 1 it acc env = (standAt iter2.pos >>= fun _ => pyNext it >>= fun r => match r with
      | none => pure (.done .next)
      | some v => letOwnedTupleGo (.Name y py) it v >>= fun _ => assign (.Name y py) env v >>= fun _ =>
        (eval elt env >>= fun z => call (.builtin "list.append") [acc, z] >>= fun _ => pure ()) >>= fun _ =>
          again (.compLoop (two elt iter iter2 x y px py scope pos) 1 it acc env)) := by rfl

theorem compTurn_two0 : compTurn (two elt iter iter2 x y px py scope pos) 0 it acc env = (standAt iter.pos >>= fun _ => pyNext it >>= fun r => match r with
      | none => pure (.done .next)
      | some v => letOwnedTupleGo (.Name x px) it v >>= fun _ => assign (.Name x px) env v >>= fun _ =>
        (eval iter2 env >>= fun z => standAt iter2.pos >>= fun _ => foldedSetIterable iter2 env z >>= fun z => holding [z] (pyIter z) >>= fun it2 => runOwn (.compStart (two elt iter iter2 x y px py scope pos) 1 it2 acc env) env >>= fun _ =>
          again (.compLoop (two elt iter iter2 x y px py scope pos) 0 it acc env))) := by rfl

/-- the start of a clause -/
theorem start_two {d : Nat} (hd : d = 0 ∨ d = 1)
    (h0 : codeAny (model prog w) A (.compLoop (two elt iter iter2 x y px py scope pos) d it acc env) R s)
    (h : wpAny (model prog w) A (pyIter it) (fun it' s' => codeAny (model prog w) A (.compLoop (two elt iter iter2 x y px py scope pos) d it' acc env) R s')
      (notedBy (model prog w) A env fun x s' => R (.error x) s') s) :
    codeAny (model prog w) A (.compStart (two elt iter iter2 x y px py scope pos) d it acc env) R s := by
  refine codeAny_of_tree ?_
  show wpAny _ _ ((compStart (two elt iter iter2 x y px py scope pos) d it acc env).onRaise (fun x => do noteFrame x env; standAt theWindowsPlace)) _ _ s
  refine wpAny_notedAt ?_
  unfold compStart
  rcases hd with rfl | rfl
  all_goals
    show wpAny _ _ (ask >>= _) _ _ s
    refine wpAny_bind (wpAny_askSetting (wpAny_ite ?_))
    split
    · first
        | exact wpAny_bind (wpAny_pure (wpAny_pure (And.intro rfl h0)))
        | exact wpAny_pure (And.intro rfl h0)
    · first
        | exact wpAny_bind (wpAny_rule (wpAny_bind (wpAny_standAt (wpAny_bind (wpAny_mono h (fun it' s' h' => wpAny_pure (And.intro rfl h')) fun _ _ x => x)))))
        | (refine wpAny_bind (wpAny_rule ?_); show wpAny _ _ (standAt _ >>= _) _ _ s; exact wpAny_bind (wpAny_standAt (wpAny_bind (wpAny_mono h (fun it' s' h' => wpAny_pure (And.intro rfl h')) fun _ _ x => x))))

/-- the inner clause: over the signs of a text -/
theorem inner_two {I D : Addr} {St : Nat → Heap → Prop} {w2 sx : Str} {tx : Tok} {ys : List Value} {m : Str → Option Value}
    (W : Walks prog w A I [I] [I] w2.cps.size (SignAt w2) St) (hy : env.kindOf y = some .local) (hp : (env.scope.kind == .class || (env.scope.kind == .module && env.locals != env.globals)) = false) (hxy : x ≠ y)
    (hDC : D ≠ env.locals) (hDI : D ≠ I) (hIC : I ≠ env.locals)
    (hst : St 0 s.heap) (hacc : s.heap.PlainList D ys.toArray) (hn : s.heap.Ns env.locals m) (hm : m x = some (.str sx tx)) (hsz : ys.length + w2.cps.size ≤ 1000)
    (helt : ∀ s₃ m₃ c tc E', s₃.heap.Ns env.locals m₃ → m₃ x = some (.str sx tx) → m₃ y = some (.str ⟨#[c]⟩ tc) → wpAny (model prog w) A (eval elt env) (fun v s₄ => (∃ t, v = .str (sx ++ ⟨#[c]⟩) t) ∧ Keeps s₃ s₄) E' s₃)
    (hR : ∀ h' tk m' vs, h'.Ns env.locals m' → h'.PlainList D (ys ++ vs).toArray → StrsAre vs (w2.cps.toList.map fun c => sx ++ ⟨#[c]⟩) →
      (∀ b o, b ≠ env.locals → b ≠ I → b ≠ D → s.heap.get? b = some o → h'.get? b = some o) → R (.ok .next) { s with heap := h', toks := tk }) :
    codeAny (model prog w) A (.compLoop (two elt iter iter2 x y px py scope pos) 1 (.ref I) (.ref D) env) R s := by
  refine codeAny_loop rfl (fun k s' => ∃ (h' : Heap) (tk i : Nat) (m' : Str → Option Value) (vs : List Value), s' = { s with heap := h', toks := tk } ∧ i ≤ w2.cps.size ∧ k = w2.cps.size + 1 - i ∧ St i h' ∧ h'.PlainList D (ys ++ vs).toArray ∧
      h'.Ns env.locals m' ∧ m' x = some (.str sx tx) ∧ StrsAre vs ((w2.cps.toList.take i).map fun c => sx ++ ⟨#[c]⟩) ∧ (∀ b o, b ≠ env.locals → b ≠ I → b ≠ D → s.heap.get? b = some o → h'.get? b = some o)) ?_ (w2.cps.size + 1)
    ⟨s.heap, s.toks, 0, m, [], rfl, Nat.zero_le _, rfl, hst, by simpa using hacc, hn, hm, by simpa using StrsAre.nil, fun _ _ _ _ _ e => e⟩
  rintro k s' ⟨H, tk, i, m', vs, rfl, hi, rfl, hst', hacc', hn', hm', hS, hk⟩
  show wpAny _ A ((compTurn (two elt iter iter2 x y px py scope pos) 1 (.ref I) (.ref D) env).onRaise (fun x => do noteFrame x env; theTreesLotGoes x)) _ _ _
  refine wpAny_noted ?_
  rw [compTurn_two1]
  refine wpAny_bind (wpAny_standAt (wpAny_bind ?_))
  by_cases hlt : i < w2.cps.size
  · refine W.item i _ _ _ hlt hst' fun v h₁ tk₁ hPv hst₁ hk₁ => ?_
    obtain ⟨c, u, hc, rfl⟩ := hPv
    have hCw : env.locals ∉ [I] := fun h => hIC (List.mem_singleton.mp h).symm
    have hDw : D ∉ [I] := fun h => hDI (List.mem_singleton.mp h)
    refine wpAny_bind (wpAny_of_eq rfl (wpAny_bind ?_))
    refine wpAny_assign_Name (wpAny_storeName_local hy (hn'.at' fun o e => hk₁ _ o hCw e) (fun h₂ hn₂ hs₂ => ?_) hp)
    have up₂ : ∀ b o, b ≠ env.locals → b ≠ I → H.get? b = some o → h₂.get? b = some o := fun b o hbC hbI e => hs₂.extBut b o hbC (hk₁ b o (fun h => hbI (List.mem_singleton.mp h)) e)
    have hst₂ : St (i + 1) h₂ := W.frame _ _ _ hst₁ fun b hb o e => hs₂.extBut b o (fun h => hIC (by rw [← List.mem_singleton.mp hb]; exact h)) e
    refine wpAny_bind (wpAny_bind (wpAny_mono (helt _ _ c u _ hn₂ (by simp [hxy, hm']) (by simp)) (fun z s₃ h₃ => ?_) fun _ _ e => e))
    obtain ⟨⟨t, rfl⟩, h₃, tk₃, rfl, hk₃⟩ := h₃
    have hszl : (ys ++ vs).toArray.size ≤ sizeLine := by
      have := hS.length
      simp only [List.length_map, List.length_take, Array.length_toList] at this
      rw [sizeLine_eq]; simp only [List.size_toArray, List.length_append]; omega
    refine wpAny_bind (wpAny_list_append_plain (hsz := hszl) (hacc'.at fun o e => hk₃ _ o (up₂ D o hDC hDI e)) fun h₄ hl₄ hs₄ => ?_)
    · refine wpAny_pure (wpAny_pure ⟨rfl, w2.cps.size + 1 - (i + 1), by omega, h₄, _, i + 1, _, vs ++ [.str (sx ++ ⟨#[c]⟩) t], rfl, hlt, rfl, ?_, ?_, (hn₂.keeps hk₃).sameBut hs₄ (Ne.symm hDC), ?_, ?_, ?_⟩)
      · exact W.frame _ _ _ hst₂ fun b hb o e => hs₄.extBut b o (fun h => hDI (by rw [← h, List.mem_singleton.mp hb])) (hk₃ b o e)
      · rw [← List.append_assoc]; simpa using hl₄
      · simp [hxy, hm']
      · rw [List.take_add_one, show w2.cps.toList[i]? = some c by simpa using hc, List.map_append]
        exact hS.append' (.cons _ _ .nil)
      · exact fun b o hbC hbI hbD e => hs₄.extBut b o hbD (hk₃ b o (up₂ b o hbC hbI (hk b o hbC hbI hbD e)))
  · obtain rfl : i = w2.cps.size := Nat.le_antisymm hi (Nat.not_lt.mp hlt)
    refine W.done _ _ _ hst' fun h₁ tk₁ hk₁ => wpAny_pure ?_
    refine hR h₁ tk₁ m' vs (hn'.at' fun o e => hk₁ _ o (fun h => hIC (List.mem_singleton.mp h).symm) e) (hacc'.at fun o e => hk₁ _ o (fun h => hDI (List.mem_singleton.mp h)) e) ?_ fun b o hbC hbI hbD e => hk₁ b o (fun h => hbI (List.mem_singleton.mp h)) (hk b o hbC hbI hbD e)
    rwa [List.take_of_length_le (by simp)] at hS

theorem outer_two {I ax D : Addr} {w2 : Str} {vs : List Value} {ss : List Str} {m : Str → Option Value} (hh : A.handled = none)
    (hx : env.kindOf x = some .local) (hy : env.kindOf y = some .local) (hp : (env.scope.kind == .class || (env.scope.kind == .module && env.locals != env.globals)) = false) (hxy : x ≠ y)
    (hDC : D ≠ env.locals) (hDI : D ≠ I) (hIC : I ≠ env.locals) (haI : ax ≠ I) (haD : ax ≠ D) (haC : ax ≠ env.locals)
    (hit : s.heap.IsListIter I ax 0) (hl : s.heap.IsList ax vs.toArray) (hSs : StrsAre vs ss) (hacc : s.heap.PlainList D #[]) (hn : s.heap.Ns env.locals m) (hsz : ss.length * w2.cps.size + w2.cps.size ≤ 1000)
    (hit2 : ∀ s₃ Q' E', (∀ t tk, Q' (.str w2 t) { s₃ with toks := tk }) → wpAny (model prog w) A (eval iter2 env) Q' E' s₃)
    (hfs : ∀ z, foldedSetIterable iter2 env z = pure z)
    (helt : ∀ s₃ m₃ sx tx c tc E', s₃.heap.Ns env.locals m₃ → m₃ x = some (.str sx tx) → m₃ y = some (.str ⟨#[c]⟩ tc) → sx ∈ ss → wpAny (model prog w) A (eval elt env) (fun v s₄ => (∃ t, v = .str (sx ++ ⟨#[c]⟩) t) ∧ Keeps s₃ s₄) E' s₃)
    (hR : ∀ h' tk m' ys, h'.Ns env.locals m' → h'.PlainList D ys.toArray → StrsAre ys (ss.flatMap fun sx => w2.cps.toList.map fun c => sx ++ ⟨#[c]⟩) →
      (∀ b o, b ≠ env.locals → b ≠ I → b ≠ D → s.heap.get? b = some o → h'.get? b = some o) → R (.ok .next) { s with heap := h', toks := tk }) :
    codeAny (model prog w) A (.compLoop (two elt iter iter2 x y px py scope pos) 0 (.ref I) (.ref D) env) R s := by
  have hlen : vs.length = ss.length := hSs.length
  refine codeAny_loop rfl (fun k s' => ∃ (h' : Heap) (tk i : Nat) (m' : Str → Option Value) (ys : List Value), s' = { s with heap := h', toks := tk } ∧ i ≤ ss.length ∧ k = ss.length + 1 - i ∧ h'.IsListIter I ax i ∧ h'.IsList ax vs.toArray ∧ h'.PlainList D ys.toArray ∧
      h'.Ns env.locals m' ∧ StrsAre ys ((ss.take i).flatMap fun sx => w2.cps.toList.map fun c => sx ++ ⟨#[c]⟩) ∧ (∀ b o, b ≠ env.locals → b ≠ I → b ≠ D → s.heap.get? b = some o → h'.get? b = some o)) ?_ (ss.length + 1)
    ⟨s.heap, s.toks, 0, m, [], rfl, Nat.zero_le _, rfl, hit, hl, hacc, hn, by simpa using StrsAre.nil, fun _ _ _ _ _ e => e⟩
  rintro k s' ⟨H, tk, i, m', ys, rfl, hi, rfl, hit', hl', hacc', hn', hS, hk⟩
  show wpAny _ A ((compTurn (two elt iter iter2 x y px py scope pos) 0 (.ref I) (.ref D) env).onRaise (fun x => do noteFrame x env; theTreesLotGoes x)) _ _ _
  refine wpAny_noted ?_
  rw [compTurn_two0]
  refine wpAny_bind (wpAny_standAt (wpAny_bind ?_))
  by_cases hlt : i < ss.length
  · have hgi : ss[i]? = some ss[i] := List.getElem?_eq_getElem hlt
    obtain ⟨tx, hvi⟩ := hSs.get i _ hgi
    generalize hsx : ss[i] = sx at hgi hvi
    have hmem : sx ∈ ss := hsx ▸ List.getElem_mem hlt
    refine wpAny_pyNext_list_item hit' hl' (x := .str sx tx) (by simpa using hvi) fun h₁ hit₁ hs₁ => ?_
    refine wpAny_bind (wpAny_of_eq rfl (wpAny_bind ?_))
    refine wpAny_assign_Name (wpAny_storeName_local hx (hn'.sameBut hs₁ (Ne.symm hIC)) (fun h₂ hn₂ hs₂ => ?_) hp)
    refine wpAny_bind (hit2 _ _ _ fun t2 tk2 => wpAny_bind (wpAny_standAt (wpAny_bind (wpAny_of_eq (hfs _) (wpAny_bind (wpAny_holding ?_))))))
    refine wpAny_pyIter_str fun o2 St W st => ?_
    have up₂ : ∀ b o, b ≠ env.locals → b ≠ I → H.get? b = some o → h₂.get? b = some o := fun b o hbC hbI e => hs₂.extBut b o hbC (hs₁.extBut b o hbI e)
    have lt₂ : ∀ b, (∃ o, h₂.get? b = some o) → b ≠ h₂.objs.size := fun b ⟨o, e⟩ => Nat.ne_of_lt (Heap.lt_size e)
    have exC : ∃ o, h₂.get? env.locals = some o := by obtain ⟨o, _, _, e, _⟩ := hn₂; exact ⟨o, e⟩
    have exD : ∃ o, h₂.get? D = some o := by obtain ⟨n, e⟩ := hacc'; exact ⟨_, up₂ D _ hDC hDI e⟩
    have exI : ∃ o, h₂.get? I = some o := by obtain ⟨o, e, _⟩ := hit₁; exact ⟨_, hs₂.extBut I _ hIC e⟩
    have push : ∀ b o, h₂.get? b = some o → (h₂.push o2).get? b = some o := fun b o e => Heap.get?_push_of_some _ e
    refine wpAny_bind (wpAny_runOwn ?_)
    have hin : ys.length + w2.cps.size ≤ 1000 := by
      have e1 := hS.length
      have e2 : ((ss.take i).flatMap fun sx => w2.cps.toList.map fun c => sx ++ (⟨#[c]⟩ : Str)).length = i * w2.cps.size := by
        rw [List.length_flatMap]
        simp only [List.length_map, Array.length_toList]
        rw [List.map_const', List.sum_replicate_nat, List.length_take, Nat.min_eq_left hi]
      have e3 : i * w2.cps.size ≤ ss.length * w2.cps.size := Nat.mul_le_mul_right _ hi
      omega
    have key : codeAny (model prog w) (A.mark none) (.compLoop (two elt iter iter2 x y px py scope pos) 1 (.ref h₂.objs.size) (.ref D) env)
        (fun r s' => match r with
          | .ok f => wpAny (model prog w) A (again (.compLoop (two elt iter iter2 x y px py scope pos) 0 (.ref I) (.ref D) env)) (fun fin s' => match fin with
              | .done f => R (.ok f) s'
              | .again c' => c' = .compLoop (two elt iter iter2 x y px py scope pos) 0 (.ref I) (.ref D) env ∧ ∃ k', k' < ss.length + 1 - i ∧ ∃ (h' : Heap) (tk i : Nat) (m' : Str → Option Value) (ys : List Value), s' = { s with heap := h', toks := tk } ∧ i ≤ ss.length ∧ k' = ss.length + 1 - i ∧ h'.IsListIter I ax i ∧ h'.IsList ax vs.toArray ∧ h'.PlainList D ys.toArray ∧
                h'.Ns env.locals m' ∧ StrsAre ys ((ss.take i).flatMap fun sx => w2.cps.toList.map fun c => sx ++ ⟨#[c]⟩) ∧ (∀ b o, b ≠ env.locals → b ≠ I → b ≠ D → s.heap.get? b = some o → h'.get? b = some o))
              (notedBy (model prog w) A env fun e s' => R (.error e) s') s'
          | .error e => cameBackBy (model prog w) A env (notedBy (model prog w) A env fun e s' => R (.error e) s') e s')
        { s with heap := h₂.push o2, toks := tk2 } := by
      refine inner_two (m := fun z => if z = x then some (.str sx tx) else m' z) (sx := sx) (tx := tx) (ys := ys) (W (A.mark none) hh) hy hp hxy hDC (lt₂ D exD) (Ne.symm (lt₂ _ exC)) st (hacc'.at fun o e => push _ _ (up₂ D o hDC hDI e)) (hn₂.keeps push) (by simp) hin (fun s₃ m₃ c tc E' a b d => ?_) fun h₃ tk₃ m₃ vs₃ hn₃ hacc₃ hS₃ hk₃ => ?_
      · have := helt s₃ m₃ sx tx c tc E' a b d hmem
        rwa [show A.mark none = A from by cases A; simp [Around.mark]]
      · have up₃ : ∀ b o, b ≠ env.locals → b ≠ D → h₂.get? b = some o → h₃.get? b = some o := fun b o hbC hbD e => hk₃ b o hbC (lt₂ b ⟨o, e⟩) hbD (push _ _ e)
        refine wpAny_pure ⟨rfl, ss.length + 1 - (i + 1), by omega, h₃, tk₃, i + 1, m₃, ys ++ vs₃, rfl, hlt, rfl, ?_, ?_, hacc₃, hn₃, ?_, ?_⟩
        · obtain ⟨o, e, r⟩ := hit₁.extBut hs₂.extBut hIC
          exact ⟨o, up₃ I o hIC (Ne.symm hDI) e, r⟩
        · exact hl'.at fun o e => up₃ ax o haC haD (up₂ ax o haC haI e)
        · rw [List.take_add_one, hgi, List.flatMap_append]
          simpa using hS.append' hS₃
        · exact fun b o hbC hbI hbD e => up₃ b o hbC hbD (up₂ b o hbC hbI (hk b o hbC hbI hbD e))
    exact start_two (.inr rfl) key ((W (A.mark none) hh).self 0 _ _ _ st key)
  · obtain rfl : i = ss.length := Nat.le_antisymm hi (Nat.not_lt.mp hlt)
    refine wpAny_pyNext_list_end hh hit' hl' (by simp [hlen]) fun h₁ he₁ => wpAny_pure ?_
    refine hR h₁ tk m' ys (hn'.extBut he₁ (Ne.symm hIC)) (hacc'.extBut he₁ hDI) ?_ fun b o hbC hbI hbD e => he₁ b o hbI (hk b o hbC hbI hbD e)
    rwa [List.take_length] at hS

theorem assign_two {h₀ : Heap} {news : List (Addr × Obj)} {ax : Addr} {w2 z : Str} {pz spos : Pos} {vs : List Value} {ss : List Str} {m : Str → Option Value} {cl : List (Str × Addr)} {E : Value → Shared → Prop} {Q : Flow → Shared → Prop} (hh : A.handled = none)
    (hsw : swapsWith (two elt iter iter2 x y px py scope pos) (some (.Name z pz)) spos.line env = pure true)
    (hclos : closureFor scope env = pure cl) (hcell : ∀ z ∈ scope.names, z.2 ≠ .cell) (hkind : scope.kind = .function)
    (hnames : ∀ z ∈ scope.names, z.2 = .local → scope.names.lookup z.1 = some .local) (hx : scope.names.lookup x = some .local) (hy : scope.names.lookup y = some .local) (hxy : x ≠ y)
    (hz : env.kindOf z = some .local) (hp : (env.scope.kind == .class || (env.scope.kind == .module && env.locals != env.globals)) = false)
    (F : Fr h₀ env.locals s.heap m) (N : News h₀ env.locals s.heap news)
    (hiter : ∀ Q', Q' (.ref ax) s → wpAny (model prog w) A (eval iter env) Q' E s)
    (hl : s.heap.IsList ax vs.toArray) (hSs : StrsAre vs ss) (hsz : ss.length * w2.cps.size + w2.cps.size ≤ 1000)
    (hit2 : ∀ C s₃ Q' E', (∀ t tk, Q' (.str w2 t) { s₃ with toks := tk }) → wpAny (model prog w) A (eval iter2 (compEnvC scope cl C env)) Q' E' s₃)
    (hfs : ∀ C z, foldedSetIterable iter2 (compEnvC scope cl C env) z = pure z)
    (helt : ∀ C s₃ m₃ sx tx c tc E', s₃.heap.Ns C m₃ → m₃ x = some (.str sx tx) → m₃ y = some (.str ⟨#[c]⟩ tc) → sx ∈ ss → wpAny (model prog w) A (eval elt (compEnvC scope cl C env)) (fun v s₄ => (∃ t, v = .str (sx ++ ⟨#[c]⟩) t) ∧ Keeps s₃ s₄) E' s₃)
    (hQ : ∀ D h' tk ys k, Fr h₀ env.locals h' (fun y => if y = z then some (.ref D) else m y) → News h₀ env.locals h' ((D, listOf ys.toArray k) :: news) → StrsAre ys (ss.flatMap fun sx => w2.cps.toList.map fun c => sx ++ ⟨#[c]⟩) → (∀ p ∈ news, p.1 < D) → Q .next { s with heap := h', toks := tk })
    (hs : ∀ x, foldedSetIterable iter env x = pure x := by intro _; rfl) :
    wpAny (model prog w) A (exec (.Assign [.Name z pz] (two elt iter iter2 x y px py scope pos) spos) env) Q E s := by
  rw [exec_Assign_Name_used _ _ _ _ hsw]
  refine wpAny_bind (wpAny_standAt (wpAny_bind ?_))
  show wpAny _ A (do let _ ← comprehension (two elt iter iter2 x y px py scope pos) scope env _ (newList []) false (eval iter env) (some (assign (.Name z pz) env))) _ _ s
  refine wpAny_bind (wpAny_mono (wpAny_comprehension_free (use := some (assign (.Name z pz) env)) (Q := fun _ s' => Q .next s') rfl hs hclos hkind hnames
    (hiter _ ?_)) (fun _ s' hq => wpAny_pure (wpAny_pure hq)) fun _ _ e => e)
  obtain ⟨ol, hol, _⟩ := id hl
  have hlt := ltN (Heap.lt_size hol)
  refine wpAny_pyIter_list hl ?_
  generalize hH1 : s.heap.push { cls := .type "list_iterator", data := .fields #[.ref ax, .int 0 0] } = H1
  have up1 : ∀ b o, s.heap.get? b = some o → H1.get? b = some o := fun b o e => hH1 ▸ Heap.get?_push_of_some _ e
  have hH1s : H1.objs.size = s.heap.objs.size + 1 := by rw [← hH1, Heap.size_push]
  have hit1 : H1.IsListIter s.heap.objs.size ax 0 := hH1 ▸ ⟨_, Heap.get?_push_size _ rfl, rfl, rfl⟩
  refine wpAny_newObj_type (wpAny_newFunctionEnv hcell (by intro y hy; simp at hy) (fun h₁ hns₁ hsb₁ => ?_) hkind)
  dsimp only at hns₁ hsb₁ ⊢
  generalize hH2 : H1.push { cls := .type "list", dict := none, data := .seq ([] : List Value).toArray } = H2 at hns₁ hsb₁ ⊢
  have hH2s : H2.objs.size = s.heap.objs.size + 2 := by rw [← hH2, Heap.size_push, hH1s]
  have up2 : ∀ b o, H1.get? b = some o → h₁.get? b = some o := fun b o e => hsb₁.extBut b o (by have := ltN (Heap.lt_size e); exact Nat.ne_of_lt (by omega)) (Heap.get?_push_of_some _ (hH2 ▸ Heap.get?_push_of_some _ e))
  have old : ∀ b o, s.heap.get? b = some o → h₁.get? b = some o := fun b o e => up2 b o (up1 b o e)
  have hacc : h₁.PlainList H1.objs.size #[] := ⟨_, hsb₁.extBut _ _ (Nat.ne_of_lt (by omega)) (Heap.get?_push_of_some _ (hH2 ▸ Heap.get?_push_size _ rfl))⟩
  have below : ∀ b o, s.heap.get? b = some o → b ≠ H2.objs.size ∧ b ≠ s.heap.objs.size ∧ b ≠ H1.objs.size := fun b o e => by
    have := ltN (Heap.lt_size e)
    exact ⟨Nat.ne_of_lt (by omega), Nat.ne_of_lt this, Nat.ne_of_lt (by omega)⟩
  have fresh₀ : ∀ a, s.heap.objs.size ≤ a → h₀.get? a = none := fun a ha => by
    cases e : h₀.get? a with
    | none => rfl
    | some o' => exact absurd (Heap.lt_size (F.keep a o' e)) (Nat.not_lt.mpr ha)
  have hLlt := ltN F.ns.lt
  have hD0 : h₀.get? H1.objs.size = none := fresh₀ _ (by omega)
  have hC0 : h₀.get? H2.objs.size = none := fresh₀ _ (by omega)
  have hit1' : h₁.IsListIter s.heap.objs.size ax 0 := by obtain ⟨o, e, r⟩ := hit1; exact ⟨o, up2 _ _ e, r⟩
  have c1 : H1.objs.size ≠ H2.objs.size := by omega
  have c2 : H1.objs.size ≠ s.heap.objs.size := by omega
  have c3 : s.heap.objs.size ≠ H2.objs.size := by omega
  have c4 : ax ≠ H1.objs.size := Nat.ne_of_lt (by omega)
  have c5 : ax ≠ H2.objs.size := Nat.ne_of_lt (by omega)
  have c6 : H2.objs.size ≠ env.locals := Nat.ne_of_gt (by omega)
  have c7 : H1.objs.size ≠ env.locals := Nat.ne_of_gt (by omega)
  have key : codeAny (model prog w) A (.compLoop (two elt iter iter2 x y px py scope pos) 0 (.ref s.heap.objs.size) (.ref H1.objs.size) (compEnvC scope cl H2.objs.size env))
      (compPost (model prog w) A E (some (assign (.Name z pz) env)) (fun _ s' => Q .next s') (.ref H1.objs.size) H2.objs.size) { s with heap := h₁, toks := s.toks + ([] : List (Str × Value)).length } := by
    refine outer_two (w2 := w2) (vs := vs) (ss := ss) hh (lookup_relabel_local hx) (lookup_relabel_local hy) (by simp [compEnvC, relabel, hkind]) hxy c1 c2 c3 (Nat.ne_of_lt hlt) c4 c5
      hit1' (hl.at fun o e => old _ o e) hSs hacc hns₁ hsz (hit2 _) (hfs _) (helt _) fun h' tk m' ys hn' hpl hS hk => ?_
    have keep : ∀ b o, s.heap.get? b = some o → h'.get? b = some o := fun b o e => hk b o (below b o e).1 (below b o e).2.1 (below b o e).2.2 (old b o e)
    have F' := F.keeps keep
    show wpAny _ A (assign (.Name z pz) env (.ref H1.objs.size)) _ _ _
    refine wpAny_assign_Name (wpAny_storeName_local hz F'.ns (fun h₂ hn₂ hs₂ => ?_) hp)
    have F₂ : Fr h₀ env.locals h₂ (fun y => if y = z then some (.ref H1.objs.size) else m y) := F'.set hn₂ hs₂
    refine ⟨m', hn'.sameBut hs₂ c6, fun h₃ hs₃ => ?_⟩
    obtain ⟨k, hpl⟩ := hpl
    refine hQ H1.objs.size h₃ _ ys k (F₂.change hs₃ c6 hC0) (fun p hp => ?_) hS (fun p hp => by have := ltN (Heap.lt_size (N p hp).1); refine ltN (a := p.1) (b := H1.objs.size) ?_; omega)
    rcases List.mem_cons.mp hp with rfl | hp
    · refine ⟨hs₃.extBut _ _ c1 (hs₂.extBut _ _ c7 hpl), c7, hD0⟩
    · have hN := N p hp
      refine ⟨hs₃.extBut _ _ (below _ _ hN.1).1 (hs₂.extBut _ _ hN.2.1 (keep _ _ hN.1)), hN.2⟩
  refine start_two (.inl rfl) key ?_
  exact wpAny_pyIter_listiter hit1' key
end
end Mine
end MComp2P

/-! ### MWords -/
section MWordsP
open PySem PySem.W PySem.Calls PyProof.Rows
set_option maxRecDepth 100000
set_option maxHeartbeats 400000
namespace Mine
theorem modeMWords : True := by
  w_top off
  trivial
local macro_rules | `(tactic| walk_at "exec For Name Call cons nil") => `(tactic| (k_here; refine box ?_))
local macro_rules | `(tactic| walk_at "InvPostG") => `(tactic| (refine box ?_))
local macro_rules | `(tactic| walk_at "exec Assign cons ListComp") => `(tactic| (k_here; refine box ?_))
local macro_rules | `(tactic| walk_at "pyIter ref") => `(tactic| (k_here; refine box ?_))

/-! ## the plain functions -/
def levelAt : Nat → List Str
  | 0 => [Str.ofString ""]
  | i + 1 => (levelAt i).flatMap fun sx => (Str.ofString "ab").cps.toList.map fun c => sx ++ ⟨#[c]⟩
def wordsAt : Nat → List Str
  | 0 => [Str.ofString ""]
  | i + 1 => wordsAt i ++ levelAt (i + 1)
theorem levelAt_size : ∀ {i : Nat} {x : Str}, x ∈ levelAt i → x.length = i
  | 0, x, h => by
    have : x = Str.ofString "" := by simpa [levelAt] using h
    subst this; decide
  | i + 1, x, h => by
    obtain ⟨sx, hs, hx⟩ := List.mem_flatMap.mp h
    obtain ⟨c, _, rfl⟩ := List.mem_map.mp hx
    rw [Str.length_append, levelAt_size hs]; rfl
theorem ab_size : (Str.ofString "ab").cps.size = 2 := by decide
theorem levelAt_len : ∀ i, (levelAt i).length = 2 ^ i
  | 0 => rfl
  | i + 1 => by
    rw [levelAt, List.length_flatMap]
    simp only [List.length_map, Array.length_toList, ab_size]
    rw [List.map_const', List.sum_replicate_nat, levelAt_len i, Nat.pow_succ]
theorem wordsAt_len : ∀ i, (wordsAt i).length = 2 ^ (i + 1) - 1
  | 0 => rfl
  | i + 1 => by
    rw [wordsAt, List.length_append, wordsAt_len i, levelAt_len]
    have : 0 < 2 ^ (i + 1) := Nat.pow_pos (by decide)
    rw [Nat.pow_succ 2 (i + 1)]; omega

abbrev wM (m₀ : Str → Option Value) (a b : Addr) (u : Option Value) : Str → Option Value :=
  setM (setM (setM m₀ (Str.ofString "turn") u) (Str.ofString "level") (some (.ref b))) (Str.ofString "words") (some (.ref a))
def WordsJ (m₀ : Str → Option Value) (i : Nat) (m : Str → Option Value) (news : List (Addr × Obj)) : Prop :=
  ∃ a b u us ws ka kb, m = wM m₀ a b u ∧ news = [(b, W.listOf (List.toArray us) kb), (a, W.listOf (List.toArray ws) ka)] ∧ StrsAre us (levelAt i) ∧ StrsAre ws (wordsAt i)
theorem wM_start (m₀ : Str → Option Value) (a b : Addr) (hm : m₀ (Str.ofString "turn") = none) : (fun y => if y = Str.ofString "words" then some (Value.ref a) else if y = Str.ofString "level" then some (Value.ref b) else m₀ y) = wM m₀ a b none := by
  funext y
  by_cases h3 : y = Str.ofString "turn"
  · subst h3; simp only [wM, setM]; rw [hm]; rfl
  by_cases h1 : y = Str.ofString "words"
  · subst h1; rfl
  by_cases h2 : y = Str.ofString "level"
  · subst h2; rfl
  simp only [wM, setM, if_neg h1, if_neg h2, if_neg h3]
theorem wM_turn (m₀ : Str → Option Value) (a b a' b' : Addr) (u u' : Option Value) : (fun y => if y = Str.ofString "words" then some (Value.ref a') else if y = Str.ofString "level" then some (Value.ref b') else if y = Str.ofString "turn" then u' else wM m₀ a b u y) = wM m₀ a' b' u' := by
  funext y
  by_cases h3 : y = Str.ofString "turn"
  · subst h3; rfl
  by_cases h1 : y = Str.ofString "words"
  · subst h1; rfl
  by_cases h2 : y = Str.ofString "level"
  · subst h2; rfl
  simp only [wM, setM, if_neg h1, if_neg h2, if_neg h3]
theorem words_spec {prog : Program} {w : World} {dp un : Nat} {fr : Option (List Env)} {gd : Option (List Code)} {s : Shared} {loose : List Str} {mean : ExcName → Option Value} {mg mb : Str → Option Value} {n : Nat} {t : Tok}
   (X : (hd.heap_39 w.params).In s.heap) (T : Top hd.view_39 loose mean mg mb s.heap) (hdep : dp < 590) (hn : n ≤ 7)
   {R : Result → Shared → Prop}
   (hR : ∀ h' tk' D vs k, h'.get? D = some (W.listOf (List.toArray vs) k) → StrsAre vs (wordsAt n) → (∀ b o, s.heap.get? b = some o → h'.get? b = some o) → (∀ o, s.heap.get? D ≠ some o) → R (.ok (.ret (.ref D))) { s with heap := h', toks := tk' }) :
   codeAny (model prog w) { handled := none, depth := dp, frames := fr, guards := gd, units := un } (.call (.ref 44) ⟨[.int n t], []⟩) R s := by
  k_dflt (refine' enter0 (binds := [(Str.ofString "many", .int n t)]) X ?nl ?lk ?cd ?room ?b ?l ?_ ?h1 ?h2 ?h3 ?h4; (case lk => k_is); (case cd => k_is); (case h1 => exact rfl); (case h2 => exact rfl); (case h3 => exact rfl); (case h4 => decide))
  case nl => exact T.nolimit
  case room => exact Nat.lt_trans hdep (by decide)
  case b => exact BindsTo.of_eq rfl
  case l => exact locs rfl
  intro h₁ tk F N
  have KX := X
  w_strict k_steps
  (with_reducible rename Fr _ _ _ _ => F); (with_reducible rename News _ _ _ _ => N)
  refine unbox (For_invV s.heap (by rfl) (by rfl) ?_)
  w_strict k_steps
  (rename IsRange _ _ _ _ _ _ _ _ => hr)
  (with_reducible rename Fr _ _ _ _ => F); (with_reducible rename News _ _ _ _ => N)
  refine unbox (iter_rangeG (n := n) (WordsJ _) rfl (frCast (wM_start _ _ _ rfl) F) (news := [(_, _), (_, _)]) (fun p hp => N p (.tail _ hp)) hr (small_one (by omega) (by omega) (by omega) (by omega)) ((rangeSize_nat 0 _).trans (by simp)) ⟨_, _, _, [_], [_], _, _, rfl, rfl, .cons _ _ .nil, .cons _ _ .nil⟩ ?_ ?_)
  · clear F N
    rintro i u m₁ news₁ h tk3 own hi hoff ⟨a, b, uL, us, ws, ka, kb, rfl, rfl, hus, hws⟩ F N
    w_strict k_steps
    have hlen : (levelAt i).length ≤ 64 := by
      rw [levelAt_len]; exact Nat.pow_le_pow_right (n := 2) (by decide) (by omega : i ≤ 6)
    refine unbox (assign_two (w2 := Str.ofString "ab") (vs := us) (ss := levelAt i) (ax := b) (cl := []) rfl (by rfl) (by rfl) (by decide) (by rfl) (by decide) (by rfl) (by rfl) (by decide) (by rfl) (by rfl) F N
      (fun Q' hq => ld F (by rfl) hq) (News.isList N (List.mem_append_left _ (.head _))) hus (by rw [ab_size]; omega) (fun C s₃ Q' E' hq => Calls.Constant_str (hq _ _)) (fun _ _ => by rfl) ?_ ?_)
    · intro C s₃ m₃ sx tx c tc E' hn hx hy hmem
      refine wpAny_BinOp (wpAny_Name (wpAny_loadName_local (by rfl) (by rfl) hn hx ?_) (by decide))
      refine wpAny_Name (wpAny_loadName_local (by rfl) (by rfl) hn hy ?_) (by decide)
      refine KOpn.add (by rw [levelAt_size hmem]; show i + 1 ≤ _; omega) fun t' k _ => ⟨⟨_, rfl⟩, s₃.heap, k, rfl, fun _ _ e => e⟩
    · intro D h' tk' ys k F N hS hlt
      dsimp only
      w_strict k_steps
      (with_reducible rename Fr _ _ _ _ => F); (with_reducible rename News _ _ _ _ => N)
      have e1 : ys.length = 2 ^ (i + 1) := by rw [hS.length, ← levelAt_len (i + 1)]; rfl
      have e2 : ws.length = 2 ^ (i + 1) - 1 := by rw [hws.length, wordsAt_len]
      have e3 : 2 ^ (i + 1) ≤ 2 ^ 7 := Nat.pow_le_pow_right (n := 2) (by decide) (by omega : i + 1 ≤ 7)
      refine add_arrays (its := ws.toArray) (its2 := ys.toArray) F N (News.isList N (.tail _ (.tail _ (.head _)))) (News.isList N (.head _)) (fun h2 F2 N2 => ?_) (by rw [sizeLine_eq]; simp only [List.size_toArray]; omega)
      generalize hD2 : ({ heap := h', gens := s.gens, drawn := s.drawn, toks := tk', os := s.os } : Shared).heap.objs.size = D2 at N2
      have hlt2 : ∀ p ∈ (D, W.listOf ys.toArray k) :: ([(b, W.listOf us.toArray kb), (a, W.listOf ws.toArray ka)] ++ own), p.1 < D2 := fun p hp => hD2 ▸ Heap.lt_size (N p hp).1
      w_strict k_steps
      (with_reducible rename Fr _ _ _ _ => F); (with_reducible rename News _ _ _ _ => N)
      refine endG (nx := [(D, W.listOf ys.toArray k), (D2, W.listOf (ws ++ ys).toArray 0)]) (frCast (wM_turn _ _ _ _ _ _ _) F) N ⟨_, _, _, _, _, _, _, rfl, rfl, hS, hws.append' hS⟩ ?_ ?_ fun p hp => .tail _ (.tail _ (.tail _ (.tail _ hp)))
      · intro p hp b' hb e
        rcases List.mem_cons.mp hb with rfl | hb
        · exact absurd (e ▸ hlt p (.tail _ (.tail _ hp))) (Nat.lt_irrefl _)
        · rw [List.mem_singleton.mp hb] at e
          exact absurd (e ▸ hlt2 p (.tail _ (.tail _ (.tail _ hp)))) (Nat.lt_irrefl _)
      · intro p hp
        rcases List.mem_cons.mp hp with rfl | hp
        · exact .tail _ (.head _)
        · rw [List.mem_singleton.mp hp]; exact .head _
  · clear F N
    rintro m₁ news₁ h tk3 ⟨a, b, uL, us, ws, ka, kb, rfl, rfl, hus, hws⟩ F N
    dsimp only
    w_strict k_steps
    exact hR _ _ _ _ _ (N.get (.tail _ (.head _))) hws F.keep fun o e => by have := (N _ (.tail _ (.head _))).2.2; rw [e] at this; cases this
end Mine
end MWordsP

/-! ### MFind -/
section MFindP
open PySem PySem.W PySem.Calls PyProof.Rows PySem.Builtin PySem.Builtin.Str
namespace Mine

theorem sub_drop_cons {c : Nat} {rest l : List Nat} {k p : Nat} (hpk : p ≤ k) (hk : l[k]? = some c) (hn : ∀ j, p ≤ j → j < k → l[j]? ≠ some c) :
    ((c :: rest).Sublist (l.drop p) ↔ rest.Sublist (l.drop (k + 1))) := by
  induction hd : k - p generalizing p with
  | zero =>
    have : p = k := by omega
    subst this
    have hlt : p < l.length := (List.getElem?_eq_some_iff.mp hk).1
    have e : l.drop p = c :: l.drop (p + 1) := by
      rw [List.drop_eq_getElem_cons hlt]
      rw [List.getElem?_eq_getElem hlt] at hk
      rw [Option.some.inj hk]
    rw [e]
    exact List.cons_sublist_cons
  | succ d ih =>
    have hlt : p < l.length := by have := (List.getElem?_eq_some_iff.mp hk).1; omega
    have e : l.drop p = l[p] :: l.drop (p + 1) := List.drop_eq_getElem_cons hlt
    have hne : l[p] ≠ c := fun h => hn p (Nat.le_refl _) (by omega) (by rw [List.getElem?_eq_getElem hlt, h])
    rw [← ih (p := p + 1) (by omega) (fun j h1 h2 => hn j (by omega) h2) (by omega), e]
    constructor
    · intro h
      cases h with
      | cons _ h => exact h
      | cons_cons _ h => exact absurd rfl hne
    · exact fun h => .cons _ h
theorem sub_drop_none {c : Nat} {rest l : List Nat} {p : Nat} (hn : ∀ j, p ≤ j → l[j]? ≠ some c) : ¬ (c :: rest).Sublist (l.drop p) := fun h => by
  have hm : c ∈ l.drop p := h.subset (.head _)
  obtain ⟨i, hi⟩ := List.mem_iff_getElem?.mp hm
  rw [List.getElem?_drop] at hi
  exact hn _ (by omega) hi

theorem find_sub {got w : Str} (rest : List Nat) {p : Nat} (hp : p ≤ got.length) (hw : w.length ≤ 1) :
    (occurrences got w p got.length 1 = [] ∧ ¬ (w.cps.toList ++ rest).Sublist (got.cps.toList.drop p)) ∨
    ∃ k r, occurrences got w p got.length 1 = k :: r ∧ k + w.length ≤ got.length ∧ ((w.cps.toList ++ rest).Sublist (got.cps.toList.drop p) ↔ rest.Sublist (got.cps.toList.drop (k + w.length))) := by
  have hlen : w.cps.toList.length = w.length := Array.length_toList
  rcases StrLaws.occ_head_from got w p 1 (Nat.le_refl 1) with ⟨h0, hn⟩ | ⟨k, r, h0, hlo, hk, hn⟩
  · refine .inl ⟨h0, ?_⟩
    rcases hc : w.cps.toList with _ | ⟨c, t⟩
    · refine absurd ⟨?_, ?_⟩ (hn p (Nat.le_refl _))
      · rw [← hlen, hc]; simpa using hp
      · rw [StrLaws.subAt_eq, ← hlen, hc]; simp
    · have ht : t = [] := by rw [hc] at hlen; simp at hlen; exact List.eq_nil_of_length_eq_zero (by omega)
      subst ht
      refine sub_drop_none fun j hj hcj => hn j hj ⟨?_, ?_⟩
      · have : j < got.cps.toList.length := (List.getElem?_eq_some_iff.mp hcj).1
        rw [← hlen, hc]; simp [Str.length] at this ⊢; omega
      · rw [StrLaws.subAt_eq, ← hlen, hc]
        have hlt : j < got.cps.toList.length := (List.getElem?_eq_some_iff.mp hcj).1
        rw [List.drop_eq_getElem_cons hlt]
        rw [List.getElem?_eq_getElem hlt] at hcj
        simpa using Option.some.inj hcj
  · refine .inr ⟨k, r, h0, hk.1, ?_⟩
    rcases hc : w.cps.toList with _ | ⟨c, t⟩
    · have hw0 : w.length = 0 := by rw [← hlen, hc]; rfl
      have : k = p := by
        by_cases h : k = p
        · exact h
        · refine absurd ⟨?_, ?_⟩ (hn p (Nat.le_refl _) (by omega))
          · omega
          · rw [StrLaws.subAt_eq, ← hlen, hc]; simp
      subst this
      rw [hw0]; rfl
    · have ht : t = [] := by rw [hc] at hlen; simp at hlen; exact List.eq_nil_of_length_eq_zero (by omega)
      subst ht
      have hw1 : w.length = 1 := by rw [← hlen, hc]; rfl
      rw [hw1]
      have at_iff : ∀ j, StrLaws.At got w got.length j ↔ got.cps.toList[j]? = some c := by
        intro j
        unfold StrLaws.At
        rw [StrLaws.subAt_eq, ← hlen, hc]
        constructor
        · rintro ⟨h1, h2⟩
          have hlt : j < got.cps.toList.length := by simp [Str.length] at h1 ⊢; omega
          rw [List.drop_eq_getElem_cons hlt] at h2
          rw [List.getElem?_eq_getElem hlt]
          simpa using h2
        · intro h
          have hlt : j < got.cps.toList.length := (List.getElem?_eq_some_iff.mp h).1
          refine ⟨by simp [Str.length] at hlt ⊢; omega, ?_⟩
          rw [List.drop_eq_getElem_cons hlt]
          rw [List.getElem?_eq_getElem hlt] at h
          simpa using h
      exact sub_drop_cons hlo ((at_iff k).mp hk) fun j h1 h2 h3 => hn j h1 h2 ((at_iff j).mpr h3)

theorem gives_find_range (x y : Str) (i j : Int) (t u v v' : Tok) : Gives (Builtin.«str.find» ⟨[.str x t, .str y u, .int i v, .int j v'], []⟩) (.int (match occurrences x y (fromIndex x.length i) (min (fromIndex x.length j) x.length) 1 with | k :: _ => (k : Int) | [] => -1)) := by
  show Gives (match occurrences x y (fromIndex x.length i) (min (fromIndex x.length j) x.length) 1 with | k :: _ => retInt k | [] => (do rule "str.find.not-found"; retInt (-1))) _
  cases occurrences x y (fromIndex x.length i) (min (fromIndex x.length j) x.length) 1 with
  | nil => exact .rule (.of_eq rfl)
  | cons k _ => exact .of_eq rfl

theorem find4 {prog : Program} {w : World} {A : Around} {E : Value → Shared → Prop} {s : Shared} {Q : Value → Shared → Prop} {x y : Str} {p : Nat} {t u v v' : Tok} (hp : p ≤ x.length)
    (h : Q (.int (match occurrences x y p x.length 1 with | k :: _ => (k : Int) | [] => -1) s.toks) { s with toks := s.toks + 1 }) :
    wpAny (model prog w) A (call (.builtin "str.find") [.str x t, .str y u, .int (p : Int) v, .int (x.length : Int) v']) Q E s := by
  have e1 : ∀ n : Nat, fromIndex x.length (n : Int) = n := fun n => by unfold fromIndex; omega
  have := gives_find_range x y (p : Int) (x.length : Int) t u v v'
  rw [e1, e1, Nat.min_self] at this
  exact call_gives F.slot_str_find (typeIs_str _ _ _) F.entry_str_find (F.args_str_find_4 _ _ _ _) this h
end Mine
namespace Mine
section
variable {prog : Program} {w : World} {A : Around} {E : Value → Shared → Prop} {s : Shared} {value slice : Expr} {l : Addr} {vs : List Value} {ss : List Str} {y : Str} {u t : Tok}
theorem item_last_str {Q : Value → Shared → Prop} (hl : s.heap.IsList l vs.toArray) (hS : StrsAre vs ss) (hy : ss.getLast? = some y) (h : ∀ t, Q (.str y t) s)
    (hs : subscripted slice false (.ref l) (.int (-1) u) = operate [.ref l, .int (-1) u] (getItem (.ref l) (.int (-1) u)) := by with_unfolding_all rfl) (hg : ∀ r, letTemporaryGo value (.ref l) r = pure () := by intro _; with_unfolding_all rfl) :
    wpAny (model prog w) A (subscriptTail value slice (.ref l) (.int (-1) u)) Q E s := by
  have hlen : vs.length = ss.length := hS.length
  have hy' : ss[ss.length - 1]? = some y := by rw [← List.getLast?_eq_getElem?]; exact hy
  have hpos : 0 < ss.length := by
    cases ss with
    | nil => simp at hy
    | cons _ _ => simp
  obtain ⟨t', ht⟩ := hS.get _ _ hy'
  refine subscriptTail_builtin hl.typeIs slot_list_getitem.lookup (wpAny_getItem_list_neg hl (by decide) ?_ (by decide) (x := .str y t') ?_ (h t')) hs hg
  · simp only [List.size_toArray]; omega
  · have : ((-1 : Int) + (vs.toArray.size : Nat)).toNat = ss.length - 1 := by
      simp only [List.size_toArray]; omega
    rw [this]; simpa using ht
theorem item_first_str {Q : Value → Shared → Prop} (hl : s.heap.IsList l vs.toArray) (hS : StrsAre vs ss) (hy : ss[0]? = some y) (h : ∀ t, Q (.str y t) s)
    (hs : subscripted slice false (.ref l) (.int 0 u) = operate [.ref l, .int 0 u] (getItem (.ref l) (.int 0 u)) := by with_unfolding_all rfl) (hg : ∀ r, letTemporaryGo value (.ref l) r = pure () := by intro _; with_unfolding_all rfl) :
    wpAny (model prog w) A (subscriptTail value slice (.ref l) (.int 0 u)) Q E s := by
  obtain ⟨t', ht⟩ := hS.get _ _ hy
  exact subscriptTail_builtin hl.typeIs slot_list_getitem.lookup (wpAny_getItem_list hl (by decide) (by decide) (x := .str y t') (by simpa using ht) (h t')) hs hg
theorem truthy_empty {Q : Bool → Shared → Prop} (h0 : y.length = 0) (h : Q false { s with toks := s.toks + 1 + 1 }) : wpAny (model prog w) A (truthy (.str y t)) Q E s :=
  PySem.P.truthy_str (by rw [h0]; decide) (by rw [h0]; exact h)
end
end Mine
end MFindP

/-! ### MMatch -/
section MMatchP
open PySem PySem.W PySem.Calls PyProof.Rows PySem.Builtin PySem.Builtin.Str
set_option maxRecDepth 100000
set_option maxHeartbeats 400000
namespace Mine
theorem modeMMatch : True := by
  w_top off
  trivial
local macro_rules | `(tactic| walk_at "exec For Name Name cons nil") => `(tactic| (k_here; refine box ?_))
local macro_rules | `(tactic| walk_at "call builtin:str.split") => `(tactic| (k_here; refine box ?_))
local macro_rules | `(tactic| walk_at "call builtin:str.find") => `(tactic| (k_here; refine box ?_))
local macro_rules | `(tactic| walk_at "InvPostN") => `(tactic| (refine box ?_))
local macro_rules | `(tactic| walk_at "subscriptTail Name UnaryOp ref int") => `(tactic| (k_here; (with_reducible show wpAny _ _ (subscriptTail _ _ (Value.ref _) (Value.int (-1) _)) _ _ _); (refine' item_last_str ?N ?m ?l ?_ ?a ?b; (case N => exact News.isList (by k_asm) (by k_mem)); (case m => assumption); (case l => assumption); (case a => with_unfolding_all rfl); (case b => (intro _; with_unfolding_all rfl)); k_whole); intro _))
local macro_rules | `(tactic| walk_at "subscriptTail Name Constant ref int") => `(tactic| (k_here; (with_reducible show wpAny _ _ (subscriptTail _ _ (Value.ref _) (Value.int 0 _)) _ _ _); (refine' item_first_str ?N ?m ?l ?_ ?a ?b; (case N => exact News.isList (by k_asm) (by k_mem)); (case m => assumption); (case l => assumption); (case a => with_unfolding_all rfl); (case b => (intro _; with_unfolding_all rfl)); k_whole); intro _))
local macro_rules | `(tactic| walk_at "truthy str") => `(tactic| (k_here; refine truthy_empty ?h0 ?_; (case h0 => assumption)))
def lets (ws : List Str) : List Nat := ws.flatMap fun x => x.cps.toList
def MatchJ (M : Str → Option Value) (ws : List Str) (got : Str) (i : Nat) (m : Str → Option Value) (news : List (Addr × Obj)) : Prop :=
  ∃ (p : Nat) (uw : Option Value) (tp : Tok), m = setM (setM M (Str.ofString "w") uw) (Str.ofString "startpos") (some (.int p tp)) ∧ news = [] ∧ p ≤ got.length ∧
    ((lets ws).Sublist got.cps.toList ↔ (lets (ws.drop i)).Sublist (got.cps.toList.drop p))
theorem mj_turn (M : Str → Option Value) (a b c d uw : Option Value) : (fun y => if y = Str.ofString "startpos" then a else if y = Str.ofString "startpos" then b else if y = Str.ofString "w" then c else setM (setM M (Str.ofString "w") uw) (Str.ofString "startpos") d y) = setM (setM M (Str.ofString "w") c) (Str.ofString "startpos") a := by
  funext y
  by_cases h3 : y = Str.ofString "startpos"
  · subst h3; rfl
  by_cases h1 : y = Str.ofString "w"
  · subst h1; rfl
  simp only [setM, if_neg h1, if_neg h3]
theorem match_spec {prog : Program} {w : World} {dp un : Nat} {fr : Option (List Env)} {gd : Option (List Code)} {s : Shared} {loose : List Str} {mean : ExcName → Option Value} {mg mb : Str → Option Value} {want got : Str} {t u : Tok}
   (X : (hd.heap_39 w.params).In s.heap) (T : Top hd.view_39 loose mean mg mb s.heap) (hdep : dp < 590) 
   (hwl : want.length ≤ 1000) (hgl : got.length ≤ 1000) {ws : List Str} {e₁ e₂ : Str}
   (hocc : (occurrences want (Str.ofString "...") 0 want.length 1).isEmpty = false) (hsplit : Txt.split want (Str.ofString "...") = ws) (hf : ws[0]? = some e₁) (hl : ws.getLast? = some e₂) (he₁ : e₁.length = 0) (he₂ : e₂.length = 0) (h2 : 2 ≤ ws.length) (h100 : ws.length ≤ 100)
   (hw1 : ∀ x ∈ ws, x.length ≤ 1)
   {R : Result → Shared → Prop}
   (hR : ∀ h' tk', (∀ b o, s.heap.get? b = some o → h'.get? b = some o) → R (.ok (.ret (.bool (decide ((lets ws).Sublist got.cps.toList))))) { s with heap := h', toks := tk' }) :
   codeAny (model prog w) { handled := none, depth := dp, frames := fr, guards := gd, units := un } (.call (.ref 21) ⟨[.str want t, .str got u], []⟩) R s := by
  k_dflt (refine' enter0 (binds := [(Str.ofString "want", .str want t), (Str.ofString "got", .str got u)]) X ?nl ?lk ?cd ?room ?b ?l ?_ ?h1 ?h2 ?h3 ?h4; (case lk => k_is); (case cd => k_is); (case h1 => exact rfl); (case h2 => exact rfl); (case h3 => exact rfl); (case h4 => decide))
  case nl => exact T.nolimit
  case room => exact Nat.lt_trans hdep (by decide)
  case b => exact BindsTo.of_eq rfl
  case l => exact locs rfl
  intro h₁ tk F N
  have KX := X
  w_strict k_steps
  (with_reducible rename Fr _ _ _ _ => F); (with_reducible rename News _ _ _ _ => N)
  refine unbox (KSpl.split1 F N (by decide) (fun D l h' k e hS F N hlt => ?_) (by rw [sizeLine_eq]; omega))
  rw [e, hsplit] at hS
  w_strict k_steps
  (with_reducible rename Fr _ _ _ _ => F); (with_reducible rename News _ _ _ _ => N)
  (rename StrsAre _ _ => hS)
  have hlen : (strValues l).length = ws.length := hS.length
  refine unbox (For_invV s.heap (by rfl) (by rfl) ?_)
  refine ld F (by rfl) ?_
  refine iter_list (vs := strValues l) (MatchJ _ ws got) rfl F (news := []) News.nil (News.isList N (.tail _ (.head _))) (N _ (.tail _ (.head _))).2.1 (fun _ h => nomatch h) ⟨0, _, _, (setM_self _ (Str.ofString "w")).trans (setM_self _ (Str.ofString "startpos")), rfl, Nat.zero_le _, by simp⟩ ?_ ?_
  · clear F N
    rintro i v m₁ news₁ h tk3 own hv hadr hoff ⟨p, uw, tp, rfl, rfl, hp, hiff⟩ F N
    have hil : i < ws.length := hlen ▸ (List.getElem?_eq_some_iff.mp hv).1
    have hwi : ws[i]? = some ws[i] := List.getElem?_eq_getElem hil
    generalize hwx : ws[i] = wx at hwi
    obtain ⟨tw, htw⟩ := hS.get i wx hwi
    rw [hv] at htw
    cases htw
    have hwl1 : wx.length ≤ 1 := hw1 wx (hwx ▸ List.getElem_mem hil)
    have hdrop : lets (ws.drop i) = wx.cps.toList ++ lets (ws.drop (i + 1)) := by
      rw [List.drop_eq_getElem_cons hil, hwx]; rfl
    w_strict k_steps
    refine unbox (find4 hp ?_)
    rcases find_sub (lets (ws.drop (i + 1))) hp hwl1 with ⟨e0, hno⟩ | ⟨k, r, e0, hk, hyes⟩
    · rw [e0]
      dsimp only
      w_strict k_steps
      refine unbox ?_
      (with_reducible rename Fr _ _ _ _ => F)
      have hb : decide ((lets ws).Sublist got.cps.toList) = false := decide_eq_false fun hx => hno (hdrop ▸ hiff.mp hx)
      rw [hb] at hR
      exact hR _ _ F.keep
    · rw [e0]
      dsimp only
      w_strict k_steps
      (with_reducible rename Fr _ _ _ _ => F); (with_reducible rename News _ _ _ _ => N)
      exact endN (nx := []) (frCast (mj_turn _ _ _ _ _ _) F) N ⟨k + wx.length, _, _, by rw [Int.natCast_add], rfl, hk, by rw [hiff, hdrop, hyes]⟩ rfl
  · clear F N
    rintro m₁ news₁ h tk3 ⟨p, uw, tp, rfl, rfl, hp, hiff⟩ F N
    dsimp only
    w_strict k_steps
    have hb : decide ((lets ws).Sublist got.cps.toList) = true := decide_eq_true (hiff.mpr (by rw [hlen, List.drop_length]; exact List.nil_sublist _))
    rw [hb] at hR
    exact hR _ _ F.keep
end Mine
end MMatchP

/-! ### MCell -/
section MCellP
open PySem PySem.W PySem.Calls PyProof.Rows
namespace Mine
section
variable {prog : Program} {w : World} {A : Around} {E : Value → Shared → Prop} {s : Shared} {env : Env} {h₀ : Heap} {x : Str} {px : Pos} {body : List Stmt} {Q : Flow → Shared → Prop}

def CellEnd (h₀ : Heap) (L c : Addr) (J : (Str → Option Value) → List (Addr × Obj) → Prop) (own : List (Addr × Obj)) (adr : List Addr) (s₁ s₂ : Shared) : Prop :=
  ∃ h' tk m' nx oc' v', s₂ = { s₁ with heap := h', toks := tk } ∧ Fr h₀ L h' m' ∧ News h₀ L h' ((c, oc') :: nx ++ own) ∧ nx.map (·.1) = adr ∧ oc'.data = .cell v' ∧ J m' nx
def CellPost (h₀ : Heap) (L c : Addr) (J : (Str → Option Value) → List (Addr × Obj) → Prop) (own : List (Addr × Obj)) (adr : List Addr) (s₁ : Shared) (Q : Flow → Shared → Prop) (f : Flow) (s₂ : Shared) : Prop :=
  match f with
  | .ret v => Q (.ret v) s₂
  | .brk => Q .next s₂
  | _ => CellEnd h₀ L c J own adr s₁ s₂

theorem iter_range_cell {r c : Addr} {b₀ : Int} {t₀ u₀ v₀ : Tok} {n : Nat} {m₀ : Str → Option Value} {news : List (Addr × Obj)} {oc : Obj} {vc : Option Value} (J : Nat → (Str → Option Value) → List (Addr × Obj) → Prop)
    (hh : A.handled = none) (hkf : env.scope.kind = .function) (hk : env.kindOf x = some .cell) (hc : env.cells.lookup x = some c) (F : Fr h₀ env.locals s.heap m₀) (N : News h₀ env.locals s.heap ((c, oc) :: news)) (hd : oc.data = .cell vc) (hcn : ∀ p ∈ news, p.1 ≠ c)
    (hr : IsRange s.heap r 0 b₀ 1 t₀ u₀ v₀) (hsmall : Builtin.Range.small 0 b₀ 1 = true) (hn : Builtin.Range.rangeSize 0 b₀ 1 = (n : Int)) (hj : J 0 m₀ news)
    (turn : ∀ (i : Nat) u m₁ news₁ oc₁ h tk own, i < n → news₁.map (·.1) = news.map (·.1) → OwnOff own (c :: news.map (·.1)) → J i m₁ news₁ → oc₁.data = .cell (some (.int i u)) → Fr h₀ env.locals h m₁ → News h₀ env.locals h ((c, oc₁) :: news₁ ++ own) →
      wpAny (model prog w) A (execs body env) (CellPost h₀ env.locals c (J (i + 1)) own (news.map (·.1)) { s with heap := h, toks := tk } Q) (fun _ _ => False) { s with heap := h, toks := tk })
    (done : ∀ m₁ news₁ oc₁ h tk, J n m₁ news₁ → Fr h₀ env.locals h m₁ → News h₀ env.locals h ((c, oc₁) :: news₁) → Q .next { s with heap := h, toks := tk }) :
    wpAny (model prog w) A (pyIter (.ref r)) (fun it s₂ => codeAny (model prog w) A (.forLoop (.Name x px) it body [] env) (fun r s' => match r with | .ok f => Q f s' | .error e => cameBackBy (model prog w) A env (fun _ _ => False) e s') s₂) E s := by
  refine wpAny_pyIter_range hr hsmall ?_
  have W : Walks prog w A s.heap.objs.size [s.heap.objs.size] [s.heap.objs.size] n (fun i v => i < n ∧ ∃ t, v = .int (0 + i * 1) t)
      (fun i h => IsRangeIter h s.heap.objs.size (0 + (i : Nat) * 1) ((n : Int) - (i : Nat)) 1) := (Walks.range hh _ 0 1 n).bound
  generalize hI : s.heap.objs.size = I at W ⊢
  have hIL : env.locals ≠ I := hI ▸ Nat.ne_of_lt F.ns.lt
  have hI0 : h₀.get? I = none := hI ▸ next_is_new F
  have hIn : ∀ p ∈ (c, oc) :: news, p.1 ≠ I := fun p hp => hI ▸ Nat.ne_of_lt (Heap.lt_size (N p hp).1)
  have hIc : I ≠ c := Ne.symm (hIn _ (.head _))
  have hoff : ∀ oI, OwnOff [(I, oI)] (c :: news.map (·.1)) := fun oI p hp b hb => by
    rw [List.mem_singleton.mp hp]
    rcases List.mem_cons.mp hb with rfl | hb
    · exact hIc
    · obtain ⟨q, hq, rfl⟩ := List.mem_map.mp hb
      exact Ne.symm (hIn q (.tail _ hq))
  have push : ∀ oo b o, s.heap.get? b = some o → (s.heap.push oo).get? b = some o := fun oo b o e => Heap.get?_push_of_some _ e
  refine codeAny_forLoop
    (fun k s' => ∃ (h' : Heap) (tk i : Nat) (m' : Str → Option Value) (nx : List (Addr × Obj)) (oc' : Obj) (v' : Option Value), s' = { s with heap := h', toks := tk } ∧ i ≤ n ∧ k = n + 1 - i ∧ IsRangeIter h' I (0 + (i : Nat) * 1) ((n : Int) - (i : Nat)) 1 ∧ Fr h₀ env.locals h' m' ∧ News h₀ env.locals h' ((c, oc') :: nx) ∧ nx.map (·.1) = news.map (·.1) ∧ oc'.data = .cell v' ∧ J i m' nx) ?_ (n + 1)
    ⟨_, s.toks, 0, m₀, news, oc, vc, rfl, Nat.zero_le _, rfl, by show IsRangeIter _ _ _ _ _; rw [hn, ← hI]; simpa using Heap.get?_push_size _ rfl, F.push _, (fun p hp => ⟨push _ _ _ (N p hp).1, (N p hp).2⟩), rfl, hd, hj⟩
  rintro k s' ⟨H, tk, i, m', nx, oc', v', rfl, hi, rfl, hit, F', N', hadr, hd', hJ⟩
  have hnI : ∀ p ∈ (c, oc') :: nx, p.1 ≠ I := fun p hp => by
    rcases List.mem_cons.mp hp with rfl | hp
    · exact Ne.symm hIc
    · have : p.1 ∈ news.map (·.1) := hadr ▸ List.mem_map_of_mem hp
      obtain ⟨q, hq, e⟩ := List.mem_map.mp this
      rw [← e]; exact hIn q (.tail _ hq)
  have hcx : ∀ p ∈ nx, p.1 ≠ c := fun p hp => by
    have : p.1 ∈ news.map (·.1) := hadr ▸ List.mem_map_of_mem hp
    obtain ⟨q, hq, e⟩ := List.mem_map.mp this
    rw [← e]; exact hcn q hq
  by_cases hlt : i < n
  · refine W.item i _ _ _ hlt hit fun v h₁ tk₁ hPv hst₁ hk₁ => ?_
    obtain ⟨_, u, rfl⟩ := hPv
    rw [Int.mul_one, Int.zero_add]
    have hk₁' : ∀ b o, b ≠ I → H.get? b = some o → h₁.get? b = some o := fun b o hb e => hk₁ b o (fun hm => hb (List.mem_singleton.mp hm)) e
    have F₁ : Fr h₀ env.locals h₁ m' := ⟨F'.ns.at' fun o e => hk₁' _ o hIL e, fun b o e => hk₁' b o (by rintro rfl; rw [hI0] at e; cases e) (F'.keep b o e), F'.above⟩
    have N₁ : News h₀ env.locals h₁ ((c, oc') :: nx) := fun p hp => ⟨hk₁' _ _ (hnI p hp) (N' p hp).1, (N' p hp).2⟩
    refine wpAny_assign_Name (wpAny_storeName_cell hkf hk hc ⟨oc', (N₁ _ (.head _)).1, hd'⟩ fun h₂ hv hs => ?_)
    obtain ⟨oc₂, hoc₂, hd₂⟩ := hv
    have cL : c ≠ env.locals := (N₁ _ (.head _)).2.1
    have c0 : h₀.get? c = none := (N₁ _ (.head _)).2.2
    have F₂ : Fr h₀ env.locals h₂ m' := ⟨F₁.ns.sameBut hs (Ne.symm cL), fun b ob e => (hs.2 b (fun q => by rw [q, c0] at e; cases e)).trans (F₁.keep b ob e), F₁.above⟩
    have st₂ : IsRangeIter h₂ I (0 + ((i + 1 : Nat) : Nat) * 1) ((n : Int) - ((i + 1 : Nat) : Nat)) 1 := (hs.2 I hIc).trans hst₁
    obtain ⟨oI, st₂', hst₂⟩ : ∃ oI, h₂.get? I = some oI ∧ (∀ h' : Heap, h'.get? I = some oI → IsRangeIter h' I (0 + ((i + 1 : Nat) : Nat) * 1) ((n : Int) - ((i + 1 : Nat) : Nat)) 1) := ⟨_, st₂, fun _ e => e⟩
    have N₂ : News h₀ env.locals h₂ ((c, oc₂) :: nx ++ [(I, oI)]) := fun p hp => by
      rcases List.mem_append.mp hp with hp | hp
      · rcases List.mem_cons.mp hp with rfl | hp
        · exact ⟨hoc₂, cL, c0⟩
        · exact ⟨(hs.2 _ (hcx p hp)).trans (N₁ _ (.tail _ hp)).1, (N₁ _ (.tail _ hp)).2⟩
      · rw [List.mem_singleton.mp hp]
        exact ⟨st₂', Ne.symm hIL, hI0⟩
    refine wpAny_mono (turn i u m' nx oc₂ h₂ _ _ hlt hadr (hoff _) hJ hd₂ F₂ N₂) (fun f s₃ h₃ => ?_) fun _ _ e => e.elim
    have fin : CellEnd h₀ env.locals c (J (i + 1)) [(I, oI)] (news.map (·.1)) { s with heap := h₂, toks := tk₁ } s₃ → ∃ k', k' < n + 1 - i ∧ ∃ (h' : Heap) (tk i : Nat) (m' : Str → Option Value) (nx : List (Addr × Obj)) (oc' : Obj) (v' : Option Value), s₃ = { s with heap := h', toks := tk } ∧ i ≤ n ∧ k' = n + 1 - i ∧ IsRangeIter h' I (0 + (i : Nat) * 1) ((n : Int) - (i : Nat)) 1 ∧ Fr h₀ env.locals h' m' ∧ News h₀ env.locals h' ((c, oc') :: nx) ∧ nx.map (·.1) = news.map (·.1) ∧ oc'.data = .cell v' ∧ J i m' nx := by
      rintro ⟨h', tk', m₃, nx₃, oc₃, v₃, rfl, F₃, N₃, hadr₃, hd₃, hJ₃⟩
      exact ⟨n + 1 - (i + 1), by omega, h', tk', i + 1, m₃, nx₃, oc₃, v₃, rfl, hlt, rfl, hst₂ _ (N₃ _ (List.mem_append_right _ (.head _))).1, F₃, fun p hp => N₃ p (List.mem_append_left _ hp), hadr₃, hd₃, hJ₃⟩
    cases f with
    | next => exact fin h₃
    | cont => exact fin h₃
    | brk => exact h₃
    | ret v => exact h₃
  · obtain rfl : i = n := Nat.le_antisymm hi (Nat.not_lt.mp hlt)
    refine W.done _ _ _ hit fun h₁ tk₁ hk₁ => wpAny_execs_nil ?_
    have hk₁' : ∀ b o, b ≠ I → H.get? b = some o → h₁.get? b = some o := fun b o hb e => hk₁ b o (fun hm => hb (List.mem_singleton.mp hm)) e
    exact done m' nx oc' h₁ tk₁ hJ ⟨F'.ns.at' fun o e => hk₁' _ o hIL e, fun b o e => hk₁' b o (by rintro rfl; rw [hI0] at e; cases e) (F'.keep b o e), F'.above⟩ fun p hp => ⟨hk₁' _ _ (hnI p hp) (N' p hp).1, (N' p hp).2⟩
end
end Mine
end MCellP

/-! ### MPlain -/
section MPlainP
open PySem PySem.W PySem.Calls PyProof.Rows PySem.Builtin PySem.Builtin.Str
namespace Mine
theorem paired_of {α β : Type} {F : α → β → Prop} : ∀ {l₁ : List α} {l₂ : List β}, l₁.length = l₂.length → (∀ (j : Nat) a b, l₁[j]? = some a → l₂[j]? = some b → F a b) → Paired F l₁ l₂
  | [], [], _, _ => .nil
  | a :: l₁, b :: l₂, h, k => .cons (k 0 a b rfl rfl) (paired_of (Nat.succ.inj h) fun j x y hx hy => k (j + 1) x y hx hy)
theorem paired_filter {α β : Type} {F : α → β → Prop} {p : α → Bool} {q : β → Bool} (hpq : ∀ a b, F a b → p a = q b) : ∀ {l₁ : List α} {l₂ : List β}, Paired F l₁ l₂ → Paired F (l₁.filter p) (l₂.filter q)
  | _, _, .nil => .nil
  | _, _, .cons (a := a) (b := b) h t => by
    have e := hpq a b h
    rw [List.filter_cons, List.filter_cons, ← e]
    cases p a with
    | true => exact .cons h (paired_filter hpq t)
    | false => exact paired_filter hpq t
theorem paired_comp {α β γ : Type} {F : α → β → Prop} {G : β → γ → Prop} : ∀ {l₁ : List α} {l₂ : List β} {l₃ : List γ}, Paired F l₁ l₂ → Paired G l₂ l₃ → Paired (fun a c => ∃ b, F a b ∧ G b c) l₁ l₃
  | _, _, _, .nil, .nil => .nil
  | _, _, _, .cons h t, .cons h' t' => .cons ⟨_, h, h'⟩ (paired_comp t t')
theorem strs_of_paired {α : Type} {F : α → Value → Prop} {f : α → Str} (h : ∀ a v, F a v → ∃ t, v = .str (f a) t) : ∀ {l : List α} {vs : List Value}, Paired F l vs → StrsAre vs (l.map f)
  | _, _, .nil => .nil
  | _, _, .cons k t => by
    obtain ⟨t', rfl⟩ := h _ _ k
    exact .cons _ _ (strs_of_paired h t)
theorem paired_of_strs : ∀ {ss : List Str} {vs : List Value}, StrsAre vs ss → Paired (fun x v => ∃ t, v = Value.str x t) ss vs
  | _, _, .nil => .nil
  | _, _, .cons y t h => .cons ⟨t, rfl⟩ (paired_of_strs h)
theorem paired_range {n : Nat} {vs : List Value} (h1 : vs.length = n) (h2 : ∀ (j : Nat) v, vs[j]? = some v → ∃ u, v = .int j u) : Paired (fun (k : Nat) v => ∃ u, v = Value.int k u) (List.range n) vs :=
  paired_of (by simp [h1]) fun j a b ha hb => by
    have hj : j < n := by
      have := (List.getElem?_eq_some_iff.mp ha).1; simpa using this
    rw [List.getElem?_range hj] at ha
    cases ha
    exact h2 j b hb

/-- join without a sign between -/
theorem join_empty (ts : List Str) : Txt.join (Str.ofString "") ts = ⟨(ts.flatMap fun x => x.cps.toList).toArray⟩ := by
  unfold Txt.join glued
  have e : (Str.ofString "").cps = #[] := rfl
  rw [e]
  have key : ∀ (l : List Str) (a : Array Nat), l.foldl (fun acc p => acc ++ #[] ++ p.cps) a = a ++ (l.flatMap fun x => x.cps.toList).toArray := by
    intro l
    induction l with
    | nil => intro a; simp
    | cons x r ih => intro a; rw [List.foldl_cons, ih]; apply Array.ext'; simp
  rw [key]
  cases ts with
  | nil => rfl
  | cons x r => simp

theorem bit_eq (i j : Nat) : ((((i : Int).fdiv (2 ^ ((j : Int).toNat))).fmod 2) == 1) = decide (i / 2 ^ j % 2 = 1) := by
  rw [Int.toNat_natCast]
  have e1 : (2 : Int) ^ j = ((2 ^ j : Nat) : Int) := by push_cast; rfl
  rw [e1, Int.fdiv_eq_ediv_of_nonneg _ (Int.natCast_nonneg _), ← Int.natCast_ediv, Int.fmod_eq_emod_of_nonneg _ (by decide)]
  have e2 : ((i / 2 ^ j : Nat) : Int) % 2 = ((i / 2 ^ j % 2 : Nat) : Int) := by push_cast; rfl
  rw [e2, Bool.eq_iff_iff, beq_iff_eq, decide_eq_true_eq]
  omega

theorem item_sign {x : Str} {k : Nat} (h : k < x.length) : (Txt.item x (k : Int)).cps.toList = [x.cps.toList.getD k 0] := by
  have h' : k < x.cps.size := h
  have e : seqIndex? (k : Int) x.length = some k := by
    unfold seqIndex?
    rw [if_neg (show ¬ (k : Int) < 0 by omega)]
    rw [if_pos (by simp; omega)]
    simp
  unfold Txt.item Txt.charAt
  rw [e]
  simp [h']

/-! ## a choice of letters -/
def pickL : List Nat → Nat → List Nat
  | [], _ => []
  | c :: r, j => if j % 2 = 1 then c :: pickL r (j / 2) else pickL r (j / 2)
def pick (word : Str) (j : Nat) : Str := ⟨(pickL word.cps.toList j).toArray⟩

theorem pickL_eq : ∀ (l : List Nat) (i : Nat), ((List.range l.length).filter fun k => decide (i / 2 ^ k % 2 = 1)).flatMap (fun k => [l.getD k 0]) = pickL l i
  | [], i => rfl
  | c :: r, i => by
    rw [List.length_cons, List.range_succ_eq_map, pickL, List.filter_cons, List.filter_map]
    have e : (List.range r.length).filter ((fun k => decide (i / 2 ^ k % 2 = 1)) ∘ Nat.succ) = (List.range r.length).filter fun k => decide (i / 2 / 2 ^ k % 2 = 1) := by
      apply List.filter_congr
      intro k _
      have e : i / 2 ^ (k + 1) = i / 2 / 2 ^ k := by rw [Nat.pow_succ, Nat.mul_comm, ← Nat.div_div_eq_div_mul]
      simp only [Function.comp, Nat.succ_eq_add_one, e]
    rw [e]
    have ih := pickL_eq r (i / 2)
    have e2 : ∀ l' : List Nat, (l'.map Nat.succ).flatMap (fun k => [(c :: r).getD k 0]) = l'.flatMap fun k => [r.getD k 0] := by
      intro l'; induction l' with
      | nil => rfl
      | cons a t ih => rw [List.map_cons, List.flatMap_cons, List.flatMap_cons, ih]; rfl
    by_cases h : i % 2 = 1
    · simp only [Nat.pow_zero, Nat.div_one, h, decide_true, if_true, List.flatMap_cons]
      rw [e2, ih]; rfl
    · simp only [Nat.pow_zero, Nat.div_one, h, decide_false, Bool.false_eq_true, if_false]
      rw [e2, ih]

/-- what the join of the comprehension gives -/
theorem pick_join (word : Str) (i : Nat) : Txt.join (Str.ofString "") (((List.range word.length).filter fun k => decide (i / 2 ^ k % 2 = 1)).map fun (k : Nat) => Txt.item word (k : Int)) = pick word i := by
  rw [join_empty, List.flatMap_map]
  unfold pick
  rw [← pickL_eq word.cps.toList i, Array.length_toList]
  have key : ∀ l : List Nat, (∀ k ∈ l, k < word.length) → (l.flatMap fun (k : Nat) => (Txt.item word (k : Int)).cps.toList) = l.flatMap fun k => [word.cps.toList.getD k 0] := by
    intro l
    induction l with
    | nil => intro _; rfl
    | cons a r ih =>
      intro h
      rw [List.flatMap_cons, List.flatMap_cons, ih fun k hk => h k (.tail _ hk), item_sign (h a (.head _))]
  exact congrArg (fun l : List Nat => (⟨l.toArray⟩ : Str)) (key _ fun k hk => List.mem_range.mp (List.mem_filter.mp hk).1)
end Mine
namespace Mine
theorem list_tri : ∀ {a b : List Nat}, ¬ a < b → a ≠ b → b < a
  | [], [], _, h => absurd rfl h
  | [], _ :: _, h, _ => absurd (List.nil_lt_cons _ _) h
  | _ :: _, [], _, _ => List.nil_lt_cons _ _
  | a :: r, b :: t, h, hn => by
    rw [List.cons_lt_cons_iff] at h ⊢
    by_cases e : a = b
    · subst e
      exact .inr ⟨rfl, list_tri (fun k => h (.inr ⟨rfl, k⟩)) fun k => hn (by rw [k])⟩
    · have : ¬ a < b := fun k => h (.inl k)
      exact .inl (by omega)
theorem str_ext {a b : Str} (h : a.cps.toList = b.cps.toList) : a = b := by
  cases a; cases b; simpa using h
theorem ltS.tri {a b : Str} (h : ¬ ltS a b) (hn : a ≠ b) : ltS b a := list_tri h fun e => hn (str_ext e)
theorem ltS.irrefl {a : Str} : ¬ ltS a a := List.lt_irrefl _

abbrev Sorted (ss : List Str) : Prop := ss.Pairwise ltS
theorem Sorted.getD {ss : List Str} (h : Sorted ss) : ∀ i j, i < j → j < ss.length → ltS (ss.getD i Str.empty) (ss.getD j Str.empty) := fun i j hij hj => by
  have := List.pairwise_iff_getElem.mp h i j (by omega) hj hij
  rw [List.getD_eq_getElem?_getD, List.getD_eq_getElem?_getD, List.getElem?_eq_getElem hj, List.getElem?_eq_getElem (by omega)]
  exact this
/-- a text put in its place -/
theorem Sorted.insert {ss : List Str} {x : Str} {p : Nat} (h : Sorted ss) (hp : p ≤ ss.length) (hlo : ∀ i, i < p → ltS (ss.getD i Str.empty) x) (hhi : ∀ i, p ≤ i → i < ss.length → ¬ ltS (ss.getD i Str.empty) x)
    (hne : p < ss.length → ss.getD p Str.empty ≠ x) : Sorted (ss.take p ++ x :: ss.drop p) := by
  have get : ∀ i, i < ss.length → ss[i]? = some (ss.getD i Str.empty) := fun i hi => by
    rw [List.getD_eq_getElem?_getD, List.getElem?_eq_getElem hi]; rfl
  have lo : ∀ a ∈ ss.take p, ltS a x := fun a ha => by
    obtain ⟨i, hi⟩ := List.mem_iff_getElem?.mp ha
    have hip : i < p := by
      have := (List.getElem?_eq_some_iff.mp hi).1
      rw [List.length_take] at this; omega
    rw [List.getElem?_take_of_lt hip, get i (by omega)] at hi
    cases hi
    exact hlo i hip
  have hi' : ∀ b ∈ ss.drop p, ltS x b := fun b hb => by
    obtain ⟨i, hi⟩ := List.mem_iff_getElem?.mp hb
    rw [List.getElem?_drop] at hi
    have hlt : p + i < ss.length := (List.getElem?_eq_some_iff.mp hi).1
    rw [get _ hlt] at hi
    cases hi
    have hp' : ltS x (ss.getD p Str.empty) := ltS.tri (hhi p (Nat.le_refl _) (by omega)) (hne (by omega))
    cases i with
    | zero => exact hp'
    | succ i => exact hp'.trans (h.getD p (p + (i + 1)) (by omega) hlt)
  refine List.pairwise_append.mpr ⟨h.sublist (List.take_sublist _ _), List.pairwise_cons.mpr ⟨hi', h.sublist (List.drop_sublist _ _)⟩, fun a ha b hb => ?_⟩
  rcases List.mem_cons.mp hb with rfl | hb
  · exact lo a ha
  · exact (lo a ha).trans (hi' b hb)
theorem sum_len_le {ss : List Str} {n : Nat} (h : ∀ x ∈ ss, x.length ≤ n) : (ss.map (·.length)).sum ≤ ss.length * n := by
  induction ss with
  | nil => simp
  | cons a r ih =>
    have h1 := h a (.head _)
    have h2 := ih fun x hx => h x (.tail _ hx)
    simp only [List.map_cons, List.sum_cons, List.length_cons, Nat.succ_mul]; omega
end Mine
namespace Mine
theorem mem_ins {ss : List Str} {x y : Str} {p : Nat} : x ∈ ss.take p ++ y :: ss.drop p ↔ x = y ∨ x ∈ ss := by
  conv => rhs; rw [← List.take_append_drop p ss]
  simp only [List.mem_append, List.mem_cons]
  constructor
  · rintro (h | h | h)
    · exact .inr (.inl h)
    · exact .inl h
    · exact .inr (.inr h)
  · rintro (h | h | h)
    · exact .inr (.inl h)
    · exact .inl h
    · exact .inr (.inr h)
theorem ex_succ {P : Nat → Prop} {i : Nat} : (∃ j, j < i + 1 ∧ P j) ↔ (P i ∨ ∃ j, j < i ∧ P j) := by
  constructor
  · rintro ⟨j, hj, h⟩
    by_cases e : j = i
    · subst e; exact .inl h
    · exact .inr ⟨j, by omega, h⟩
  · rintro (h | ⟨j, hj, h⟩)
    · exact ⟨i, by omega, h⟩
    · exact ⟨j, by omega, h⟩
theorem len_ins {ss : List Str} {y : Str} {p : Nat} : (ss.take p ++ y :: ss.drop p).length = ss.length + 1 := by
  have := congrArg List.length (List.take_append_drop p ss)
  simp only [List.length_append, List.length_cons] at this ⊢
  omega
theorem after_change {h₀ h h' : Heap} {L l : Addr} {m : Str → Option Value} {ol ol' : Obj} {pre post : List (Addr × Obj)} (F : Fr h₀ L h m) (N : News h₀ L h (pre ++ (l, ol) :: post)) (h1 : ∀ p ∈ pre, p.1 ≠ l) (h2 : ∀ p ∈ post, p.1 ≠ l)
    (hl : h'.get? l = some ol') (hk : ∀ b o, b ≠ l → h.get? b = some o → h'.get? b = some o) : Fr h₀ L h' m ∧ News h₀ L h' (pre ++ (l, ol') :: post) := by
  have z := N _ (List.mem_append_right _ (.head _))
  refine ⟨⟨F.ns.at' fun o e => hk _ o (Ne.symm z.2.1) e, fun b o e => hk b o (by rintro rfl; rw [z.2.2] at e; cases e) (F.keep b o e), F.above⟩, fun p hp => ?_⟩
  rcases List.mem_append.mp hp with hp | hp
  · have y := N p (List.mem_append_left _ hp)
    exact ⟨hk _ _ (h1 p hp) y.1, y.2⟩
  · rcases List.mem_cons.mp hp with rfl | hp
    · exact ⟨hl, z.2⟩
    · have y := N p (List.mem_append_right _ (.tail _ hp))
      exact ⟨hk _ _ (h2 p hp) y.1, y.2⟩
end Mine
end MPlainP

/-! ### MLeft -/
section MLeftP
open PySem PySem.W PySem.Calls PyProof.Rows
set_option maxRecDepth 100000
set_option maxHeartbeats 400000
namespace Mine
theorem modeMLeft : True := by
  w_top off
  trivial
local macro_rules | `(tactic| walk_at "no such step MLeft 0") => `(tactic| skip)
local macro_rules | `(tactic| walk_at "exec For Name Call cons nil") => `(tactic| (k_here; refine box ?_))
local macro_rules | `(tactic| walk_at "eval ListComp") => `(tactic| (k_here; refine box ?_))
local macro_rules | `(tactic| walk_at "pyIter ref") => `(tactic| (k_here; refine box ?_))
local macro_rules | `(tactic| walk_at "CellPost") => `(tactic| (refine box ?_))
local macro_rules | `(tactic| walk_at "subscriptTail Name Name ref int") => `(tactic| (k_here; k_dflt (refine' KTb.item_list ?k1 ?k2 ?k3 ?k4 ?k5 ?_ ?k6; (case k1 => exact News.isList (by k_asm) (by k_mem)); (case k2 => with_reducible assumption); (case k3 => omega); (case k4 => (simp only [beq_eq_false_iff_ne, ne_eq] at *; omega)); (case k5 => omega); (case k6 => with_unfolding_all rfl)); intro t' hlt'))
local macro_rules | `(tactic| walk_at "call ref") => `(tactic| (k_here; refine box ?_))
local macro_rules | `(tactic| walk_at "eval Name") => `(tactic| (first
  | (refine' cn_local ?hn ?hv ?_ ?hk ?hl ?hd; (case hl => rfl); (case hk => rfl); (case hd => decide); (case hn => assumption); (case hv => assumption); k_whole)
  | (refine' cn_cell ?hv ?_ ?hc ?hk ?hl ?hd; (case hl => rfl); (case hk => rfl); (case hd => decide); (case hc => rfl); (case hv => assumption); k_whole)))
/-! ## the plain functions -/
/-- an item's letter -/
def GPick (word : Str) (v y : Value) : Prop := ∃ (k : Nat) (u t : Tok), v = .int k u ∧ y = .str (Txt.item word k) t
def pPick (i : Nat) (v : Value) : Bool := match v with | .int k _ => decide (i / 2 ^ k.toNat % 2 = 1) | _ => false
def LeftJ (word : Str) (m₀ : Str → Option Value) (l cw : Addr) (ow : Obj) (i : Nat) (m : Str → Option Value) (news : List (Addr × Obj)) : Prop :=
  ∃ u1 u2 vs ss k, m = setM (setM m₀ (Str.ofString "one") u1) (Str.ofString "place") u2 ∧ news = [(l, W.listOf (List.toArray vs) k), (cw, ow)] ∧ StrsAre vs ss ∧ Sorted ss ∧ (∀ x, x ∈ ss ↔ ∃ j, j < i ∧ x = pick word j) ∧ ss.length ≤ i
theorem lf_turn (M : Str → Option Value) (a b u1 u2 : Option Value) : (fun y => if y = Str.ofString "place" then b else if y = Str.ofString "one" then a else setM (setM M (Str.ofString "one") u1) (Str.ofString "place") u2 y) = setM (setM M (Str.ofString "one") a) (Str.ofString "place") b := by
  funext y
  by_cases h3 : y = Str.ofString "place"
  · subst h3; rfl
  by_cases h1 : y = Str.ofString "one"
  · subst h1; rfl
  simp only [setM, if_neg h1, if_neg h3]
theorem left_spec {prog : Program} {w : World} {dp un : Nat} {fr : Option (List Env)} {gd : Option (List Code)} {s : Shared} {loose : List Str} {mean : ExcName → Option Value} {mg mb : Str → Option Value} {word : Str} {t : Tok}
   (X : (hd.heap_39 w.params).In s.heap) (T : Top hd.view_39 loose mean mg mb s.heap) (hdep : dp < 580) (hun : un < 80)
   (hwl : word.length ≤ 7)
   {R : Result → Shared → Prop}
   (hR : ∀ h' tk' D vs ss k, h'.get? D = some (W.listOf (List.toArray vs) k) → StrsAre vs ss → Sorted ss → (∀ x, x ∈ ss ↔ ∃ j, j < 2 ^ word.length ∧ x = pick word j) → ss.length ≤ 128 → (∀ b o, s.heap.get? b = some o → h'.get? b = some o) → (∀ o, s.heap.get? D ≠ some o) → R (.ok (.ret (.ref D))) { s with heap := h', toks := tk' }) :
   codeAny (model prog w) { handled := none, depth := dp, frames := fr, guards := gd, units := un } (.call (.ref 56) ⟨[.str word t], []⟩) R s := by
  k_dflt (refine' enterC (binds := [(Str.ofString "word", .str word t)]) X ?nl ?lk ?cd ?room ?b ?l ?nd ?_ ?h1 ?h2 ?h3; (case lk => k_is); (case cd => k_is); (case h1 => exact rfl); (case h2 => exact rfl); (case h3 => exact rfl))
  case nl => exact T.nolimit
  case room => exact Nat.lt_trans hdep (by decide)
  case b => exact BindsTo.of_eq rfl
  case l => exact rfl
  case nd => decide +kernel
  intro h₁ tk cells F N Y
  have KX := X
  k_cells Y
  w_strict k_steps
  (with_reducible rename Fr _ _ _ _ => F); (with_reducible rename News _ _ _ _ => N)
  (rename _ = Data.cell (bindC _ _ _ (Str.ofString "word")) => d2'); (rename _ = Data.cell (bindC _ _ _ (Str.ofString "number")) => d1'); (rename _ ∧ _ => l1)
  obtain ⟨ow, how, d2⟩ : ∃ o, o = _ ∧ _ := ⟨_, rfl, (show _ = Data.cell (some (Value.str word t)) from d2')⟩
  subst how; clear d2'
  refine unbox (wpAny_For ?_)
  w_strict k_steps
  (rename IsRange _ _ _ _ _ _ _ _ => hr)
  (with_reducible rename Fr _ _ _ _ => F); (with_reducible rename News _ _ _ _ => N)
  have hpow : (2 : Int) ^ ((word.length : Int).toNat) = ((2 ^ word.length : Nat) : Int) := by rw [Int.toNat_natCast]; push_cast; rfl
  have hp7 : 2 ^ word.length ≤ 2 ^ 7 := Nat.pow_le_pow_right (by decide) hwl
  rw [hpow] at hr
  clear hpow
  obtain ⟨n, hn⟩ : ∃ n, n = 2 ^ word.length := ⟨_, rfl⟩
  rw [← hn] at hr hp7
  refine unbox (iter_range_cell (n := n) (c := s.heap.objs.size + 1 + 1) (news := [(_, W.listOf (List.toArray []) 0), (s.heap.objs.size + 1, _)]) (LeftJ word _ _ _ _) rfl (by rfl) (by rfl) (by rfl) F (fun p hp => by
      rcases List.mem_cons.mp hp with rfl | hp
      · exact N _ (.tail _ (.head _))
      · rcases List.mem_cons.mp hp with rfl | hp
        · exact N _ (.head _)
        · rw [List.mem_singleton.mp hp]; exact N _ (.tail _ (.tail _ (.head _)))) d1' (fun p hp => by
      rcases List.mem_cons.mp hp with rfl | hp
      · exact Nat.ne_of_gt l1.1
      · rw [List.mem_singleton.mp hp]; exact Nat.ne_of_lt (Nat.lt_succ_self _)) hr (small_one (by omega) (by omega) (by omega) (by omega)) ((rangeSize_nat 0 _).trans (by simp)) ⟨_, _, [], [], 0, (setM_self _ (Str.ofString "one")).trans (setM_self _ (Str.ofString "place")), rfl, .nil, .nil, fun x => by simp, Nat.le_refl _⟩ ?_ ?_)
  · clear F N
    rintro i u m₁ news₁ oc₁ h tk3 own hi hadr hoff ⟨u1, u2, vs, ss, k, rfl, rfl, hS, hsort, hmem, hle⟩ hdc F N
    w_strict k_steps
    refine unbox (comp_rule (pPick i) (GPick word) rfl (by decide) (by rfl) (by decide) (by rfl) ?_)
    w_strict k_steps
    (rename IsRange _ _ _ _ _ _ _ _ => hr2)
    (with_reducible rename Fr _ _ _ _ => F); (with_reducible rename News _ _ _ _ => N)
    refine unbox (src_range (n := word.length) rfl hr2 (small_one (by omega) (by omega) (by omega) (by omega)) ((rangeSize_nat 0 _).trans (by simp)) (by omega) F N ?_ ?_)
    · intro j u' hj
      have hcN : Heap.IsCell _ (s.heap.objs.size + 1 + 1) (some (Value.int i u)) := ⟨_, N.get (.head _), hdc⟩
      have hcW : Heap.IsCell _ (s.heap.objs.size + 1) (some (Value.str word t)) := ⟨_, N.get (.tail _ (.tail _ (.head _))), d2⟩
      constructor
      · intro C s₃ m₃ E' hnC hmk hk3
        have hcN := hcN.keeps hk3
        have hcW := hcW.keeps hk3
        refine wpAny_tests_one ?_
        w_strict k_steps
        · exact bit_eq i j
        · exact ⟨_, _, rfl, fun _ _ e => e⟩
      · intro C s₃ m₃ E' hpv hnC hmk hk3
        have hcN := hcN.keeps hk3
        have hcW := hcW.keeps hk3
        w_strict k_steps
        · exact ⟨_, _, _, rfl, rfl⟩
        · exact ⟨_, _, rfl, fun _ _ e => e⟩
    · intro D h' tk' ys k' xs hlen hxs F N hP hk2 _
      have hSy : StrsAre ys (((List.range word.length).filter fun k => decide (i / 2 ^ k % 2 = 1)).map fun (k : Nat) => Txt.item word (k : Int)) :=
        strs_of_paired (F := fun (a : Nat) y => ∃ v, (∃ u, v = Value.int a u) ∧ GPick word v y) (fun a y ⟨v, ⟨u, hv⟩, k, u', t, hv', hy⟩ => by
          rw [hv] at hv'; injection hv' with e1; have : a = k := by omega
          subst this; exact ⟨t, hy⟩) (paired_comp (paired_filter (fun a v ⟨u, hv⟩ => by subst hv; rfl) (paired_range hlen hxs)) hP)
      w_strict k_steps
      have hlen2 : (((List.range word.length).filter fun k => decide (i / 2 ^ k % 2 = 1)).map fun (k : Nat) => Txt.item word (k : Int)).length ≤ 7 := by
        rw [List.length_map]
        exact Nat.le_trans (List.length_filter_le _ _) (by rw [List.length_range]; exact hwl)
      refine PyProof.Rows.join_list (ys := ((List.range word.length).filter fun k => decide (i / 2 ^ k % 2 = 1)).map fun (k : Nat) => Txt.item word (k : Int)) (News.isList N (.head _)) hSy ?_ fun t2 k2 => ?_
      · have := sum_len_le (ss := ((List.range word.length).filter fun k => decide (i / 2 ^ k % 2 = 1)).map fun (k : Nat) => Txt.item word (k : Int)) (n := 1) fun x hx => by
          obtain ⟨a, _, rfl⟩ := List.mem_map.mp hx
          exact Nat.le_refl _
        have e0 : (Str.ofString "").length = 0 := rfl
        rw [e0]; omega
      · rw [pick_join]

        w_strict k_steps
        (with_reducible rename Fr _ _ _ _ => F); (with_reducible rename News _ _ _ _ => N)
        refine unbox (wpAny_call (bisect_spec (dp := dp + 1) (un := un + 3) (t0 := 218) (X.keeps F.keep) (T.keeps F.keep) (by omega) (by omega) (N.get (.tail _ (.tail _ (.head _)))) hS (by omega) hsort.getD (.inl ⟨rfl, rfl⟩) fun h3 tk4 tok pp hpl hlo hhi hk3 => ?_))
        have F := F.keeps hk3
        have N := newsKeep N hk3
        dsimp only
        w_strict k_steps
        · (rename ((_ : Int) = _) => hpe)
          (with_reducible rename Fr _ _ _ _ => F); (with_reducible rename News _ _ _ _ => N)
          have hl0 := N.fresh (.tail _ (.tail _ (.head _)))
          refine unbox (wpAny_call (insort_spec (dp := dp + 1) (un := un + 3) (X.keeps F.keep) (T.keeps F.keep) (by omega) (by omega) (N.get (.tail _ (.tail _ (.head _)))) (X.keeps (hideKeep F.keep hl0)) (T.keeps (hideKeep F.keep hl0)) hS (by omega) hsort.getD fun h4 tk5 p2 vs' n' hp2 hlo2 hhi2 hq2 hS2 hk4 => ?_))
          have FN := after_change (pre := [(_, oc₁)]) F (fun p hp => N p (.tail _ hp)) (fun p hp => by rw [List.mem_singleton.mp hp]; exact Nat.ne_of_lt l1.1) (fun p hp => by
            rcases List.mem_cons.mp hp with rfl | hp
            · exact Nat.ne_of_lt l1.2
            · exact hoff p hp _ (.tail _ (.head _))) hq2 hk4
          have F := FN.1
          have N := FN.2
          have hne : p2 < ss.length → ss.getD p2 Str.empty ≠ pick word i := fun h5 => absurd (hlo p2 (by omega)) (hhi2 p2 (Nat.le_refl _) h5)
          dsimp only
          w_strict k_steps
          (with_reducible rename Fr _ _ _ _ => F); (with_reducible rename News _ _ _ _ => N)
          exact unbox ⟨_, _, _, [(_, _), (_, _)], _, _, rfl, frCast (lf_turn _ _ _ _ _) F, N, rfl, hdc, _, _, vs', _, n', rfl, rfl, hS2, hsort.insert hp2 hlo2 hhi2 hne, fun x => by rw [mem_ins, hmem, ex_succ], by rw [len_ins]; omega⟩
        · (rename (_ != _) = true => hpe)
          (with_reducible rename Fr _ _ _ _ => F); (with_reducible rename News _ _ _ _ => N)
          have hl0 := N.fresh (.tail _ (.tail _ (.head _)))
          refine unbox (wpAny_call (insort_spec (dp := dp + 1) (un := un + 3) (X.keeps F.keep) (T.keeps F.keep) (by omega) (by omega) (N.get (.tail _ (.tail _ (.head _)))) (X.keeps (hideKeep F.keep hl0)) (T.keeps (hideKeep F.keep hl0)) hS (by omega) hsort.getD fun h4 tk5 p2 vs' n' hp2 hlo2 hhi2 hq2 hS2 hk4 => ?_))
          have FN := after_change (pre := [(_, oc₁)]) F (fun p hp => N p (.tail _ hp)) (fun p hp => by rw [List.mem_singleton.mp hp]; exact Nat.ne_of_lt l1.1) (fun p hp => by
            rcases List.mem_cons.mp hp with rfl | hp
            · exact Nat.ne_of_lt l1.2
            · exact hoff p hp _ (.tail _ (.head _))) hq2 hk4
          have F := FN.1
          have N := FN.2
          have hne : p2 < ss.length → ss.getD p2 Str.empty ≠ pick word i := fun h5 => by
            have e2 : p2 = pp := by
              rcases Nat.lt_trichotomy p2 pp with h | h | h
              · exact absurd (hlo p2 h) (hhi2 p2 (Nat.le_refl _) h5)
              · exact h
              · exact absurd (hlo2 pp h) (hhi pp (Nat.le_refl _) (by omega))
            subst e2
            simpa using hpe
          dsimp only
          w_strict k_steps
          (with_reducible rename Fr _ _ _ _ => F); (with_reducible rename News _ _ _ _ => N)
          exact unbox ⟨_, _, _, [(_, _), (_, _)], _, _, rfl, frCast (lf_turn _ _ _ _ _) F, N, rfl, hdc, _, _, vs', _, n', rfl, rfl, hS2, hsort.insert hp2 hlo2 hhi2 hne, fun x => by rw [mem_ins, hmem, ex_succ], by rw [len_ins]; omega⟩
        · (rename (_ != _) = false => hpe); (rename Int.toNat _ < _ => hlt)
          (with_reducible rename Fr _ _ _ _ => F); (with_reducible rename News _ _ _ _ => N)
          exact unbox ⟨_, _, _, [(_, _), (_, _)], _, _, rfl, frCast (lf_turn _ _ _ _ _) F, fun p hp => N p (.tail _ hp), rfl, hdc, _, _, vs, ss, _, rfl, rfl, hS, hsort, fun x => by
            have hin : pick word i ∈ ss := by
              have e3 : ss.getD pp Str.empty = pick word i := by simpa using hpe
              rw [← e3, List.getD_eq_getElem?_getD, List.getElem?_eq_getElem (by simpa using hlt)]
              exact List.getElem_mem _
            rw [ex_succ, ← hmem]
            exact ⟨.inr, fun h => h.elim (fun e => e ▸ hin) id⟩, by omega⟩
  · clear F N
    rintro m₁ news₁ oc₁ h tk3 ⟨u1, u2, vs, ss, k, rfl, rfl, hS, hsort, hmem, hle⟩ F N
    dsimp only
    w_strict k_steps
    exact hR _ _ _ _ _ _ (N.get (.tail _ (.head _))) hS hsort (by rw [← hn]; exact hmem) (by omega) F.keep fun o e => by have := N.fresh (.tail _ (.head _)); rw [e] at this; cases this
end Mine
end MLeftP

/-! ### MSplit -/
section MSplitP
open PySem PySem.W PySem.Calls PyProof.Rows PySem.Builtin PySem.Builtin.Str
set_option maxRecDepth 100000
namespace Mine
def ones (x : Str) : List Str := x.cps.toList.map fun c => ⟨#[c]⟩
def wantOf (x : Str) : Str := Str.ofString "..." ++ Txt.join (Str.ofString "...") (ones x) ++ Str.ofString "..."
def wsOf (x : Str) : List Str := if x.length = 0 then [Str.empty, Str.empty, Str.empty] else Str.empty :: ones x ++ [Str.empty]
theorem mem_wordsAt : ∀ {n : Nat} {x : Str}, x ∈ wordsAt n → ∃ i, i ≤ n ∧ x ∈ levelAt i
  | 0, x, h => ⟨0, Nat.le_refl _, h⟩
  | n + 1, x, h => by
    rcases List.mem_append.mp h with h | h
    · obtain ⟨i, hi, h⟩ := mem_wordsAt h
      exact ⟨i, Nat.le_succ_of_le hi, h⟩
    · exact ⟨n + 1, Nat.le_refl _, h⟩
theorem levelAt_ne : ∀ {i : Nat} {x : Str}, x ∈ levelAt i → ∀ c ∈ x.cps.toList, c ≠ 46
  | 0, x, h, c, hc => by
    have : x = Str.ofString "" := by simpa [levelAt] using h
    subst this; cases hc
  | i + 1, x, h, c, hc => by
    obtain ⟨sx, hs, hx⟩ := List.mem_flatMap.mp h
    obtain ⟨d, hd, rfl⟩ := List.mem_map.mp hx
    have e : (sx ++ (⟨#[d]⟩ : Str)).cps.toList = sx.cps.toList ++ [d] := by
      show (sx.cps ++ #[d]).toList = _
      simp
    rw [e] at hc
    rcases List.mem_append.mp hc with hc | hc
    · exact levelAt_ne hs c hc
    · rw [List.mem_singleton.mp hc]
      have : (Str.ofString "ab").cps.toList = [97, 98] := by decide
      rw [this] at hd
      rcases List.mem_cons.mp hd with rfl | hd
      · decide
      · rw [List.mem_singleton.mp hd]; decide
/-! ## three dots ahead of, between and behind the letters -/
def dots : List Nat → List Nat
  | [] => [46, 46, 46]
  | c :: r => 46 :: 46 :: 46 :: c :: dots r
theorem dots_len : ∀ cs : List Nat, (dots cs).length = 4 * cs.length + 3
  | [] => rfl
  | c :: r => by simp only [dots, List.length_cons, dots_len r]; omega
theorem dots_at : ∀ {cs : List Nat}, (∀ c ∈ cs, c ≠ 46) → ∀ i, (((dots cs).drop i).take 3 = [46, 46, 46] ↔ i % 4 = 0 ∧ i ≤ 4 * cs.length)
  | [], _, 0 => by simp [dots]
  | [], _, i + 1 => by
    constructor
    · intro h
      have := congrArg List.length h
      simp [dots] at this; omega
    · rintro ⟨_, h⟩; simp at h
  | c :: r, h, 0 => by simp [dots]
  | c :: r, h, 1 => by
    have := h c (.head _)
    simp [dots, this]
  | c :: r, h, 2 => by
    have := h c (.head _)
    simp [dots, this]
  | c :: r, h, 3 => by
    have := h c (.head _)
    simp [dots, this]
  | c :: r, h, i + 4 => by
    have ih := dots_at (cs := r) (fun c hc => h c (.tail _ hc)) i
    have e : ((dots (c :: r)).drop (i + 4)) = (dots r).drop i := rfl
    rw [e, ih, List.length_cons]
    constructor <;> rintro ⟨a, b⟩ <;> constructor <;> omega
theorem dots_one : ∀ {cs : List Nat} {k : Nat} {c : Nat}, cs[k]? = some c → ((dots cs).drop (4 * k + 3)).take 1 = [c]
  | d :: r, 0, c, h => by cases h; rfl
  | d :: r, k + 1, c, h => dots_one (cs := r) (k := k) h
theorem want_dots {x : Str} (hx : x.length ≠ 0) : (wantOf x).cps.toList = dots x.cps.toList := by
  have ed : (Str.ofString "...").cps = #[46, 46, 46] := by decide
  obtain ⟨c, r, hc⟩ : ∃ c r, x.cps.toList = c :: r := by
    cases h : x.cps.toList with
    | nil => exact absurd (congrArg List.length h) hx
    | cons c r => exact ⟨c, r, rfl⟩
  show (((Str.ofString "...").cps ++ (Txt.join (Str.ofString "...") (ones x)).cps) ++ (Str.ofString "...").cps).toList = _
  unfold Txt.join glued ones
  rw [ed, hc]
  have key : ∀ (l : List Nat) (a : Array Nat), (((l.map fun c => (⟨#[c]⟩ : Str)).foldl (fun acc p => acc ++ #[46, 46, 46] ++ p.cps) a).toList ++ [46, 46, 46]) = a.toList ++ dots l := by
    intro l
    induction l with
    | nil => intro a; rfl
    | cons d t ih =>
      intro a
      rw [List.map_cons, List.foldl_cons, ih]
      simp [dots]
  have := key r #[c]
  simp only [List.map_cons, List.drop_succ_cons, List.drop_zero, List.headD_cons, Array.toList_append] at this ⊢
  rw [List.append_assoc, this]
  simp [dots]
theorem want_at {x : Str} (hx : x.length ≠ 0) (hn : ∀ c ∈ x.cps.toList, c ≠ 46) (i : Nat) : StrLaws.At (wantOf x) (Str.ofString "...") (wantOf x).length i ↔ i % 4 = 0 ∧ i ≤ 4 * x.length := by
  have hl : (wantOf x).length = 4 * x.length + 3 := by
    show (wantOf x).cps.toList.length = _
    rw [want_dots hx, dots_len]; rfl
  have e3 : (Str.ofString "...").length = 3 := rfl
  have ed : (Str.ofString "...").cps.toList = [46, 46, 46] := by decide
  unfold StrLaws.At
  rw [StrLaws.subAt_eq, want_dots hx, e3, ed, beq_iff_eq, dots_at hn, hl]
  have hm : x.cps.toList.length = x.length := rfl
  constructor
  · rintro ⟨_, b⟩; exact b
  · intro b; exact ⟨by omega, b⟩
theorem chain_eq {x : Str} (hx : x.length ≠ 0) (hn : ∀ c ∈ x.cps.toList, c ≠ 46) : ∀ {cuts : List Nat} {k f : Nat}, k ≤ x.length + 1 → StrLaws.ChainG (wantOf x) (Str.ofString "...") (wantOf x).length (4 * k - 1) cuts f →
    (∀ j, f ≤ j → ¬ StrLaws.At (wantOf x) (Str.ofString "...") (wantOf x).length j) → cuts = (List.range' k (x.length + 1 - k)).map (4 * ·)
  | [], k, f, hk, h, hf => by
    have e : f = 4 * k - 1 := h
    have : ¬ k ≤ x.length := fun hle => hf (4 * k) (by omega) ((want_at hx hn _).mpr ⟨by omega, by omega⟩)
    rw [show x.length + 1 - k = 0 from by omega]; rfl
  | c :: r, k, f, hk, h, hf => by
    obtain ⟨h1, h2, h3, h4⟩ := h
    obtain ⟨a, b⟩ := (want_at hx hn c).mp h2
    have hc : c = 4 * k := by
      have h5 : 4 * k ≤ c := by omega
      by_cases e : c = 4 * k
      · exact e
      · exact absurd ((want_at hx hn (4 * k)).mpr ⟨by omega, by omega⟩) (h3 (4 * k) (by omega) (by omega))
    subst hc
    have e3 : (Str.ofString "...").length = 3 := rfl
    rw [e3, show 4 * k + 3 = 4 * (k + 1) - 1 from by omega] at h4
    have ih := chain_eq hx hn (k := k + 1) (by omega) h4 hf
    rw [ih, show x.length + 1 - k = (x.length + 1 - (k + 1)) + 1 from by omega, List.range'_succ]; rfl
theorem want_occ {x : Str} (hx : x.length ≠ 0) (hn : ∀ c ∈ x.cps.toList, c ≠ 46) : occurrences (wantOf x) (Str.ofString "...") 0 (wantOf x).length ((wantOf x).length + 1) = (List.range' 0 (x.length + 1)).map (4 * ·) := by
  obtain ⟨f, h1, h2⟩ := StrLaws.occ_tight (wantOf x) (Str.ofString "...") (by decide)
  exact chain_eq hx hn (k := 0) (Nat.zero_le _) h1 h2
theorem parts_eq {x : Str} (hx : x.length ≠ 0) : ∀ (d k : Nat), 1 ≤ k → k + d = x.length + 1 →
    (((4 * k - 1) :: (((List.range' k d).map (4 * ·)).map (· + 3))).zip ((List.range' k d).map (4 * ·) ++ [4 * x.length + 3])).map (fun (i, j) => strSub (wantOf x) i j) = ((x.cps.toList.drop (k - 1)).map fun c => (⟨#[c]⟩ : Str)) ++ [Str.empty]
  | 0, k, hk, he => by
    have e : k = x.length + 1 := by omega
    subst e
    have e2 : x.cps.toList.drop (x.length + 1 - 1) = [] := List.drop_eq_nil_of_le (Nat.le_refl _)
    rw [e2]
    show [strSub (wantOf x) (4 * (x.length + 1) - 1) (4 * x.length + 3)] = [Str.empty]
    congr 1
    refine str_ext ?_
    rw [StrLaws.strSub_toList, show 4 * x.length + 3 - (4 * (x.length + 1) - 1) = 0 from by omega]; rfl
  | d + 1, k, hk, he => by
    have hlt : k - 1 < x.cps.toList.length := by show k - 1 < x.length; omega
    have ih := parts_eq hx d (k + 1) (by omega) (by omega)
    rw [List.range'_succ, List.drop_eq_getElem_cons hlt, List.map_cons, List.map_cons, List.map_cons, List.cons_append, List.cons_append, List.zip_cons_cons, List.map_cons]
    rw [show k - 1 + 1 = k + 1 - 1 from by omega, ← ih, show 4 * (k + 1) - 1 = 4 * k + 3 from by omega]
    congr 1
    refine str_ext ?_
    show (strSub (wantOf x) (4 * k - 1) (4 * k)).cps.toList = _
    rw [StrLaws.strSub_toList, want_dots hx, show 4 * k - (4 * k - 1) = 1 from by omega, show 4 * k - 1 = 4 * (k - 1) + 3 from by omega]
    exact dots_one (List.getElem?_eq_getElem hlt)
theorem want_split {x : Str} (hx : x.length ≠ 0) (hn : ∀ c ∈ x.cps.toList, c ≠ 46) : Txt.split (wantOf x) (Str.ofString "...") = wsOf x := by
  have hl : (wantOf x).length = 4 * x.length + 3 := by
    show (wantOf x).cps.toList.length = _
    rw [want_dots hx, dots_len]; rfl
  have e3 : (Str.ofString "...").length = 3 := rfl
  have ek : Builtin.Str.strKind (Str.ofString "...") = 1 := by decide +kernel
  have hk : ¬ Builtin.Str.strKind (wantOf x) < 1 := by
    unfold Builtin.Str.strKind; split
    · decide
    · split <;> decide
  unfold Txt.split
  rw [want_occ hx hn, ek, hl, e3, if_neg (by simp only [Bool.or_eq_true, decide_eq_true_eq]; omega)]
  rw [if_neg (by rw [List.range'_succ]; simp)]
  unfold partsBetween
  rw [hl, wsOf, if_neg hx, List.range'_succ]
  show strSub (wantOf x) 0 0 :: List.map _ _ = _
  rw [List.cons_append]
  congr 1
  · refine str_ext ?_
    rw [StrLaws.strSub_toList]; rfl
  · exact parts_eq hx x.length 1 (Nat.le_refl _) (by omega)
theorem want_facts {n : Nat} {x : Str} (h : x ∈ wordsAt n) (hn : n ≤ 7) : Txt.split (wantOf x) (Str.ofString "...") = wsOf x ∧ (occurrences (wantOf x) (Str.ofString "...") 0 (wantOf x).length 1).isEmpty = false ∧ (wantOf x).length ≤ 100 := by
  obtain ⟨i, hi, hm⟩ := mem_wordsAt h
  have hsz := levelAt_size hm
  have hne := levelAt_ne hm
  by_cases hx : x.length = 0
  · have e : x = Str.ofString "" := str_ext (List.length_eq_zero_iff.mp hx)
    subst e
    decide +kernel
  · have hl : (wantOf x).length = 4 * x.length + 3 := by
      show (wantOf x).cps.toList.length = _
      rw [want_dots hx, dots_len]; rfl
    refine ⟨want_split hx hne, ?_, by omega⟩
    have := (StrLaws.found_iff (wantOf x) (Str.ofString "...")).mpr ⟨0, (want_at hx hne 0).mpr ⟨rfl, Nat.zero_le _⟩⟩
    simpa using this
end Mine
end MSplitP

/-! ### MMatched -/
section MMatchedP
open PySem PySem.W PySem.Calls PyProof.Rows
set_option maxRecDepth 100000
set_option maxHeartbeats 400000
namespace Mine
theorem modeMMatched : True := by
  w_top off
  trivial
local macro_rules | `(tactic| walk_at "no such step MMatched 0") => `(tactic| skip)
local macro_rules | `(tactic| walk_at "eval ListComp") => `(tactic| (k_here; refine box ?_))
local macro_rules | `(tactic| walk_at "pyIter ref") => `(tactic| (k_here; refine box ?_))
local macro_rules | `(tactic| walk_at "call ref") => `(tactic| (k_here; refine box ?_))
local macro_rules | `(tactic| walk_at "eval Name") => `(tactic| (first
  | (refine' cn_local ?hn ?hv ?_ ?hk ?hl ?hd; (case hl => rfl); (case hk => rfl); (case hd => decide); (case hn => assumption); (case hv => assumption); k_whole)
  | (refine' cn_cell ?hv ?_ ?hc ?hk ?hl ?hd; (case hl => rfl); (case hk => rfl); (case hd => decide); (case hc => rfl); (case hv => assumption); k_whole)))
def pMatch (word : Str) (v : Value) : Bool := match v with | .str x _ => decide (x.cps.toList.Sublist word.cps.toList) | _ => false
def GMatch (v y : Value) : Prop := y = v
abbrev G2 (v y : Value) : Prop := y = v
theorem strs_ones {x : Str} {vs ys : List Value} (h1 : vs.length = x.cps.size) (h2 : ∀ (j : Nat) v, vs[j]? = some v → SignAt x j v) (h3 : Paired G2 (vs.filter fun _ => true) ys) : StrsAre ys (ones x) := by
  rw [List.filter_eq_self.mpr (fun _ _ => rfl)] at h3
  refine strs_of_paired (F := fun (c : Nat) y => ∃ t, y = Value.str ⟨#[c]⟩ t) (fun c y h => h) ?_
  have hP : Paired (fun (c : Nat) v => ∃ t, v = Value.str ⟨#[c]⟩ t) x.cps.toList vs := paired_of (by simp [h1]) fun j a b ha hb => by
    obtain ⟨c, u, hc, rfl⟩ := h2 j b hb
    rw [Array.getElem?_toList, hc] at ha; cases ha
    exact ⟨u, rfl⟩
  have key : ∀ {l₁ : List Nat} {l₂ l₃ : List Value}, Paired (fun (c : Nat) v => ∃ t, v = Value.str ⟨#[c]⟩ t) l₁ l₂ → Paired G2 l₂ l₃ → Paired (fun (c : Nat) v => ∃ t, v = Value.str ⟨#[c]⟩ t) l₁ l₃ := by
    intro l₁ l₂ l₃ h
    induction h generalizing l₃ with
    | nil => intro h'; cases h'; exact .nil
    | cons h t ih => intro h'; cases h' with | cons e h' => exact .cons (e ▸ h) (ih h')
  exact key hP h3
theorem wordsAt_size : ∀ {n : Nat} {x : Str}, x ∈ wordsAt n → x.length ≤ n
  | 0, x, h => by
    have : x = Str.ofString "" := by simpa [wordsAt] using h
    subst this; decide
  | n + 1, x, h => by
    rcases List.mem_append.mp h with h | h
    · exact Nat.le_succ_of_le (wordsAt_size h)
    · exact Nat.le_of_eq (levelAt_size h)
theorem StrsAre.mem {vs : List Value} {ss : List Str} {x : Str} {t : Tok} (h : StrsAre vs ss) (hv : Value.str x t ∈ vs) : x ∈ ss := by
  induction h with
  | nil => cases hv
  | cons y t' h ih =>
    rcases List.mem_cons.mp hv with e | hv
    · cases e; exact .head _
    · exact .tail _ (ih hv)
theorem ones_len (x : Str) : (ones x).length = x.length := by simp [ones]; rfl
theorem ws_first (x : Str) : (wsOf x)[0]? = some Str.empty := by
  unfold wsOf; split <;> rfl
theorem ws_last (x : Str) : (wsOf x).getLast? = some Str.empty := by
  unfold wsOf; split
  · rfl
  · rw [List.getLast?_append]; rfl
theorem ws_two (x : Str) : 2 ≤ (wsOf x).length := by
  unfold wsOf; split
  · decide
  · simp only [List.length_append, List.length_cons, List.length_nil]; omega
theorem ws_len (x : Str) : (wsOf x).length = if x.length = 0 then 3 else x.length + 2 := by
  unfold wsOf; split
  · rfl
  · simp only [List.length_append, List.length_cons, List.length_nil, ones_len]
theorem ws_one (x : Str) : ∀ y ∈ wsOf x, y.length ≤ 1 := by
  intro y hy
  unfold wsOf at hy; split at hy
  · simp only [List.mem_cons, List.not_mem_nil, or_false, or_self] at hy; subst hy; decide
  · simp only [List.mem_append, List.mem_cons, List.not_mem_nil, or_false] at hy
    rcases hy with (rfl | hy) | rfl
    · decide
    · obtain ⟨c, _, rfl⟩ := List.mem_map.mp hy; exact Nat.le_refl _
    · decide
theorem lets_ws (x : Str) : lets (wsOf x) = x.cps.toList := by
  unfold wsOf lets; split
  · rename_i h
    have : x.cps.toList.length = 0 := h
    rw [List.length_eq_zero_iff.mp this]; rfl
  · rw [List.flatMap_append, List.flatMap_cons]
    show [] ++ List.flatMap _ (ones x) ++ [] = _
    rw [List.nil_append, List.append_nil, ones, List.flatMap_map]
    show x.cps.toList.flatMap (fun c => [c]) = _
    rw [List.flatMap_singleton']
theorem matched_spec {prog : Program} {w : World} {dp un : Nat} {fr : Option (List Env)} {gd : Option (List Code)} {s : Shared} {loose : List Str} {mean : ExcName → Option Value} {mg mb : Str → Option Value} {word : Str} {t : Tok}
   (X : (hd.heap_39 w.params).In s.heap) (T : Top hd.view_39 loose mean mg mb s.heap) (hdep : dp < 580) 
   (hwl : word.length ≤ 7)
   {R : Result → Shared → Prop}
   (hR : ∀ h' tk' D vs k, h'.get? D = some (W.listOf (List.toArray vs) k) → StrsAre vs ((wordsAt word.length).filter fun x => decide (x.cps.toList.Sublist word.cps.toList)) → (∀ b o, s.heap.get? b = some o → h'.get? b = some o) → (∀ o, s.heap.get? D ≠ some o) → R (.ok (.ret (.ref D))) { s with heap := h', toks := tk' }) :
   codeAny (model prog w) { handled := none, depth := dp, frames := fr, guards := gd, units := un } (.call (.ref 61) ⟨[.str word t], []⟩) R s := by
  k_dflt (refine' enterC (binds := [(Str.ofString "word", .str word t)]) X ?nl ?lk ?cd ?room ?b ?l ?nd ?_ ?h1 ?h2 ?h3; (case lk => k_is); (case cd => k_is); (case h1 => exact rfl); (case h2 => exact rfl); (case h3 => exact rfl))
  case nl => exact T.nolimit
  case room => exact Nat.lt_trans hdep (by decide)
  case b => exact BindsTo.of_eq rfl
  case l => exact rfl
  case nd => decide +kernel
  intro h₁ tk cells F N Y
  have KX := X
  k_cells Y
  w_strict k_steps
  (rename _ = Data.cell (bindC _ _ _ (Str.ofString "word")) => d2')
  obtain ⟨ow, how, d2⟩ : ∃ o, o = _ ∧ _ := ⟨_, rfl, (show _ = Data.cell (some (Value.str word t)) from d2')⟩
  subst how; clear d2'
  refine unbox (comp_rule (pMatch word) GMatch rfl (by decide) (by rfl) (by decide) (by rfl) ?_)
  w_strict k_steps
  (with_reducible rename Fr _ _ _ _ => F); (with_reducible rename News _ _ _ _ => N)
  refine unbox (wpAny_call (words_spec (dp := dp + 1) (un := un + 3) (n := word.length) (X.keeps F.keep) (T.keeps F.keep) (by omega) hwl fun h' tk' D vs k hD hS hk hDn => ?_))
  have F := F.keeps hk
  have N := newsKeep N hk
  dsimp only
  have hlv : vs.length = (wordsAt word.length).length := hS.length
  have hl255 : (wordsAt word.length).length ≤ 255 := by
    rw [wordsAt_len]
    have : 2 ^ (word.length + 1) ≤ 2 ^ 8 := Nat.pow_le_pow_right (by decide) (by omega)
    omega
  refine src_list (vs := vs) rfl ⟨_, hD, rfl, _, rfl⟩ (by omega) F N ?_ ?_
  · intro v hv
    obtain ⟨x, t', rfl⟩ := hS.all v hv
    have hcW : Heap.IsCell _ (s.heap.objs.size + 1) (some (Value.str word t)) := ⟨_, N.get (.head _), d2⟩
    constructor
    · intro C s₃ m₃ E' hnC hmk hk3
      have hcW := hcW.keeps hk3
      refine wpAny_tests_one ?_
      w_strict k_steps
      refine unbox (comp_rule (fun _ => true) G2 rfl (by decide) (by rfl) (by decide) (by rfl) ?_)
      refine cn_local hnC hmk ?_ (by rfl) (by rfl) (by decide)
      have hxl : x.length ≤ 7 := Nat.le_trans (wordsAt_size (StrsAre.mem hS hv)) hwl
      refine src_str rfl (Nat.le_trans hxl (by decide)) ?_ ?_
      · intro i c u hc
        constructor
        · intro C2 s₄ m₄ E2 hn2 hm2 hk4
          exact wpAny_tests_nil ⟨rfl, _, _, rfl, fun _ _ e => e⟩
        · intro C2 s₄ m₄ E2 hp2 hn2 hm2 hk4
          exact cn_local hn2 hm2 ⟨rfl, _, _, rfl, fun _ _ e => e⟩ (by rfl) (by rfl) (by decide)
      intro D2 h2 tk2 ys k2 vs2 hl2 hs2 hD2 hP2 hk2 hD2n
      have hys := strs_ones hl2 hs2 hP2
      have hnC := hnC.keeps hk2
      have hcW := hcW.keeps hk2
      dsimp only
      w_strict k_steps
      have ho1 : ((ones x).map (·.length)).sum ≤ 7 := by
        have := sum_len_le (ss := ones x) (n := 1) fun y hy => by
          obtain ⟨c, _, rfl⟩ := List.mem_map.mp hy
          exact Nat.le_refl _
        have e : (ones x).length = x.length := by simp [ones]; rfl
        rw [e] at this; omega
      have ho2 : (ones x).length ≤ 7 := by
        have e : (ones x).length = x.length := by simp [ones]; rfl
        omega
      refine PyProof.Rows.join_list (ys := ones x) ⟨_, hD2, rfl, _, rfl⟩ hys ?_ fun t3 k3 => ?_
      · have e0 : (Str.ofString "...").length = 3 := rfl
        rw [e0]; omega
      obtain ⟨hsp, hoc, hln⟩ := want_facts (StrsAre.mem hS hv) hwl
      have hln1 : (Str.ofString "..." ++ Txt.join (Str.ofString "...") (ones x)).length + 3 ≤ 100 := by
        rw [wantOf, Str.length_append] at hln; exact hln
      have hln2 : 3 + (Txt.join (Str.ofString "...") (ones x)).length + 3 ≤ 100 := by
        rw [Str.length_append] at hln1; exact hln1
      refine KOpn.add (by show 3 + _ ≤ 16777216; omega) fun t4 k4 _ => ?_
      dsimp only
      refine Calls.Constant_str ?_
      refine KOpn.add (by show _ + 3 ≤ 16777216; omega) fun t5 k5 _ => ?_
      dsimp only
      (rename Fr _ _ s₃.heap _ => F3); (rename News _ _ s₃.heap _ => N3)
      have F3 := F3.keeps hk2
      have N3 := newsKeep N3 hk2
      show wpAny _ _ _ _ _ { heap := h2, gens := s₃.gens, drawn := s₃.drawn, toks := k5, os := s₃.os }
      w_strict k_steps
      refine unbox (wpAny_call (match_spec (dp := dp + 1) (un := un + 3) (want := wantOf x) (e₁ := Str.empty) (e₂ := Str.empty) (X.keeps F3.keep) (T.keeps F3.keep) (by omega) (by omega) (by omega) hoc hsp (ws_first x) (ws_last x) rfl rfl (ws_two x) (by rw [ws_len]; split <;> omega) (ws_one x) fun h5 tk5 hk5 => ?_))
      rw [lets_ws]
      dsimp only
      w_strict k_steps
      exact ⟨_, _, rfl, fun b o e => hk5 b o (hk2 b o e)⟩
    · intro C s₃ m₃ E' hpv hnC hmk hk3
      refine cn_local hnC hmk ⟨rfl, _, _, rfl, fun _ _ e => e⟩ (by rfl) (by rfl) (by decide)
  · intro D3 h6 tk6 ys6 k6 F N hP6 hk6 hD6
    dsimp only
    w_strict k_steps
    refine hR _ _ _ _ _ (N.get (.head _)) ?_ F.keep fun o e => by have := N.fresh (.head _); rw [e] at this; cases this
    have key : ∀ {l₁ : List Str} {l₂ l₃ : List Value}, Paired (fun x v => ∃ t, v = Value.str x t) l₁ l₂ → Paired GMatch l₂ l₃ → Paired (fun x v => ∃ t, v = Value.str x t) l₁ l₃ := by
      intro l₁ l₂ l₃ h
      induction h generalizing l₃ with
      | nil => intro h'; cases h'; exact .nil
      | cons h t ih => intro h'; cases h' with | cons e h' => exact .cons (e ▸ h) (ih h')
    have := strs_of_paired (f := id) (fun x v h => h) (key (paired_filter (p := fun (x : Str) => decide (x.cps.toList.Sublist word.cps.toList)) (q := pMatch word) (fun x v ⟨t, e⟩ => by subst e; rfl) (paired_of_strs hS)) hP6)
    rwa [List.map_id] at this
end Mine
end MMatchedP

/-! ### MLaw -/
section MLawP
open PySem PySem.W PySem.Calls PyProof.Rows
set_option maxRecDepth 100000
namespace Mine
/-! ## the plain law -/
abbrev Ab (l : List Nat) : Prop := ∀ c ∈ l, c = 97 ∨ c = 98
def subsAB : List Nat → List (List Nat) × List (List Nat)
  | [] => ([], [])
  | c :: r => if c = 97 then (([] :: ((subsAB r).1 ++ (subsAB r).2)).map (c :: ·), (subsAB r).2) else ((subsAB r).1, ([] :: ((subsAB r).1 ++ (subsAB r).2)).map (c :: ·))
def subs (l : List Nat) : List (List Nat) := [] :: ((subsAB l).1 ++ (subsAB l).2)
theorem mem_subsAB : ∀ {l : List Nat}, Ab l → ∀ x, (x ∈ (subsAB l).1 ↔ (∃ y, x = 97 :: y) ∧ x.Sublist l) ∧ (x ∈ (subsAB l).2 ↔ (∃ y, x = 98 :: y) ∧ x.Sublist l)
  | [], _, x => by
    constructor
    · constructor
      · intro h; cases h
      · rintro ⟨⟨y, rfl⟩, h⟩; cases h
    · constructor
      · intro h; cases h
      · rintro ⟨⟨y, rfl⟩, h⟩; cases h
  | c :: r, h, x => by
    have ih := mem_subsAB (l := r) fun c hc => h c (.tail _ hc)
    have hs : ∀ z, z ∈ ([] :: ((subsAB r).1 ++ (subsAB r).2)) ↔ z.Sublist r := by
      intro z
      rw [List.mem_cons, List.mem_append, (ih z).1, (ih z).2]
      constructor
      · rintro (rfl | h | h)
        · exact List.nil_sublist _
        · exact h.2
        · exact h.2
      · intro hz
        cases z with
        | nil => exact .inl rfl
        | cons d y =>
          rcases h d (.tail _ (hz.subset (.head _))) with rfl | rfl
          · exact .inr (.inl ⟨⟨_, rfl⟩, hz⟩)
          · exact .inr (.inr ⟨⟨_, rfl⟩, hz⟩)
    have hsame : x ∈ ([] :: ((subsAB r).1 ++ (subsAB r).2)).map (c :: ·) ↔ (∃ y, x = c :: y) ∧ x.Sublist (c :: r) := by
      rw [List.mem_map]
      constructor
      · rintro ⟨z, hz, rfl⟩
        exact ⟨⟨z, rfl⟩, List.cons_sublist_cons.mpr ((hs z).mp hz)⟩
      · rintro ⟨⟨y, rfl⟩, k⟩
        exact ⟨y, (hs y).mpr (List.cons_sublist_cons.mp k), rfl⟩
    have hoth : ∀ d, d ≠ c → ((∃ y, x = d :: y) ∧ x.Sublist r ↔ (∃ y, x = d :: y) ∧ x.Sublist (c :: r)) := by
      intro d hd
      constructor
      · rintro ⟨a, b⟩; exact ⟨a, b.cons _⟩
      · rintro ⟨⟨y, rfl⟩, b⟩
        refine ⟨⟨y, rfl⟩, ?_⟩
        rcases List.sublist_cons_iff.mp b with b | ⟨z, e, _⟩
        · exact b
        · injection e with e1 _; exact absurd e1 hd
    rw [subsAB]
    split
    · rename_i hc
      subst hc
      exact ⟨hsame, (ih x).2.trans (hoth 98 (by decide))⟩
    · rename_i hc
      have hc' : c = 98 := (h c (.head _)).resolve_left hc
      subst hc'
      exact ⟨(ih x).1.trans (hoth 97 (by decide)), hsame⟩
theorem mem_subs {l : List Nat} (h : Ab l) {x : List Nat} : x ∈ subs l ↔ x.Sublist l := by
  rw [subs, List.mem_cons, List.mem_append, (mem_subsAB h x).1, (mem_subsAB h x).2]
  constructor
  · rintro (rfl | h | h)
    · exact List.nil_sublist _
    · exact h.2
    · exact h.2
  · intro hz
    cases x with
    | nil => exact .inl rfl
    | cons d y =>
      rcases h d (hz.subset (.head _)) with rfl | rfl
      · exact .inr (.inl ⟨⟨_, rfl⟩, hz⟩)
      · exact .inr (.inr ⟨⟨_, rfl⟩, hz⟩)
theorem pw_cons {c : Nat} {L : List (List Nat)} (h : L.Pairwise (· < ·)) : (L.map (c :: ·)).Pairwise (· < ·) :=
  List.pairwise_map.mpr (h.imp fun k => List.cons_lt_cons_iff.mpr (.inr ⟨rfl, k⟩))
theorem pw_all {A B : List (List Nat)} (hA : ∀ x ∈ A, ∃ y, x = 97 :: y) (hB : ∀ x ∈ B, ∃ y, x = 98 :: y) (pA : A.Pairwise (· < ·)) (pB : B.Pairwise (· < ·)) : ([] :: (A ++ B)).Pairwise (· < ·) := by
  refine List.pairwise_cons.mpr ⟨fun x hx => ?_, List.pairwise_append.mpr ⟨pA, pB, fun a ha b hb => ?_⟩⟩
  · rcases List.mem_append.mp hx with hx | hx
    · obtain ⟨y, rfl⟩ := hA x hx; exact List.nil_lt_cons _ _
    · obtain ⟨y, rfl⟩ := hB x hx; exact List.nil_lt_cons _ _
  · obtain ⟨y, rfl⟩ := hA a ha
    obtain ⟨z, rfl⟩ := hB b hb
    exact List.cons_lt_cons_iff.mpr (.inl (by decide))
theorem pw_subsAB : ∀ {l : List Nat}, Ab l → (subsAB l).1.Pairwise (· < ·) ∧ (subsAB l).2.Pairwise (· < ·)
  | [], _ => ⟨.nil, .nil⟩
  | c :: r, h => by
    have h' : Ab r := fun c hc => h c (.tail _ hc)
    have ih := pw_subsAB h'
    have hS := pw_cons (c := c) (pw_all (fun x hx => ((mem_subsAB h' x).1.mp hx).1) (fun x hx => ((mem_subsAB h' x).2.mp hx).1) ih.1 ih.2)
    rw [subsAB]
    split
    · exact ⟨hS, ih.2⟩
    · exact ⟨ih.1, hS⟩
theorem pw_subs {l : List Nat} (h : Ab l) : (subs l).Pairwise (· < ·) :=
  pw_all (fun x hx => ((mem_subsAB h x).1.mp hx).1) (fun x hx => ((mem_subsAB h x).2.mp hx).1) (pw_subsAB h).1 (pw_subsAB h).2
/-- two strictly rising lists of the same texts are one -/
theorem uniq : ∀ {a b : List (List Nat)}, a.Pairwise (· < ·) → b.Pairwise (· < ·) → (∀ x, x ∈ a ↔ x ∈ b) → a = b
  | [], [], _, _, _ => rfl
  | [], y :: b, _, _, h => nomatch (h y).mpr (.head _)
  | x :: a, [], _, _, h => nomatch (h x).mp (.head _)
  | x :: a, y :: b, ha, hb, h => by
    obtain ⟨ha1, ha2⟩ := List.pairwise_cons.mp ha
    obtain ⟨hb1, hb2⟩ := List.pairwise_cons.mp hb
    have e : x = y := by
      rcases List.mem_cons.mp ((h x).mp (.head _)) with e | k
      · exact e
      · rcases List.mem_cons.mp ((h y).mpr (.head _)) with e | k'
        · exact e.symm
        · exact absurd (List.lt_trans (hb1 x k) (ha1 y k')) (List.lt_irrefl _)
    subst e
    rw [uniq ha2 hb2 fun z => ?_]
    constructor
    · intro hz
      rcases List.mem_cons.mp ((h z).mp (.tail _ hz)) with rfl | k
      · exact absurd (ha1 z hz) (List.lt_irrefl _)
      · exact k
    · intro hz
      rcases List.mem_cons.mp ((h z).mpr (.tail _ hz)) with rfl | k
      · exact absurd (hb1 z hz) (List.lt_irrefl _)
      · exact k
/-- the choices of letters are the sublists -/
theorem pickL_sub : ∀ (l : List Nat) (j : Nat), (pickL l j).Sublist l
  | [], _ => List.Sublist.slnil
  | c :: r, j => by
    rw [pickL]; split
    · exact List.cons_sublist_cons.mpr (pickL_sub r _)
    · exact (pickL_sub r _).cons _
theorem sub_pickL : ∀ {l x : List Nat}, x.Sublist l → ∃ j, j < 2 ^ l.length ∧ x = pickL l j
  | [], x, h => ⟨0, Nat.one_pos, List.sublist_nil.mp h⟩
  | c :: r, x, h => by
    rw [List.length_cons, Nat.pow_succ]
    rcases List.sublist_cons_iff.mp h with k | ⟨z, ez, k⟩
    · obtain ⟨j, hj, e⟩ := sub_pickL k
      refine ⟨2 * j, by omega, ?_⟩
      rw [pickL, if_neg (by omega), Nat.mul_div_cancel_left _ (by decide)]; exact e
    · obtain ⟨j, hj, e⟩ := sub_pickL k
      subst ez
      refine ⟨2 * j + 1, by omega, ?_⟩
      rw [pickL, if_pos (by omega), show (2 * j + 1) / 2 = j from by omega, ← e]
/-- what _law_left_out gives, of a word of the two letters -/
structure IsOrder (word : Str) (ss : List Str) : Prop where
  sorted : Sorted ss
  mem : ∀ x, x ∈ ss ↔ x.cps.toList.Sublist word.cps.toList
theorem IsOrder.of {word : Str} {ss : List Str} (h : Sorted ss) (k : ∀ x, x ∈ ss ↔ ∃ j, j < 2 ^ word.length ∧ x = pick word j) : IsOrder word ss :=
  ⟨h, fun x => by
    rw [k]
    constructor
    · rintro ⟨j, _, rfl⟩; exact pickL_sub _ _
    · intro hx
      obtain ⟨j, hj, e⟩ := sub_pickL hx
      exact ⟨j, hj, str_ext e⟩⟩
theorem IsOrder.eq {word : Str} {ss : List Str} (h : IsOrder word ss) (hw : Ab word.cps.toList) : (ss.map fun x => x.cps.toList) = subs word.cps.toList := by
  refine uniq (List.pairwise_map.mpr h.sorted) (pw_subs hw) fun x => ?_
  rw [mem_subs hw, List.mem_map]
  constructor
  · rintro ⟨y, hy, rfl⟩; exact (h.mem y).mp hy
  · intro hx; exact ⟨⟨x.toArray⟩, (h.mem _).mpr hx, rfl⟩
theorem IsOrder.len {word : Str} {ss : List Str} (h : IsOrder word ss) (hw : Ab word.cps.toList) : ss.length = (subs word.cps.toList).length := by
  rw [← h.eq hw, List.length_map]
theorem IsOrder.first {word : Str} {ss : List Str} (h : IsOrder word ss) (hw : Ab word.cps.toList) : ss[0]? = some Str.empty := by
  have e := h.eq hw
  cases ss with
  | nil => cases e
  | cons x r =>
    rw [List.map_cons, subs] at e
    injection e with e _
    exact congrArg some (str_ext e)
theorem Sorted.nodup {ss : List Str} (h : Sorted ss) : ss.Nodup := h.imp fun k e => by subst e; exact ltS.irrefl k
theorem rising_pw : ∀ {p : Str} {l : List Str}, risingS p l = true → (∀ x ∈ l, ¬ ltS x p) ∧ l.Pairwise fun a b => ¬ ltS b a
  | _, [], _ => ⟨fun _ h => (nomatch h), List.Pairwise.nil⟩
  | p, x :: r, h => by
    rw [risingS, Bool.and_eq_true, Bool.not_eq_true', ltCps_eq, decide_eq_false_iff_not] at h
    obtain ⟨h1, h2⟩ := h
    have h1 : ¬ ltS x p := h1
    have ih := rising_pw h2
    refine ⟨fun y hy => ?_, List.pairwise_cons.mpr ⟨ih.1, ih.2⟩⟩
    rcases List.mem_cons.mp hy with rfl | hy
    · exact h1
    · intro k
      have k2 := ih.1 y hy
      by_cases e : x = y
      · subst e; exact h1 k
      · exact h1 ((ltS.tri k2 (fun e' => e e'.symm)).trans k)
theorem sorted_same {ts L ss : List Str} (hp : ts.Perm L) (hs : sortedS ts = true) (hL : L.Nodup) (h : Sorted ss) (hm : ∀ x, x ∈ L ↔ x ∈ ss) : ts = ss := by
  have hn : ts.Nodup := hp.nodup_iff.mpr hL
  have pw : ts.Pairwise fun a b => ¬ ltS b a := by
    cases ts with
    | nil => exact .nil
    | cons x r =>
      have := rising_pw (p := x) (l := r) hs
      exact List.pairwise_cons.mpr this
  have hS : Sorted ts := (List.pairwise_and_iff.mpr ⟨pw, hn⟩).imp fun ⟨a, b⟩ => ltS.tri a fun e => b e.symm
  have e : (ts.map fun x => x.cps.toList) = ss.map fun x => x.cps.toList := uniq (List.pairwise_map.mpr hS) (List.pairwise_map.mpr h) fun x => by
    rw [List.mem_map, List.mem_map]
    constructor
    · rintro ⟨y, hy, rfl⟩; exact ⟨y, (hm y).mp (hp.mem_iff.mp hy), rfl⟩
    · rintro ⟨y, hy, rfl⟩; exact ⟨y, hp.mem_iff.mpr ((hm y).mpr hy), rfl⟩
  have inj : ∀ {a b : List Str}, (a.map fun x => x.cps.toList) = (b.map fun x => x.cps.toList) → a = b := by
    intro a
    induction a with
    | nil => intro b h; cases b with | nil => rfl | cons => cases h
    | cons x r ih => intro b h; cases b with
      | nil => cases h
      | cons y b =>
        injection h with h1 h2
        rw [str_ext h1, ih h2]
  exact inj e
theorem same_len {L ss : List Str} (hL : L.Nodup) (h : Sorted ss) (hm : ∀ x, x ∈ L ↔ x ∈ ss) : L.length = ss.length :=
  ((List.perm_ext_iff_of_nodup hL h.nodup).mpr fun {x} => hm x).length_eq
end Mine
end MLawP

/-! ### MLaw2 -/
section MLaw2P
open PySem PySem.W PySem.Calls PyProof.Rows
set_option maxRecDepth 100000
namespace Mine
/-! ## all words, tried -/
def abW : Nat → List (List Nat)
  | 0 => [[]]
  | n + 1 => (abW n).flatMap fun l => [97 :: l, 98 :: l]
theorem mem_abW : ∀ {l : List Nat}, Ab l → l ∈ abW l.length
  | [], _ => .head _
  | c :: r, h => by
    refine List.mem_flatMap.mpr ⟨r, mem_abW fun c hc => h c (.tail _ hc), ?_⟩
    rcases h c (.head _) with rfl | rfl
    · exact .head _
    · exact .tail _ (.head _)
def turnsL (n : Nat) : List Nat := (List.range n).map fun k => 97 + k % 2
def chk (l : List Nat) : Bool :=
  let k := (subs l).length
  decide (told l = k) && decide (k ≤ 60) && decide ((k : Int) ≤ told (turnsL l.length)) && decide (told (List.replicate l.length 97) = l.length + 1) &&
    decide ((k : Int) ≤ told (97 :: 98 :: l)) && decide (4 ≤ told (97 :: 98 :: l)) && decide ((k : Int) + 1 ≤ told (l ++ [98]))
theorem chk0 : (abW 0).all chk = true := by decide +kernel
theorem chk1 : (abW 1).all chk = true := by decide +kernel
theorem chk2 : (abW 2).all chk = true := by decide +kernel
theorem chk3 : (abW 3).all chk = true := by decide +kernel
theorem chk4 : (abW 4).all chk = true := by decide +kernel
theorem chk5 : (abW 5).all chk = true := by decide +kernel
theorem chk6 : (abW 6).all chk = true := by decide +kernel
theorem chk7 : (abW 7).all chk = true := by decide +kernel
theorem chk_all {l : List Nat} (h : Ab l) (hl : l.length ≤ 7) : chk l = true := by
  have hm := mem_abW h
  have : l.length = 0 ∨ l.length = 1 ∨ l.length = 2 ∨ l.length = 3 ∨ l.length = 4 ∨ l.length = 5 ∨ l.length = 6 ∨ l.length = 7 := by omega
  rcases this with e | e | e | e | e | e | e | e <;> rw [e] at hm
  · exact List.all_eq_true.mp chk0 l hm
  · exact List.all_eq_true.mp chk1 l hm
  · exact List.all_eq_true.mp chk2 l hm
  · exact List.all_eq_true.mp chk3 l hm
  · exact List.all_eq_true.mp chk4 l hm
  · exact List.all_eq_true.mp chk5 l hm
  · exact List.all_eq_true.mp chk6 l hm
  · exact List.all_eq_true.mp chk7 l hm
structure Told (word : Str) (k : Nat) : Prop where
  told : told word.cps.toList = k
  small : k ≤ 60
  turns : (k : Int) ≤ Mine.told (turnsL word.length)
  one : Mine.told (List.replicate word.length 97) = word.length + 1
  ahead : (k : Int) ≤ Mine.told (97 :: 98 :: word.cps.toList)
  four : 4 ≤ Mine.told (97 :: 98 :: word.cps.toList)
  behind : (k : Int) + 1 ≤ Mine.told (word.cps.toList ++ [98])
theorem IsOrder.told {word : Str} {ss : List Str} (h : IsOrder word ss) (hw : Ab word.cps.toList) (hl : word.length ≤ 7) : Told word ss.length := by
  have hl' : word.cps.toList.length ≤ 7 := hl
  have := chk_all hw hl'
  unfold chk at this
  simp only [Bool.and_eq_true, decide_eq_true_eq] at this
  rw [← h.len hw] at this
  obtain ⟨⟨⟨⟨⟨⟨a, b⟩, c⟩, d⟩, e⟩, f⟩, g⟩ := this
  exact ⟨a, b, c, d, e, f, g⟩
/-! ## the words of all lengths -/
theorem abs_eq : (Str.ofString "ab").cps.toList = [97, 98] := by decide
theorem cps_snoc (sx : Str) (c : Nat) : (sx ++ (⟨#[c]⟩ : Str)).cps.toList = sx.cps.toList ++ [c] := by
  show (sx.cps ++ #[c]).toList = _
  simp
theorem levelAt_mem : ∀ {i : Nat} {x : Str}, x.length = i → Ab x.cps.toList → x ∈ levelAt i
  | 0, x, h, _ => by
    have e : x = Str.ofString "" := str_ext (List.length_eq_zero_iff.mp h)
    subst e; exact .head _
  | i + 1, x, h, ha => by
    have hne : x.cps.toList ≠ [] := by intro e; have : x.cps.toList.length = i + 1 := h; rw [e] at this; cases this
    have e := List.dropLast_concat_getLast hne
    refine List.mem_flatMap.mpr ⟨⟨x.cps.toList.dropLast.toArray⟩, levelAt_mem ?_ (fun c hc => ha c (List.dropLast_subset _ hc)), ?_⟩
    · show x.cps.toList.dropLast.length = i
      rw [List.length_dropLast, show x.cps.toList.length = i + 1 from h]; rfl
    · refine List.mem_map.mpr ⟨x.cps.toList.getLast hne, ?_, ?_⟩
      · rw [abs_eq]
        rcases ha _ (List.getLast_mem hne) with k | k
        · rw [k]; exact .head _
        · rw [k]; exact .tail _ (.head _)
      · refine str_ext ?_
        conv => rhs; rw [← e]
        exact cps_snoc _ _
theorem levelAt_nodup : ∀ i, (levelAt i).Nodup
  | 0 => List.pairwise_singleton _ _
  | i + 1 => by
    unfold levelAt
    refine List.pairwise_flatMap.mpr ⟨fun sx _ => ?_, (levelAt_nodup i).imp fun {a b} hab x hx y hy e => ?_⟩
    · rw [abs_eq]
      refine List.pairwise_cons.mpr ⟨fun y hy e => ?_, List.pairwise_singleton _ _⟩
      rw [List.map_cons, List.mem_singleton.mp hy] at *
      have := congrArg (fun s : Str => s.cps.toList) e
      simp only [cps_snoc, List.append_cancel_left_eq] at this
      exact absurd this (by decide)
    · obtain ⟨c, _, rfl⟩ := List.mem_map.mp hx
      obtain ⟨d, _, rfl⟩ := List.mem_map.mp hy
      have := congrArg (fun s : Str => s.cps.toList) e
      simp only [cps_snoc] at this
      exact hab (str_ext (List.append_inj_left' this rfl))
theorem wordsAt_mem : ∀ {n : Nat} {x : Str}, x.length ≤ n → Ab x.cps.toList → x ∈ wordsAt n
  | 0, x, h, ha => levelAt_mem (i := 0) (Nat.le_zero.mp h) ha
  | n + 1, x, h, ha => by
    by_cases e : x.length = n + 1
    · exact List.mem_append_right _ (levelAt_mem e ha)
    · exact List.mem_append_left _ (wordsAt_mem (by omega) ha)
theorem wordsAt_nodup : ∀ n, (wordsAt n).Nodup
  | 0 => List.pairwise_singleton _ _
  | n + 1 => List.pairwise_append.mpr ⟨wordsAt_nodup n, levelAt_nodup _, fun a ha b hb e => by
      have h1 := wordsAt_size ha
      have h2 := levelAt_size hb
      rw [e] at h1; omega⟩
/-- the words that match are those of the order -/
theorem matched_mem {word : Str} {ss : List Str} (h : IsOrder word ss) (hw : Ab word.cps.toList) (x : Str) : x ∈ ((wordsAt word.length).filter fun x => decide (x.cps.toList.Sublist word.cps.toList)) ↔ x ∈ ss := by
  rw [List.mem_filter, h.mem, decide_eq_true_eq]
  exact ⟨fun k => k.2, fun k => ⟨wordsAt_mem k.length_le fun c hc => hw c (k.subset hc), k⟩⟩
theorem matched_nodup (word : Str) : ((wordsAt word.length).filter fun x => decide (x.cps.toList.Sublist word.cps.toList)).Nodup := (wordsAt_nodup _).filter _
/-! ## the word turned about -/
def back (x : Str) : Str := ⟨x.cps.toList.reverse.toArray⟩
theorem back_list (x : Str) : (back x).cps.toList = x.cps.toList.reverse := rfl
theorem back_inj {x y : Str} (h : back x = back y) : x = y := by
  have := congrArg (fun s : Str => s.cps.toList) h
  simp only [back_list, List.reverse_inj] at this
  exact str_ext this
theorem back_mem {word : Str} {ss ss' : List Str} (h : IsOrder word ss) (h' : IsOrder (back word) ss') (x : Str) : x ∈ ss.map back ↔ x ∈ ss' := by
  rw [h'.mem, List.mem_map, back_list]
  constructor
  · rintro ⟨y, hy, rfl⟩
    rw [back_list]
    exact List.reverse_sublist.mpr ((h.mem y).mp hy)
  · intro hx
    refine ⟨back x, (h.mem _).mpr ?_, ?_⟩
    · rw [back_list]
      have := List.reverse_sublist.mpr hx
      rwa [List.reverse_reverse] at this
    · refine str_ext ?_
      rw [back_list, back_list, List.reverse_reverse]
theorem back_nodup {word : Str} {ss : List Str} (h : IsOrder word ss) : (ss.map back).Nodup :=
  List.pairwise_map.mpr (h.sorted.nodup.imp fun hn e => hn (back_inj e))
end Mine
end MLaw2P

/-! ### MLaw3 -/
section MLaw3P
open PySem PySem.W PySem.Calls PyProof.Rows PySem.Spec
set_option maxRecDepth 100000
namespace Mine
def letter (k : Int) : Str := Txt.item (Str.ofString "ab") (k.fmod 2)
def GLet (v y : Value) : Prop := ∃ (k : Int) (u t : Tok), v = .int k u ∧ y = .str (letter k) t
theorem ints_paired : ∀ {vs : List Value} {ns : List Int}, IntsAre vs ns → Paired (fun (k : Int) v => ∃ u, v = Value.int k u) ns vs := by
  intro vs ns h
  induction h with
  | nil => exact .nil
  | cons n t _ ih => exact .cons ⟨_, rfl⟩ ih
theorem ints_mem {vs : List Value} {ns : List Int} (h : IntsAre vs ns) {v : Value} (hv : v ∈ vs) : ∃ k u, v = .int k u := by
  induction h with
  | nil => cases hv
  | cons n t _ ih =>
    rcases List.mem_cons.mp hv with rfl | hv
    · exact ⟨_, _, rfl⟩
    · exact ih hv
theorem strs_let {vs ys : List Value} {ns : List Int} (h : IntsAre vs ns) (hP : Paired GLet (vs.filter fun _ => true) ys) : StrsAre ys (ns.map letter) := by
  rw [List.filter_eq_self.mpr (fun _ _ => rfl)] at hP
  exact strs_of_paired (fun a y ⟨v, ⟨u, hv⟩, k, u', t, hv', hy⟩ => by
    rw [hv] at hv'; injection hv' with e1; subst e1; exact ⟨t, hy⟩) (paired_comp (ints_paired h) hP)
theorem letter_cps (k : Int) : (letter k).cps.toList = [97] ∨ (letter k).cps.toList = [98] := by
  have h1 := Int.fmod_nonneg_of_pos k (show (0 : Int) < 2 by decide)
  have h2 := Int.fmod_lt_of_pos k (show (0 : Int) < 2 by decide)
  have : k.fmod 2 = 0 ∨ k.fmod 2 = 1 := by omega
  unfold letter
  rcases this with e | e <;> rw [e]
  · exact .inl (by decide)
  · exact .inr (by decide)
theorem let_small {zs : List Int} (h : zs.length ≤ 7) : ((zs.map letter).map (·.length)).sum + (zs.map letter).length * (Str.ofString "").length ≤ sizeLine := by
  have := sum_len_le (ss := zs.map letter) (n := 1) fun x hx => by
    obtain ⟨a, _, rfl⟩ := List.mem_map.mp hx
    rcases letter_cps a with e | e
    · show (letter a).cps.toList.length ≤ 1; rw [e]; decide
    · show (letter a).cps.toList.length ≤ 1; rw [e]; decide
  have e0 : (Str.ofString "").length = 0 := rfl
  rw [e0, sizeLine_eq]
  rw [List.length_map] at this
  omega
theorem let_word {zs : List Int} (h : zs.length ≤ 7) : (Txt.join (Str.ofString "") (zs.map letter)).length ≤ 7 ∧ Ab (Txt.join (Str.ofString "") (zs.map letter)).cps.toList := by
  rw [join_empty]
  show ((zs.map letter).flatMap fun x => x.cps.toList).length ≤ 7 ∧ Ab ((zs.map letter).flatMap fun x => x.cps.toList)
  constructor
  · refine Nat.le_trans (Nat.le_of_eq ?_) h
    clear h
    induction zs with
    | nil => rfl
    | cons a r ih =>
      rw [List.map_cons, List.flatMap_cons, List.length_append, ih, List.length_cons]
      rcases letter_cps a with e | e <;> rw [e] <;> simp <;> omega
  · intro c hc
    obtain ⟨x, hx, hc⟩ := List.mem_flatMap.mp hc
    obtain ⟨a, _, rfl⟩ := List.mem_map.mp hx
    rcases letter_cps a with e | e <;> rw [e] at hc
    · exact .inl (List.mem_singleton.mp hc)
    · exact .inr (List.mem_singleton.mp hc)
theorem none_of {h : Heap} {D : Addr} (k : ∀ o, h.get? D ≠ some o) : h.get? D = none := by
  cases e : h.get? D with
  | none => rfl
  | some o => exact absurd e (k o)

/-! ## two lists of the same texts -/
theorem texts_same : ∀ ns : List Str, PySem.Spec.sameAll (ns.map PyData.str) (ns.map PyData.str) = true := by
  intro ns
  induction ns with
  | nil => simp [PySem.Spec.sameAll]
  | cons a r ih => simp [PySem.Spec.sameAll, PySem.Spec.same, ih]
theorem texts_shaped {ns : List Str} (h : ∀ x ∈ ns, PyData.strOk x = true) : SeqAt.shaped (.list (ns.map PyData.str)) = true := by
  have h1 := canLayAll_strs' ns
  rw [List.all_eq_true.mpr h] at h1
  simp [SeqAt.shaped, PyData.canLay0, PyData.depth, h1, depthAll_strs' ns]
theorem ne_same {prog : Program} {w : World} {A : Around} {E : Value → Shared → Prop} {s : Shared} {a b : Addr} {xs ys : List Value} {ns : List Str} {Q : Value → Shared → Prop}
    (ha : s.heap.IsList a xs.toArray) (hb : s.heap.IsList b ys.toArray) (hi : StrsAre xs ns) (hj : StrsAre ys ns) (ho : ∀ x ∈ ns, PyData.strOk x = true) (hu : A.units + 64 < cLine) (h : Q (.bool false) s) :
    wpAny (model prog w) A (compareOp .NotEq (.ref a) (.ref b)) Q E s := by
  refine ne_dataH_same (reads_newData ha hi.carried) (reads_newData hb hj.carried) (texts_shaped ho) (texts_shaped ho) hu (SeqAt.noMix_of_shape (.list .str) rfl _ _ (list_map_has fun _ => rfl) (list_map_has fun _ => rfl)) ?_
  have e : PySem.Spec.same (.list (ns.map PyData.str)) (.list (ns.map PyData.str)) = true := by
    simp only [PySem.Spec.same]; exact texts_same ns
  rw [e]; exact h
end Mine
namespace Mine
theorem ok_ab {x : Str} (h : Ab x.cps.toList) : PyData.strOk x = true := by
  show x.cps.all (· < 0x110000) = true
  rw [Array.all_eq_true_iff_forall_mem]
  intro c hc
  rcases h c (by simpa using hc) with rfl | rfl <;> rfl
theorem IsOrder.ok {word : Str} {ss : List Str} (h : IsOrder word ss) (hw : Ab word.cps.toList) : ∀ x ∈ ss, PyData.strOk x = true := fun x hx =>
  ok_ab fun c hc => hw c (((h.mem x).mp hx).subset hc)
end Mine
namespace Mine
theorem strs_turns {n : Nat} {xs ys : List Value} (h1 : xs.length = n) (h2 : ∀ (j : Nat) v, xs[j]? = some v → ∃ u, v = .int j u) (hP : Paired GLet (xs.filter fun _ => true) ys) : StrsAre ys ((List.range n).map fun (k : Nat) => letter k) := by
  rw [List.filter_eq_self.mpr (fun _ _ => rfl)] at hP
  exact strs_of_paired (fun a y ⟨v, ⟨u, hv⟩, k, u', t, hv', hy⟩ => by
    rw [hv] at hv'; injection hv' with e1; subst e1; exact ⟨t, hy⟩) (paired_comp (paired_range h1 h2) hP)
theorem letter_nat (k : Nat) : (letter k).cps.toList = [97 + k % 2] := by
  unfold letter
  rw [Int.fmod_eq_emod_of_nonneg _ (by decide)]
  have h : k % 2 = 0 ∨ k % 2 = 1 := by omega
  have e : (k : Int) % 2 = ((k % 2 : Nat) : Int) := by push_cast; rfl
  rw [e]
  rcases h with h | h <;> rw [h] <;> decide
theorem turns_eq (n : Nat) : (Txt.join (Str.ofString "") ((List.range n).map fun (k : Nat) => letter k)).cps.toList = turnsL n := by
  rw [join_empty]
  show ((List.range n).map fun (k : Nat) => letter k).flatMap (fun x => x.cps.toList) = turnsL n
  rw [List.flatMap_map, turnsL]
  have : ∀ l : List Nat, l.flatMap (fun (a : Nat) => (letter a).cps.toList) = l.map fun k => 97 + k % 2 := by
    intro l
    induction l with
    | nil => rfl
    | cons a r ih => rw [List.flatMap_cons, ih, letter_nat]; rfl
  exact this _
theorem turns_small {n : Nat} (h : n ≤ 7) : (((List.range n).map fun (k : Nat) => letter k).map (·.length)).sum + ((List.range n).map fun (k : Nat) => letter k).length * (Str.ofString "").length ≤ sizeLine := by
  have := sum_len_le (ss := (List.range n).map fun (k : Nat) => letter k) (n := 1) fun x hx => by
    obtain ⟨a, _, rfl⟩ := List.mem_map.mp hx
    show (letter a).cps.toList.length ≤ 1; rw [letter_nat]; exact Nat.le_refl _
  have e0 : (Str.ofString "").length = 0 := rfl
  rw [e0, sizeLine_eq]
  rw [List.length_map, List.length_range] at this
  omega
end Mine
namespace Mine
open PySem.Builtin PySem.Builtin.Str
section
variable {prog : Program} {w : World} {A : Around} {E : Value → Shared → Prop} {s : Shared} {value slice : Expr} {x : Str} {t : Tok} {Q : Value → Shared → Prop} {k : Int} {uk : Tok}
theorem slice_back (hk : (k == 0) = false) (h : ∀ t' c, Q (.str (Txt.sliceBy x none none (k, uk)) t') { s with heap := s.heap.push { cls := .type "slice", data := .fields #[.none, .none, .int k uk] }, toks := c })
    (hsz : x.length ≤ sizeLine)
    (hs : subscripted slice false (.str x t) (.ref s.heap.objs.size) = operate [.ref s.heap.objs.size, .str x t] (getItem (.str x t) (.ref s.heap.objs.size)) := by with_unfolding_all rfl)
    (ht : ∀ r, letTemporaryGo value (.str x t) r = pure () := by intro _; with_unfolding_all rfl) :
    wpAny (model prog w) A (subscriptTail value slice (.str x t) (.ref s.heap.objs.size)) Q E { s with heap := s.heap.push { cls := .type "slice", data := .fields #[.none, .none, .int k uk] } } :=
  tail_of_ItemOn ⟨"str", _, F.slot_str_getitem.lookup, typeIs_str _ _ _, wpAny_getItem_str_slice (l := none) (u := none) (st := some (k, uk)) ⟨_, Heap.get?_push_size _ rfl, rfl, rfl⟩ hk
    (post_val_or_str ⟨Nat.le_trans (Txt.sliceBy_le x _ _ (k, uk) (by simpa using hk)) hsz, fun t' c => h t' c⟩)⟩ hs ht
end
theorem back_eq (x : Str) (u : Tok) : Txt.sliceBy x none none (-1, u) = back x := by
  refine str_ext ?_
  rw [step_rev_list, back_list]
  apply List.ext_getElem
  · simp; rfl
  · intro i h1 h2
    have h3 : i < x.length := by simpa using h1
    have h4 : x.length - 1 - i < x.cps.size := by have : x.length = x.cps.size := rfl; omega
    simp [h4]
    rfl
theorem mul_a (n : Nat) : (Txt.mul (Str.ofString "a") (n : Int)).cps.toList = List.replicate n 97 := by
  unfold Txt.mul
  have e : (Str.ofString "a").cps = #[97] := by decide
  have key : ∀ (m : Nat) (acc : Array Nat), ((List.replicate m #[97]).foldl (· ++ ·) acc).toList = acc.toList ++ List.replicate m 97 := by
    intro m
    induction m with
    | zero => intro acc; simp
    | succ m ih => intro acc; rw [List.replicate_succ, List.foldl_cons, ih, List.replicate_succ]; simp
  split
  · have : n = 0 := by omega
    subst this; rfl
  · split
    · rename_i h
      have h1 : (Str.ofString "a").length = 1 := by decide
      rw [h1] at h
      have : n = 1 := by simp at h; omega
      subst this; decide
    · rw [e, Int.toNat_natCast, key]; rfl
def GBack (v y : Value) : Prop := ∃ (x : Str) (t t' : Tok), v = .str x t ∧ y = .str (back x) t'
theorem strs_back {vs ys : List Value} {ss : List Str} (h : StrsAre vs ss) (hP : Paired GBack (vs.filter fun _ => true) ys) : StrsAre ys (ss.map back) := by
  rw [List.filter_eq_self.mpr (fun _ _ => rfl)] at hP
  exact strs_of_paired (fun a y ⟨v, ⟨u, hv⟩, k, u', t, hv', hy⟩ => by
    rw [hv] at hv'; injection hv' with e1; subst e1; exact ⟨t, hy⟩) (paired_comp (paired_of_strs h) hP)
end Mine
namespace Mine
theorem back_len (x : Str) : (back x).length = x.length := by
  show (back x).cps.toList.length = x.cps.toList.length
  rw [back_list, List.length_reverse]
theorem ab_cps (x : Str) : (Str.ofString "ab" ++ x).cps.toList = 97 :: 98 :: x.cps.toList := by
  show ((Str.ofString "ab").cps ++ x.cps).toList = _
  rw [Array.toList_append, abs_eq]; rfl
theorem b_cps (x : Str) : (x ++ Str.ofString "b").cps.toList = x.cps.toList ++ [98] := by
  show (x.cps ++ (Str.ofString "b").cps).toList = _
  rw [Array.toList_append]; rfl
end Mine
end MLaw3P

/-! ### WL -/
section WLP
open PySem PySem.W PySem.Calls PyProof.Rows Mine
set_option maxRecDepth 100000
set_option maxHeartbeats 8000000
namespace Mine
local macro_rules | `(tactic| walk_at "no such step WL 0") => `(tactic| skip)
local macro_rules | `(tactic| walk_at "eval ListComp") => `(tactic| (k_here; refine box ?_))
local macro_rules | `(tactic| walk_at "call ref") => `(tactic| (k_here; refine box ?_))
local macro_rules | `(tactic| walk_at "call builtin:sorted") => `(tactic| (k_here; refine box ?_))
local macro_rules | `(tactic| walk_at "compareOp NotEq ref ref") => `(tactic| (k_here; refine box ?_))
local macro_rules | `(tactic| walk_at "subscriptTail Name Constant ref int") => `(tactic| (k_here; (with_reducible show wpAny _ _ (subscriptTail _ _ (Value.ref _) (Value.int 0 _)) _ _ _); (refine' item_first_str ?N ?m ?l ?_ ?a ?b; (case N => exact News.isList (by k_asm) (by k_mem)); (case m => assumption); (case l => assumption); (case a => with_unfolding_all rfl); (case b => (intro _; with_unfolding_all rfl)); k_whole); intro _))
local macro_rules | `(tactic| walk_at "subscriptTail Name Slice str ref") => `(tactic| (k_here; (with_reducible rename InElt _ _ => IE); (refine slice_back (s := ⟨_, _, _, _, _⟩) (by decide) ?_ (by rw [sizeLine_eq]; omega)); intro _ _))
local macro_rules | `(tactic| walk_at "pyIter ref") => `(tactic| (k_here; refine box ?_))
local macro_rules | `(tactic| walk_at "eval Name") => `(tactic| (first
  | (refine' cn_local ?hn ?hv ?_ ?hk ?hl ?hd; (case hl => rfl); (case hk => rfl); (case hd => decide); (case hn => assumption); (case hv => assumption); k_whole)
  | (refine' cn_cell ?hv ?_ ?hc ?hk ?hl ?hd; (case hl => rfl); (case hk => rfl); (case hd => decide); (case hc => rfl); (case hv => assumption); k_whole)))
theorem sorted_back {word : Str} {ss ts : List Str} (h : IsOrder word ss) (hp : ts.Perm (ss.map back)) (hs : sortedS ts = true) : ∀ ss', IsOrder (back word) ss' → ts = ss' := fun ss' h' =>
  sorted_same hp hs (back_nodup h) h'.sorted (back_mem h h')
theorem law_holds : PySem.Challenge.rw_gq0003_01.Holds := hd (by
  w_strict (k_go0; w_strict k_steps; skip)
  refine unbox (comp_rule (fun _ => true) GLet rfl (by decide) (by rfl) (by decide) (by rfl) ?_)
  w_strict k_steps
  (with_reducible rename IntsAre _ (List.take 7 _) => hI7)
  (with_reducible rename Fr _ _ _ _ => F); (with_reducible rename News _ _ _ _ => N)
  have hz7 : (List.take 7 ‹List Int›).length ≤ 7 := by rw [List.length_take]; exact Nat.min_le_left _ _
  refine unbox (src_list rfl (News.isList N (.head _)) (by rw [hI7.length]; omega) F N ?_ ?_)
  · intro v hv
    obtain ⟨k, u, rfl⟩ := ints_mem hI7 hv
    constructor
    · intro C s₃ m₃ E' hnC hmk hk3
      exact wpAny_tests_nil ⟨rfl, _, _, rfl, fun _ _ e => e⟩
    · intro C s₃ m₃ E' hpv hnC hmk hk3
      w_strict k_steps
      · exact ⟨_, _, _, rfl, rfl⟩
      · exact ⟨_, _, rfl, fun _ _ e => e⟩
  · intro D1 h1 tk1 ys k1 F N hP hk1 hD1
    have hSy := strs_let hI7 hP
    dsimp only
    w_strict k_steps
    refine PyProof.Rows.join_list (News.isList N (.head _)) hSy (let_small hz7) fun t2 k2 => ?_
    obtain ⟨hwl, hab⟩ := let_word hz7
    generalize Txt.join (Str.ofString "") (List.map letter (List.take 7 _)) = word at hwl hab ⊢
    dsimp only
    w_strict k_steps
    (with_reducible rename Fr _ _ _ _ => F); (with_reducible rename News _ _ _ _ => N)
    (with_reducible rename (hd.heap_39 _).In _ => X); (with_reducible rename Top _ _ _ _ _ _ => T)
    refine unbox (wpAny_call (left_spec (X.keeps F.keep) (T.keeps F.keep) (by decide) (by decide) hwl fun h3 tk3 O os ss k3 hO hSO hsort hmem hlen hk3 hOn => ?_))
    have hord := IsOrder.of hsort hmem
    have N := news_of_keep F N hk3 (none_of hOn) hO
    have F := F.keeps hk3
    have ht := hord.told hab hwl
    dsimp only
    w_strict k_steps
    (with_reducible rename Fr _ _ _ _ => F); (with_reducible rename News _ _ _ _ => N)
    have hos : os.length < 64 := by rw [hSO.length]; have := ht.small; omega
    refine unbox (sorted_N_str F N (News.isList N (.head _)) hSO hos fun h4 vs4 ss4 e4 F N hS4 hp4 hs4 => ?_)
    have e4 := sorted_same hp4 hs4 hsort.nodup hsort (fun _ => Iff.rfl)
    clear hp4 hs4
    dsimp only
    have hok := hord.ok hab
    refine (ne_same (News.isList N (.tail _ (.head _))) (News.isList N (.head _)) hSO (e4 ▸ hS4) hok (by units_room) ?_)
    w_strict k_steps
    (with_reducible rename Fr _ _ _ _ => F); (with_reducible rename News _ _ _ _ => N)
    refine unbox (wpAny_call (told_spec (X.keeps F.keep) (T.keeps F.keep) (by decide) (by decide) (Nat.lt_of_le_of_lt hwl (by decide)) fun h5 tk5 tok5 hk5 => ?_))
    have F := F.keeps hk5
    have N := newsKeep N hk5
    rw [ht.told]
    dsimp only
    w_strict k_steps
    (with_reducible rename Fr _ _ _ _ => F); (with_reducible rename News _ _ _ _ => N)
    have N : News _ _ _ [_, _, _] := fun p hp => N p (.tail _ hp)
    refine unbox (wpAny_call (matched_spec (X.keeps F.keep) (T.keeps F.keep) (by decide) hwl fun h6 tk6 M ms k6 hM hSM hk6 hMn => ?_))
    have N := news_of_keep F N hk6 (none_of hMn) hM
    have F := F.keeps hk6
    dsimp only
    w_strict k_steps
    (with_reducible rename Fr _ _ _ _ => F); (with_reducible rename News _ _ _ _ => N)
    have hms : ms.length < 64 := by rw [hSM.length, same_len (matched_nodup word) hsort (matched_mem hord hab)]; have := ht.small; omega
    refine unbox (sorted_N_str F N (News.isList N (.head _)) hSM hms fun h7 vs7 ss7 e7 F N hS7 hp7 hs7 => ?_)
    have e7 := sorted_same hp7 hs7 (matched_nodup word) hsort (matched_mem hord hab)
    clear hp7 hs7
    dsimp only
    w_strict k_steps
    (with_reducible rename Fr _ _ _ _ => F); (with_reducible rename News _ _ _ _ => N)
    refine unbox (ne_same (News.isList N (.head _)) (News.isList N (.tail _ (.tail _ (.head _)))) (e7 ▸ hS7) hSO hok (by units_room) ?_)
    have hin : (ss.any fun x => x == word) = true := List.any_eq_true.mpr ⟨word, (hord.mem word).mpr (List.Sublist.refl _), by simp⟩
    have hfst := hord.first hab
    w_strict k_steps
    (with_reducible rename Fr _ _ _ _ => F); (with_reducible rename News _ _ _ _ => N)
    have N : News _ _ _ [_] := fun p hp => N p (by rw [List.mem_singleton.mp hp]; exact .tail _ (.tail _ (.head _)))
    refine unbox (comp_rule (fun _ => true) GLet rfl (by decide) (by rfl) (by decide) (by rfl) ?_)
    w_strict k_steps
    (with_reducible rename Fr _ _ _ _ => F); (with_reducible rename News _ _ _ _ => N)
    (with_reducible rename IsRange _ _ _ _ _ _ _ _ => hr)
    refine unbox (src_range (n := word.length) rfl hr (small_one (by omega) (by omega) (by omega) (by omega)) ((rangeSize_nat 0 _).trans (by simp)) (by omega) F N ?_ ?_)
    · intro j u' hj
      constructor
      · intro C s₃ m₃ E' hnC hmk hk3
        exact wpAny_tests_nil ⟨rfl, _, _, rfl, fun _ _ e => e⟩
      · intro C s₃ m₃ E' hpv hnC hmk hk3
        w_strict k_steps
        · exact ⟨_, _, _, rfl, rfl⟩
        · exact ⟨_, _, rfl, fun _ _ e => e⟩
    intro D8 h8 tk8 ys8 k8 xs8 hl8 hx8 F N hP8 hk8 _
    have hS8 := strs_turns hl8 hx8 hP8
    dsimp only
    w_strict k_steps
    refine PyProof.Rows.join_list (News.isList N (.head _)) hS8 (turns_small hwl) fun t9 k9 => ?_
    obtain ⟨turns, hturns⟩ : ∃ x, x = Txt.join (Str.ofString "") ((List.range word.length).map fun (k : Nat) => letter k) := ⟨_, rfl⟩
    rw [← hturns]
    have hte : turns.cps.toList = turnsL word.length := by rw [hturns]; exact turns_eq _
    clear hturns
    dsimp only
    w_strict k_steps
    (with_reducible rename Fr _ _ _ _ => F); (with_reducible rename News _ _ _ _ => N)
    have N : News _ _ _ [_] := fun p hp => N p (.tail _ hp)
    have htl : turns.cps.size < 100 := by
      rw [← Array.length_toList, hte, turnsL, List.length_map, List.length_range]; omega
    refine unbox (wpAny_call (told_spec (X.keeps F.keep) (T.keeps F.keep) (by decide) (by decide) htl fun h5 tk5 tok5 hk5 => ?_))
    have F := F.keeps hk5
    have N := newsKeep N hk5
    rw [hte]
    have htt := ht.turns
    have hlen2 := ht.small
    generalize told (turnsL word.length) = zt at htt
    dsimp only
    w_strict k_steps
    (with_reducible rename Fr _ _ _ _ => F); (with_reducible rename News _ _ _ _ => N)
    have hmul : (Txt.mul (Str.ofString "a") (word.length : Int)).cps.toList = List.replicate word.length 97 := mul_a _
    have hml : (Txt.mul (Str.ofString "a") (word.length : Int)).cps.size < 100 := by
      rw [← Array.length_toList, hmul, List.length_replicate]; omega
    refine unbox (wpAny_call (told_spec (X.keeps F.keep) (T.keeps F.keep) (by decide) (by decide) hml fun h5 tk5 tok5 hk5 => ?_))
    have F := F.keeps hk5
    have N := newsKeep N hk5
    rw [hmul, ht.one]
    dsimp only
    w_strict k_steps
    (with_reducible rename Fr _ _ _ _ => F); (with_reducible rename News _ _ _ _ => N)
    refine unbox (comp_rule (fun _ => true) GBack rfl (by decide) (by rfl) (by decide) (by rfl) ?_)
    w_strict k_steps
    (with_reducible rename Fr _ _ _ _ => F); (with_reducible rename News _ _ _ _ => N)
    refine unbox (src_list rfl (News.isList N (.head _)) (by omega) F N ?_ ?_)
    · intro v hv
      obtain ⟨x, t', rfl⟩ := hSO.all v hv
      have hxl : x.length ≤ 7 := Nat.le_trans ((hord.mem x).mp (StrsAre.mem hSO hv)).length_le hwl
      constructor
      · intro C s₃ m₃ E' hnC hmk hk3
        exact wpAny_tests_nil ⟨rfl, _, _, rfl, fun _ _ e => e⟩
      · intro C s₃ m₃ E' hpv hnC hmk hk3
        w_strict k_steps
        · exact ⟨_, _, _, rfl, by rw [back_eq]⟩
        · exact ⟨_, _, rfl, fun _ _ e => Heap.get?_push_of_some _ e⟩
    intro D10 h10 tk10 ys10 k10 F N hP10 hk10 hD10
    have hS10 := strs_back hSO hP10
    dsimp only
    w_strict k_steps
    (with_reducible rename Fr _ _ _ _ => F); (with_reducible rename News _ _ _ _ => N)
    have hy10 : ys10.length < 64 := by rw [hS10.length, List.length_map]; omega
    refine unbox (sorted_N_str F N (News.isList N (.head _)) hS10 hy10 fun h11 vs11 ss11 e11 F N hS11 hp11 hs11 => ?_)
    have hback := sorted_back hord hp11 hs11
    clear hp11 hs11
    dsimp only
    w_strict k_steps
    rw [back_eq]
    have hbl : (back word).length ≤ 7 := by rw [back_len]; exact hwl
    have hbab : Ab (back word).cps.toList := fun c hc => hab c (by rw [back_list] at hc; exact List.mem_reverse.mp hc)
    (with_reducible rename Fr _ _ _ _ => F); (with_reducible rename News _ _ _ _ => N)
    refine unbox (wpAny_call (left_spec (X.keeps F.keep) (T.keeps F.keep) (by decide) (by decide) hbl fun h12 tk12 O2 os2 ss2 k12 hO2 hSO2 hsort2 hmem2 hlen2' hk12 hOn2 => ?_))
    have hord2 := IsOrder.of hsort2 hmem2
    have e12 := hback _ hord2
    clear hback hmem2 hlen2'
    have N := news_of_keep F N hk12 (none_of hOn2) hO2
    have F := F.keeps hk12
    have hok2 := hord2.ok hbab
    dsimp only
    refine (ne_same (News.isList N (.tail _ (.head _))) (News.isList N (.head _)) (e12 ▸ hS11) hSO2 hok2 (by units_room) ?_)
    have N : News _ _ _ [_] := fun p hp => N p (by rw [List.mem_singleton.mp hp]; exact .tail _ (.tail _ (.tail _ (.head _))))
    w_strict k_steps
    (with_reducible rename Fr _ _ _ _ => F); (with_reducible rename News _ _ _ _ => N)
    have hal : (Str.ofString "ab" ++ word).cps.size < 100 := by
      rw [← Array.length_toList, ab_cps, List.length_cons, List.length_cons]; have : word.cps.toList.length ≤ 7 := hwl; omega
    refine unbox (wpAny_call (told_spec (X.keeps F.keep) (T.keeps F.keep) (by decide) (by decide) hal fun h5 tk5 tok5 hk5 => ?_))
    have F := F.keeps hk5
    have N := newsKeep N hk5
    rw [ab_cps]
    have hah := ht.ahead
    have hfo := ht.four
    generalize told (97 :: 98 :: word.cps.toList) = za at hah hfo
    dsimp only
    w_strict k_steps
    (with_reducible rename Fr _ _ _ _ => F); (with_reducible rename News _ _ _ _ => N)
    have hbl2 : (word ++ Str.ofString "b").cps.size < 100 := by
      rw [← Array.length_toList, b_cps, List.length_append]; have : word.cps.toList.length ≤ 7 := hwl; simp only [List.length_cons, List.length_nil]; omega
    refine unbox (wpAny_call (told_spec (X.keeps F.keep) (T.keeps F.keep) (by decide) (by decide) hbl2 fun h5 tk5 tok5 hk5 => ?_))
    have F := F.keeps hk5
    have N := newsKeep N hk5
    rw [b_cps]
    have hbe := ht.behind
    generalize told (word.cps.toList ++ [98]) = zb at hbe
    dsimp only
    w_strict k_steps)
end Mine
end WLP

theorem PySem.Challenge.cw_gq0003_01_holds : PySem.Challenge.rw_gq0003_01.Holds := by
  exact Mine.law_holds
