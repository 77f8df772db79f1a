import PyProof.Rows.All
import Wide.All
import OpenK.AllK
import Wide.FinOn
import PySem.Challenge.RW_fc0127_01

set_option Elab.async false
section
open PySem PySem.W PyProof.Rows
set_option maxRecDepth 100000
set_option maxHeartbeats 8000000
namespace Mine
open_top hd for PySem.Challenge.rw_fc0127_01
end Mine
end

section
example : True ∧ True := by
  w_top off
  first | (walk1; done) | exact ⟨trivial, trivial⟩
open PySem PySem.W PySem.Calls PyProof.Rows
set_option maxRecDepth 100000
namespace Mine
abbrev Ar (d u : Nat) : Around := ⟨none, d, none, none, u⟩
theorem to_Ar {α : Type} {M : Model} {A : Around} {t : Sem α} {Q : α → Shared → Prop} {E : Value → Shared → Prop} {s : Shared} (d u : Nat)
    (hh : A.handled = none) (hd : A.depth ≤ d) (hu : A.units ≤ u) (h : wpAny M (Ar d u) t Q E s) : wpAny M A t Q E s :=
  fun Γ p hΓ => h Γ p ⟨hΓ.1.trans hh, Nat.le_trans hΓ.2.1 hd, (fun _ e => by cases e), (fun _ e => by cases e), Nat.le_trans hΓ.2.2.2.2 hu⟩
theorem to_ArC {M : Model} {A : Around} {c : Code} {R : Result → Shared → Prop} {s : Shared} (d u : Nat)
    (hh : A.handled = none) (hd : A.depth ≤ d) (hu : A.units ≤ u) (h : codeAny M (Ar d u) c R s) : codeAny M A c R s :=
  fun Γ p hc hΓ => h Γ p hc ⟨hΓ.1.trans hh, Nat.le_trans hΓ.2.1 hd, (fun _ e => by cases e), (fun _ e => by cases e), Nat.le_trans hΓ.2.2.2.2 hu⟩
/-- the post-condition of a call, as codeAny wants it -/
abbrev CallPost (Q : Value → Shared → Prop) (E : Value → Shared → Prop) : Result → Shared → Prop := fun r s' => match r with | .ok (.ret v) => Q v s' | .ok _ => False | .error e => E e s'
theorem enterK {prog : Program} {w : World} {A : Around} {s : Shared} {K : Frag} {R : Result → Shared → Prop} {name qual : Str} {params : Arguments} {body : List Stmt} {scope : Scope} {dV kV doc pm cdv ct oc : Value} {an od : Option Addr}
    {osl : Array (Option Value)} {f : Addr} {args : Args} {binds : List (Str × Value)} (X : K.In s.heap) (hlim : s.heap.NoLimit)
    (ho : K.lookup f = some ⟨oc, od, .func (fnOf name qual params body scope dV kV doc pm an cdv ct), osl⟩) (hcd : codeIn K cdv qual = true) (hroom : A.depth < recursionLimit)
    (hbind : BindsTo s (fnOf name qual params body scope dV kV doc pm an cdv ct) args binds) (hloc : (binds.all fun x => decide (scope.names.lookup x.1 = some .local)) = true)
    (h : ∀ h₁, Fr s.heap s.heap.objs.size h₁ (fun y => binds.reverse.lookup y) →
      wpAny (model prog w) (A.deeper (envX qual scope s.heap.objs.size f cdv [])) (execs body (envX qual scope s.heap.objs.size f cdv []))
        (fun fl s' => R (.ok (.ret (match fl with | .ret v => v | _ => .none))) s') (fun _ _ => False) { s with heap := h₁, toks := s.toks + binds.length })
    (hcell : ∀ x ∈ scope.names, x.2 ≠ .cell) (hco : scope.isCoroutine = false) (hgen : scope.isGenerator = false) (hk : scope.kind = .function) :
    codeAny (model prog w) A (.call (.ref f) args) R s := by
  refine codeAny_call_def (fd := fnOf name qual params body scope dV kV doc pm an cdv ct) (body := body) (binds := binds) hroom (X _ _ ho) rfl hlim (codeRec_of X hcd) rfl hbind hcell (locs hloc) (fun h₁ hns hk₁ => ?_) hco hgen hk
  exact wpAny_mono (h h₁ ⟨hns, hk₁, Nat.le_refl _⟩) (fun _ _ x => x) fun _ _ x => x.elim
end Mine
example : (fun (_ : OpenLaw) (_ : Params → Frag) => True) PySem.Challenge.rw_fc0127_01 Mine.hd.heap_39 := by
  k_fill
  trivial
namespace Mine
section
variable {prog : Program} {w : World} {A : Around} {s : Shared} {K : Frag} {R : Result → Shared → Prop} {name qual : Str} {params : Arguments} {body : List Stmt} {scope : Scope} {dV kV doc pm cdv ct oc : Value} {an od : Option Addr}
    {osl : Array (Option Value)} {f : Addr} {args : Args}
/-- a def is entered over a ground h₀ below the heap -/
theorem enterB {h₀ : Heap} (binds : List (Str × Value)) (X : K.In h₀) (hk : ∀ b o, h₀.get? b = some o → s.heap.get? b = some o) (hsz : h₀.objs.size ≤ s.heap.objs.size) (hlim : h₀.NoLimit)
    (ho : K.lookup f = some ⟨oc, od, .func (fnOf name qual params body scope dV kV doc pm an cdv ct), osl⟩) (hcd : codeIn K cdv qual = true) (hroom : A.depth < recursionLimit)
    (hbind : BindsTo s (fnOf name qual params body scope dV kV doc pm an cdv ct) args binds) (hloc : (binds.all fun x => decide (scope.names.lookup x.1 = some .local)) = true)
    (h : ∀ L h₁ tk, L = s.heap.objs.size → Fr h₀ L h₁ (fun y => binds.reverse.lookup y) → (∀ b o, s.heap.get? b = some o → h₁.get? b = some o) →
      wpAny (model prog w) (A.deeper (envX qual scope L f cdv [])) (execs body (envX qual scope L f cdv []))
        (fun fl s' => R (.ok (.ret (match fl with | .ret v => v | _ => .none))) s') (fun _ _ => False) { s with heap := h₁, toks := tk })
    (hcell : ∀ x ∈ scope.names, x.2 ≠ .cell) (hco : scope.isCoroutine = false) (hgen : scope.isGenerator = false) (hkd : scope.kind = .function) :
    codeAny (model prog w) A (.call (.ref f) args) R s := by
  refine codeAny_call_def (fd := fnOf name qual params body scope dV kV doc pm an cdv ct) (body := body) (binds := binds) hroom ((X.keeps hk) _ _ ho) rfl (hlim.keeps hk) (codeRec_of (X.keeps hk) hcd) rfl hbind hcell (locs hloc) (fun h₁ hns hk₁ => ?_) hco hgen hkd
  exact wpAny_mono (h _ h₁ _ rfl ⟨hns, fun b o e => hk₁ b o (hk b o e), hsz⟩ hk₁) (fun _ _ x => x) fun _ _ x => x.elim
theorem makeB {C fI : Addr} {pos : List Value} {kw : List (Str × Value)} {Q : Value → Shared → Prop} {E : Value → Shared → Prop} (binds : Addr → List (Str × Value)) (X : K.In s.heap) (hlim : s.heap.NoLimit)
    (hm : makesIn K C = true) (hi : findIn K (.ref C) "__init__" = some (some (.ref fI))) (hf : isFn K (.ref fI) = true)
    (ho : K.lookup fI = some ⟨oc, od, .func (fnOf name qual params body scope dV kV doc pm an cdv ct), osl⟩) (hcd : codeIn K cdv qual = true) (hroom : (A.under (.builtin "type.__call__" ⟨.ref C :: pos, kw⟩)).depth < recursionLimit)
    (hbind : ∀ x s', K.In s'.heap → BindsTo s' (fnOf name qual params body scope dV kV doc pm an cdv ct) ⟨.ref x :: pos, kw⟩ (binds x)) (hloc : ∀ x, ((binds x).all fun x => decide (scope.names.lookup x.1 = some .local)) = true)
    (h : ∀ dx x L h₁ tk, dx = s.heap.objs.size → x = dx + 1 → L = dx + 2 → Fr s.heap L h₁ (fun y => (binds x).reverse.lookup y) → News s.heap L h₁ [(x, instObj C dx), (dx, dictOf [] 0)] →
      wpAny (model prog w) ((A.under (.builtin "type.__call__" ⟨.ref C :: pos, kw⟩)).deeper (envX qual scope L fI cdv [])) (execs body (envX qual scope L fI cdv []))
        (fun fl s' => fl = .next ∧ Q (.ref x) s') (fun _ _ => False) { s with heap := h₁, toks := tk })
    (hcell : ∀ x ∈ scope.names, x.2 ≠ .cell) (hco : scope.isCoroutine = false) (hgen : scope.isGenerator = false) (hkd : scope.kind = .function) :
    wpAny (model prog w) A (call (.ref C) pos kw) Q E s := by
  refine wpAny_call ?_
  obtain ⟨hh, g, d, t, os⟩ := s
  have k : ∀ b o, hh.get? b = some o → ((hh.push emptyDict).push (instObj C hh.objs.size)).get? b = some o := fun b o e => Heap.get?_push_of_some _ (Heap.get?_push_of_some _ e)
  have sz : ((hh.push emptyDict).push (instObj C hh.objs.size)).objs.size = hh.objs.size + 2 := by rw [Heap.size_push, Heap.size_push]
  refine make_core (makes_of X hm) (looks_findIn X hi) (fun self => bind_fn X self (beq_iff_eq.mp hf)) (.inl rfl) ?_
  refine enterB (h₀ := hh) (s := ⟨_, g, d, t, os⟩) (binds (hh.objs.size + 1)) X k (by show hh.objs.size ≤ _; rw [sz]; exact Nat.le_add_right _ _) hlim ho hcd hroom (hbind _ _ (X.keeps k)) (hloc _) (fun L h₁ tk hL F hk₁ => ?_) hcell hco hgen hkd
  have hL' : L = hh.objs.size + 2 := hL.trans sz
  refine wpAny_mono (h hh.objs.size (hh.objs.size + 1) L h₁ tk rfl rfl hL' F ?_) (fun fl s' q => ?_) fun _ _ x => x
  · have fr : ∀ a, hh.objs.size ≤ a → hh.get? a = none := fun a ha => by
      cases e : hh.get? a with
      | none => rfl
      | some o' => exact absurd (Heap.lt_size e) (Nat.not_lt.mpr ha)
    intro p hp
    rcases List.mem_cons.mp hp with rfl | hp
    · exact ⟨hk₁ _ _ (by heap_get), by rw [hL']; exact Nat.ne_of_lt (Nat.lt_succ_self _), fr _ (Nat.le_succ _)⟩
    · obtain rfl := List.mem_singleton.mp hp
      exact ⟨hk₁ _ _ (by heap_get), by rw [hL']; exact Nat.ne_of_lt (Nat.lt_add_of_pos_right (by decide)), fr _ (Nat.le_refl _)⟩
  · obtain ⟨rfl, q⟩ := q
    exact ⟨rfl, q⟩
end
end Mine
end

section
example : True ∧ True := by
  w_top off
  first | (walk1; done) | exact ⟨trivial, trivial⟩
open PySem PySem.W PySem.Calls PyProof.Rows
set_option maxRecDepth 100000
set_option maxHeartbeats 4000000
namespace Mine
/-- what is known of a heap's objects -/
abbrev Facts := Addr → Obj → Prop
abbrev hf (h : Heap) : Facts := fun a o => h.get? a = some o
abbrev tokEs (P : Params) (t1 t2 : Tok) (ty v : Value) : List DictEntry :=
  [⟨PyData.keyHash P (Str.ofString "type"), .str (Str.ofString "type") t1, ty⟩, ⟨PyData.keyHash P (Str.ofString "value"), .str (Str.ofString "value") t2, v⟩]
abbrev treeEs (P : Params) (t1 t2 t3 : Tok) (d c : Value) : List DictEntry :=
  [⟨PyData.keyHash P (Str.ofString "data"), .str (Str.ofString "data") t1, d⟩, ⟨PyData.keyHash P (Str.ofString "children"), .str (Str.ofString "children") t2, c⟩,
   ⟨PyData.keyHash P (Str.ofString "_meta"), .str (Str.ofString "_meta") t3, .none⟩]
def Keep (h h' : Heap) : Prop := ∀ b o, h.get? b = some o → h'.get? b = some o
theorem Keep.rfl' {h : Heap} : Keep h h := fun _ _ e => e
theorem Keep.trans {a b c : Heap} (x : Keep a b) (y : Keep b c) : Keep a c := fun _ _ e => y _ _ (x _ _ e)
theorem fresh_of {h : Heap} {a : Addr} (ha : h.objs.size ≤ a) : h.get? a = none := by
  cases e : h.get? a with
  | none => rfl
  | some o' => exact absurd (Heap.lt_size e) (Nat.not_lt.mpr ha)
section
variable {prog : Program} {w : World} {A : Around} {s : Shared} {p : Program} {loose : List Str} {mg mb : Str → Option Value} {Q E : Value → Shared → Prop}
theorem mkTok {k v : Value} (X : (hd.heap_39 w.params).In s.heap) (T : TopRead p loose mg mb s.heap) (hh : A.handled = none) (hd : A.depth ≤ 500) (hu : A.units ≤ 3000)
   (hQ : ∀ dx t1 t2 h' tk, dx = s.heap.objs.size → Keep s.heap h' → h'.get? (dx + 1) = some (instObj 45 dx) → h'.get? dx = some (dictOf (tokEs w.params t1 t2 k v) 2) → Q (.ref (dx + 1)) { s with heap := h', toks := tk }) :
   wpAny (model prog w) A (call (.ref 45) [k, v]) Q E s := by
  refine to_Ar 500 3000 hh hd hu ?_
  refine' makeB (fun x => [(Str.ofString "self", .ref x), (Str.ofString "kind", k), (Str.ofString "value", v)]) ?kK ?kL ?k1 ?k2 ?k3 ?k6 ?k7 ?k8 ?k9 ?kB ?_ ?c5 ?c2 ?c3 ?c4
  case kK => assumption
  case kL => exact TopRead.nolimit (by assumption)
  case k1 => k_is
  case k2 => k_is
  case k3 => k_is
  case k6 => k_is
  case k7 => k_is
  case k8 => show 500 + (Code.builtin "type.__call__" _).weight < 1000; exact (by decide : 500 + 1 < 1000)
  case k9 => intro x s' X'; exact BindsTo.of_eq rfl
  case kB => intro x; exact rfl
  case c5 => decide
  case c2 => exact rfl
  case c3 => exact rfl
  case c4 => exact rfl
  intro dx x L h₁ tk e1 e2 e3 F' N'
  repeat' walk1
  rename_i F N
  subst e2
  exact hQ dx _ _ _ _ e1 F.keep (N.get (.head _)) (N.get (.tail _ (.head _)))
theorem mkTree {d c : Value} (X : (hd.heap_39 w.params).In s.heap) (T : TopRead p loose mg mb s.heap) (hh : A.handled = none) (hd : A.depth ≤ 500) (hu : A.units ≤ 3000)
   (hQ : ∀ dx t1 t2 t3 h' tk, dx = s.heap.objs.size → Keep s.heap h' → h'.get? (dx + 1) = some (instObj 142 dx) → h'.get? dx = some (dictOf (treeEs w.params t1 t2 t3 d c) 3) → Q (.ref (dx + 1)) { s with heap := h', toks := tk }) :
   wpAny (model prog w) A (call (.ref 142) [d, c]) Q E s := by
  refine to_Ar 500 3000 hh hd hu ?_
  refine' makeB (fun x => [(Str.ofString "self", .ref x), (Str.ofString "data", d), (Str.ofString "children", c), (Str.ofString "meta", .none)]) ?kK ?kL ?k1 ?k2 ?k3 ?k6 ?k7 ?k8 ?k9 ?kB ?_ ?c5 ?c2 ?c3 ?c4
  case kK => assumption
  case kL => exact TopRead.nolimit (by assumption)
  case k1 => k_is
  case k2 => k_is
  case k3 => k_is
  case k6 => k_is
  case k7 => k_is
  case k8 => show 500 + (Code.builtin "type.__call__" _).weight < 1000; exact (by decide : 500 + 1 < 1000)
  case k9 => intro x s' X'; exact binds_K X' rfl (by k_is) rfl rfl rfl
  case kB => intro x; exact rfl
  case c5 => decide
  case c2 => exact rfl
  case c3 => exact rfl
  case c4 => exact rfl
  intro dx x L h₁ tk e1 e2 e3 F' N'
  repeat' walk1
  rename_i F N
  subst e2
  exact hQ dx _ _ _ _ _ e1 F.keep (N.get (.head _)) (N.get (.tail _ (.head _)))
end
end Mine
end

section
example : True ∧ True := by
  w_top off
  first | (walk1; done) | exact ⟨trivial, trivial⟩
open PySem PySem.W PySem.Calls PyProof.Rows
set_option maxRecDepth 100000
set_option maxHeartbeats 4000000
namespace Mine
/-- the frame a `for` or `while` of a generator lays: what goes on behind it -/
def ownBack (env : Env) (K : Flow → Sem Fin) (H : Value → Sem Fin) (gd : Bool → Bool) (lv : List Value → List Value) : Result → Sem Fin := fun r =>
  ((match r with | .ok f => (.pure f : Sem Flow) | .error e => .raise e).onRaise fun (x : Value) => do
        if (← field x 1) == Value.none then unsupported "frame.own-activation:exception-without-traceback"
        setFlight x env.frame).wrap K H gd lv
section
variable {M : Model} {A : Around} {R : GenEnd} {Y : Protocol} {n : Nat} {s₀ : Shared} {c : Code} {fs : List Frame} {s : Shared} {env : Env}
  {K : Flow → Sem Fin} {H : Value → Sem Fin} {gd : Bool → Bool} {lv : List Value → List Value}
theorem gseg_If {test : Expr} {body orelse : List Stmt} {pos : Pos}
    (h : wpAny M (A.over c fs) (isTrue test env (eval test env)) (fun b s' => if b = true then Seg M A R Y n s₀ c ((execs body env).wrap K H gd lv) fs s' else Seg M A R Y n s₀ c ((execs orelse env).wrap K H gd lv) fs s') (fun _ _ => False) s) :
    Seg M A R Y n s₀ c ((exec (.If test body orelse pos) env).wrap K H gd lv) fs s := by
  show Seg M A R Y n s₀ c (.at pos fun _ => (isTrue test env (eval test env) >>= fun b => if b = true then execs body env else execs orelse env).wrap K H gd lv) fs s
  refine seg_at (seg_bind_wrap (wpAny_mono h (fun b s' hb => ?_) fun _ _ x => x.elim))
  cases b with
  | true => exact hb
  | false => exact hb
theorem gseg_For {target iter : Expr} {body orelse : List Stmt} {pos : Pos}
    (h : wpAny M (A.over c fs) (eval iter env) (fun x s₁ => wpAny M (A.over c fs) (pyIter x) (fun it s₂ => ∀ p,
      Seg M A R Y n s₀ (.forLoop target it body orelse env) (M.den (.forLoop target it body orelse env)) (.ret (ownBack env K H gd lv) none (gd false) (lv []) c p [] :: fs) s₂) (fun _ _ => False) s₁) (fun _ _ => False) s)
    (hs : ∀ x, foldedSetIterable iter env x = pure x) :
    Seg M A R Y n s₀ c ((exec (.For target iter body orelse pos) env).wrap K H gd lv) fs s := by
  show Seg M A R Y n s₀ c (.at pos fun _ => (eval iter env >>= fun x => foldedSetIterable iter env x >>= fun x => standAt iter.pos >>= fun _ => holding [x] (pyIter x) >>= fun it => runOwn (.forLoop target it body orelse env) env).wrap K H gd lv) fs s
  refine seg_at (seg_bind_wrap (wpAny_mono h (fun x s₁ h₁ => ?_) fun _ _ x => x.elim))
  refine seg_bind_wrap (wpAny_of_eq (hs x) ?_)
  refine seg_bind_wrap (wpAny_standAt ?_)
  refine seg_bind_wrap (wpAny_holding (wpAny_mono h₁ (fun it s₂ h₂ => ?_) fun _ _ x => x.elim))
  exact seg_call h₂
/-- what a turn's body hands on -/
def turnK (again : Code) : Flow → Sem Fin := fun f => match f with
  | .next | .cont => .pure (.again again)
  | .brk => .pure (.done .next)
  | .ret v => .pure (.done (.ret v))
def noteH (env : Env) : Value → Sem Fin := fun e => (do noteFrame e env; theTreesLotGoes e : Sem Unit).wrap (fun _ => .raise e) .raise id id
end
section
variable {prog : Program} {w : World} {A : Around} {R : GenEnd} {Y : Protocol} {n : Nat} {s₀ : Shared} {fs : List Frame} {s : Shared} {env : Env}
theorem gseg_forLoop {target : Expr} {it : Value} {body : List Stmt} {c : Code} (hc : c = .forLoop target it body [] env)
    (h : wpAny (model prog w) (A.over c fs) (pyNext it) (fun r s₁ => match r with
        | none => Seg (model prog w) A R Y n s₀ (.block [] env) (.pure (.done .next)) fs s₁
        | some v => wpAny (model prog w) (A.over c fs) (letOwnedTupleGo target it v) (fun _ s₂ => wpAny (model prog w) (A.over c fs) (assign target env v) (fun _ s₃ =>
            Seg (model prog w) A R Y n s₀ c ((execs body env).wrap (turnK c) (noteH env) id id) fs s₃) (fun _ _ => False) s₂) (fun _ _ => False) s₁) (fun _ _ => False) s) :
    Seg (model prog w) A R Y n s₀ c ((model prog w).den c) fs s := by
  subst hc
  show Seg _ A R Y n s₀ _ ((forTurn target it body [] env).onRaise (fun x => do noteFrame x env; theTreesLotGoes x)) fs s
  unfold forTurn
  rw [Sem.onRaise_eq_wrap]
  refine seg_bind_wrap (wpAny_standAt ?_)
  refine seg_bind_wrap (wpAny_onRaise (wpAny_mono h (fun r s₁ h₁ => ?_) fun _ _ x => x.elim))
  cases r with
  | none =>
    refine seg_again rfl ?_
    exact h₁
  | some v =>
    refine seg_bind_wrap (wpAny_mono h₁ (fun _ s₂ h₂ => ?_) fun _ _ x => x.elim)
    refine seg_bind_wrap (wpAny_mono h₂ (fun _ s₃ h₃ => ?_) fun _ _ x => x.elim)
    rw [Sem.bind_eq_wrap', Sem.wrap_wrap]
    rw [Sem.wrap_congr (execs body env) _ _ (K' := turnK (.forLoop target it body [] env)) (H' := noteH env) (fun f => by cases f <;> rfl)
        (fun e => by first | exact Sem.bind_eq_wrap _ _ | (show (do noteFrame e env; theTreesLotGoes e : Sem Unit).bind (fun _ => .raise e) = _; rw [Sem.bind_eq_wrap]; rfl))]
    exact h₃
theorem gseg_whileLoop {test : Expr} {body : List Stmt} {c : Code} (hc : c = .whileLoop test body [] env)
    (h : wpAny (model prog w) (A.over c fs) (isTrue test env (eval test env)) (fun b s' =>
        if b = true then Seg (model prog w) A R Y n s₀ c ((execs body env).wrap (turnK c) (noteH env) id id) fs s'
        else Seg (model prog w) A R Y n s₀ c (.pure (.done .next)) fs s') (fun _ _ => False) s) :
    Seg (model prog w) A R Y n s₀ c ((model prog w).den c) fs s := by
  subst hc
  refine seg_whileLoop (wpAny_mono h (fun b s' hb => ?_) fun _ _ x => x.elim)
  cases b with
  | true => exact hb
  | false => exact hb
/-- behind a loop of a generator: the frame is left -/
theorem gseg_back {c c' : Code} {K : Flow → Sem Fin} {H : Value → Sem Fin} {gd : Bool → Bool} {lv : List Value → List Value} {hnd : Option Value} {g : Bool} {l : List Value} {p : Pos} {kp : List Value}
    (h : Seg (model prog w) A R Y n s₀ c' (K .next) fs s) : Seg (model prog w) A R Y n s₀ c (.pure (.done .next)) (.ret (ownBack env K H gd lv) hnd g l c' p kp :: fs) s :=
  seg_leaf (k := ownBack env K H gd lv) (.ok .next) h
end
end Mine
end

section
example : True ∧ True := by
  w_top off
  first | (walk1; done) | exact ⟨trivial, trivial⟩
open PySem PySem.W PySem.Calls PyProof.Rows
set_option maxRecDepth 100000
set_option maxHeartbeats 4000000
namespace Mine
def BareAll (gs : Array GenState) : Prop := ∀ y ∈ gs, y.bare = true
/-- what a step of a generator leaves alone: the ground's objects, and its user's (us) -/
structure GChg (base : Heap) (g : Nat) (us : List Addr) (s₀ s₁ : Shared) : Prop where
  ground : ∀ b o, base.get? b = some o → s₀.heap.get? b = some o → s₁.heap.get? b = some o
  keep : ∀ b o, b ∈ us → s₀.heap.get? b = some o → s₁.heap.get? b = some o
  gens : ∀ i, i < g → s₁.gens[i]? = s₀.gens[i]?
  os : s₁.os = s₀.os
  gsize : s₀.gens.size ≤ s₁.gens.size
  bare : BareAll s₀.gens → BareAll s₁.gens
/-- what the user of a generator leaves alone between two items -/
structure GFor (g : Nat) (us : List Addr) (s s' : Shared) : Prop where
  keep : ∀ b o, b ∉ us → s.heap.get? b = some o → s'.heap.get? b = some o
  gens : ∀ i, g ≤ i → s'.gens[i]? = s.gens[i]?
  live : ∀ b ∈ us, ∃ o, s'.heap.get? b = some o
theorem GChg.refl (base : Heap) (g : Nat) (us : List Addr) (s : Shared) : GChg base g us s s :=
  ⟨fun _ _ _ e => e, fun _ _ _ e => e, fun _ _ => rfl, rfl, Nat.le_refl _, id⟩
theorem GChg.trans {base : Heap} {g : Nat} {us : List Addr} {a b c : Shared} (x : GChg base g us a b) (y : GChg base g us b c) : GChg base g us a c :=
  ⟨fun d o h e => y.ground d o h (x.ground d o h e), fun d o h e => y.keep d o h (x.keep d o h e), fun i h => (y.gens i h).trans (x.gens i h), y.os.trans x.os,
   Nat.le_trans x.gsize y.gsize, fun h => y.bare (x.bare h)⟩
theorem GFor.trans {g : Nat} {us : List Addr} {a b c : Shared} (x : GFor g us a b) (y : GFor g us b c) : GFor g us a c :=
  ⟨fun d o h e => y.keep d o h (x.keep d o h e), fun i h => (y.gens i h).trans (x.gens i h), y.live⟩
theorem bareAll_set {gs : Array GenState} {g : Nat} {y : GenState} (h : BareAll gs) (hy : y.bare = true) : BareAll (gs.setIfInBounds g y) := by
  intro z hz
  rcases Array.mem_or_eq_of_mem_setIfInBounds hz with h1 | h1
  · exact h z h1
  · rw [h1]; exact hy
theorem chg_setGen {base : Heap} {gb g : Nat} {us : List Addr} {s : Shared} {y : GenState} (hg : gb ≤ g) (hy : y.bare = true) : GChg base gb us s (s.setGen g y) :=
  ⟨fun _ _ _ e => e, fun _ _ _ e => e, fun i hi => by
    show (s.gens.setIfInBounds g y)[i]? = s.gens[i]?
    rw [Array.getElem?_setIfInBounds_ne (by omega)], rfl, by
    show s.gens.size ≤ (s.gens.setIfInBounds g y).size
    rw [Array.size_setIfInBounds]; exact Nat.le_refl _, fun h => bareAll_set h hy⟩
def GR (base : Heap) (g : Nat) (a : Addr) (us : List Addr) : GenEnd := fun n s₀ r s₁ => r = .ok (.ret .none) ∧ n = 0 ∧ GChg base g (a :: us) s₀ s₁
def GY (base : Heap) (g : Nat) (a : Addr) (us : List Addr) (all : List Value) : Protocol := fun m s₀ v s₁ kap =>
  all[all.length - 1 - m]? = some v ∧ GChg base g (a :: us) s₀ s₁ ∧ ∀ s'', GFor (g + 1) us s₁ s'' → g < s''.gens.size → kap (.send .none) s''
/-- a generator object, suspended or fresh, that has vs (the end of all) still to give -/
def GenAt (prog : Program) (w : World) (A : Around) (base : Heap) (us : List Addr) (a : Addr) (g : Nat) (all vs : List Value) (s : Shared) : Prop :=
  s.heap.IsGen a g ∧ a ∉ us ∧ base.NoLimit ∧ (∀ b ∈ us, base.get? b = none) ∧ (∀ b o, base.get? b = some o → s.heap.get? b = some o) ∧ (∃ pre, all = pre ++ vs) ∧ ∃ gs, s.gens[g]? = some gs ∧
    ∀ s'', GFor g us s s'' → gs.Goes (model prog w) A (GR base g a us) (GY base g a us all) vs.length (.send .none) (s''.setGen g .running)
theorem GenAt.frame {prog : Program} {w : World} {A : Around} {base : Heap} {us : List Addr} {a : Addr} {g : Nat} {all vs : List Value} {s s' : Shared}
    (x : GenAt prog w A base us a g all vs s) (hf : GFor g us s s') : GenAt prog w A base us a g all vs s' := by
  obtain ⟨⟨o, nm, qn, ho, r⟩, h3, h4, h5, h6, h7, gs, h8, h9⟩ := x
  refine ⟨⟨o, nm, qn, hf.keep _ _ h3 ho, r⟩, h3, h4, h5, fun b o e => hf.keep _ _ (fun hm => ?_) (h6 _ _ e), h7, gs, (hf.gens _ (Nat.le_refl _)).trans h8, fun s'' hs => h9 s'' (hf.trans hs)⟩
  rw [h5 b hm] at e; cases e
section
variable {prog : Program} {w : World} {A : Around} {E : Value → Shared → Prop} {s : Shared} {base : Heap} {us : List Addr} {a : Addr} {g : Nat} {all : List Value} {Q : Option Value → Shared → Prop}
theorem nextQ {n : Nat} {gs : GenState} {R : GenEnd} {Y : Protocol} (hh : A.handled = none)
    (hl : s.heap.NoLimit) (hroom : A.depth < recursionLimit)
    (hg : s.heap.IsGen a g) (hgs : s.gens[g]? = some gs) (hR : ∀ n s₀ r s₁, R n s₀ r s₁ → r = .ok (.ret .none))
    (hgo : gs.Goes (model prog w) A.in1 R Y n (.send .none) (s.setGen g .running))
    (hY : ∀ v s₁ gs', gs'.bare = true → Y (n - 1) (s.setGen g .running) v s₁ (fun r' s'' => match n with
        | 0 => False
        | m + 1 => gs'.Goes (model prog w) A.in1 R Y m r' s'') → Q (some v) (s₁.setGen g gs'))
    (hP : ∀ s₁ r, R n (s.setGen g .running) r s₁ → ∀ h', (∀ b o, s₁.heap.get? b = some o → h'.get? b = some o) → Q none { s₁.setGen g .finished with heap := h' }) :
    wpAny (model prog w) A (pyNext (.ref a)) Q E s := by
  unfold pyNext
  refine wpAny_bind (wpAny_attempt (wpAny_callSpecial?_slot (name := Str.ofString "__next__") hg.typeIs slot_gen_next
    (wpAny_call_entry slot_gen_next hg.typeIs entry_gen_next ?_ (args_gen_next _))))
  show wpAny _ A.in1 (Builtin.Generator.genWake (.ref a) (.send .none)) _ _ s
  unfold Builtin.Generator.genWake
  refine wpAny_bind (wpAny_holding (wpAny_genNumber hg (wpAny_bind (wpAny_genState hgs ?_))))
  cases gs with
  | running => exact hgo.elim
  | finished => exact hgo.elim
  | _ =>
    refine wpAny_bind (wpAny_roomToWake hl hroom ?_)
    show wpAny _ A.in1 (.resume g (.send .none) [] _) _ _ s
    refine wpAny_resumeQ hgs hgo (fun x s₁ hx => ?_) (fun v s₁ gs' hb hv => ?_)
    · obtain rfl := hR _ _ _ _ hx
      show wpAny _ A.in1 (newExc (.type "StopIteration") [] >>= _) _ _ _
      refine wpAny_bind ?_
      simp only [newExc, newTuple]
      refine wpAny_bind (wpAny_newObj_type ?_ (by size_fits))
      refine wpAny_bind (m := firstArgMember _ _) (wpAny_of_eq (a := Value.none) (by first | rfl | (simp only [firstArgMember]; rfl)) ?_)
      refine wpAny_newObj_type ?_ (by size_fits)
      simp only [raiseNew]
      refine wpAny_bind (wpAny_bind (wpAny_handled ?_))
      first | rw [show A.in1.handled = none from hh] | rw [hh]
      refine wpAny_throw ?_
      refine wpAny_bind (wpAny_isInstance (T := "StopIteration") (b := true) ⟨_, Heap.get?_push_size _ rfl, rfl⟩ isSubtype_stop ?_)
      exact wpAny_pure (hP s₁ _ hx _ (fun b o hb => Heap.get?_push_of_some _ (Heap.get?_push_of_some _ hb)))
    · exact wpAny_pure ⟨v, rfl, wpAny_pure (hY v s₁ gs' hb hv)⟩
theorem chg_weak {b : Addr} {s₀ s₁ : Shared} (h : GChg base g (b :: us) s₀ s₁) : GChg base g us s₀ s₁ :=
  ⟨h.ground, fun d o hm e => h.keep d o (.tail _ hm) e, h.gens, h.os, h.gsize, h.bare⟩
theorem gen_next {v : Value} {vs : List Value} (hh : A.handled = none) (hroom : A.depth < recursionLimit) (hlt : ∀ b ∈ us, ∃ o, s.heap.get? b = some o)
    (hG : GenAt prog w A.in1 base us a g all (v :: vs) s) (hQ : ∀ s', GChg base g us s s' → GenAt prog w A.in1 base us a g all vs s' → Q (some v) s') :
    wpAny (model prog w) A (pyNext (.ref a)) Q E s := by
  obtain ⟨h2, h3, h4, h5, h6, ⟨pre, h7⟩, gs, h8, h9⟩ := hG
  have hgo := h9 s ⟨fun _ _ _ e => e, fun _ _ => rfl, hlt⟩
  refine nextQ hh (h4.keeps h6) hroom h2 h8 (fun _ _ _ _ x => x.1) hgo (fun v' s₁ gs' hb hy => ?_) (fun s₁ r hr => ?_)
  · obtain ⟨e, hc, hk⟩ := hy
    have hv : v' = v := by
      rw [h7] at e
      simp only [List.length_append, List.length_cons, Nat.add_sub_cancel] at e
      rw [List.getElem?_append_right (by omega)] at e
      have e2 : pre.length + (vs.length + 1) - 1 - vs.length - pre.length = 0 := by omega
      rw [e2] at e
      exact (Option.some.inj e).symm
    subst hv
    have c1 := (chg_setGen (base := base) (us := a :: us) (s := s) (y := .running) (Nat.le_refl g) rfl).trans (hc.trans (chg_setGen (y := gs') (Nat.le_refl g) hb))
    have hgl : g < s₁.gens.size := by
      have := hc.gsize
      have e3 : (s.setGen g .running).gens.size = s.gens.size := Array.size_setIfInBounds
      rw [e3] at this
      exact Nat.lt_of_lt_of_le (Array.getElem?_eq_some_iff.mp h8).1 this
    have hk6 : ∀ b o, base.get? b = some o → s₁.heap.get? b = some o := fun b o q => hc.ground b o q (h6 b o q)
    obtain ⟨o, nm, qn, ho, r⟩ := h2
    refine hQ _ (chg_weak c1) ⟨⟨o, nm, qn, hc.keep _ _ (.head _) ho, r⟩, h3, h4, h5, hk6, ⟨pre ++ [v'], by rw [h7]; simp⟩, gs', ?_, fun s'' hs => ?_⟩
    · show (s₁.gens.setIfInBounds g gs')[g]? = some gs'
      simp [hgl]
    · have hgl2 : g < s''.gens.size := by
        have e1 := hs.gens g (Nat.le_refl g)
        have e2 : (s₁.gens.setIfInBounds g gs')[g]? = some gs' := by simp [hgl]
        exact (Array.getElem?_eq_some_iff.mp (e1.trans e2)).1
      refine hk (s''.setGen g .running) ⟨fun b o hb' e => hs.keep b o hb' e, fun i hi => ?_, hs.live⟩ (by show g < (s''.gens.setIfInBounds g .running).size; rw [Array.size_setIfInBounds]; exact hgl2)
      have e1 := hs.gens i (by omega)
      show (s''.gens.setIfInBounds g .running)[i]? = s₁.gens[i]?
      rw [Array.getElem?_setIfInBounds_ne (by omega), e1]
      show (s₁.gens.setIfInBounds g gs')[i]? = s₁.gens[i]?
      rw [Array.getElem?_setIfInBounds_ne (by omega)]
  · exact absurd hr.2.1 (Nat.succ_ne_zero _)
theorem gen_done (hh : A.handled = none) (hroom : A.depth < recursionLimit) (hlt : ∀ b ∈ us, ∃ o, s.heap.get? b = some o)
    (hG : GenAt prog w A.in1 base us a g all [] s) (hQ : ∀ s', GChg base g us s s' → Q none s') :
    wpAny (model prog w) A (pyNext (.ref a)) Q E s := by
  obtain ⟨h2, h3, h4, h5, h6, ⟨pre, h7⟩, gs, h8, h9⟩ := hG
  have hgo := h9 s ⟨fun _ _ _ e => e, fun _ _ => rfl, hlt⟩
  refine nextQ hh (h4.keeps h6) hroom h2 h8 (fun _ _ _ _ x => x.1) hgo (fun v' s₁ gs' hb hy => ?_) (fun s₁ r hr h' hk => ?_)
  · obtain ⟨e, hc, hk⟩ := hy
    refine (hk s₁ ⟨fun _ _ _ e => e, fun _ _ => rfl, fun b hb => let ⟨o, ho⟩ := hlt b hb; ⟨o, hc.keep b o (.tail _ hb) ho⟩⟩ ?_).elim
    have e3 : (s.setGen g .running).gens.size = s.gens.size := Array.size_setIfInBounds
    exact Nat.lt_of_lt_of_le (Array.getElem?_eq_some_iff.mp h8).1 (e3 ▸ hc.gsize)
  · obtain ⟨_, _, hc⟩ := hr
    refine hQ _ (chg_weak ((chg_setGen (base := base) (us := a :: us) (s := s) (y := .running) (Nat.le_refl g) rfl).trans (hc.trans ((chg_setGen (y := .finished) (Nat.le_refl g) rfl).trans ?_))))
    exact ⟨fun b o _ e => hk b o e, fun b o _ e => hk b o e, fun _ _ => rfl, rfl, Nat.le_refl _, id⟩
/-- a fresh generator -/
theorem gen_fresh {c : Code} (hg : s.heap.IsGen a g) (ha : a ∉ us) (hl : base.NoLimit) (hus : ∀ b ∈ us, base.get? b = none) (hb : ∀ b o, base.get? b = some o → s.heap.get? b = some o)
    (hgs : s.gens[g]? = some (.fresh c))
    (h : ∀ s'', GFor (g + 1) us s s'' → g < s''.gens.size → Seg (model prog w) A (GR base g a us) (GY base g a us all) all.length s'' c ((model prog w).den c) [] s'') : GenAt prog w A base us a g all all s :=
  ⟨hg, ha, hl, hus, hb, ⟨[], rfl⟩, .fresh c, hgs, fun s'' hs => ⟨rfl, h _ ⟨fun b o hb' e => hs.keep b o hb' e, fun i hi => by
    have e1 := hs.gens i (by omega)
    show (s''.gens.setIfInBounds g .running)[i]? = s.gens[i]?
    rw [Array.getElem?_setIfInBounds_ne (by omega), e1], hs.live⟩ (by
      show g < (s''.gens.setIfInBounds g .running).size
      rw [Array.size_setIfInBounds]
      exact (Array.getElem?_eq_some_iff.mp ((hs.gens g (Nat.le_refl g)).trans hgs)).1)⟩⟩
/-- the objects that stand at the addresses l -/
def snap (l : List Addr) (h : Heap) : List (Addr × Obj) := l.filterMap fun b => (h.get? b).map fun o => (b, o)
theorem mem_snap {l : List Addr} {h : Heap} {b : Addr} {o : Obj} : (b, o) ∈ snap l h ↔ b ∈ l ∧ h.get? b = some o := by
  simp only [snap, List.mem_filterMap, Option.map_eq_some_iff, Prod.mk.injEq]
  constructor
  · rintro ⟨x, hx, o', ho, rfl, rfl⟩; exact ⟨hx, ho⟩
  · rintro ⟨hx, ho⟩; exact ⟨b, hx, o, ho, rfl, rfl⟩
theorem snap_fst {l : List Addr} {h : Heap} {p : Addr × Obj} (hp : p ∈ snap l h) : p.1 ∈ l := (mem_snap.mp (show (p.1, p.2) ∈ snap l h from hp)).1
theorem snap_ne {l : List Addr} {h : Heap} {d : Addr} (hd : d ∉ l) : ∀ p ∈ snap l h, p.1 ≠ d := fun _ hp e => hd (e ▸ snap_fst hp)
theorem snap_news {base h : Heap} {L : Addr} {l : List Addr} (h1 : ∀ b ∈ l, base.get? b = none) (h2 : L ∉ l) : News base L h (snap l h) := fun p hp =>
  have q := mem_snap.mp (show (p.1, p.2) ∈ snap l h from hp)
  ⟨q.2, fun e => h2 (e ▸ q.1), h1 _ q.1⟩
theorem chg_of_snap {base h' : Heap} {L : Addr} {m : Str → Option Value} {l : List Addr} {g tk : Nat} {s₀ : Shared} {news : List (Addr × Obj)} (hb : ∀ b o, base.get? b = some o → s₀.heap.get? b = some o)
    (F : Fr base L h' m) (N : News base L h' news) (hs : ∀ p ∈ snap l s₀.heap, p ∈ news) : GChg base g l s₀ { s₀ with heap := h', toks := tk } :=
  ⟨fun b o h1 h2 => by
    obtain ⟨o', ho'⟩ : ∃ o', o' = o := ⟨o, rfl⟩
    have e := hb b o h1
    exact F.keep b o h1, fun b o hm e => (N _ (hs _ (mem_snap.mpr ⟨hm, e⟩))).1, fun _ _ => rfl, rfl, Nat.le_refl _, id⟩
end
end Mine
end

section
example : True ∧ True := by
  w_top off
  first | (walk1; done) | exact ⟨trivial, trivial⟩
open PySem PySem.W PySem.Calls PyProof.Rows
set_option maxRecDepth 100000
set_option maxHeartbeats 4000000
namespace Mine
/-- a node of the trees that the law builds: a token (its address, type, value), or a tree (its address, its dict's, its list's, its name, its children) -/
inductive Nd where
  | tok (a : Addr) (ty : Str) (v : Int)
  | tree (a dx l : Addr) (d : Str) (ks : List Nd)
def Nd.addr : Nd → Addr
  | .tok a _ _ => a
  | .tree a _ _ _ _ => a
abbrev Nd.val (n : Nd) : Value := .ref n.addr
def Nd.isTree : Nd → Bool
  | .tok .. => false
  | .tree .. => true
def Nd.kids : Nd → List Nd
  | .tok .. => []
  | .tree _ _ _ _ ks => ks
def Nd.name : Nd → Str
  | .tok .. => Str.empty
  | .tree _ _ _ d _ => d
mutual
/-- the facts bear the node -/
def Rep (P : Params) (G : Facts) : Nd → Prop
  | .tok a ty v => ∃ dx t1 t2 t3 t4, G a (instObj 45 dx) ∧ G dx (dictOf (tokEs P t1 t2 (.str ty t3) (.int v t4)) 2)
  | .tree a dx l d ks => (∃ t1 t2 t3 t4, G a (instObj 142 dx) ∧ G dx (dictOf (treeEs P t1 t2 t3 (.str d t4) (.ref l)) 3)) ∧ (∃ n, G l (listOf (ks.map Nd.val).toArray n)) ∧ RepL P G ks
def RepL (P : Params) (G : Facts) : List Nd → Prop
  | [] => True
  | k :: r => Rep P G k ∧ RepL P G r
end
mutual
/-- the nodes as they are written -/
def pre : Nd → List Nd
  | .tok a ty v => [.tok a ty v]
  | .tree a dx l d ks => .tree a dx l d ks :: preL ks
def preL : List Nd → List Nd
  | [] => []
  | k :: r => pre k ++ preL r
end
mutual
def Nd.size : Nd → Nat
  | .tok .. => 1
  | .tree _ _ _ _ ks => 1 + sizeL ks
def sizeL : List Nd → Nat
  | [] => 0
  | k :: r => k.size + sizeL r
end
mutual
def Nd.height : Nd → Nat
  | .tok .. => 0
  | .tree _ _ _ _ ks => 1 + heightL ks
def heightL : List Nd → Nat
  | [] => 0
  | k :: r => max k.height (heightL r)
end
mutual
theorem Rep.mono {P : Params} {G G' : Facts} (h : ∀ a o, G a o → G' a o) : ∀ {n : Nd}, Rep P G n → Rep P G' n
  | .tok .., ⟨dx, t1, t2, t3, t4, h1, h2⟩ => ⟨dx, t1, t2, t3, t4, h _ _ h1, h _ _ h2⟩
  | .tree .., ⟨⟨t1, t2, t3, t4, h1, h2⟩, ⟨n, h3⟩, h4⟩ => ⟨⟨t1, t2, t3, t4, h _ _ h1, h _ _ h2⟩, ⟨n, h _ _ h3⟩, RepL.mono h h4⟩
theorem RepL.mono {P : Params} {G G' : Facts} (h : ∀ a o, G a o → G' a o) : ∀ {ns : List Nd}, RepL P G ns → RepL P G' ns
  | [], _ => trivial
  | _ :: _, ⟨h1, h2⟩ => ⟨Rep.mono h h1, RepL.mono h h2⟩
end
theorem repL_iff {P : Params} {G : Facts} : ∀ {ns : List Nd}, RepL P G ns ↔ ∀ n ∈ ns, Rep P G n
  | [] => ⟨fun _ _ h => (nomatch h), fun _ => trivial⟩
  | k :: r => by
    constructor
    · intro h n hn
      rcases List.mem_cons.mp hn with rfl | hn
      · exact h.1
      · exact repL_iff.mp h.2 n hn
    · intro h
      exact ⟨h k (.head _), repL_iff.mpr fun n hn => h n (.tail _ hn)⟩
theorem repL_append {P : Params} {G : Facts} {a b : List Nd} : RepL P G (a ++ b) ↔ RepL P G a ∧ RepL P G b := by
  simp only [repL_iff, List.mem_append]
  exact ⟨fun h => ⟨fun n hn => h n (.inl hn), fun n hn => h n (.inr hn)⟩, fun h n hn => hn.elim (h.1 n) (h.2 n)⟩
theorem preL_append : ∀ (a b : List Nd), preL (a ++ b) = preL a ++ preL b
  | [], b => rfl
  | k :: r, b => by simp [preL, preL_append r b]
theorem sizeL_append : ∀ (a b : List Nd), sizeL (a ++ b) = sizeL a + sizeL b
  | [], b => by simp [sizeL]
  | k :: r, b => by simp [sizeL, sizeL_append r b] <;> omega
theorem heightL_append : ∀ (a b : List Nd), heightL (a ++ b) = max (heightL a) (heightL b)
  | [], b => by simp [heightL]
  | k :: r, b => by simp [heightL, heightL_append r b] <;> omega
theorem height_le_of_mem {k : Nd} : ∀ {ns : List Nd}, k ∈ ns → k.height ≤ heightL ns
  | x :: r, h => by
    rcases List.mem_cons.mp h with rfl | h
    · simp [heightL] <;> omega
    · have := height_le_of_mem h; simp [heightL] <;> omega
theorem size_pos : ∀ n : Nd, 0 < n.size
  | .tok .. => by simp [Nd.size]
  | .tree .. => by simp [Nd.size]; omega
theorem length_le_sizeL : ∀ ns : List Nd, ns.length ≤ sizeL ns
  | [] => Nat.le_refl _
  | k :: r => by have := length_le_sizeL r; have := size_pos k; simp [sizeL]; omega
theorem sizeL_reverse : ∀ ns : List Nd, sizeL ns.reverse = sizeL ns
  | [] => rfl
  | k :: r => by rw [List.reverse_cons, sizeL_append, sizeL_reverse r]; simp [sizeL]; omega
theorem sizeL_take (ns : List Nd) (j : Nat) : sizeL (ns.take j) ≤ sizeL ns := by
  have := sizeL_append (ns.take j) (ns.drop j)
  rw [List.take_append_drop] at this
  omega
/-- what iter_subtrees_topdown gives out of its stack (the top at its end) -/
abbrev treesOf (ns : List Nd) : List Nd := ns.filter Nd.isTree
theorem treesOf_tree {a dx l : Addr} {d : Str} {ks r : List Nd} : treesOf (.tree a dx l d ks :: r) = .tree a dx l d ks :: treesOf r := rfl
theorem treesOf_tok {a : Addr} {ty : Str} {v : Int} {r : List Nd} : treesOf (.tok a ty v :: r) = treesOf r := rfl
theorem treesOf_append (a b : List Nd) : treesOf (a ++ b) = treesOf a ++ treesOf b := List.filter_append ..
abbrev toksOf (ns : List Nd) : List Nd := ns.filter fun n => !n.isTree
end Mine
end

section
example : True ∧ True := by
  w_top off
  first | (walk1; done) | exact ⟨trivial, trivial⟩
open PySem PySem.W PySem.Calls PyProof.Rows
set_option maxRecDepth 100000
set_option maxHeartbeats 4000000
namespace Mine
section
variable {h₀ h h' : Heap} {L it : Addr} {m : Str → Option Value} {news : List (Addr × Obj)} {o o' : Obj}
theorem fr_same (F : Fr h₀ L h m) (hi : h₀.get? it = none) (hL : it ≠ L) (hs : Heap.SameBut it h h') : Fr h₀ L h' m :=
  ⟨F.ns.sameBut hs (Ne.symm hL), fun b x e => (hs.2 b (fun q => by rw [q, hi] at e; cases e)).trans (F.keep b x e), F.above⟩
theorem news_same (N : News h₀ L h ((it, o) :: news)) (off : ∀ p ∈ news, p.1 ≠ it) (hs : Heap.SameBut it h h') (ho : h'.get? it = some o') : News h₀ L h' ((it, o') :: news) := by
  intro p hp
  rcases List.mem_cons.mp hp with rfl | hp
  · exact ⟨ho, (N _ (.head _)).2⟩
  · exact ⟨(hs.2 _ (off p hp)).trans (N p (.tail _ hp)).1, (N p (.tail _ hp)).2⟩
theorem fr_ext (F : Fr h₀ L h m) (hi : h₀.get? it = none) (hL : it ≠ L) (hs : Heap.ExtBut it h h') : Fr h₀ L h' m := by
  obtain ⟨oL, es, ep, ho, r⟩ := F.ns
  exact ⟨⟨oL, es, ep, hs L oL (Ne.symm hL) ho, r⟩, fun b x e => hs b x (fun q => by rw [q, hi] at e; cases e) (F.keep b x e), F.above⟩
theorem news_ext (N : News h₀ L h news) (off : ∀ p ∈ news, p.1 ≠ it) (hs : Heap.ExtBut it h h') : News h₀ L h' news :=
  fun p hp => ⟨hs _ _ (off p hp) (N p hp).1, (N p hp).2⟩
theorem fr_keep (F : Fr h₀ L h m) (hk : Keep h h') : Fr h₀ L h' m := by
  obtain ⟨oL, es, ep, ho, r⟩ := F.ns
  exact ⟨⟨oL, es, ep, hk _ _ ho, r⟩, fun b x e => hk _ _ (F.keep b x e), F.above⟩
theorem news_keep (N : News h₀ L h news) (hk : Keep h h') : News h₀ L h' news := fun p hp => ⟨hk _ _ (N p hp).1, (N p hp).2⟩
theorem news_sub {news' : List (Addr × Obj)} (N : News h₀ L h news) (hs : ∀ p ∈ news', p ∈ news) : News h₀ L h news' := fun p hp => N p (hs p hp)
theorem news_cons (F : Fr h₀ L h m) (N : News h₀ L h news) (ho : h.get? it = some o) (hi : h₀.get? it = none) (hL : it ≠ L) : News h₀ L h ((it, o) :: news) := by
  intro p hp
  rcases List.mem_cons.mp hp with rfl | hp
  · exact ⟨ho, hL, hi⟩
  · exact N p hp
theorem fr_none (F : Fr h₀ L h m) {a : Addr} (e : h.get? a = none) : h₀.get? a = none := by
  cases q : h₀.get? a with
  | none => rfl
  | some x => rw [F.keep _ _ q] at e; cases e
theorem fr_new (F : Fr h₀ L h m) {a : Addr} (e : h.get? a = none) : a ≠ L := by
  rintro rfl
  obtain ⟨oL, es, ep, ho, _⟩ := F.ns
  rw [e] at ho; cases ho
end
theorem upd_self {m : Str → Option Value} {x : Str} {v : Value} (h : m x = some v) : m = fun y => if y = x then some v else m y := by
  funext y
  by_cases e : y = x
  · rw [if_pos e, e, h]
  · rw [if_neg e]
/-- an iterator's record -/
def RevIs (o : Obj) (l : Addr) (i : Int) : Prop := o.cls = .type "list_reverseiterator" ∧ o.data = .fields #[.ref l, rawInt i]
def LitIs (o : Obj) (l : Addr) (i : Nat) : Prop := o.cls = .type "list_iterator" ∧ o.data = .fields #[.ref l, .int i 0]
section
variable {prog : Program} {w : World} {A : Around} {E : Value → Shared → Prop} {s : Shared} {h₀ : Heap} {L it l : Addr} {m : Str → Option Value} {news : List (Addr × Obj)} {ob : Obj} {items : Array Value} {x : Value} {Q : Option Value → Shared → Prop}
theorem next_rev {i : Nat} (F : Fr h₀ L s.heap m) (N : News h₀ L s.heap ((it, ob) :: news)) (off : ∀ p ∈ news, p.1 ≠ it) (hr : RevIs ob l i) (hl : s.heap.IsList l items) (hx : items[i]? = some x)
    (h : ∀ h' ob', Fr h₀ L h' m → News h₀ L h' ((it, ob') :: news) → RevIs ob' l ((i : Int) - 1) → Q (some x) { s with heap := h' }) : wpAny (model prog w) A (pyNext (.ref it)) Q E s := by
  have n1 := N _ (.head _)
  refine wpAny_pyNext_rev_item ⟨ob, n1.1, hr.1, hr.2⟩ hl hx fun h' hit hs => ?_
  obtain ⟨ob', e1, e2, e3⟩ := hit
  exact h h' ob' (fr_same F n1.2.2 n1.2.1 hs) (news_same N off hs e1) ⟨e2, e3⟩
theorem next_rev_end (hh : A.handled = none) (F : Fr h₀ L s.heap m) (N : News h₀ L s.heap ((it, ob) :: news)) (off : ∀ p ∈ news, p.1 ≠ it) (hr : RevIs ob l (-1))
    (h : ∀ h', Fr h₀ L h' m → News h₀ L h' news → Q none { s with heap := h' }) : wpAny (model prog w) A (pyNext (.ref it)) Q E s := by
  have n1 := N _ (.head _)
  refine wpAny_pyNext_rev_end hh ⟨ob, n1.1, hr.1, hr.2⟩ fun h' hs => ?_
  exact h h' (fr_ext F n1.2.2 n1.2.1 hs) (news_ext (fun p hp => N p (.tail _ hp)) off hs)
theorem next_lit {i : Nat} (F : Fr h₀ L s.heap m) (N : News h₀ L s.heap ((it, ob) :: news)) (off : ∀ p ∈ news, p.1 ≠ it) (hr : LitIs ob l i) (hl : s.heap.IsList l items) (hx : items[i]? = some x)
    (h : ∀ h' ob', Fr h₀ L h' m → News h₀ L h' ((it, ob') :: news) → LitIs ob' l (i + 1) → Q (some x) { s with heap := h' }) : wpAny (model prog w) A (pyNext (.ref it)) Q E s := by
  have n1 := N _ (.head _)
  refine wpAny_pyNext_list_item ⟨ob, n1.1, hr.1, hr.2⟩ hl hx fun h' hit hs => ?_
  obtain ⟨ob', e1, e2, e3⟩ := hit
  exact h h' ob' (fr_same F n1.2.2 n1.2.1 hs) (news_same N off hs e1) ⟨e2, e3⟩
theorem next_lit_end {i : Nat} (hh : A.handled = none) (F : Fr h₀ L s.heap m) (N : News h₀ L s.heap ((it, ob) :: news)) (off : ∀ p ∈ news, p.1 ≠ it) (hr : LitIs ob l i) (hl : s.heap.IsList l items) (hx : items[i]? = none)
    (h : ∀ h', Fr h₀ L h' m → News h₀ L h' news → Q none { s with heap := h' }) : wpAny (model prog w) A (pyNext (.ref it)) Q E s := by
  have n1 := N _ (.head _)
  refine wpAny_pyNext_list_end hh ⟨ob, n1.1, hr.1, hr.2⟩ hl hx fun h' hs => ?_
  exact h h' (fr_ext F n1.2.2 n1.2.1 hs) (news_ext (fun p hp => N p (.tail _ hp)) off hs)
theorem iter_lit {Q : Value → Shared → Prop} (F : Fr h₀ L s.heap m) (N : News h₀ L s.heap news) (hl : s.heap.IsList l items)
    (h : ∀ it h' ob, Fr h₀ L h' m → News h₀ L h' ((it, ob) :: news) → LitIs ob l 0 → (∀ p ∈ news, p.1 < it) → s.heap.get? it = none → Q (.ref it) { s with heap := h' }) : wpAny (model prog w) A (pyIter (.ref l)) Q E s := by
  refine wpAny_pyIter_list hl ?_
  exact h _ _ _ (F.push _) (N.push F _) ⟨rfl, rfl⟩ (fun p hp => Heap.lt_size (N p hp).1) (fresh_of (Nat.le_refl _))
/-- a lid over a proposition: the walk's lines do not look into it -/
def Hold (P : Prop) : Prop := P
/-- a for over any iterator: an invariant by a measure -/
theorem for_any {R : Result → Shared → Prop} {target : Expr} {itv : Value} {body : List Stmt} {env : Env} (I : Nat → Shared → Prop)
    (turn : ∀ n s, I n s → wpAny (model prog w) A (pyNext itv) (fun r s₁ => match r with
      | none => R (.ok .next) s₁
      | some v => wpAny (model prog w) A (letOwnedTupleGo target itv v) (fun _ s₁' =>
          wpAny (model prog w) A (assign target env v) (fun _ s₂ => wpAny (model prog w) A (execs body env) (fun f s₃ => match f with
            | .next | .cont => Hold (∃ m, m < n ∧ I m s₃)
            | .brk => R (.ok .next) s₃
            | .ret v => R (.ok (.ret v)) s₃) (fun _ _ => False) s₂) (fun _ _ => False) s₁') (fun _ _ => False) s₁) (fun _ _ => False) s)
    (n : Nat) (h : I n s) : codeAny (model prog w) A (.forLoop target itv body [] env) R s := by
  refine codeAny_forLoop_any I (fun n s hI => wpAny_mono (turn n s hI) (fun r s₁ h₁ => ?_) fun _ _ x => x.elim) n h
  cases r with
  | none => exact wpAny_execs_nil h₁
  | some v =>
    refine wpAny_mono h₁ (fun _ s₁' h₁' => ?_) fun _ _ x => x.elim
    refine wpAny_mono h₁' (fun _ s₂ h₂ => ?_) fun _ _ x => x.elim
    exact wpAny_mono h₂ (fun f s₃ h₃ => h₃) fun _ _ x => x.elim
end
theorem instOf_base {h₀ h : Heap} {L x C dx : Addr} {m : Str → Option Value} {od : Obj} {sl : Array (Option Value)} (F : Fr h₀ L h m) (h1 : h₀.get? x = some ⟨.ref C, some dx, .plain, sl⟩) (h2 : h₀.get? dx = some od) :
    InstAt h x ⟨.ref C, some dx, .plain, sl⟩ C (some od) := ⟨F.keep _ _ h1, rfl, rfl, F.keep _ _ h2⟩
/-- a def of a generator is called: a fresh generator object -/
theorem genB {prog : Program} {w : World} {A : Around} {s : Shared} {K : Frag} {name qual : Str} {params : Arguments} {body : List Stmt} {scope : Scope} {dV kV doc pm cdv ct oc : Value} {an od : Option Addr}
    {osl : Array (Option Value)} {f : Addr} {pos : List Value} {Q E : Value → Shared → Prop} (binds : List (Str × Value)) (X : K.In s.heap) (hlim : s.heap.NoLimit)
    (ho : K.lookup f = some ⟨oc, od, .func (fnOf name qual params body scope dV kV doc pm an cdv ct), osl⟩) (hcd : codeIn K cdv qual = true) (hroom : A.depth < recursionLimit)
    (hbind : BindsTo s (fnOf name qual params body scope dV kV doc pm an cdv ct) ⟨pos, []⟩ binds) (hloc : (binds.all fun x => decide (scope.names.lookup x.1 = some .local)) = true)
    (h : ∀ L h₁ tk, L = s.heap.objs.size → Fr s.heap L h₁ (fun y => binds.reverse.lookup y) → h₁.IsGen (L + 1) s.gens.size →
      Q (.ref (L + 1)) { s with gens := s.gens.push (.fresh (.func body (envX qual scope L f cdv []))), heap := h₁, toks := tk })
    (hcell : ∀ x ∈ scope.names, x.2 ≠ .cell) (hco : scope.isCoroutine = false) (hgen : scope.isGenerator = true) (hkd : scope.kind = .function) :
    wpAny (model prog w) A (call (.ref f) pos) Q E s := by
  refine wpAny_call (codeAny_call_generator (fd := fnOf name qual params body scope dV kV doc pm an cdv ct) hroom (X _ _ ho) rfl hco hgen rfl (codeRec_of X hcd) (hbind _ _ _ _ ?_))
  refine wpAny_newFunctionEnv hcell (locs hloc) (fun h₁ hns hsb => ⟨hlim.fresh _ hsb, ?_⟩) hkd
  have hk : ∀ b o, s.heap.get? b = some o → h₁.get? b = some o := fun b o e => hsb.extBut b o (Nat.ne_of_lt (Heap.lt_size e)) (Heap.get?_push_of_some _ e)
  have hsz : h₁.objs.size = s.heap.objs.size + 1 := by rw [hsb.1, Heap.size_push]
  have q := h s.heap.objs.size (h₁.push { cls := .type "generator", data := .fields #[.int s.gens.size 0, .str name (s.toks + binds.length), .str qual (s.toks + binds.length + 1)] }) (s.toks + binds.length + 1 + 1) rfl
    ((⟨hns, hk, Nat.le_refl _⟩ : Fr s.heap s.heap.objs.size h₁ _).push _) ⟨_, _, _, by rw [← hsz]; exact Heap.get?_push_size _ rfl, rfl, rfl, rfl⟩
  show Q (.ref h₁.objs.size) _
  rw [hsz]
  exact q
theorem seg_plain {M : Model} {A : Around} {R : GenEnd} {Y : Protocol} {n : Nat} {s₀ : Shared} {c : Code} {fs : List Frame} {s : Shared} {α : Type} {t : Sem α} {K : α → Sem Fin} {H : Value → Sem Fin} {gd : Bool → Bool} {lv : List Value → List Value} (d u : Nat)
    (hh : (A.over c fs).handled = none) (hd : (A.over c fs).depth ≤ d) (hu : (A.over c fs).units ≤ u)
    (h : wpAny M (Ar d u) t (fun a s' => Seg M A R Y n s₀ c (K a) fs s') (fun _ _ => False) s) : Seg M A R Y n s₀ c (t.wrap K H gd lv) fs s :=
  seg_wrap (to_Ar d u hh hd hu (wpAny_mono h (fun _ _ x => x) fun _ _ x => x.elim))
theorem seg_loop {M : Model} {A : Around} {R : GenEnd} {Y : Protocol} {c : Code} {fs : List Frame} (J : Nat → Nat → Shared → Shared → Prop)
    (turn : ∀ k n s₀ s, J k n s₀ s → (∀ k' n' s₀' s', k' < k → J k' n' s₀' s' → Seg M A R Y n' s₀' c (M.den c) fs s') → Seg M A R Y n s₀ c (M.den c) fs s) :
    ∀ k n s₀ s, J k n s₀ s → Seg M A R Y n s₀ c (M.den c) fs s := by
  have all : ∀ N k, k < N → ∀ n s₀ s, J k n s₀ s → Seg M A R Y n s₀ c (M.den c) fs s := by
    intro N
    induction N with
    | zero => intro k h; exact absurd h (Nat.not_lt_zero _)
    | succ N ih => exact fun k h n s₀ s hJ => turn k n s₀ s hJ fun k' n' s₀' s' hk hJ' => ih k' (Nat.lt_of_lt_of_le hk (Nat.le_of_lt_succ h)) n' s₀' s' hJ'
  exact fun k => all _ k (Nat.lt_succ_self _)
section
variable {prog : Program} {w : World} {A : Around} {E : Value → Shared → Prop} {s : Shared} {h₀ : Heap} {L st : Addr} {m : Str → Option Value} {news : List (Addr × Obj)} {its : Array Value} {n : Nat}
theorem sizeLine_big : 1000000 ≤ sizeLine := by rw [sizeLine_eq]; decide
theorem m_truthy {Q : Bool → Shared → Prop} (N : News h₀ L s.heap news) (hm : (st, listOf its n) ∈ news) (hz : its.size ≤ 1000000) (h : ∀ tk, Q (!its.isEmpty) { s with toks := tk }) : wpAny (model prog w) A (truthy (.ref st)) Q E s := by
  refine wpAny_truthy_list (items := its) ⟨_, N.get hm, rfl, _, rfl⟩ (by omega) ?_
  exact h _
theorem kl_last_snoc (y : Value) : ∀ p : List Value, kl_last (p ++ [y]) = some (p, y) := kpa_last y
theorem m_pop {us : List Value} {y : Value} {Q : Value → Shared → Prop} (F : Fr h₀ L s.heap m) (N : News h₀ L s.heap ((st, listOf (us ++ [y]).toArray n) :: news)) (off : ∀ p ∈ news, p.1 ≠ st) (hz : us.length < 1000000)
    (h : ∀ h', Fr h₀ L h' m → News h₀ L h' ((st, listOf us.toArray (n + 1)) :: news) → Q y { s with heap := h' }) : wpAny (model prog w) A (call (.builtin "list.pop") [.ref st]) Q E s := by
  refine kl_pop F N (p := us) (y := y) (by simpa using kpa_last y us) (Upd.head off) ?_ h
  have := sizeLine_big
  simp only [List.length_append, List.length_singleton]
  omega
end
end Mine
end

section
example : True ∧ True := by
  w_top off
  first | (walk1; done) | exact ⟨trivial, trivial⟩
open PySem PySem.W PySem.Calls PyProof.Rows
set_option maxRecDepth 100000
set_option maxHeartbeats 4000000
namespace Mine
/-- a generator was made: its object is new, nothing else has turned -/
def GenMade (prog : Program) (w : World) (A : Around) (H : Heap) (all : List Value) (s : Shared) (v : Value) (s' : Shared) : Prop :=
  ∃ ga, v = .ref ga ∧ Keep s.heap s'.heap ∧ s.heap.get? ga = none ∧ s.heap.get? (ga - 1) = none ∧ s'.os = s.os ∧ s'.gens.size = s.gens.size + 1 ∧ (∀ i, i < s.gens.size → s'.gens[i]? = s.gens[i]?) ∧ (BareAll s.gens → BareAll s'.gens) ∧
    (s'.heap.get? (ga - 1)).isSome = true ∧ s'.heap.IsGen ga s.gens.size ∧ ∀ us, ga ∉ us → ga - 1 ∉ us → (∀ b ∈ us, H.get? b = none) → GenAt prog w A H us ga s.gens.size all all s'
local macro_rules | `(tactic| k_inst) => `(tactic| (refine' instOf_base ?F ?h1 ?h2; (case F => k_asm); (case h1 => assumption); (case h2 => assumption)))
section
variable {prog : Program} {w : World} {A : Around} {s : Shared} {p : Program} {loose : List Str} {mg mb : Str → Option Value} {Q E : Value → Shared → Prop}
theorem topdown_call {n : Nd} (X : (hd.heap_39 w.params).In s.heap) (T : TopRead p loose mg mb s.heap) (hh : A.handled = none) (hd : A.depth ≤ 600) (hu : A.units ≤ 4000)
   (hR : Rep w.params (hf s.heap) n) (hsz : n.size ≤ 1000)
   (hQ : ∀ v s', GenMade prog w (Ar 600 4000).in1 s.heap ((treesOf (pre n)).map Nd.val) s v s' → Q v s') :
   wpAny (model prog w) A (call (.ref 90) [n.val]) Q E s := by
  refine to_Ar 600 4000 hh hd hu ?_
  refine' genB [(Str.ofString "self", n.val)] ?kK ?kL ?k6 ?k7 ?k8 ?k9 ?kB ?_ ?c5 ?c2 ?c3 ?c4
  case kK => assumption
  case kL => exact TopRead.nolimit (by assumption)
  case k6 => k_is
  case k7 => k_is
  case k8 => show (600 : Nat) < 1000; decide
  case k9 => exact BindsTo.of_eq rfl
  case kB => exact rfl
  case c5 => decide
  case c2 => exact rfl
  case c3 => exact rfl
  case c4 => exact rfl
  intro L h₁ tk hL F hg
  have hLn : s.heap.get? L = none := fresh_of (Nat.le_of_eq hL.symm)
  have hgn : s.heap.get? (L + 1) = none := fresh_of (hL ▸ Nat.le_succ _)
  refine hQ _ _ ⟨L + 1, rfl, F.keep, hgn, hLn, rfl, by simp, fun i hi => ?_, fun hb y hy => ?_, (by obtain ⟨oL, _, _, ho, _⟩ := F.ns; show (h₁.get? L).isSome = true; rw [ho]; rfl), hg, fun us h1 h2 h3 => ?_⟩
  · show (s.gens.push _)[i]? = s.gens[i]?
    rw [Array.getElem?_push_lt hi, Array.getElem?_eq_getElem hi]
  · rcases Array.mem_push.mp hy with hy | rfl
    · exact hb y hy
    · rfl
  have hLu : L ∉ us := h2
  refine gen_fresh hg h1 (TopRead.nolimit (by assumption)) h3 F.keep (Array.getElem?_push_size ..) ?_
  intro s'' hgf _
  have F₁ : Fr s.heap L s''.heap _ := ⟨F.ns.at' fun o e => hgf.keep _ _ hLu e, fun b o e => hgf.keep _ _ (fun hm => by rw [h3 b hm] at e; cases e) (F.keep b o e), F.above⟩
  refine seg_func ?_
  refine seg_execs_cons ?_
  refine seg_plain 620 4100 rfl (Nat.le_of_ble_eq_true rfl) (Nat.le_of_ble_eq_true rfl) ?_
  have N₁ : News s.heap L s''.heap (snap ((L+1) :: us) s''.heap) := snap_news (by
    intro b hb
    rcases List.mem_cons.mp hb with rfl | hb
    · exact fresh_of (hL ▸ Nat.le_succ _)
    · exact h3 b hb) (by
    intro hb
    rcases List.mem_cons.mp hb with hb | hb
    · exact absurd hb (Nat.ne_of_lt (Nat.lt_succ_self _))
    · exact hLu hb)
  have hb₁ := F₁.keep
  repeat' walk1
  rename_i st _ hst _ F' N'
  dsimp only
  refine seg_execs_cons ?_
  refine seg_While fun pw => ?_
  refine seg_loop (fun k n' s₀ s₁ => ∃ S ep m, k = sizeL S ∧ sizeL S ≤ 1000 ∧ n' = (treesOf (preL S.reverse)).length ∧ (∃ pre', (treesOf (pre n)).map Nd.val = pre' ++ (treesOf (preL S.reverse)).map Nd.val) ∧ RepL w.params (hf s.heap) S ∧
    (∀ b o, s.heap.get? b = some o → s₀.heap.get? b = some o) ∧ (∀ b ∈ (L + 1) :: us, ∃ o, s₀.heap.get? b = some o) ∧ st ∉ (L + 1) :: us ∧ st ≠ L ∧ m (Str.ofString "stack") = some (.ref st) ∧
    (∃ h tk, s₁ = { s₀ with heap := h, toks := tk } ∧ Fr s.heap L h m ∧ News s.heap L h ((st, listOf (S.map Nd.val).toArray ep) :: snap ((L + 1) :: us) s₀.heap))) ?_ (sizeL [n]) _ s'' _ ?_
  · rintro k n' s₀ _ ⟨S, ep, m, rfl, hsS, rfl, ⟨pre', hpre⟩, hRep, hb₀, hlive, hst1, hst2, hm, h, tk, rfl, F₂, N₂⟩ ih
    refine gseg_whileLoop rfl (to_Ar 620 4100 rfl (Nat.le_of_ble_eq_true rfl) (Nat.le_of_ble_eq_true rfl) ?_)
    rw [upd_self hm] at F₂
    walk1
    walk1
    refine m_truthy N₂ (.head _) (by have := length_le_sizeL S; simp; omega) fun tk₂ => ?_
    rcases List.eq_nil_or_concat S with rfl | ⟨S', x, rfl⟩
    · refine (if_neg (by simp)).mpr ?_
      refine gseg_back ?_
      refine seg_execs_nil ?_
      refine seg_end (.ok (.ret .none)) ⟨rfl, rfl, chg_of_snap hb₀ F₂ N₂ fun p hp => .tail _ hp⟩
    · refine (if_pos (by simp)).mpr ?_
      refine seg_execs_cons ?_
      refine seg_plain 620 4100 rfl (Nat.le_of_ble_eq_true rfl) (Nat.le_of_ble_eq_true rfl) ?_
      repeat' walk1
      simp only [List.concat_eq_append, List.map_append, List.map_cons, List.map_nil] at N₂ hRep hpre ih ⊢
      have hsS' : S'.length + 1 ≤ 1000 := by have := length_le_sizeL (S' ++ [x]); simp at this hsS; omega
      refine m_pop (us := S'.map Nd.val) F₂ N₂ (snap_ne hst1) (by simp; omega) fun h₃ F₃ N₃ => ?_
      walk1
      rename_i h₄ F₄ N₄
      refine seg_execs_cons ?_
      have hx := (repL_append.mp hRep).2.1
      have hS := (repL_append.mp hRep).1
      cases x with
      | tok a ty v =>
        obtain ⟨dx, t1, t2, t3, t4, hx1, hx2⟩ := hx
        refine gseg_If (to_Ar 620 4100 rfl (Nat.le_of_ble_eq_true rfl) (Nat.le_of_ble_eq_true rfl) ?_)
        repeat' walk1
        refine seg_execs_cons ?_
        refine seg_plain 620 4100 rfl (Nat.le_of_ble_eq_true rfl) (Nat.le_of_ble_eq_true rfl) ?_
        walk1
        refine seg_again rfl ?_
        have e : treesOf (preL (S' ++ [Nd.tok a ty v]).reverse) = treesOf (preL S'.reverse) := by simp [preL, pre, treesOf, Nd.isTree]
        rw [e] at hpre ⊢
        refine ih (sizeL S') _ _ _ (by rw [sizeL_append]; simp [sizeL, Nd.size]) ⟨S', _, _, rfl, (by rw [List.concat_eq_append, sizeL_append] at hsS; omega), rfl, ⟨pre', hpre⟩, hS, hb₀, hlive, hst1, hst2, ?_, _, _, rfl, F₄, N₄⟩
        rfl
      | tree a dx l d ks =>
        obtain ⟨⟨t1, t2, t3, t4, hx1, hx2⟩, ⟨nl, hl⟩, hks⟩ := hx
        have e : treesOf (preL (S' ++ [Nd.tree a dx l d ks]).reverse) = Nd.tree a dx l d ks :: treesOf (preL (S' ++ ks.reverse).reverse) := by
          simp only [List.reverse_append, List.reverse_cons, List.reverse_nil, List.nil_append, List.cons_append, preL, pre, List.reverse_reverse, treesOf_tree, preL_append]
        have hsz4 : sizeL S' + (1 + sizeL ks) ≤ 1000 := by
          have e4 : sizeL (S'.concat (Nd.tree a dx l d ks)) = sizeL S' + (1 + sizeL ks) := by simp [sizeL_append, sizeL, Nd.size]
          rw [← e4]; exact hsS
        rw [e] at hpre ⊢
        refine gseg_If (to_Ar 620 4100 rfl (Nat.le_of_ble_eq_true rfl) (Nat.le_of_ble_eq_true rfl) ?_)
        repeat' walk1
        refine seg_execs_nil ?_
        refine seg_execs_cons ?_
        refine seg_Expr_Yield rfl rfl rfl (to_Ar 620 4100 rfl (Nat.le_of_ble_eq_true rfl) (Nat.le_of_ble_eq_true rfl) (wpAny_mono (E := fun _ _ => False) ?_ (fun _ _ x => x) fun _ _ x => x.elim))
        walk1
        intro kap hkap
        refine ⟨?_, chg_of_snap hb₀ F₄ N₄ fun p hp => .tail _ hp, fun s₂ hs₂ _ => hkap _ _ ?_⟩
        · rw [hpre]
          simp
        dsimp only
        have F₅ : Fr s.heap L s₂.heap _ := ⟨F₄.ns.at' fun o e => hs₂.keep _ _ hLu e, fun b o e => hs₂.keep _ _ (fun hm => by rw [h3 b hm] at e; cases e) (F₄.keep b o e), F₄.above⟩
        have N₅ : News s.heap L s₂.heap ((st, listOf (List.map Nd.val S').toArray (ep + 1)) :: snap ((L + 1) :: us) s₂.heap) :=
          news_cons F₅ (snap_news (by
            intro b hb
            rcases List.mem_cons.mp hb with rfl | hb
            · exact fresh_of (hL ▸ Nat.le_succ _)
            · exact h3 b hb) (by
            intro hb
            rcases List.mem_cons.mp hb with hb | hb
            · exact absurd hb (Nat.ne_of_lt (Nat.lt_succ_self _))
            · exact hLu hb)) (hs₂.keep _ _ (fun hm => hst1 (.tail _ hm)) (N₄ _ (.head _)).1) (N₄ _ (.head _)).2.2 hst2
        refine seg_execs_cons ?_
        refine seg_plain 620 4100 rfl (Nat.le_of_ble_eq_true rfl) (Nat.le_of_ble_eq_true rfl) ?_
        refine wpAny_For ?_
        repeat' walk1
        have hlen : ks.length ≤ 1000 := by have := length_le_sizeL ks; omega
        refine krv_reversed (vs := ks.map Nd.val) F₅ N₅ ⟨_, F₅.keep _ _ hl, rfl, _, rfl⟩ fun it h₆ F₆ N₆ hit => ?_
        refine wpAny_pyIter_revIter ⟨_, (N₆ _ (.head _)).1, rfl, rfl⟩ ?_
        have hit' := hit _ (.head _)
        refine for_any (fun k σ => ∃ h tk m ob ep', k ≤ ks.length ∧ σ = { s₂ with heap := h, toks := tk } ∧ Fr s.heap L h m ∧ m (Str.ofString "stack") = some (.ref st) ∧
          News s.heap L h ((it, ob) :: (st, listOf ((S' ++ (ks.drop k).reverse).map Nd.val).toArray ep') :: snap ((L + 1) :: us) s₂.heap) ∧ RevIs ob l ((k : Int) - 1)) ?_ ks.length
          ⟨h₆, _, _, _, _, Nat.le_refl _, rfl, F₆, rfl, by simpa using N₆, rfl, rfl⟩
        rintro k _ ⟨h, tk, m₇, ob, ep', hk, rfl, F₇, hm₇, N₇, hob⟩
        have off : ∀ p ∈ (st, listOf ((S' ++ (ks.drop k).reverse).map Nd.val).toArray ep') :: snap ((L + 1) :: us) s₂.heap, p.1 ≠ it := by
          intro p hp
          rcases List.mem_cons.mp hp with rfl | hp
          · exact Nat.ne_of_lt hit'
          · exact Nat.ne_of_lt (hit p (.tail _ hp))
        cases k with
        | zero =>
          refine next_rev_end rfl F₇ N₇ off hob fun h₈ F₈ N₈ => ?_
          dsimp only
          refine seg_execs_nil ?_
          refine seg_again rfl ?_
          rw [List.drop_zero] at N₈
          refine ih (sizeL (S' ++ ks.reverse)) _ _ _ (by rw [sizeL_append, sizeL_append, sizeL_reverse]; simp [sizeL, Nd.size] <;> omega)
            ⟨S' ++ ks.reverse, _, m₇, rfl, (by rw [sizeL_append, sizeL_reverse]; omega), rfl, ⟨pre' ++ [(Nd.tree a dx l d ks).val], by rw [hpre]; simp⟩,
              repL_append.mpr ⟨hS, repL_iff.mpr fun y hy => repL_iff.mp hks y (List.mem_reverse.mp hy)⟩, fun b o e => F₅.keep b o e, ?_, hst1, hst2, hm₇, _, _, rfl, F₈, N₈⟩
          intro b hb
          rcases List.mem_cons.mp hb with rfl | hb
          · obtain ⟨o, ho⟩ := hlive (L + 1) (.head _)
            exact ⟨o, hs₂.keep _ _ h1 (N₄ _ (.tail _ (mem_snap.mpr ⟨.head _, ho⟩))).1⟩
          · exact hs₂.live b hb
        | succ k =>
          refine next_rev F₇ N₇ off (by simpa using hob) ⟨_, F₇.keep _ _ hl, rfl, _, rfl⟩ (x := (ks[k]'hk).val) (by rw [List.getElem?_toArray, List.getElem?_map, List.getElem?_eq_getElem hk]; rfl) fun h₈ ob₈ F₈ N₈ hob₈ => ?_
          show wpAny _ _ (pure ()) _ _ _
          refine wpAny_pure ?_
          rw [upd_self hm₇] at F₈
          repeat' walk1
          rename_i h₉ F₉ N₉
          refine append_K F₉ N₉ (Upd.tail (Nat.ne_of_gt hit') (Upd.head (snap_ne hst1))) (fun h₀' F₀' N₀' => ?_) ?_
          · repeat' walk1
            refine ⟨k, Nat.lt_succ_self k, _, _, _, ob₈, ep' + 1, Nat.le_of_succ_le hk, rfl, F₀', rfl, ?_, hob₈⟩
            have e2 : ks.drop k = ks[k]'hk :: ks.drop (k + 1) := List.drop_eq_getElem_cons hk
            have e3 : ((S' ++ (ks.drop k).reverse).map Nd.val).toArray = ((S' ++ (ks.drop (k + 1)).reverse).map Nd.val).toArray.push (ks[k]'hk).val := by
              rw [e2, List.reverse_cons, ← List.append_assoc, List.map_append, List.push_toArray]
              rfl
            rw [e3]
            exact N₀'
          · have := sizeLine_big
            simp
            omega
  · have hlive : ∀ b ∈ (L + 1) :: us, ∃ o, s''.heap.get? b = some o := by
      intro b hb
      rcases List.mem_cons.mp hb with rfl | hb
      · obtain ⟨o, _, _, ho, _⟩ := hg
        exact ⟨o, hgf.keep _ _ h1 ho⟩
      · exact hgf.live b hb
    exact ⟨[n], 0, _, rfl, by simp [sizeL]; exact hsz, by simp [preL], ⟨[], by simp [preL]⟩, ⟨hR, trivial⟩, hb₁, hlive, fun hm => (let ⟨o, ho⟩ := hlive _ hm; Nat.lt_irrefl _ (hst _ (mem_snap.mpr ⟨hm, ho⟩))), (N' _ (.head _)).2.1, rfl, _, _, rfl, F', N'⟩
end
end Mine
end

section
example : True ∧ True := by
  w_top off
  first | (walk1; done) | exact ⟨trivial, trivial⟩
open PySem PySem.W PySem.Calls PyProof.Rows
set_option maxRecDepth 100000
set_option maxHeartbeats 4000000
namespace Mine
/-- what a run leaves of the rest of the state: the elder generators, the outer world -/
structure Rest (g : Nat) (s₀ s : Shared) : Prop where
  gens : ∀ i, i < g → s.gens[i]? = s₀.gens[i]?
  os : s.os = s₀.os
  gsize : s₀.gens.size ≤ s.gens.size
  bare : BareAll s₀.gens → BareAll s.gens
theorem Rest.refl {g : Nat} {s : Shared} : Rest g s s := ⟨fun _ _ => rfl, rfl, Nat.le_refl _, id⟩
theorem Rest.trans {g : Nat} {a b c : Shared} (x : Rest g a b) (y : Rest g b c) : Rest g a c :=
  ⟨fun i h => (y.gens i h).trans (x.gens i h), y.os.trans x.os, Nat.le_trans x.gsize y.gsize, fun h => y.bare (x.bare h)⟩
theorem Rest.same {g : Nat} {a b : Shared} (x : Rest g a b) {h : Heap} {tk : Nat} : Rest g a { b with heap := h, toks := tk } := ⟨x.gens, x.os, x.gsize, x.bare⟩
theorem Rest.lower {g g' : Nat} {a b : Shared} (x : Rest g' a b) (h : g ≤ g') : Rest g a b := ⟨fun i hi => x.gens i (Nat.lt_of_lt_of_le hi h), x.os, x.gsize, x.bare⟩
theorem GChg.rest {base : Heap} {g : Nat} {us : List Addr} {a b : Shared} (x : GChg base g us a b) : Rest g a b := ⟨x.gens, x.os, x.gsize, x.bare⟩
theorem chg_of_rest {base : Heap} {L : Addr} {m : Str → Option Value} {l : List Addr} {g : Nat} {s₀ s : Shared} {news : List (Addr × Obj)}
    (F : Fr base L s.heap m) (N : News base L s.heap news) (hs : ∀ p ∈ snap l s₀.heap, p ∈ news) (R : Rest g s₀ s) : GChg base g l s₀ s :=
  ⟨fun b o h1 _ => F.keep b o h1, fun _ _ hm e => (N _ (hs _ (mem_snap.mpr ⟨hm, e⟩))).1, R.gens, R.os, R.gsize, R.bare⟩
/-- a function object of the ground, told of tokens -/
def PredOk (prog : Program) (w : World) (H : Heap) (fa : Addr) (pz : Nd → Bool) : Prop :=
  (∃ fo fd, H.get? fa = some fo ∧ fo.data = .func fd) ∧
  ∀ n, n.isTree = false → Rep w.params (hf H) n → ∀ (A : Around) (s : Shared) (Q E : Value → Shared → Prop), A.handled = none → A.depth ≤ 950 → A.units ≤ 9500 → (∀ b o, H.get? b = some o → s.heap.get? b = some o) →
    (∀ h' tk, Keep s.heap h' → Q (.bool (pz n)) { s with heap := h', toks := tk }) → wpAny (model prog w) A (call (.ref fa) [n.val]) Q E s
theorem callWith_F {M : Model} {A : Around} {E : Value → Shared → Prop} {s : Shared} {env : Env} {pos : Pos} {first : List Value} {Q : Value → Shared → Prop} {fa : Addr} {fo : Obj} {fd : FuncData} {e : Expr} {rest : List Expr} (hd : fo.data = .func fd)
    (h : wpAny M A (spliced (backTo pos (starEach (e :: rest) env))) (fun vs s₁ => s₁.heap.get? fa = some fo ∧ wpAny M A (call (.ref fa) (first ++ vs)) Q E s₁) E s)
    (he : starEach (e :: rest) env = (false, eval e env) :: starEach rest env := by rfl) (hplain : (backTo pos (starEach rest env)).any (·.1) = false := by rfl) :
    wpAny M A (callWith pos (.ref fa) first (backTo pos (starEach (e :: rest) env)) []) Q E s := by
  rw [he] at h ⊢
  refine callWith_of (P := fun h => h.get? fa = some fo) (by show ((false || (backTo pos (starEach rest env)).any (·.1)) || false) = false; rw [hplain]; rfl) (fun h hp => ⟨.frame, .inl rfl, ?_⟩) (evalArgs_plain h)
  refine (Looks.ld (part := none) hp).andThen ?_
  rw [hd]
  exact .now
local macro_rules | `(tactic| k_inst) => `(tactic| (refine' instOf_base ?F ?h1 ?h2; (case F => k_asm); (case h1 => assumption); (case h2 => assumption)))
section
variable {prog : Program} {w : World} {p : Program} {loose : List Str} {mg mb : Str → Option Value}
abbrev toksIf (pz : Nd → Bool) (ns : List Nd) : List Nd := (toksOf ns).filter pz
theorem toksIf_append (pz : Nd → Bool) (a b : List Nd) : toksIf pz (a ++ b) = toksIf pz a ++ toksIf pz b := by simp [toksIf, toksOf]
theorem toksIf_tok {pz : Nd → Bool} {a : Addr} {ty : Str} {v : Int} {r : List Nd} : toksIf pz (preL (.tok a ty v :: r)) = (if pz (.tok a ty v) then [.tok a ty v] else []) ++ toksIf pz (preL r) := by
  have e : preL (.tok a ty v :: r) = [.tok a ty v] ++ preL r := rfl
  rw [e, toksIf_append]
  cases h : pz (.tok a ty v) <;> simp [toksIf, toksOf, Nd.isTree, h]
theorem toksIf_tree {pz : Nd → Bool} {a dx l : Addr} {d : Str} {ks r : List Nd} : toksIf pz (preL (.tree a dx l d ks :: r)) = toksIf pz (preL ks) ++ toksIf pz (preL r) := by
  have e : preL (.tree a dx l d ks :: r) = (.tree a dx l d ks :: preL ks) ++ preL r := rfl
  rw [e, toksIf_append]
  rfl
theorem scan_call {H : Heap} {fa : Addr} {pz : Nd → Bool} (X : (hd.heap_39 w.params).In H) (T : TopRead p loose mg mb H) (hp : PredOk prog w H fa pz) : ∀ (k : Nat) (n : Nd), n.isTree = true → n.height ≤ k → k ≤ 20 → Rep w.params (hf H) n → n.size ≤ 1000 →
   ∀ (A : Around) (s : Shared) (Q E : Value → Shared → Prop), A.handled = none → A.depth ≤ 905 → A.units ≤ 9050 → (∀ b o, H.get? b = some o → s.heap.get? b = some o) → H.objs.size ≤ s.heap.objs.size →
   (∀ v s', GenMade prog w (Ar (900 - 4 * k) (9000 - 50 * k)).in1 H ((toksIf pz (preL n.kids)).map Nd.val) s v s' → Q v s') →
   wpAny (model prog w) A (call (.ref 125) [n.val, .ref fa]) Q E s := by
  intro k
  induction k with
  | zero =>
    intro n ht hk
    cases n with
    | tok => cases ht
    | tree => simp [Nd.height] at hk
  | succ k ih =>
  intro n ht hk h20 hR hsz A s Q E hh hd hu hH hHs hQ
  refine to_Ar 905 9050 hh hd hu ?_
  refine' genB [(Str.ofString "self", n.val), (Str.ofString "pred", .ref fa)] ?kK ?kL ?k6 ?k7 ?k8 ?k9 ?kB ?_ ?c5 ?c2 ?c3 ?c4
  case kK => exact X.keeps hH
  case kL => exact (TopRead.nolimit T).keeps hH
  case k6 => k_is
  case k7 => k_is
  case k8 => show (905 : Nat) < 1000; decide
  case k9 => exact BindsTo.of_eq rfl
  case kB => exact rfl
  case c5 => decide
  case c2 => exact rfl
  case c3 => exact rfl
  case c4 => exact rfl
  intro L h₁ tk hL F hg
  have hLn : s.heap.get? L = none := fresh_of (Nat.le_of_eq hL.symm)
  have hgn : s.heap.get? (L + 1) = none := fresh_of (hL ▸ Nat.le_succ _)
  have hHL : H.get? L = none := by
    cases q : H.get? L with
    | none => rfl
    | some o => rw [hH _ _ q] at hLn; cases hLn
  have hHg : H.get? (L + 1) = none := by
    cases q : H.get? (L + 1) with
    | none => rfl
    | some o => rw [hH _ _ q] at hgn; cases hgn
  refine hQ _ _ ⟨L + 1, rfl, F.keep, hgn, hLn, rfl, by simp, fun i hi => ?_, fun hb y hy => ?_, (by obtain ⟨oL, _, _, ho, _⟩ := F.ns; show (h₁.get? L).isSome = true; rw [ho]; rfl), hg, fun us h1 h2 h3 => ?_⟩
  · show (s.gens.push _)[i]? = s.gens[i]?
    rw [Array.getElem?_push_lt hi, Array.getElem?_eq_getElem hi]
  · rcases Array.mem_push.mp hy with hy | rfl
    · exact hb y hy
    · rfl
  have hLu : L ∉ us := h2
  refine gen_fresh hg h1 (TopRead.nolimit T) h3 (fun b o e => F.keep b o (hH b o e)) (Array.getElem?_push_size ..) ?_
  intro s'' hgf hgl0
  have F₁ : Fr H L s''.heap _ := ⟨F.ns.at' fun o e => hgf.keep _ _ hLu e, fun b o e => hgf.keep _ _ (fun hm => by rw [h3 b hm] at e; cases e) (F.keep b o (hH b o e)), Nat.le_trans hHs F.above⟩
  cases n with
  | tok => cases ht
  | tree a dx l d ks =>
  obtain ⟨⟨t1, t2, t3, t4, hx1, hx2⟩, ⟨nl, hl⟩, hks⟩ := hR
  have hkH : ∀ c ∈ ks, c.height ≤ k := fun c hc => by have := height_le_of_mem hc; simp [Nd.height] at hk; omega
  have hsum : sizeL ks ≤ 1000 := by simp [Nd.size] at hsz; omega
  have hb₁ := F₁.keep
  have hL1 : L ≠ L + 1 := Nat.ne_of_lt (Nat.lt_succ_self _)
  have snapN : ∀ σ : Heap, News H L σ (snap ((L + 1) :: us) σ) := fun σ => snap_news (by
    intro b hb
    rcases List.mem_cons.mp hb with rfl | hb
    · exact hHg
    · exact h3 b hb) (by
    intro hb
    rcases List.mem_cons.mp hb with hb | hb
    · exact absurd hb hL1
    · exact hLu hb)
  have N₁ := snapN s''.heap
  have hlive : ∀ b ∈ (L + 1) :: us, ∃ o, s''.heap.get? b = some o := by
    intro b hb
    rcases List.mem_cons.mp hb with rfl | hb
    · obtain ⟨o, _, _, ho, _⟩ := hg
      exact ⟨o, hgf.keep _ _ h1 ho⟩
    · exact hgf.live b hb
  refine seg_func ?_
  refine seg_execs_cons ?_
  refine gseg_For ?_ (fun _ => rfl)
  refine to_Ar 905 9050 rfl (Nat.le_trans (Nat.le_of_eq (rfl : _ = 900 - 4 * (k + 1) + 1)) (by omega)) (Nat.le_trans (Nat.le_of_eq (rfl : _ = 9000 - 50 * (k + 1) + 4)) (by omega)) ?_
  repeat' walk1
  refine iter_lit F₁ N₁ ⟨_, hb₁ _ _ hl, rfl, _, rfl⟩ fun it h₂ ob F₂ N₂ hob hit hitn => ?_
  intro p₁
  have hit1 : it ∉ (L + 1) :: us := fun hm => let ⟨o, ho⟩ := hlive _ hm; Nat.lt_irrefl _ (hit _ (mem_snap.mpr ⟨hm, ho⟩))
  have hitL : it ≠ L := (N₂ _ (.head _)).2.1
  have hitH : H.get? it = none := (N₂ _ (.head _)).2.2
  generalize hall : (toksIf pz (preL (Nd.tree a dx l d ks).kids)).map Nd.val = all at *
  refine seg_loop (fun j n' s₀ σ => ∃ i m ob, i + j = ks.length ∧ n' = ((toksIf pz (preL (ks.drop i))).map Nd.val).length ∧ (∃ pre', all = pre' ++ (toksIf pz (preL (ks.drop i))).map Nd.val) ∧
    (∀ b o, H.get? b = some o → s₀.heap.get? b = some o) ∧ (∀ b ∈ (L + 1) :: us, ∃ o, s₀.heap.get? b = some o) ∧ Rest s.gens.size s₀ σ ∧ s.gens.size < s₀.gens.size ∧ m (Str.ofString "pred") = some (.ref fa) ∧
    Fr H L σ.heap m ∧ News H L σ.heap ((it, ob) :: snap ((L + 1) :: us) s₀.heap) ∧ LitIs ob l i) ?_ ks.length _ s'' _ ?_
  · rintro j n' s₀ σ ⟨i, m, ob, hij, rfl, ⟨pre', hpre⟩, hb₀, hl₀, hrest, hgs, hm, F₃, N₃, hob₃⟩ ihj
    refine gseg_forLoop rfl ?_
    refine to_Ar 905 9050 rfl (Nat.le_trans (Nat.le_of_eq (rfl : _ = 900 - 4 * (k + 1) + 1)) (by omega)) (Nat.le_trans (Nat.le_of_eq (rfl : _ = 9000 - 50 * (k + 1) + 4)) (by omega)) ?_
    have off : ∀ p ∈ snap ((L + 1) :: us) s₀.heap, p.1 ≠ it := snap_ne hit1
    by_cases hi : i < ks.length
    · refine next_lit F₃ N₃ off hob₃ ⟨_, F₃.keep _ _ hl, rfl, _, rfl⟩ (x := (ks[i]'hi).val) (by rw [List.getElem?_toArray, List.getElem?_map, List.getElem?_eq_getElem hi]; rfl) fun h₄ ob₄ F₄ N₄ hob₄ => ?_
      have ed : ks.drop i = ks[i]'hi :: ks.drop (i + 1) := List.drop_eq_getElem_cons hi
      have hx := repL_iff.mp hks _ (List.getElem_mem hi)
      have hxk := hkH _ (List.getElem_mem hi)
      have hxs : (ks[i]'hi).size ≤ 1000 := by
        have e1 := sizeL_append (ks.take i) (ks.drop i)
        rw [List.take_append_drop, ed] at e1
        simp only [sizeL] at e1
        omega
      generalize ks[i]'hi = x at hx ed hxk hxs ⊢
      refine wpAny_mono (E := fun _ _ => False) (Q := fun _ σ' => σ' = _ ) (wpAny_pure rfl : wpAny _ _ (pure ()) _ _ _) (fun _ σ' e => ?_) fun _ _ x => x.elim
      subst e
      rw [upd_self hm] at F₄
      refine to_Ar 905 9050 rfl (Nat.le_trans (Nat.le_of_eq (rfl : _ = 900 - 4 * (k + 1) + 1)) (by omega)) (Nat.le_trans (Nat.le_of_eq (rfl : _ = 9000 - 50 * (k + 1) + 4)) (by omega)) ?_
      repeat' walk1
      rename_i h₅ F₅ N₅
      refine seg_execs_cons ?_
      refine gseg_If ?_
      refine to_Ar 905 9050 rfl (Nat.le_trans (Nat.le_of_eq (rfl : _ = 900 - 4 * (k + 1) + 1)) (by omega)) (Nat.le_trans (Nat.le_of_eq (rfl : _ = 9000 - 50 * (k + 1) + 4)) (by omega)) ?_
      cases x with
      | tok a' ty v =>
        have hx' := hx
        obtain ⟨dx', u1, u2, u3, u4, hy1, hy2⟩ := hx
        obtain ⟨⟨fo, fd, hf1, hf2⟩, hp2⟩ := hp
        repeat' walk1
        refine seg_execs_cons ?_
        refine gseg_If ?_
        refine to_Ar 905 9050 rfl (Nat.le_trans (Nat.le_of_eq (rfl : _ = 900 - 4 * (k + 1) + 1)) (by omega)) (Nat.le_trans (Nat.le_of_eq (rfl : _ = 9000 - 50 * (k + 1) + 4)) (by omega)) ?_
        repeat' walk1
        refine hp2 (.tok a' ty v) rfl hx' _ _ _ _ rfl (by show 905 ≤ 950; decide) (by show 9050 ≤ 9500; decide) F₅.keep fun h₇ tk₇ hk₇ => ?_
        have F₇ := fr_keep F₅ hk₇
        have N₇ := news_keep N₅ hk₇
        have hl₇ : ∀ b ∈ (L + 1) :: us, b ≠ it := fun b hb e => hit1 (e ▸ hb)
        cases hz : pz (.tok a' ty v) with
        | true =>
          have er : (toksIf pz (preL (ks.drop i))).map Nd.val = (Nd.tok a' ty v).val :: (toksIf pz (preL (ks.drop (i + 1)))).map Nd.val := by
            rw [ed, toksIf_tok, hz]; rfl
          rw [er] at hpre ⊢
          repeat' walk1
          refine seg_execs_cons ?_
          refine seg_Expr_Yield rfl rfl rfl (to_Ar 905 9050 rfl (Nat.le_trans (Nat.le_of_eq (rfl : _ = 900 - 4 * (k + 1) + 1)) (by omega)) (Nat.le_trans (Nat.le_of_eq (rfl : _ = 9000 - 50 * (k + 1) + 4)) (by omega)) (wpAny_mono (E := fun _ _ => False) ?_ (fun _ _ x => x) fun _ _ x => x.elim))
          walk1
          intro kap hkap
          refine ⟨?_, chg_of_rest F₇ N₇ (fun p hp => .tail _ hp) hrest.same, fun s₂ hs₂ hgl₂ => hkap _ _ ?_⟩
          · rw [hpre]
            simp
          have F₈ : Fr H L s₂.heap _ := ⟨F₇.ns.at' fun o e => hs₂.keep _ _ hLu e, fun b o e => hs₂.keep _ _ (fun hm => by rw [h3 b hm] at e; cases e) (F₇.keep b o e), F₇.above⟩
          have N₈ : News H L s₂.heap ((it, ob₄) :: snap ((L + 1) :: us) s₂.heap) := news_cons F₈ (snapN _) (hs₂.keep _ _ (fun hm => hit1 (.tail _ hm)) (N₇ _ (.head _)).1) hitH hitL
          refine seg_execs_nil ?_
          refine seg_execs_nil ?_
          refine seg_execs_nil ?_
          refine seg_again rfl ?_
          refine ihj (j - 1) _ s₂ _ (by omega) ⟨i + 1, _, ob₄, by omega, rfl, ⟨pre' ++ [(Nd.tok a' ty v).val], by rw [hpre]; simp⟩, F₈.keep, ?_, Rest.refl, ?_, rfl, F₈, N₈, hob₄⟩
          · intro b hb
            rcases List.mem_cons.mp hb with rfl | hb
            · obtain ⟨o, ho⟩ := hl₀ (L + 1) (.head _)
              exact ⟨o, hs₂.keep _ _ h1 (N₇ _ (.tail _ (mem_snap.mpr ⟨.head _, ho⟩))).1⟩
            · exact hs₂.live b hb
          · exact hgl₂
        | false =>
          have er : (toksIf pz (preL (ks.drop i))).map Nd.val = (toksIf pz (preL (ks.drop (i + 1)))).map Nd.val := by
            rw [ed, toksIf_tok, hz]; rfl
          rw [er] at hpre ⊢
          repeat' walk1
          refine seg_execs_nil ?_
          refine seg_execs_nil ?_
          refine seg_execs_nil ?_
          refine seg_again rfl ?_
          exact ihj (j - 1) _ s₀ _ (by omega) ⟨i + 1, _, ob₄, by omega, rfl, ⟨pre', hpre⟩, hb₀, hl₀, hrest.same, hgs, rfl, F₇, N₇, hob₄⟩
      | tree a' dx' l' d' ks' =>
        have hx' := hx
        obtain ⟨⟨u1, u2, u3, u4, hy1, hy2⟩, ⟨nl', hl'⟩, hks'⟩ := hx
        repeat' walk1
        refine seg_execs_cons ?_
        refine gseg_For ?_ (fun _ => rfl)
        refine to_Ar 905 9050 rfl (Nat.le_trans (Nat.le_of_eq (rfl : _ = 900 - 4 * (k + 1) + 1)) (by omega)) (Nat.le_trans (Nat.le_of_eq (rfl : _ = 9000 - 50 * (k + 1) + 4)) (by omega)) ?_
        repeat' walk1
        refine ih _ rfl hxk (by omega) hx' hxs _ _ _ _ rfl (Nat.le_refl _) (Nat.le_refl _) F₅.keep (Nat.le_trans F₅.above (Nat.le_of_lt F₅.ns.lt)) fun v₆ s₆ hgm => ?_
        obtain ⟨gi, rfl, hk₆, hn₆, hn₆', hos₆, hgz₆, hgg₆, hba₆, _, hig₆, hga₆⟩ := hgm
        have F₆ := fr_keep F₅ hk₆
        have N₆ := news_keep N₅ hk₆
        refine wpAny_pyIter_gen hig₆ ?_
        intro p₂
        have er : (toksIf pz (preL (ks.drop i))).map Nd.val = (toksIf pz (preL ks')).map Nd.val ++ (toksIf pz (preL (ks.drop (i + 1)))).map Nd.val := by
          rw [ed, toksIf_tree, List.map_append]
        rw [er] at hpre ⊢
        have usH : ∀ b ∈ L :: it :: (L + 1) :: us, H.get? b = none := by
          intro b hb
          rcases List.mem_cons.mp hb with rfl | hb
          · exact hHL
          rcases List.mem_cons.mp hb with rfl | hb
          · exact hitH
          rcases List.mem_cons.mp hb with rfl | hb
          · exact hHg
          · exact h3 b hb
        have usLive : ∀ {τ : Heap} {m' : Str → Option Value} {o : Obj} {s₀' : Heap}, Fr H L τ m' → News H L τ ((it, o) :: snap ((L + 1) :: us) s₀') → (∀ b ∈ (L + 1) :: us, ∃ o, s₀'.get? b = some o) → ∀ b ∈ L :: it :: (L + 1) :: us, ∃ o, τ.get? b = some o := by
          intro τ m' o s₀' F N hl b hb
          rcases List.mem_cons.mp hb with rfl | hb
          · obtain ⟨oL, _, _, ho, _⟩ := F.ns
            exact ⟨oL, ho⟩
          rcases List.mem_cons.mp hb with rfl | hb
          · exact ⟨_, (N _ (.head _)).1⟩
          · obtain ⟨o, ho⟩ := hl b hb
            exact ⟨o, (N _ (.tail _ (mem_snap.mpr ⟨hb, ho⟩))).1⟩
        have hgu : ∀ b ∈ L :: it :: (L + 1) :: us, gi ≠ b ∧ gi - 1 ≠ b := fun b hb => by
          obtain ⟨o, ho⟩ := usLive F₅ N₅ hl₀ b hb
          exact ⟨fun e => (by rw [e] at hn₆; exact absurd (hn₆.symm.trans ho) (by simp)), fun e => (by rw [e] at hn₆'; exact absurd (hn₆'.symm.trans ho) (by simp))⟩
        have hG₆ := hga₆ (L :: it :: (L + 1) :: us) (fun hm => (hgu _ hm).1 rfl) (fun hm => (hgu _ hm).2 rfl) usH
        have hgG : s.gens.size < σ.gens.size := Nat.lt_of_lt_of_le hgs hrest.gsize
        have hrest₆ : Rest s.gens.size s₀ s₆ := hrest.trans ⟨fun x hx => hgg₆ x (Nat.lt_trans hx hgG), hos₆, Nat.le_trans (Nat.le_succ _) (Nat.le_of_eq hgz₆.symm), hba₆⟩
        simp only [Nd.kids] at hG₆
        refine seg_loop (fun j' n' s₀ τ => ∃ vs m, j' = vs.length ∧ n' = (vs ++ (toksIf pz (preL (ks.drop (i + 1)))).map Nd.val).length ∧ (∃ pre', all = pre' ++ (vs ++ (toksIf pz (preL (ks.drop (i + 1)))).map Nd.val)) ∧
          (∀ b o, H.get? b = some o → s₀.heap.get? b = some o) ∧ (∀ b ∈ (L + 1) :: us, ∃ o, s₀.heap.get? b = some o) ∧ Rest s.gens.size s₀ τ ∧ s.gens.size < s₀.gens.size ∧ m (Str.ofString "pred") = some (.ref fa) ∧
          Fr H L τ.heap m ∧ News H L τ.heap ((it, ob₄) :: snap ((L + 1) :: us) s₀.heap) ∧ GenAt prog w (Ar (900 - 4 * k) (9000 - 50 * k)).in1 H (L :: it :: (L + 1) :: us) gi σ.gens.size ((toksIf pz (preL ks')).map Nd.val) vs τ) ?_ _ _ s₀ s₆
          ⟨_, _, rfl, rfl, ⟨pre', hpre⟩, hb₀, hl₀, hrest₆, hgs, rfl, F₆, N₆, hG₆⟩
        clear hpre hb₀ hl₀ hrest hgs F₆ N₆ hG₆ hrest₆ F₅ N₅
        rintro j' n' s₀ τ ⟨vs, m₇, rfl, rfl, ⟨pre'', hpre⟩, hb₀, hl₀, hrest, hgs, hm₇, F₇, N₇, hG₇⟩ ih'
        refine gseg_forLoop rfl ?_
        refine to_Ar (900 - 4 * k) (9000 - 50 * k) rfl (Nat.le_trans (Nat.le_of_eq (rfl : _ = 900 - 4 * (k + 1) + 1)) (by omega)) (Nat.le_trans (Nat.le_of_eq (rfl : _ = 9000 - 50 * (k + 1) + 4)) (by omega)) ?_
        have hlv := usLive F₇ N₇ hl₀
        have mvF : ∀ {τ' : Shared}, GChg H σ.gens.size (L :: it :: (L + 1) :: us) τ τ' → Fr H L τ'.heap m₇ := fun hc =>
          ⟨F₇.ns.at' fun o e => hc.keep _ _ (.head _) e, fun b o e => hc.ground b o e (F₇.keep b o e), F₇.above⟩
        have mvN : ∀ {τ' : Shared}, GChg H σ.gens.size (L :: it :: (L + 1) :: us) τ τ' → News H L τ'.heap ((it, ob₄) :: snap ((L + 1) :: us) s₀.heap) := fun hc p hp => by
          refine ⟨?_, (N₇ p hp).2⟩
          rcases List.mem_cons.mp hp with rfl | hp'
          · exact hc.keep _ _ (.tail _ (.head _)) (N₇ _ hp).1
          · exact hc.keep _ _ (.tail _ (.tail _ (snap_fst hp'))) (N₇ _ hp).1
        cases vs with
        | nil =>
          refine gen_done rfl (by show 900 - 4 * k < 1000; omega) hlv hG₇ fun τ' hc => ?_
          have F₈ := mvF hc
          have N₈ := mvN hc
          dsimp only
          refine gseg_back ?_
          refine seg_execs_nil ?_
          refine seg_execs_nil ?_
          refine seg_again rfl ?_
          exact ihj (j - 1) _ s₀ _ (by omega) ⟨i + 1, _, ob₄, by omega, rfl, ⟨pre'', hpre⟩, hb₀, hl₀, hrest.trans (hc.rest.lower (Nat.le_of_lt hgG)), hgs, hm₇, F₈, N₈, hob₄⟩
        | cons v vs =>
          refine gen_next rfl (by show 900 - 4 * k < 1000; omega) hlv hG₇ fun τ' hc hG₈ => ?_
          have F₈ := mvF hc
          have N₈ := mvN hc
          dsimp only
          refine wpAny_mono (E := fun _ _ => False) (Q := fun _ σ' => σ' = _ ) (wpAny_pure rfl : wpAny _ _ (pure ()) _ _ _) (fun _ σ' e => ?_) fun _ _ x => x.elim
          subst e
          refine wpAny_assign_Name (wpAny_storeName_local (by rfl) F₈.ns (fun h₉ hn₉ hs₉ => ?_) (by rfl))
          have F₉ := F₈.set hn₉ hs₉
          have N₉ : News H L h₉ _ := N₈.set hs₉
          refine seg_execs_cons ?_
          refine seg_Expr_Yield rfl rfl rfl (to_Ar 905 9050 rfl (Nat.le_trans (Nat.le_of_eq (rfl : _ = 900 - 4 * (k + 1) + 1)) (by omega)) (Nat.le_trans (Nat.le_of_eq (rfl : _ = 9000 - 50 * (k + 1) + 4)) (by omega)) (wpAny_mono (E := fun _ _ => False) ?_ (fun _ _ x => x) fun _ _ x => x.elim))
          refine nameX_L F₉ (v := v) rfl ?_ rfl rfl
          intro kap hkap
          have hrest₉ := (hrest.trans (hc.rest.lower (Nat.le_of_lt hgG)))
          refine ⟨?_, chg_of_rest F₉ N₉ (fun p hp => .tail _ hp) hrest₉.same, fun s₂ hs₂ hgl₂ => hkap _ _ ?_⟩
          · rw [hpre]
            simp
          have F₀ : Fr H L s₂.heap _ := ⟨F₉.ns.at' fun o e => hs₂.keep _ _ hLu e, fun b o e => hs₂.keep _ _ (fun hm => by rw [h3 b hm] at e; cases e) (F₉.keep b o e), F₉.above⟩
          have N₀ : News H L s₂.heap ((it, ob₄) :: snap ((L + 1) :: us) s₂.heap) := news_cons F₀ (snapN _) (hs₂.keep _ _ (fun hm => hit1 (.tail _ hm)) (N₉ _ (.head _)).1) hitH hitL
          have hl₂ : ∀ b ∈ (L + 1) :: us, ∃ o, s₂.heap.get? b = some o := by
            intro b hb
            rcases List.mem_cons.mp hb with rfl | hb
            · obtain ⟨o, ho⟩ := hl₀ (L + 1) (.head _)
              exact ⟨o, hs₂.keep _ _ h1 (N₉ _ (.tail _ (mem_snap.mpr ⟨.head _, ho⟩))).1⟩
            · exact hs₂.live b hb
          refine seg_execs_nil ?_
          refine seg_again rfl ?_
          refine ih' vs.length _ s₂ _ (Nat.lt_succ_self _) ⟨vs, _, rfl, rfl, ⟨pre'' ++ [v], by rw [hpre]; simp⟩, F₀.keep, hl₂, Rest.refl, hgl₂, ?_, F₀, N₀, hG₈.frame ⟨fun b o hb e => ?_, fun x hx => ?_, usLive F₀ N₀ hl₂⟩⟩
          · show (if (Str.ofString "pred") = Str.ofString "t" then _ else m₇ _) = _
            rw [if_neg (by decide)]
            exact hm₇
          · exact hs₂.keep b o (fun hm => hb (.tail _ (.tail _ (.tail _ hm)))) ((hs₉.2 b (fun q => hb (q ▸ .head _))).trans e)
          · exact hs₂.gens x (by omega)
    · refine next_lit_end rfl F₃ N₃ off hob₃ ⟨_, F₃.keep _ _ hl, rfl, _, rfl⟩ (by rw [List.getElem?_toArray, List.getElem?_map, List.getElem?_eq_none (by omega)]; rfl) fun h₄ F₄ N₄ => ?_
      dsimp only
      refine gseg_back ?_
      refine seg_execs_nil ?_
      refine seg_end (.ok (.ret .none)) ⟨rfl, ?_, chg_of_rest F₄ N₄ (fun p hp => hp) hrest.same⟩
      rw [List.drop_of_length_le (by omega)]
      rfl
  · refine ⟨0, _, ob, by omega, by rw [List.drop_zero, ← hall]; rfl, ⟨[], by rw [List.drop_zero, ← hall]; rfl⟩, hb₁, hlive, Rest.refl.same, hgl0, rfl, F₂, N₂, hob⟩
end
end Mine
end

section
example : True ∧ True := by
  w_top off
  first | (walk1; done) | exact ⟨trivial, trivial⟩
open PySem PySem.W PySem.Calls PyProof.Rows
set_option maxRecDepth 100000
set_option maxHeartbeats 4000000
namespace Mine
section
variable {M : Model} {A : Around} {E : Value → Shared → Prop} {s : Shared} {env : Env} {x : Str} {pos : Pos} {v : Value} {Q : Value → Shared → Prop} {h₀ : Heap} {C c : Addr} {m mg mb : Str → Option Value} {K : Frag} {p : Program} {loose : List Str} {o : Obj}
theorem nmG_L (F : Fr h₀ env.locals s.heap m) (hv : m x = some v) (h : Q v s) (hk : env.scope.kind = .function) (hx : env.kindOf x = some .local) (hd : (x == ("__debug__" : Str)) = false := by decide) :
    wpAny M A (eval (.Name x pos) env) Q E s := wpAny_Name (wpAny_loadName_local hk hx F.ns hv h) hd
theorem nmG_C (F : Fr h₀ env.locals s.heap m) (hc : env.cells.lookup x = some c) (ho : h₀.get? c = some o) (hv : o.data = .cell (some v)) (h : Q v s) (hk : env.scope.kind = .function) (hx : env.kindOf x = some .cell) (hd : (x == ("__debug__" : Str)) = false := by decide) :
    wpAny M A (eval (.Name x pos) env) Q E s := wpAny_Name (wpAny_loadName_cell hk hx hc ⟨o, F.keep _ _ ho, hv⟩ h) hd
theorem nmG_F (F : Fr h₀ env.locals s.heap m) (hc : env.cells.lookup x = some c) (ho : h₀.get? c = some o) (hv : o.data = .cell (some v)) (h : Q v s) (hk : env.scope.kind = .function) (hx : env.kindOf x = some .free) (hd : (x == ("__debug__" : Str)) = false := by decide) (hn : (x == ("__classdict__" : Str)) = false := by decide) :
    wpAny M A (eval (.Name x pos) env) Q E s := wpAny_Name (wpAny_loadName_free hk hx hc ⟨o, F.keep _ _ ho, hv⟩ h hn) hd
theorem nmG_K (F : Fr h₀ C s.heap m) (X : K.In h₀) (T : TopRead p loose mg mb h₀) (e : nsIn K mainGlobals x = some (some v)) (h : Q v s) (hk : env.scope.kind = .function) (hx : env.kindOf x = some .globalImplicit) (hg : env.globals = mainGlobals) (hd : (x == ("__debug__" : Str)) = false := by decide) :
    wpAny M A (eval (.Name x pos) env) Q E s := Name_function_global hk hx (loadGlobal_global (env := env) (hg ▸ T.g.keeps F.keep) (mg_of X T.g e) h) hd
theorem nmG_B (F : Fr h₀ C s.heap m) (X : K.In h₀) (T : TopRead p loose mg mb h₀) (e : nsIn K mainGlobals x = some none) (hv : bootBuiltins x = some v) (hn : x ≠ "__name__") (h : Q v s) (hk : env.scope.kind = .function) (hx : env.kindOf x = some .globalImplicit) (hg : env.globals = mainGlobals) (hb : env.builtins = builtinsNs) (hd : (x == ("__debug__" : Str)) = false := by decide) :
    wpAny M A (eval (.Name x pos) env) Q E s := Name_function_global hk hx (loadGlobal_builtin (env := env) (hg ▸ T.g.keeps F.keep) (mg_none_of X T.g e) (hb ▸ T.b.keeps F.keep) ((T.builtins x hn).trans hv) h) hd
end
theorem paired_eq : ∀ {a b : List Value}, Paired (fun x y => x = y) a b → a = b
  | [], [], _ => rfl
  | x :: r, y :: t, .cons h k => by rw [h, paired_eq k]
section
variable {prog : Program} {w : World} {A : Around} {E : Value → Shared → Prop} {s : Shared} {env : Env} {iter : Expr} {x : Str} {px px' pos : Pos} {scope : Scope} {cl : List (Str × Addr)} {h₀ : Heap} {L : Addr}
theorem values_of {items : Array Value} {vs : List Value} (hlen : vs.length = items.size) (hP : ∀ (j : Nat) (v : Value), vs[j]? = some v → items[j]? = some v) : vs = items.toList := by
  apply List.ext_getElem?
  intro j
  by_cases hj : j < vs.length
  · rw [List.getElem?_eq_getElem hj, Array.getElem?_toList]
    exact (hP j _ (List.getElem?_eq_getElem hj)).symm
  · rw [List.getElem?_eq_none (by omega), List.getElem?_eq_none (by simp; omega)]
/-- what a list gives to a comprehension with tests -/
theorem quiet_list {s₁ : Shared} {items : Array Value} {ifs : List Expr} (p : Value → Bool) (hk : scope.kind = .function) (hx : scope.names.lookup x = some .local)
    (ht : ∀ C v s₃ m₃, v ∈ items → Fr s₁.heap C s₃.heap m₃ → m₃ x = some v →
      wpAny (model prog w) A (forIn ifs true fun c r => if r = true then do let ok ← isTrue c (compEnvC scope cl C env) (eval c (compEnvC scope cl C env)); pure (ForInStep.yield ok) else pure (ForInStep.yield r)) (fun ok s₄ => ok = p v ∧ Keeps s₃ s₄) (fun _ _ => False) s₃)
    (hd : (x == ("__debug__" : Str)) = false) (o : Obj) :
    QuietOnC prog w A env scope cl x ifs (.Name x px') [s₁.heap.objs.size] (fun i v => items[i]? = some v) p (fun a b => a = b) { s₁ with heap := s₁.heap.push o } := by
  have fr : ∀ {C : Addr} {s₃ : Shared} {m₃ : Str → Option Value}, (s₁.heap.push o).objs.size ≤ C → s₃.heap.Ns C m₃ → (∀ b ob, b ∉ [s₁.heap.objs.size] → (s₁.heap.push o).get? b = some ob → s₃.heap.get? b = some ob) → Fr s₁.heap C s₃.heap m₃ := fun hC hn hk =>
    ⟨hn, fun b ob e => hk b ob (fun hm => Nat.lt_irrefl _ ((List.mem_singleton.mp hm) ▸ Heap.lt_size e)) (Heap.get?_push_of_some _ e), Nat.le_trans (by rw [Heap.size_push]; exact Nat.le_succ _) hC⟩
  refine ⟨fun C i v s₃ m₃ E' hC hP hn hm hkk _ => ?_, fun C i v s₃ m₃ E' hC hP _ hn hm hkk _ => ?_⟩
  · exact wpAny_mono (ht C v s₃ m₃ (Array.mem_of_getElem? hP) (fr hC hn hkk) hm) (fun _ _ x => x) fun _ _ x => x.elim
  · exact nmG_L (fr hC hn hkk) hm ⟨rfl, s₃.heap, s₃.toks, rfl, fun _ _ e => e⟩ hk (lookup_relabel_local hx) hd
theorem comp_out {s₁ : Shared} {items ys : Array Value} {vs : List Value} {p : Value → Bool} {D : Addr} {h' : Heap} {o : Obj} {m₁ : Str → Option Value} {news : List (Addr × Obj)} (F : Fr h₀ L s₁.heap m₁) (N : News h₀ L s₁.heap news)
    (hD : (s₁.heap.push o).get? D = none) (hpl : h'.PlainList D ys) (hlen : vs.length = items.size) (hP : ∀ (j : Nat) (v : Value), vs[j]? = some v → items[j]? = some v) (hF : Paired (fun a b => a = b) (vs.filter p) ys.toList)
    (hk : ∀ b ob, b ∉ [s₁.heap.objs.size] → (s₁.heap.push o).get? b = some ob → h'.get? b = some ob) :
    ∃ n, Fr h₀ L h' m₁ ∧ News h₀ L h' ((D, listOf (items.toList.filter p).toArray n) :: news) ∧ (∀ q ∈ news, q.1 ≠ D) ∧ Keep s₁.heap h' ∧ s₁.heap.get? D = none := by
  have keep : Keep s₁.heap h' := fun b ob e => hk b ob (fun hm => Nat.lt_irrefl _ ((List.mem_singleton.mp hm) ▸ Heap.lt_size e)) (Heap.get?_push_of_some _ e)
  have hD' : s₁.heap.get? D = none := by
    cases q : s₁.heap.get? D with
    | none => rfl
    | some z => rw [Heap.get?_push_of_some _ q] at hD; cases hD
  obtain ⟨n, e⟩ := hpl
  have hys : ys = (items.toList.filter p).toArray := by
    rw [← values_of hlen hP, paired_eq hF]
  rw [hys] at e
  refine ⟨n, fr_keep F keep, news_cons (fr_keep F keep) (news_keep N keep) e (fr_none F hD') (fr_new F hD'), fun q hq h => ?_, keep, hD'⟩
  have := (N q hq).1
  rw [h, hD'] at this; cases this
/-- [x for x in LIST if TESTS] -/
theorem compF {ifs : List Expr} {Q : Value → Shared → Prop} (p : Value → Bool) (hh : A.handled = none) (hclos : closureFor scope env = pure cl) (hcell : ∀ y ∈ scope.names, y.2 ≠ .cell) (hkind : scope.kind = .function)
    (hnames : ∀ y ∈ scope.names, y.2 = .local → scope.names.lookup y.1 = some .local) (hx : scope.names.lookup x = some .local) (hd : (x == ("__debug__" : Str)) = false)
    (hs : ∀ x, foldedSetIterable iter env x = pure x)
    (h : wpAny (model prog w) A (eval iter env) (fun xv s₁ => Hold (∃ ax items m₁ news₁, xv = .ref ax ∧ s₁.heap.IsList ax items ∧ items.size ≤ 100000 ∧ Fr h₀ L s₁.heap m₁ ∧ News h₀ L s₁.heap news₁ ∧
      (∀ C v s₃ m₃, v ∈ items → Fr s₁.heap C s₃.heap m₃ → m₃ x = some v →
        wpAny (model prog w) A (forIn ifs true fun c r => if r = true then do let ok ← isTrue c (compEnvC scope cl C env) (eval c (compEnvC scope cl C env)); pure (ForInStep.yield ok) else pure (ForInStep.yield r)) (fun ok s₄ => ok = p v ∧ Keeps s₃ s₄) (fun _ _ => False) s₃) ∧
      (∀ D n h' tk, Fr h₀ L h' m₁ → News h₀ L h' ((D, listOf (items.toList.filter p).toArray n) :: news₁) → (∀ q ∈ news₁, q.1 ≠ D) → Keep s₁.heap h' → s₁.heap.get? D = none → Q (.ref D) { s₁ with heap := h', toks := tk }))) E s) :
    wpAny (model prog w) A (eval (.ListComp (.Name x px') [⟨.Name x px, iter, ifs, 0⟩] scope pos) env) Q E s := by
  refine wpAny_ListComp_free p (fun a b => a = b) hclos hcell hkind hnames hx (wpAny_mono h (fun xv s₁ h₁ => ?_) fun _ _ e => e) hs
  obtain ⟨ax, items, m₁, news₁, rfl, hl, hsz, F, N, ht, hQ⟩ := h₁
  refine wpAny_pyIter_list hl ?_
  obtain ⟨ol, hol, _⟩ := id hl
  have hax : ax ≠ s₁.heap.objs.size := Nat.ne_of_lt (Heap.lt_size hol)
  refine ⟨_, _, _, items.size, _, _, rfl, Walks.list hh s₁.heap.objs.size ax hax items, Nat.le_trans hsz (Nat.le_trans (by decide) sizeLine_big), ⟨⟨_, Heap.get?_push_size _ rfl, rfl, rfl⟩, hl.at fun o e => Heap.get?_push_of_some _ e⟩, ?_, quiet_list p hkind hx ht hd _, ?_⟩
  · intro b hb
    rw [Heap.size_push]
    rcases List.mem_cons.mp hb with rfl | hb
    · exact Nat.lt_succ_self _
    · rw [List.mem_singleton.mp hb]; exact Nat.lt_succ_of_lt (Heap.lt_size hol)
  · intro D h' tk ys vs hD _ hpl hlen hP hF hk
    obtain ⟨n, a, b, c, d, e⟩ := comp_out F N hD hpl hlen hP hF hk
    exact hQ D n h' tk a b c d e
/-- y = [x for x in LIST if TESTS] -/
theorem compFA {ifs : List Expr} {y : Str} {py spos : Pos} {Q : Flow → Shared → Prop} (p : Value → Bool) (hh : A.handled = none) (hsw : swapsWith (.ListComp (.Name x px') [⟨.Name x px, iter, ifs, 0⟩] scope pos) (some (.Name y py)) spos.line env = pure true)
    (hclos : closureFor scope env = pure cl) (hcell : ∀ y ∈ scope.names, y.2 ≠ .cell) (hkind : scope.kind = .function)
    (hnames : ∀ y ∈ scope.names, y.2 = .local → scope.names.lookup y.1 = some .local) (hx : scope.names.lookup x = some .local) (hd : (x == ("__debug__" : Str)) = false)
    (hs : ∀ x, foldedSetIterable iter env x = pure x) (hy : env.kindOf y = some .local) (hp : (env.scope.kind == .class || (env.scope.kind == .module && env.locals != env.globals)) = false) (hL : env.locals = L)
    (h : wpAny (model prog w) A (eval iter env) (fun xv s₁ => Hold (∃ ax items m₁ news₁, xv = .ref ax ∧ s₁.heap.IsList ax items ∧ items.size ≤ 100000 ∧ Fr h₀ L s₁.heap m₁ ∧ News h₀ L s₁.heap news₁ ∧
      (∀ C v s₃ m₃, v ∈ items → Fr s₁.heap C s₃.heap m₃ → m₃ x = some v →
        wpAny (model prog w) A (forIn ifs true fun c r => if r = true then do let ok ← isTrue c (compEnvC scope cl C env) (eval c (compEnvC scope cl C env)); pure (ForInStep.yield ok) else pure (ForInStep.yield r)) (fun ok s₄ => ok = p v ∧ Keeps s₃ s₄) (fun _ _ => False) s₃) ∧
      (∀ D n h' tk, Fr h₀ L h' (fun z => if z = y then some (.ref D) else m₁ z) → News h₀ L h' ((D, listOf (items.toList.filter p).toArray n) :: news₁) → (∀ q ∈ news₁, q.1 ≠ D) → s₁.heap.get? D = none → Q .next { s₁ with heap := h', toks := tk }))) E s) :
    wpAny (model prog w) A (exec (.Assign [.Name y py] (.ListComp (.Name x px') [⟨.Name x px, iter, ifs, 0⟩] scope pos) spos) env) Q E s := by
  subst hL
  refine wpAny_Assign_ListComp_free p (fun a b => a = b) hsw hclos hcell hkind hnames hx hy hp (wpAny_mono h (fun xv s₁ h₁ => ?_) fun _ _ e => e) hs
  obtain ⟨ax, items, m₁, news₁, rfl, hl, hsz, F, N, ht, hQ⟩ := h₁
  refine wpAny_pyIter_list hl ?_
  obtain ⟨ol, hol, _⟩ := id hl
  have hax : ax ≠ s₁.heap.objs.size := Nat.ne_of_lt (Heap.lt_size hol)
  have hLs : env.locals ∉ [s₁.heap.objs.size] := fun hm => Nat.lt_irrefl _ ((List.mem_singleton.mp hm) ▸ F.ns.lt)
  refine ⟨_, _, _, items.size, _, _, m₁, rfl, Walks.list hh s₁.heap.objs.size ax hax items, Nat.le_trans hsz (Nat.le_trans (by decide) sizeLine_big), ⟨⟨_, Heap.get?_push_size _ rfl, rfl, rfl⟩, hl.at fun o e => Heap.get?_push_of_some _ e⟩, ?_, hLs, (F.push _).ns, quiet_list p hkind hx ht hd _, ?_⟩
  · intro b hb
    rw [Heap.size_push]
    rcases List.mem_cons.mp hb with rfl | hb
    · exact Nat.lt_succ_self _
    · rw [List.mem_singleton.mp hb]; exact Nat.lt_succ_of_lt (Heap.lt_size hol)
  · intro D h' tk ys vs hD _ hpl hlen hP hF hn hk
    have keep : ∀ b ob, b ≠ env.locals → s₁.heap.get? b = some ob → h'.get? b = some ob := fun b ob hb e => hk b ob hb (fun hm => Nat.lt_irrefl _ ((List.mem_singleton.mp hm) ▸ Heap.lt_size e)) (Heap.get?_push_of_some _ e)
    have hD' : s₁.heap.get? D = none := by
      cases q : s₁.heap.get? D with
      | none => rfl
      | some z => rw [Heap.get?_push_of_some _ q] at hD; cases hD
    obtain ⟨n, e⟩ := hpl
    have hys : ys = (items.toList.filter p).toArray := by
      rw [← values_of hlen hP, paired_eq hF]
    rw [hys] at e
    have hLh : ∀ b ob, h₀.get? b = some ob → b ≠ env.locals := fun b ob q => Nat.ne_of_lt (Nat.lt_of_lt_of_le (Heap.lt_size q) F.above)
    have F' : Fr h₀ env.locals h' (fun z => if z = y then some (.ref D) else m₁ z) := ⟨hn, fun b ob q => keep b ob (hLh b ob q) (F.keep b ob q), F.above⟩
    have N' : News h₀ env.locals h' news₁ := fun q hq => ⟨keep _ _ (N q hq).2.1 (N q hq).1, (N q hq).2⟩
    refine hQ D n h' tk F' (news_cons F' N' e (fr_none F hD') (fr_new F hD')) (fun q hq h => ?_) hD'
    have := (N q hq).1
    rw [h, hD'] at this; cases this
/-- [x for x in GENERATOR] -/
theorem gen_comp {Q : Value → Shared → Prop} (hh : A.handled = none) (hroom : A.depth < recursionLimit) (hclos : closureFor scope env = pure cl) (hcell : ∀ y ∈ scope.names, y.2 ≠ .cell) (hkind : scope.kind = .function)
    (hnames : ∀ y ∈ scope.names, y.2 = .local → scope.names.lookup y.1 = some .local) (hx : scope.names.lookup x = some .local) (hd : (x == ("__debug__" : Str)) = false)
    (hs : ∀ x, foldedSetIterable iter env x = pure x)
    (h : wpAny (model prog w) A (eval iter env) (fun xv s₁ => Hold (∃ (ga g : Nat) (H : Heap) (all : List Value) (m₁ : Str → Option Value) (news₁ : List (Addr × Obj)), xv = .ref ga ∧ s₁.heap.IsGen ga g ∧ all.length ≤ 100000 ∧ (s₁.heap.get? (ga - 1)).isSome = true ∧
      (∀ us, ga ∉ us → ga - 1 ∉ us → (∀ b ∈ us, H.get? b = none) → GenAt prog w A.in1 H us ga g all all s₁) ∧ Fr h₀ L H m₁ ∧ News h₀ L H news₁ ∧ (∀ b o, H.get? b = some o → s₁.heap.get? b = some o) ∧
      (∀ D n s', Fr h₀ L s'.heap m₁ → News h₀ L s'.heap ((D, listOf all.toArray n) :: news₁) → (∀ q ∈ news₁, q.1 ≠ D) → (∀ b o, H.get? b = some o → s'.heap.get? b = some o) → H.get? D = none → Rest 0 s₁ s' → Q (.ref D) s'))) E s) :
    wpAny (model prog w) A (eval (.ListComp (.Name x px') [⟨.Name x px, iter, [], 0⟩] scope pos) env) Q E s := by
  rw [eval_ListComp]
  refine wpAny_comprehension_free (use := none) rfl hs hclos hkind hnames (wpAny_mono h (fun xv s₁ h₁ => ?_) fun _ _ e => e)
  obtain ⟨ga, g, H, all, m₁, news₁, rfl, hig, hlen, hgaL, hG, FH, NH, hH, hQ⟩ := h₁
  refine wpAny_pyIter_gen hig ?_
  refine wpAny_newObj_type (wpAny_newFunctionEnv hcell (by intro y hy; simp at hy) (fun h₁ hns₁ hsb₁ => ?_) hkind)
  dsimp only at hns₁ hsb₁ ⊢
  generalize hH2 : s₁.heap.push { cls := .type "list", dict := none, data := .seq ([] : List Value).toArray } = H2 at hns₁ hsb₁ ⊢
  have hC : H2.objs.size = s₁.heap.objs.size + 1 := by rw [← hH2, Heap.size_push]
  have old : ∀ b o, s₁.heap.get? b = some o → h₁.get? b = some o := fun b o e =>
    hsb₁.extBut b o (by rw [hC]; exact Nat.ne_of_lt (Nat.lt_succ_of_lt (Heap.lt_size e))) (Heap.get?_push_of_some _ (hH2 ▸ Heap.get?_push_of_some _ e))
  generalize hD : s₁.heap.objs.size = D at *
  generalize hCe : H2.objs.size = C at *
  have hDC : D ≠ C := by rw [hC]; exact Nat.ne_of_lt (Nat.lt_succ_self _)
  have hDn : s₁.heap.get? D = none := fresh_of (Nat.le_of_eq hD)
  have hCn : s₁.heap.get? C = none := fresh_of (by rw [hD, hC]; exact Nat.le_succ _)
  have hHn : ∀ b ∈ [C, D], H.get? b = none := by
    intro b hb
    cases q : H.get? b with
    | none => rfl
    | some z =>
      have := hH _ _ q
      rcases List.mem_cons.mp hb with rfl | hb
      · rw [hCn] at this; cases this
      · rw [List.mem_singleton.mp hb, hDn] at this; cases this
  obtain ⟨og, nm, qn, hog, _⟩ := id hig
  have hga : ga ∉ [C, D] := by
    intro hb
    rcases List.mem_cons.mp hb with rfl | hb
    · rw [hCn] at hog; cases hog
    · rw [List.mem_singleton.mp hb, hDn] at hog; cases hog
  have hga1 : ga - 1 ∉ [C, D] := by
    intro hb
    rcases List.mem_cons.mp hb with hb | hb
    · rw [hb, hCn] at hgaL; cases hgaL
    · rw [List.mem_singleton.mp hb, hDn] at hgaL; cases hgaL
  have hacc : h₁.get? D = some (listOf ([] : List Value).toArray 0) := hsb₁.extBut _ _ hDC (Heap.get?_push_of_some _ (by rw [← hH2, ← hD]; exact Heap.get?_push_size _ rfl))
  have hGs := hG [C, D] hga hga1 hHn
  have hlv₁ : ∀ b ∈ [C, D], ∃ o, h₁.get? b = some o := by
    intro b hb
    rcases List.mem_cons.mp hb with rfl | hb
    · obtain ⟨o, _, _, ho, _⟩ := hns₁; exact ⟨o, ho⟩
    · rw [List.mem_singleton.mp hb]; exact ⟨_, hacc⟩
  have F0 : GFor g [C, D] s₁ { s₁ with heap := h₁, toks := s₁.toks + ([] : List (Str × Value)).length } := ⟨fun b o _ e => old b o e, fun _ _ => rfl, hlv₁⟩
  have hig₁ : h₁.IsGen ga g := hig.keeps old
  have loop : ∀ {cenv : Env} (_ : cenv.locals = C) (_ : cenv.scope = relabel scope env) (R : Result → Shared → Prop), (∀ s', Fr h₀ L s'.heap m₁ → (∃ n, News h₀ L s'.heap ((D, listOf all.toArray n) :: news₁)) → (∀ b o, H.get? b = some o → s'.heap.get? b = some o) → (∃ m, s'.heap.Ns C m) → Rest 0 s₁ s' → R (.ok .next) s') →
      codeAny (model prog w) A (.compLoop (.ListComp (.Name x px') [⟨.Name x px, iter, [], 0⟩] scope pos) 0 (.ref ga) (.ref D) cenv) R { s₁ with heap := h₁, toks := s₁.toks + ([] : List (Str × Value)).length } := by
    intro cenv hcl hcs R hR
    have hkx : cenv.kindOf x = some .local := by show cenv.scope.names.lookup x = some .local; rw [hcs]; exact lookup_relabel_local hx
    have hks : cenv.scope.kind = .function := by rw [hcs]; exact hkind
    refine codeAny_compLoop_tests (fun k τ => ∃ done vs ep m', all = done ++ vs ∧ k = vs.length ∧ GenAt prog w A.in1 H [C, D] ga g all vs τ ∧ τ.heap.Ns C m' ∧ τ.heap.get? D = some (listOf done.toArray ep) ∧ (∀ b o, H.get? b = some o → τ.heap.get? b = some o) ∧ Rest 0 s₁ τ) ?_ all.length
      ⟨[], all, 0, _, rfl, rfl, hGs.frame F0, hns₁, hacc, fun b o e => old b o (hH b o e), Rest.refl.same⟩
    rintro k τ ⟨done, vs, ep, m', hall, rfl, hGτ, hnτ, hDτ, hHτ, hRτ⟩
    have hlv : ∀ b ∈ [C, D], ∃ o, τ.heap.get? b = some o := by
      intro b hb
      rcases List.mem_cons.mp hb with rfl | hb
      · obtain ⟨o, _, _, ho, _⟩ := hnτ; exact ⟨o, ho⟩
      · rw [List.mem_singleton.mp hb]; exact ⟨_, hDτ⟩
    cases vs with
    | nil =>
      refine gen_done hh hroom hlv hGτ fun s' hc => ?_
      have hk' : Keep H s'.heap := fun b o e => hc.ground b o e (hHτ b o e)
      have F' := fr_keep FH hk'
      rw [List.append_nil] at hall
      refine hR s' F' ⟨ep, ?_⟩ hk' ⟨_, hnτ.at' fun o e => hc.keep _ _ (.head _) e⟩ (hRτ.trans (hc.rest.lower (Nat.zero_le _)))
      rw [hall]
      exact news_cons F' (news_keep NH hk') (hc.keep _ _ (.tail _ (.head _)) hDτ) (fr_none FH (hHn _ (.tail _ (.head _)))) (fr_new FH (hHn _ (.tail _ (.head _))))
    | cons v vs =>
      refine gen_next hh hroom hlv hGτ fun s' hc hG' => ?_
      have hn' : s'.heap.Ns C m' := hnτ.at' fun o e => hc.keep _ _ (.head _) e
      have hD' := hc.keep _ _ (.tail _ (.head _)) hDτ
      refine wpAny_assign_Name (wpAny_storeName_local hkx (by rw [hcl]; exact hn') (fun h₂ hn₂ hs₂ => ?_) (by rw [hks]; rfl))
      rw [hcl] at hn₂ hs₂
      refine wpAny_tests_nil ?_
      rw [if_pos rfl]
      refine wpAny_Name (wpAny_loadName_local hks hkx (by rw [hcl]; exact hn₂) (v := v) (by simp) ?_) hd
      refine wpAny_list_append_plain (items := done.toArray) ⟨ep, (hs₂.2 D hDC).trans hD'⟩ (fun h₃ hpl hs₃ => ?_) (Nat.le_trans (by
        have := congrArg List.length hall
        simp at this ⊢
        omega : done.toArray.size ≤ 100000) (Nat.le_trans (by decide) sizeLine_big))
      obtain ⟨ep', he⟩ := hpl
      have keep3 : ∀ b o, b ≠ C → b ≠ D → s'.heap.get? b = some o → h₃.get? b = some o := fun b o h1 h2 e => (hs₃.2 b h2).trans ((hs₂.2 b h1).trans e)
      refine ⟨vs.length, Nat.lt_succ_self _, done ++ [v], vs, ep', _, by rw [hall]; simp, rfl, hG'.frame ⟨fun b o hb e => keep3 b o (fun q => hb (q ▸ .head _)) (fun q => hb (q ▸ .tail _ (.head _))) e, fun _ _ => rfl, fun b hb => ?_⟩, hn₂.sameBut hs₃ (Ne.symm hDC), ?_, fun b o e => ?_, (hRτ.trans (hc.rest.lower (Nat.zero_le _))).same⟩
      · rcases List.mem_cons.mp hb with rfl | hb
        · obtain ⟨o, _, _, ho, _⟩ := hn₂.sameBut hs₃ (Ne.symm hDC); exact ⟨o, ho⟩
        · rw [List.mem_singleton.mp hb]; exact ⟨_, he⟩
      · rw [he, List.push_toArray]
      · exact keep3 b o (fun q => by rw [q, hHn C (.head _)] at e; cases e) (fun q => by rw [q, hHn D (.tail _ (.head _))] at e; cases e) (hc.ground b o e (hHτ b o e))
  have loop' := loop (cenv := { scope := relabel scope env, locals := C, globals := env.globals, cells := cl, qual := env.qual, func := none, code := env.code, frame := env.frame, builtins := env.builtins }) rfl rfl (compPost (model prog w) A E none Q (.ref D) C) (fun s' F' N' hk' hn' hr' => ?_)
  · exact codeAny_compStart_list loop' (wpAny_pyIter_gen hig₁ loop')
  · obtain ⟨m, hn'⟩ := hn'
    obtain ⟨n, N'⟩ := N'
    refine ⟨m, hn', fun h' hs' => ?_⟩
    have kC : ∀ b o, b ≠ C → s'.heap.get? b = some o → h'.get? b = some o := fun b o hb e => hs'.extBut b o hb e
    have hk'' : Keep H h' := fun b o e => kC b o (fun q => by rw [q, hHn C (.head _)] at e; cases e) (hk' b o e)
    have F'' := fr_keep FH hk''
    refine hQ D n { s' with heap := h' } F'' ?_ (fun q hq e => ?_) hk'' (hHn _ (.tail _ (.head _))) hr'.same
    · exact news_cons F'' (news_keep NH hk'') (kC _ _ hDC (N' _ (.head _)).1) (N' _ (.head _)).2.2 (N' _ (.head _)).2.1
    · have := (NH q hq).1
      rw [e, hHn D (.tail _ (.head _))] at this; cases this
end
end Mine
end

section
example : True ∧ True := by
  w_top off
  first | (walk1; done) | exact ⟨trivial, trivial⟩
open PySem PySem.W PySem.Calls PyProof.Rows
set_option maxRecDepth 100000
set_option maxHeartbeats 4000000
namespace Mine
open PySem.AutoSeq1 (wpAny_loadPart')
open PySem.MeetsSeq3 (plain_eq_loop entry_eq_loop)
section
variable {prog : Program} {w : World} {E : Value → Shared → Prop}
/-- two items are found equal or not, by a run that keeps every object -/
def EqKeeps (prog : Program) (w : World) (A : Around) (H : Heap) (y x : Value) (b : Bool) : Prop :=
  ∀ (s : Shared) (Q : Bool → Shared → Prop) (E : Value → Shared → Prop), Keep H s.heap → (∀ h' tk, Keep s.heap h' → Q b { s with heap := h', toks := tk }) → wpAny (model prog w) A (eqBool y x) Q E s
theorem eq_loopS {A : Around} (H : Heap) (l b : Addr) (items items2 : Array Value) (n n2 : Nat) (hsz : items.size = items2.size) (e : Nat → Bool) (hl : H.get? l = some (listOf items n)) (hb : H.get? b = some (listOf items2 n2))
    (he : ∀ j (h1 : j < items.size) (h2 : j < items2.size), EqKeeps prog w A.in1 H items[j] items2[j] (e j)) (k : Nat) : ∀ (i : Nat) (s : Shared) (R : Result → Shared → Prop), items.size - i = k → Keep H s.heap →
      (∀ h' tk, Keep s.heap h' → R (.ok (.ret (.bool (((List.range items.size).drop i).all e)))) { s with heap := h', toks := tk }) →
      codeAny (model prog w) A (.builtin "list.__eq__.loop" ⟨[.ref l, .ref b, rawInt i, rawInt 2], []⟩) R s := by
  induction k with
  | zero =>
    intro i s R hk hH hR
    refine codeAny_builtin entry_eq_loop ?_
    rw [Around.under_plainId plain_eq_loop _]
    obtain ⟨hp, g, d, tk, os⟩ := s
    have ho := hH _ _ hl
    have ho2 := hH _ _ hb
    wp_walk using wpAny_loadPart' ho, wpAny_loadPart' ho2
    have hi1 : items[((i : Nat) : Int).toNat]? = none := by simp; omega
    have hi2 : items2[((i : Nat) : Int).toNat]? = none := by simp; omega
    rw [hi1, hi2]
    wp_walk using wpAny_loadPart' ho, wpAny_loadPart' ho2
    have hd : (List.range items.size).drop i = [] := by simp; omega
    have q := hR hp tk fun _ _ e => e
    rw [hd] at q
    have e3 : (items.size == items2.size) = true := by simp [hsz]
    show R (.ok (.ret (.bool (items.size == items2.size)))) _
    rw [e3]
    exact q
  | succ k ih =>
    intro i s R hk hH hR
    refine codeAny_builtin entry_eq_loop ?_
    rw [Around.under_plainId plain_eq_loop _]
    have hlt : i < items.size := by omega
    have hlt2 : i < items2.size := by omega
    obtain ⟨hp, g, d, tk, os⟩ := s
    have ho := hH _ _ hl
    have ho2 := hH _ _ hb
    wp_walk using wpAny_loadPart' ho, wpAny_loadPart' ho2
    have hi1 : items[((i : Nat) : Int).toNat]? = some items[i] := by simp [hlt]
    have hi2 : items2[((i : Nat) : Int).toNat]? = some items2[i] := by simp [hlt2]
    have hd : (List.range items.size).drop i = i :: (List.range items.size).drop (i + 1) := by simp [List.drop_eq_getElem_cons, hlt]
    have hc : ((i : Int) + 1) = ((i + 1 : Nat) : Int) := by push_cast; rfl
    rw [hd, List.all_cons] at hR
    rw [hi1, hi2]
    refine wpAny_bind (he i hlt hlt2 _ _ _ hH fun h' tk' hk' => ?_)
    have ho' := hk' _ _ ho
    have ho2' := hk' _ _ ho2
    cases hb' : e i with
    | true =>
      rw [hb', Bool.true_and] at hR
      wp_walk
      rw [hc]
      exact ⟨plainId_quiet plain_eq_loop _, ih (i + 1) _ R (by omega) (Keep.trans hH hk') fun h'' tk'' hk'' => hR h'' tk'' (Keep.trans hk' hk'')⟩
    | false =>
      rw [hb', Bool.false_and] at hR
      wp_walk using wpAny_loadPart' ho', wpAny_loadPart' ho2'
      rw [hi1, hi2]
      wp_walk
      exact hR h' tk' hk'
theorem eq_listS {A : Around} {s : Shared} {Q : Value → Shared → Prop} {l b : Addr} {items items2 : Array Value} {n n2 : Nat} (hsz : items.size = items2.size) (e : Nat → Bool) (hl : s.heap.get? l = some (listOf items n)) (hb : s.heap.get? b = some (listOf items2 n2)) (hu : A.units < cLine)
    (he : ∀ j (h1 : j < items.size) (h2 : j < items2.size), EqKeeps prog w A.in1 s.heap items[j] items2[j] (e j))
    (hQ : ∀ h' tk, Keep s.heap h' → Q (.bool ((List.range items.size).all e)) { s with heap := h', toks := tk }) : wpAny (model prog w) A (compareOp .Eq (.ref l) (.ref b)) Q E s := by
  refine cmp_ofEq (wpAny_richCompare_same_room ⟨_, hl, rfl⟩ ⟨_, hb, rfl⟩ F.slot_list_eq ?_ hu)
  refine wpAny_call (codeAny_call_builtin F.slot_list_eq.plain F.entry_list_eq (F.slot_list_eq.check _ _ _ _ _ _ _ _ ⟨_, hl, rfl⟩ (F.args_list_eq_2 _ _) ?_))
  obtain ⟨hp, g, d, tk, os⟩ := s
  have f3 := AutoSeq1.sub_list_list
  have hne : ¬ (items.size != items2.size) = true := by simp [hsz]
  wp_walk using wpAny_loadPart' hl, wpAny_loadPart' hb
  exact ⟨plainId_quiet plain_eq_loop _, eq_loopS hp l b items items2 n n2 hsz e hl hb he _ 0 _ _ rfl (fun _ _ e => e) fun h' tk' hk' => ⟨(fun x => nomatch x), by simpa using hQ h' tk' hk'⟩⟩
end
/-- what == compares -/
inductive Sh where
  | tok (ty : Str) (v : Int)
  | tree (d : Str) (ks : List Sh)
mutual
def Nd.sh : Nd → Sh
  | .tok _ ty v => .tok ty v
  | .tree _ _ _ d ks => .tree d (shL ks)
def shL : List Nd → List Sh
  | [] => []
  | k :: r => k.sh :: shL r
end
theorem shL_map : ∀ ks : List Nd, shL ks = ks.map Nd.sh
  | [] => rfl
  | k :: r => by rw [shL, shL_map r]; rfl
noncomputable def shB (a b : Sh) : Bool := @decide (a = b) (Classical.propDecidable _)
theorem shB_iff {a b : Sh} : shB a b = true ↔ a = b := by unfold shB; exact @decide_eq_true_iff _ (Classical.propDecidable _)
mutual
/-- the two never set a token beside a tree -/
def alike : Nd → Nd → Prop
  | .tok .., .tok .. => True
  | .tree _ _ _ _ ks, .tree _ _ _ _ ks' => ks.length = ks'.length → alikeL ks ks'
  | _, _ => False
def alikeL : List Nd → List Nd → Prop
  | [], [] => True
  | a :: r, b :: t => alike a b ∧ alikeL r t
  | _, _ => False
end
mutual
theorem rep_det {P : Params} {h : Heap} : ∀ (n1 n2 : Nd), Rep P (hf h) n1 → Rep P (hf h) n2 → n1.addr = n2.addr → n1.sh = n2.sh
  | .tok a ty v, .tok a' ty' v', ⟨dx, t1, t2, t3, t4, h1, h2⟩, ⟨dx', u1, u2, u3, u4, h3, h4⟩, e => by
    cases e
    have e1 := Option.some.inj (h1.symm.trans h3)
    injection e1 with _ e1
    cases e1
    have e2 := Option.some.inj (h2.symm.trans h4)
    simp [dictOf, tokEs] at e2
    simp only [Nd.sh]
    simp [e2]
  | .tok a ty v, .tree a' dx' l' d' ks', ⟨dx, t1, t2, t3, t4, h1, h2⟩, ⟨⟨u1, u2, u3, u4, h3, h4⟩, _⟩, e => by
    cases e
    have e1 := Option.some.inj (h1.symm.trans h3)
    injection e1 with e1
    cases e1
  | .tree a' dx' l' d' ks', .tok a ty v, ⟨⟨u1, u2, u3, u4, h3, h4⟩, _⟩, ⟨dx, t1, t2, t3, t4, h1, h2⟩, e => by
    cases e
    have e1 := Option.some.inj (h1.symm.trans h3)
    injection e1 with e1
    cases e1
  | .tree a dx l d ks, .tree a' dx' l' d' ks', ⟨⟨t1, t2, t3, t4, h1, h2⟩, ⟨n, h3⟩, h4⟩, ⟨⟨u1, u2, u3, u4, g1, g2⟩, ⟨n', g3⟩, g4⟩, e => by
    cases e
    have e1 := Option.some.inj (h1.symm.trans g1)
    injection e1 with _ e1
    cases e1
    have e2 := Option.some.inj (h2.symm.trans g2)
    simp [dictOf, treeEs] at e2
    obtain ⟨⟨_, e3, _⟩, ⟨_, e4⟩, _⟩ := e2
    subst e3 e4
    have e5 := Option.some.inj (h3.symm.trans g3)
    simp [W.listOf] at e5
    simp only [Nd.sh]
    rw [rep_detL ks ks' h4 g4 (by simpa using e5.1)]
theorem rep_detL {P : Params} {h : Heap} : ∀ (n1 n2 : List Nd), RepL P (hf h) n1 → RepL P (hf h) n2 → n1.map Nd.val = n2.map Nd.val → shL n1 = shL n2
  | [], [], _, _, _ => rfl
  | [], _ :: _, _, _, e => by cases e
  | _ :: _, [], _, _, e => by cases e
  | a :: r, b :: t, h1, h2, e => by
    simp only [List.map_cons, List.cons.injEq, Nd.val, Value.ref.injEq] at e
    simp only [shL]
    rw [rep_det a b h1.1 h2.1 e.1, rep_detL r t h1.2 h2.2 e.2]
end
noncomputable def eAt (ks ks' : List Nd) (j : Nat) : Bool := match ks[j]?, ks'[j]? with
  | some x, some y => shB x.sh y.sh
  | _, _ => false
theorem eAt_get {ks ks' : List Nd} {j : Nat} (h1 : j < ks.length) (h2 : j < ks'.length) : eAt ks ks' j = shB ks[j].sh ks'[j].sh := by
  simp [eAt, h1, h2]
theorem eAt_all {d : Str} {ks ks' : List Nd} (h : ks.length = ks'.length) : (List.range ks.length).all (eAt ks ks') = shB (.tree d (shL ks)) (.tree d (shL ks')) := by
  rw [Bool.eq_iff_iff, shB_iff, List.all_eq_true, shL_map, shL_map]
  constructor
  · intro q
    congr 1
    refine List.ext_getElem (by simp [h]) fun j h1 h2 => ?_
    simp only [List.length_map] at h1 h2
    have := q j (by simpa using h1)
    rw [eAt_get h1 h2, shB_iff] at this
    simpa using this
  · intro q j hj
    injection q with _ q
    have h1 : j < ks.length := by simpa using hj
    have h2 : j < ks'.length := h ▸ h1
    rw [eAt_get h1 h2, shB_iff]
    have e : (ks.map Nd.sh)[j]'(by simpa using h1) = (ks'.map Nd.sh)[j]'(by simpa using h2) := by simp only [q]
    simpa using e
theorem alikeL_get : ∀ {ks ks' : List Nd}, alikeL ks ks' → ∀ j (h1 : j < ks.length) (h2 : j < ks'.length), alike ks[j] ks'[j]
  | a :: r, b :: t, h, 0, _, _ => h.1
  | a :: r, b :: t, h, j + 1, h1, h2 => by
    simp only [List.getElem_cons_succ]
    exact alikeL_get h.2 j _ _
theorem size_mem {k : Nd} : ∀ {ns : List Nd}, k ∈ ns → k.size ≤ sizeL ns
  | x :: r, h => by
    rcases List.mem_cons.mp h with rfl | h
    · simp [sizeL] 
    · have := size_mem h; simp [sizeL]; omega
theorem Rep.val_eq {P : Params} {G : Facts} {n : Nd} (_ : Rep P G n) : n.val = .ref n.addr := rfl
local macro_rules | `(tactic| k_inst) => `(tactic| (refine' instOf_base ?F ?h1 ?h2; (case F => k_asm); (case h1 => assumption); (case h2 => assumption)))
section
variable {prog : Program} {w : World} {p : Program} {loose : List Str} {mg mb : Str → Option Value}
theorem tok_eq {s : Shared} {Q E : Value → Shared → Prop} {A : Around} {a a' dx dx' : Addr} {t1 t2 t3 t4 u1 u2 u3 u4 : Tok} {ty ty' : Str} {v v' : Int} (X : (hd.heap_39 w.params).In s.heap) (T : TopRead p loose mg mb s.heap) (hh : A.handled = none) (hd : A.depth ≤ 910) (hu : A.units ≤ 9100)
    (h1 : s.heap.get? a = some (instObj 45 dx)) (h2 : s.heap.get? dx = some (dictOf (tokEs w.params t1 t2 (.str ty t3) (.int v t4)) 2))
    (h3 : s.heap.get? a' = some (instObj 45 dx')) (h4 : s.heap.get? dx' = some (dictOf (tokEs w.params u1 u2 (.str ty' u3) (.int v' u4)) 2))
    (hQ : ∀ h' tk, Keep s.heap h' → Q (.bool (shB (.tok ty v) (.tok ty' v'))) { s with heap := h', toks := tk }) :
    wpAny (model prog w) A (call (.ref 35) [.ref a, .ref a']) Q E s := by
  refine wpAny_call (to_ArC 910 9100 hh hd hu ?_)
  refine' enterB (h₀ := s.heap) [(Str.ofString "self", .ref a), (Str.ofString "other", .ref a')] ?kK ?kK1 ?kK2 ?kL ?k6 ?k7 ?k8 ?k9 ?kB ?_ ?c5 ?c2 ?c3 ?c4
  case kK => assumption
  case kK1 => exact fun _ _ e => e
  case kK2 => exact Nat.le_refl _
  case kL => exact TopRead.nolimit (by assumption)
  case k6 => k_is
  case k7 => k_is
  case k8 => show (910 : Nat) < 1000; decide
  case k9 => exact BindsTo.of_eq rfl
  case kB => exact rfl
  case c5 => decide
  case c2 => exact rfl
  case c3 => exact rfl
  case c4 => exact rfl
  intro L h₁ tk hL F hk
  have key : ∀ b : Bool, (b = true ↔ ty = ty' ∧ v = v') → b = shB (.tok ty v) (.tok ty' v') := fun b hb => by
    rw [Bool.eq_iff_iff, shB_iff, hb]
    exact ⟨fun ⟨e1, e2⟩ => by rw [e1, e2], fun e => by injection e with e1 e2; exact ⟨e1, e2⟩⟩
  repeat' walk1
  · dsimp only
    rw [key (v == v') (by simp_all)]
    exact hQ _ _ hk
  · dsimp only
    rw [key (ty == ty') (by simp_all)]
    exact hQ _ _ hk
theorem tok_cmp {A : Around} {s : Shared} {Q E : Value → Shared → Prop} {h₀ : Heap} {L : Addr} {m : Str → Option Value} {a a' : Addr} {ty ty' : Str} {v v' : Int} (F : Fr h₀ L s.heap m) (X : (hd.heap_39 w.params).In h₀) (T : TopRead p loose mg mb h₀)
    (hr1 : Rep w.params (hf s.heap) (.tok a ty v)) (hr2 : Rep w.params (hf s.heap) (.tok a' ty' v')) (hh : A.handled = none) (hd : A.depth ≤ 910) (hu : A.units ≤ 9100)
    (hQ : ∀ h' tk, Keep s.heap h' → Q (.bool (shB (.tok ty v) (.tok ty' v'))) { s with heap := h', toks := tk }) : wpAny (model prog w) A (richCompare .Eq (.ref a) (.ref a')) Q E s := by
  obtain ⟨dx, t1, t2, t3, t4, h1, h2⟩ := hr1
  obtain ⟨dx', u1, u2, u3, u4, h3, h4⟩ := hr2
  have I2 : InstAt s.heap a' (instObj 45 dx') 45 (some (dictOf (tokEs w.params u1 u2 (.str ty' u3) (.int v' u4)) 2)) := ⟨h3, rfl, rfl, h4⟩
  refine cmp_K (x := a) (C := 45) (f := 35) (ox := instObj 45 dx) (od := some (dictOf (tokEs w.params t1 t2 (.str ty t3) (.int v t4)) 2)) (tb := .ref 45) (Nat.lt_of_le_of_lt hu (by rw [cLine_is]; decide)) F X ⟨h1, rfl, rfl, h2⟩ I2.type ?_ ?_ ?_ ?_
  · k_is
  · k_is
  · k_is
  · exact tok_eq (X.keeps F.keep) (T.keeps F.keep) hh hd hu h1 h2 h3 h4 hQ
def EqOk (prog : Program) (w : World) (p : Program) (loose : List Str) (mg mb : Str → Option Value) (k : Nat) : Prop := ∀ (n1 n2 : Nd), alike n1 n2 → n1.height ≤ k → k ≤ 20 → n1.size ≤ 1000 → ∀ {A : Around} {s : Shared} {Q E : Value → Shared → Prop} {h₀ : Heap} {L : Addr} {m : Str → Option Value} (_ : Fr h₀ L s.heap m) (_ : (hd.heap_39 w.params).In h₀) (_ : TopRead p loose mg mb h₀),
    Rep w.params (hf s.heap) n1 → Rep w.params (hf s.heap) n2 → A.handled = none → A.depth + 4 * k ≤ 900 → A.units + 50 * k ≤ 9000 → (∀ h' tk, Keep s.heap h' → Q (.bool (shB n1.sh n2.sh)) { s with heap := h', toks := tk }) →
    wpAny (model prog w) A (richCompare .Eq n1.val n2.val) Q E s
theorem eq_tree_call {k : Nat} (ih : EqOk prog w p loose mg mb k) (hk : k + 1 ≤ 20) {A : Around} {s : Shared} {Q E : Value → Shared → Prop} {a dx l : Addr} {d : Str} {ks : List Nd} {a' dx' l' : Addr} {d' : Str} {ks' : List Nd} (X' : (hd.heap_39 w.params).In s.heap) (T' : TopRead p loose mg mb s.heap)
    (ha : alike (.tree a dx l d ks) (.tree a' dx' l' d' ks')) (hk1 : (Nd.tree a dx l d ks).height ≤ k + 1) (hz : (Nd.tree a dx l d ks).size ≤ 1000) (hr1 : Rep w.params (hf s.heap) (.tree a dx l d ks)) (hr2 : Rep w.params (hf s.heap) (.tree a' dx' l' d' ks'))
    (hh : A.handled = none) (hd : A.depth + 4 * (k + 1) ≤ 900) (hu : A.units + 50 * (k + 1) ≤ 9000) (hQ : ∀ h' tk, Keep s.heap h' → Q (.bool (shB (Nd.tree a dx l d ks).sh (Nd.tree a' dx' l' d' ks').sh)) { s with heap := h', toks := tk }) :
    wpAny (model prog w) A (call (.ref 71) [.ref a, .ref a']) Q E s := by
  obtain ⟨⟨t1, t2, t3, t4, hx1, hx2⟩, ⟨nl, hl⟩, hks⟩ := hr1
  obtain ⟨⟨u1, u2, u3, u4, hy1, hy2⟩, ⟨nl', hl'⟩, hks'⟩ := hr2
  have I2 : InstAt s.heap a' (instObj 142 dx') 142 (some (dictOf (treeEs w.params u1 u2 u3 (.str d' u4) (.ref l')) 3)) := ⟨hy1, rfl, rfl, hy2⟩
  refine wpAny_call (to_ArC (900 - 4 * (k + 1)) (9000 - 50 * (k + 1)) hh (by omega) (by omega) ?_)
  refine' enterB (h₀ := s.heap) [(Str.ofString "self", .ref a), (Str.ofString "other", .ref a')] ?kK ?kK1 ?kK2 ?kL ?k6 ?k7 ?k8 ?k9 ?kB ?_ ?c5 ?c2 ?c3 ?c4
  case kK => assumption
  case kK1 => exact fun _ _ e => e
  case kK2 => exact Nat.le_refl _
  case kL => exact TopRead.nolimit (by assumption)
  case k6 => k_is
  case k7 => k_is
  case k8 => show 900 - 4 * (k + 1) < 1000; omega
  case k9 => exact BindsTo.of_eq rfl
  case kB => exact rfl
  case c5 => decide
  case c2 => exact rfl
  case c3 => exact rfl
  case c4 => exact rfl
  intro L' h₁ tk hL F hkp
  repeat' walk1
  refine wpAny_Try_except (wpAny_mono (E := fun _ _ => False) ?_ (fun _ _ x => x) fun _ _ x => x.elim)
  repeat' walk1
  all_goals dsimp only
  · rename_i hdd
    have hde : d = d' := by simpa using hdd
    subst hde
    have kl := hkp _ _ hl
    have kl' := hkp _ _ hl'
    by_cases hlen : ks.length = ks'.length
    · have haL := ha hlen
      refine eq_listS (items := (ks.map Nd.val).toArray) (items2 := (ks'.map Nd.val).toArray) (by simp [hlen]) (eAt ks ks') kl kl' (by rw [cLine_is]; exact Nat.lt_of_le_of_lt (Nat.le_of_eq (rfl : _ = 9000 - 50 * (k + 1) + 3)) (by omega)) ?_ ?_
      · intro j h1 h2
        simp only [List.size_toArray, List.length_map] at h1 h2
        simp only [List.getElem_toArray, List.getElem_map]
        rw [eAt_get h1 h2]
        intro t Q' E' hkt hq'
        have hall := Keep.trans hkp hkt
        have r1 : Rep w.params (hf s.heap) ks[j] := repL_iff.mp hks _ (List.getElem_mem h1)
        have r2 : Rep w.params (hf s.heap) ks'[j] := repL_iff.mp hks' _ (List.getElem_mem h2)
        unfold eqBool
        try with_reducible refine wpAny_holding ?_
        show wpAny _ _ (if (Value.ref ks[j].addr == Value.ref ks'[j].addr) = true then _ else _) Q' E' t
        by_cases hab : (Value.ref ks[j].addr == Value.ref ks'[j].addr) = true
        · rw [if_pos hab]
          have e1 : ks[j].addr = ks'[j].addr := by simpa using hab
          have q := hq' t.heap t.toks Keep.rfl'
          rw [shB_iff.mpr (rep_det _ _ r1 r2 e1)] at q
          exact wpAny_bind (wpAny_rule (wpAny_pure q))
        · rw [if_neg hab]
          refine wpAny_bind (ih ks[j] ks'[j] (alikeL_get haL j h1 h2) ?_ (by omega) ?_ (fr_keep F hkt) X' T' (r1.mono hall) (r2.mono hall) rfl (Nat.le_trans (Nat.le_of_eq (rfl : _ = 900 - 4 * (k + 1) + 1 + 4 * k)) (by omega)) (Nat.le_trans (Nat.le_of_eq (rfl : _ = 9000 - 50 * (k + 1) + 3 + 1 + 50 * k)) (by omega)) fun h' tk' hk' => ?_)
          · have := height_le_of_mem (List.getElem_mem h1); simp [Nd.height] at hk1; omega
          · have := size_mem (List.getElem_mem h1); simp [Nd.size] at hz; omega
          · exact wpAny_truthy_bool (hq' h' tk' hk')
      · intro h' tk' hk'
        have q := hQ h' tk' (Keep.trans hkp hk')
        simp only [List.size_toArray, List.length_map]
        rw [eAt_all (d := d) hlen]
        exact q
    · refine PySem.SeqAt.eq_list_lengthsAt (items := (ks.map Nd.val).toArray) (items2 := (ks'.map Nd.val).toArray) ⟨_, kl, rfl, _, rfl⟩ ⟨_, kl', rfl, _, rfl⟩ (by simp [hlen]) (by rw [cLine_is]; exact Nat.lt_of_le_of_lt (Nat.le_of_eq (rfl : _ = 9000 - 50 * (k + 1) + 3)) (by omega)) ?_
      have q := hQ h₁ (tk + 1 + 1 + 1 + 1) hkp
      have e : shB (Nd.tree a dx l d ks).sh (Nd.tree a' dx' l' d ks').sh = false := by
        rw [Bool.eq_false_iff]
        intro e
        rw [shB_iff] at e
        simp only [Nd.sh] at e
        injection e with _ e
        rw [shL_map, shL_map] at e
        exact hlen (by simpa using congrArg List.length e)
      rw [e] at q
      exact q
  · rename_i hdd
    have q := hQ h₁ (tk + 1 + 1) hkp
    have e : shB (Nd.tree a dx l d ks).sh (Nd.tree a' dx' l' d' ks').sh = (d == d') := by
      have e0 : (d == d') = false := by simpa using hdd
      rw [e0, Bool.eq_false_iff]
      intro e
      rw [shB_iff] at e
      simp only [Nd.sh] at e
      injection e with e _
      rw [e] at e0
      simp at e0
    rw [e] at q
    exact q
theorem eq_nodes : ∀ k : Nat, EqOk prog w p loose mg mb k := by
  intro k
  induction k with
  | zero =>
    intro n1 n2 ha hk1 hk hz A s Q E h₀ L m F X T hr1 hr2 hh hd hu hQ
    cases n1 with
    | tree => simp [Nd.height] at hk1
    | tok a ty v =>
      cases n2 with
      | tree => exact ha.elim
      | tok a' ty' v' => exact tok_cmp F X T hr1 hr2 hh (by omega) (by omega) hQ
  | succ k ih =>
    intro n1 n2 ha hk1 hk hz A s Q E h₀ L m F X T hr1 hr2 hh hd hu hQ
    cases n1 with
    | tok a ty v =>
      cases n2 with
      | tree => exact ha.elim
      | tok a' ty' v' => exact tok_cmp F X T hr1 hr2 hh (by omega) (by omega) hQ
    | tree a dx l d ks =>
      cases n2 with
      | tok => exact ha.elim
      | tree a' dx' l' d' ks' =>
        obtain ⟨⟨t1, t2, t3, t4, hx1, hx2⟩, ⟨nl, hl⟩, hks⟩ := hr1
        obtain ⟨⟨u1, u2, u3, u4, hy1, hy2⟩, ⟨nl', hl'⟩, hks'⟩ := hr2
        have I2 : InstAt s.heap a' (instObj 142 dx') 142 (some (dictOf (treeEs w.params u1 u2 u3 (.str d' u4) (.ref l')) 3)) := ⟨hy1, rfl, rfl, hy2⟩
        refine cmp_K (x := a) (C := 142) (f := 71) (ox := instObj 142 dx) (od := some (dictOf (treeEs w.params t1 t2 t3 (.str d t4) (.ref l)) 3)) (tb := .ref 142) (by rw [cLine_is]; omega) F X ⟨hx1, rfl, rfl, hx2⟩ I2.type ?_ ?_ ?_ ?_
        · k_is
        · k_is
        · k_is
        have X' := X.keeps F.keep
        have T' := T.keeps F.keep
        clear F X T
        exact eq_tree_call ih hk X' T' ha hk1 hz ⟨⟨t1, t2, t3, t4, hx1, hx2⟩, ⟨nl, hl⟩, hks⟩ ⟨⟨u1, u2, u3, u4, hy1, hy2⟩, ⟨nl', hl'⟩, hks'⟩ hh hd hu hQ
theorem eq_call {A : Around} {s : Shared} {Q E : Value → Shared → Prop} {a dx l : Addr} {d : Str} {ks : List Nd} {a' dx' l' : Addr} {d' : Str} {ks' : List Nd} (X' : (hd.heap_39 w.params).In s.heap) (T' : TopRead p loose mg mb s.heap)
    (ha : alike (.tree a dx l d ks) (.tree a' dx' l' d' ks')) (hk1 : (Nd.tree a dx l d ks).height ≤ 20) (hz : (Nd.tree a dx l d ks).size ≤ 1000) (hr1 : Rep w.params (hf s.heap) (.tree a dx l d ks)) (hr2 : Rep w.params (hf s.heap) (.tree a' dx' l' d' ks'))
    (hh : A.handled = none) (hd : A.depth ≤ 820) (hu : A.units ≤ 8000) (hQ : ∀ h' tk, Keep s.heap h' → Q (.bool (shB (Nd.tree a dx l d ks).sh (Nd.tree a' dx' l' d' ks').sh)) { s with heap := h', toks := tk }) :
    wpAny (model prog w) A (call (.ref 71) [.ref a, .ref a']) Q E s :=
  eq_tree_call (k := 19) (eq_nodes 19) (by decide) X' T' ha hk1 hz hr1 hr2 hh (by omega) (by omega) hQ
end
end Mine
end

section
example : True ∧ True := by
  w_top off
  first | (walk1; done) | exact ⟨trivial, trivial⟩
open PySem PySem.W PySem.Calls PyProof.Rows
set_option maxRecDepth 100000
set_option maxHeartbeats 4000000
namespace Mine
local macro_rules | `(tactic| k_inst) => `(tactic| (refine' instOf_base ?F ?h1 ?h2; (case F => k_asm); (case h1 => assumption); (case h2 => assumption)))
section
variable {prog : Program} {w : World} {A : Around} {s : Shared} {K : Frag} {R : Result → Shared → Prop} {name qual : Str} {params : Arguments} {body : List Stmt} {scope : Scope} {dV kV doc pm cdv ct oc : Value} {an od : Option Addr}
    {osl : Array (Option Value)} {f : Addr} {args : Args}
/-- a def with cells is entered; the ground is the heap itself -/
theorem enterC (binds : List (Str × Value)) (X : K.In s.heap) (hlim : s.heap.NoLimit)
    (ho : K.lookup f = some ⟨oc, od, .func (fnOf name qual params body scope dV kV doc pm an cdv ct), osl⟩) (hcd : codeIn K cdv qual = true) (hroom : A.depth < recursionLimit)
    (hbind : BindsTo s (fnOf name qual params body scope dV kV doc pm an cdv ct) args binds) (hkind : (binds.all fun y => scope.names.lookup y.1 == some .local || scope.names.lookup y.1 == some .cell) = true)
    (hnd : ((cellsFrom 0 scope.names []).map (·.1)).Nodup)
    (h : ∀ L h₁ tk cells, L = s.heap.objs.size → Fr s.heap L h₁ (bindL (envOfC qual scope L f cdv).kindOf binds fun _ => none) → News s.heap L h₁ cells →
      CellsAre (bindC (envOfC qual scope L f cdv).kindOf binds fun _ => none) (cellsFrom (L + 1) scope.names []) cells → Keep s.heap h₁ →
      wpAny (model prog w) (A.deeper (envOfC qual scope L f cdv)) (execs body (envOfC qual scope L f cdv))
        (fun fl s' => R (.ok (.ret (match fl with | .ret v => v | _ => .none))) s') (fun _ _ => False) { s with heap := h₁, toks := tk })
    (hco : scope.isCoroutine = false) (hgen : scope.isGenerator = false) (hk : scope.kind = .function) : codeAny (model prog w) A (.call (.ref f) args) R s := by
  refine codeAny_call_function hroom (X _ _ ho) rfl hco hgen rfl (codeRec_of X hcd) (hbind _ _ _ _ ?_)
  refine wpAny_newFunctionEnv_cells hk (kindsX hkind _) fun env' he s' x => ?_
  subst he
  refine ⟨hlim.keeps x.toInCall.keep, codeAny_func ?_⟩
  obtain ⟨h₁, tk, rfl, _⟩ := x.done
  have hk₁ := x.toInCall.keep
  obtain ⟨cells, NC, Y⟩ := Cl.news (h₀ := s.heap) (Nat.le_refl _) fun n c hm => ⟨x.cell n c (lookup_of_mem_nodup (cellsFrom_names scope.names 0 (s.heap.objs.size + 1) [] [] rfl ▸ hnd) hm), x.above n c hm⟩
  exact wpAny_mono (h s.heap.objs.size h₁ tk cells rfl ⟨x.toInCall.ns, hk₁, Nat.le_refl _⟩ NC Y hk₁) (fun _ _ x => x) fun _ _ x => x.elim
end
section
variable {prog : Program} {w : World} {p : Program} {loose : List Str} {mg mb : Str → Option Value}
theorem ne_trees {A : Around} {s : Shared} {Q E : Value → Shared → Prop} {h₀ : Heap} {L : Addr} {m : Str → Option Value} {n1 n2 : Nd} (F : Fr h₀ L s.heap m) (X : (hd.heap_39 w.params).In h₀) (T : TopRead p loose mg mb h₀) (ht1 : n1.isTree = true) (ht2 : n2.isTree = true)
    (ha : alike n1 n2) (hk1 : n1.height ≤ 20) (hz : n1.size ≤ 1000)
    (hr1 : Rep w.params (hf s.heap) n1) (hr2 : Rep w.params (hf s.heap) n2) (hh : A.handled = none) (hd : A.depth ≤ 500) (hu : A.units ≤ 3000) (hQ : ∀ h' tk, Keep s.heap h' → Q (.bool (!shB n1.sh n2.sh)) { s with heap := h', toks := tk }) :
    wpAny (model prog w) A (richCompare .NotEq n1.val n2.val) Q E s := by
  cases n1 with
  | tok => cases ht1
  | tree a dx l d ks =>
    cases n2 with
    | tok => cases ht2
    | tree a' dx' l' d' ks' =>
      have hr1' := hr1
      have hr2' := hr2
      obtain ⟨⟨t1, t2, t3, t4, hx1, hx2⟩, _⟩ := hr1
      obtain ⟨⟨u1, u2, u3, u4, hy1, hy2⟩, _⟩ := hr2
      have I2 : InstAt s.heap a' (instObj 142 dx') 142 (some (dictOf (treeEs w.params u1 u2 u3 (.str d' u4) (.ref l')) 3)) := ⟨hy1, rfl, rfl, hy2⟩
      refine cmp_K (x := a) (C := 142) (f := 78) (ox := instObj 142 dx) (od := some (dictOf (treeEs w.params t1 t2 t3 (.str d t4) (.ref l)) 3)) (tb := .ref 142) (by rw [cLine_is]; omega) F X ⟨hx1, rfl, rfl, hx2⟩ I2.type ?_ ?_ ?_ ?_
      · k_is
      · k_is
      · k_is
      have X' := X.keeps F.keep
      have T' := T.keeps F.keep
      clear F X T
      refine wpAny_call (to_ArC 500 3000 hh hd hu ?_)
      refine' enterB (h₀ := s.heap) [(Str.ofString "self", .ref a), (Str.ofString "other", .ref a')] ?kK ?kK1 ?kK2 ?kL ?k6 ?k7 ?k8 ?k9 ?kB ?_ ?c5 ?c2 ?c3 ?c4
      case kK => assumption
      case kK1 => exact fun _ _ e => e
      case kK2 => exact Nat.le_refl _
      case kL => exact TopRead.nolimit (by assumption)
      case k6 => k_is
      case k7 => k_is
      case k8 => show 500 < 1000; decide
      case k9 => exact BindsTo.of_eq rfl
      case kB => exact rfl
      case c5 => decide
      case c2 => exact rfl
      case c3 => exact rfl
      case c4 => exact rfl
      intro L' h₁ tk hL F hkp
      repeat' walk1
      refine eq_call (X'.keeps hkp) (T'.keeps hkp) ha hk1 hz (hr1'.mono hkp) (hr2'.mono hkp) rfl ?_ ?_ fun h' tk' hk' => ?_
      · exact Nat.le_of_ble_eq_true rfl
      · exact Nat.le_of_ble_eq_true rfl
      have Fx := fr_keep F hk'
      have keepx := Keep.trans hkp hk'
      clear F
      show W.CmpBack _ _ _
      unfold W.CmpBack
      repeat' walk1
      all_goals dsimp only [W.CmpBack]
      all_goals exact hQ _ _ keepx
def Here (h : Heap) (v : Value) : Prop := ∃ a o, v = .ref a ∧ h.get? a = some o ∧ o.cls ≠ .type "tuple"
theorem Here.keep {h h' : Heap} {v : Value} (k : Keep h h') (x : Here h v) : Here h' v := let ⟨a, o, e, g, c⟩ := x; ⟨a, o, e, k _ _ g, c⟩
theorem is_here {M : Model} {A : Around} {E : Value → Shared → Prop} {s : Shared} {u v : Value} {Q : Value → Shared → Prop} (hu : Here s.heap u) (hv : Here s.heap v) (h : Q (.bool (u == v)) s) : wpAny M A (compareOp .Is u v) Q E s := by
  obtain ⟨a, o, rfl, ha, hc⟩ := hu
  obtain ⟨b, o', rfl, hb, hc'⟩ := hv
  by_cases e : a = b
  · subst e
    exact wpAny_is_ref_self (by simpa using h)
  · refine wpAny_is_ref_other e ha hb hc ?_
    have : (Value.ref a == Value.ref b) = false := by
      rw [Bool.eq_false_iff]
      intro q
      have := eq_of_beq q
      injection this with this
      exact e this
    rw [this] at h
    exact h
theorem walks_below {prog : Program} {w : World} {A : Around} {I : Addr} {fp wr : List Addr} {n : Nat} {P : Nat → Value → Prop} {St : Nat → Heap → Prop} (W : Walks prog w A I fp wr n P St) : Walks prog w A I fp wr n (fun i v => P i v ∧ i < n) St where
  sub := W.sub
  frame := W.frame
  item := fun i s Q E hi st hQ => W.item i s Q E hi st fun v h' tk hP => hQ v h' tk ⟨hP, hi⟩
  done := W.done
  self := W.self
theorem holdC {M : Model} {A : Around} {E : Value → Shared → Prop} {s : Shared} {env : Env} {e : Expr} {g : List Comprehension} {sc : Scope} {pos : Pos} {Q : Value → Shared → Prop} (h : Hold (wpAny M A (eval (.ListComp e g sc pos) env) Q E s)) : wpAny M A (eval (.ListComp e g sc pos) env) Q E s := h
local macro_rules | `(tactic| walk_at "eval Name") => `(tactic| ((with_reducible show wpAny _ _ (eval (.Name _ _) (compEnvC _ _ _ _)) _ _ _); first
  | (refine' nmG_L ?F ?hv ?_ ?hk ?hx ?hd; (case hk => exact rfl); (case hx => exact rfl); (case hd => exact rfl); (case F => assumption); (case hv => assumption))
  | (refine' nmG_F ?F ?hc ?ho ?hv ?_ ?hk ?hx ?hd ?hn; (case hk => exact rfl); (case hx => exact rfl); (case hd => exact rfl); (case hn => exact rfl); (case F => assumption); (case hc => exact rfl); (case ho => assumption); (case hv => assumption))))
theorem holdS {M : Model} {A : Around} {E : Value → Shared → Prop} {s : Shared} {env : Env} {e i : Expr} {pos : Pos} {Q : Value → Shared → Prop} (h : Hold (wpAny M A (eval (.Subscript e i pos) env) Q E s)) : wpAny M A (eval (.Subscript e i pos) env) Q E s := h
local macro_rules | `(tactic| walk_at "eval Subscript") => `(tactic| refine holdS ?_)
local macro_rules | `(tactic| walk_at "eval ListComp") => `(tactic| refine holdC ?_)
theorem paired_length : ∀ {a b : List Value}, Paired (fun x y => x = y) a b → a.length = b.length := fun h => by rw [paired_eq h]
theorem same_filter {v1 v2 vs : List Value} (h : v1.length = v2.length) (hl : vs.length = v1.length) (hP : ∀ (j : Nat) (v : Value), vs[j]? = some v → ∃ t, v = .int (0 + (j : Nat) * 1) t) :
    (vs.filter fun v => match v with | .int j _ => !(v1[j.toNat]? == v2[j.toNat]?) | _ => false).length = 0 ↔ v1 = v2 := by
  rw [List.length_eq_zero_iff, List.filter_eq_nil_iff]
  constructor
  · intro q
    apply List.ext_getElem?
    intro j
    by_cases hj : j < vs.length
    · obtain ⟨t, e⟩ := hP j _ (List.getElem?_eq_getElem hj)
      have := q _ (List.getElem_mem hj)
      rw [e] at this
      have ej : ((0 : Int) + (j : Nat) * 1).toNat = j := by omega
      simpa [ej] using this
    · rw [List.getElem?_eq_none (by omega), List.getElem?_eq_none (by omega)]
  · rintro rfl v hv
    obtain ⟨j, hj, rfl⟩ := List.getElem_of_mem hv
    obtain ⟨t, e⟩ := hP j _ (List.getElem?_eq_getElem hj)
    rw [e]
    simp
theorem same_call {A : Around} {s : Shared} {Q E : Value → Shared → Prop} {l1 l2 : Addr} {v1 v2 : List Value} {n1 n2 : Nat} (X : (hd.heap_39 w.params).In s.heap) (T : TopRead p loose mg mb s.heap) (hh : A.handled = none) (hd : A.depth ≤ 500) (hu : A.units ≤ 3000)
    (h1 : s.heap.get? l1 = some (listOf v1.toArray n1)) (h2 : s.heap.get? l2 = some (listOf v2.toArray n2)) (hz1 : v1.length ≤ 100000) (hz2 : v2.length ≤ 100000) (hr1 : ∀ v ∈ v1, Here s.heap v) (hr2 : ∀ v ∈ v2, Here s.heap v)
    (hQ : ∀ h' tk, Keep s.heap h' → Q (.bool (v1 == v2)) { s with heap := h', toks := tk }) : wpAny (model prog w) A (call (.ref 163) [.ref l1, .ref l2]) Q E s := by
  refine wpAny_call (to_ArC 500 3000 hh hd hu ?_)
  refine' enterC [(Str.ofString "ones", .ref l1), (Str.ofString "others", .ref l2)] ?kK ?kL ?k6 ?k7 ?k8 ?k9 ?kB ?kD ?_ ?c2 ?c3 ?c4
  case kK => assumption
  case kL => exact TopRead.nolimit (by assumption)
  case k6 => k_is
  case k7 => k_is
  case k8 => show 500 < 1000; decide
  case k9 => exact BindsTo.of_eq rfl
  case kB => exact rfl
  case kD => decide +kernel
  case c2 => exact rfl
  case c3 => exact rfl
  case c4 => exact rfl
  intro L h₁ tk cells hL F N Y hkp
  have hY := CellsAre.two Y
  obtain ⟨oc2, oc1, hE, dc2', dc1'⟩ := hY
  subst hE
  clear Y
  have i1 : s.heap.IsList l1 v1.toArray := ⟨_, h1, rfl, _, rfl⟩
  have i2 : s.heap.IsList l2 v2.toArray := ⟨_, h2, rfl, _, rfl⟩
  repeat' walk1
  refine Calls.call_len_list (items := v1.toArray) (⟨_, hkp _ _ h1, rfl, _, rfl⟩) (by simp; omega) ?_
  repeat' walk1
  refine Calls.call_len_list (items := v2.toArray) ⟨_, hkp _ _ h2, rfl, _, rfl⟩ (by simp; omega) ?_
  repeat' walk1
  · rename_i hlen
    have hlen' : v1.length = v2.length := by simp at hlen; omega
    unfold Hold
    refine wpAny_ListComp_free (cl := ?cl) (fun v => match v with | .int j _ => !(v1[j.toNat]? == v2[j.toNat]?) | _ => false) (fun a b => a = b) ?hclos ?hcell rfl ?hnames rfl ?h
    case hclos => exact rfl
    case hcell => decide
    case hnames => decide
    repeat' walk1
    refine Calls.call_len_list (items := v1.toArray) ⟨_, hkp _ _ h1, rfl, _, rfl⟩ (by simp; omega) ?_
    repeat' walk1
    rename_i h₂ tk₂ t₁ t₂ t₃ hrg F₂ N₂ hk₂
    refine wpAny_pyIter_range hrg (small_one (by omega) (by omega) (by omega) (by simp; omega)) ?_
    have hkl : Keep s.heap h₂ := Keep.trans hkp hk₂
    refine ⟨_, [h₂.objs.size], [h₂.objs.size], v1.length, _, _, rfl, walks_below (Walks.range rfl h₂.objs.size 0 1 v1.length), Nat.le_trans (Nat.le_trans hz1 (by decide)) sizeLine_big, ?_, ?_, ⟨fun C i v s₃ m₃ E' hC hP hn hm hkk _ => ?_, fun C i v s₃ m₃ E' hC hP _ hn hm hkk _ => ?_⟩, ?_⟩
    · show Heap.get? (Heap.push _ _) _ = _
      rw [Heap.get?_push_size _ rfl]
      have e1 : Builtin.Range.rangeSize 0 (v1.toArray.size : Nat) 1 = ((v1.length : Nat) : Int) - ((0 : Nat) : Int) := by
        rw [rangeSize_nat]
        simp
      rw [e1]
      rfl
    · intro b hb
      rw [List.mem_singleton.mp hb]
      show _ < (Heap.push _ _).objs.size
      rw [Heap.size_push]
      exact Nat.lt_succ_self _
    · obtain ⟨⟨t, rfl⟩, hi⟩ := hP
      have F₃ : Fr h₂ C s₃.heap m₃ := ⟨hn, fun b ob e => hkk b ob (fun hm => Nat.lt_irrefl _ ((List.mem_singleton.mp hm) ▸ Heap.lt_size e)) (Heap.get?_push_of_some _ e), Nat.le_trans (by show _ ≤ (Heap.push _ _).objs.size; rw [Heap.size_push]; exact Nat.le_succ _) hC⟩
      have dc1 : oc1.data = .cell (some (.ref l1)) := dc1'
      have dc2 : oc2.data = .cell (some (.ref l2)) := dc2'
      clear dc1' dc2'
      have gc1 : h₂.get? (L + 1) = some oc1 := N₂.get (.tail _ (.head _))
      have gc2 : h₂.get? (L + 1 + 1) = some oc2 := N₂.get (.head _)
      refine wpAny_tests_one ?_
      repeat' walk1
      have hi1 : v1[i]? = some v1[i] := List.getElem?_eq_getElem hi
      have hi2 : v2[i]? = some (v2[i]'(hlen' ▸ hi)) := List.getElem?_eq_getElem (hlen' ▸ hi)
      have ei : ((0 : Int) + (i : Nat) * 1).toNat = i := by omega
      refine wpAny_Subscript_Name_late ?_
      refine nmG_C F₃ rfl gc1 dc1 ?_ rfl rfl
      refine nmG_L F₃ hm ?_ rfl rfl
      refine ⟨_, _, slot_list_getitem.lookup, (Heap.IsList.typeIs (items := v1.toArray) ⟨_, F₃.keep _ _ (hkl _ _ h1), rfl, _, rfl⟩), wpAny_getItem_list (items := v1.toArray) ⟨_, F₃.keep _ _ (hkl _ _ h1), rfl, _, rfl⟩ (by omega) (by omega) (x := v1[i]) (by rw [ei]; simp [hi]) ?_⟩
      refine wpAny_Subscript_Name_late ?_
      refine nmG_C F₃ rfl gc2 dc2 ?_ rfl rfl
      refine nmG_L F₃ hm ?_ rfl rfl
      refine ⟨_, _, slot_list_getitem.lookup, (Heap.IsList.typeIs (items := v2.toArray) ⟨_, F₃.keep _ _ (hkl _ _ h2), rfl, _, rfl⟩), wpAny_getItem_list (items := v2.toArray) ⟨_, F₃.keep _ _ (hkl _ _ h2), rfl, _, rfl⟩ (by omega) (by omega) (x := v2[i]'(hlen' ▸ hi)) (by rw [ei]; simp [hlen' ▸ hi]) ?_⟩
      refine is_here ((hr1 _ (List.getElem_mem hi)).keep (Keep.trans hkl F₃.keep)) ((hr2 _ (List.getElem_mem (hlen' ▸ hi))).keep (Keep.trans hkl F₃.keep)) ?_
      refine wpAny_truthy_bool ⟨?_, s₃.heap, s₃.toks, rfl, fun _ _ e => e⟩
      dsimp only
      rw [ei, hi1, hi2]
      simp
    · obtain ⟨⟨t, rfl⟩, hi⟩ := hP
      have F₃ : Fr h₂ C s₃.heap m₃ := ⟨hn, fun b ob e => hkk b ob (fun hm => Nat.lt_irrefl _ ((List.mem_singleton.mp hm) ▸ Heap.lt_size e)) (Heap.get?_push_of_some _ e), Nat.le_trans (by show _ ≤ (Heap.push _ _).objs.size; rw [Heap.size_push]; exact Nat.le_succ _) hC⟩
      exact nmG_L F₃ hm ⟨rfl, s₃.heap, s₃.toks, rfl, fun _ _ e => e⟩ rfl rfl
    · intro D h' tk ys vs hD hlys hpl hvl hvP hF hk
      have hkn : Keep h₂ h' := fun b o e => hk b o (fun hm => Nat.lt_irrefl _ ((List.mem_singleton.mp hm) ▸ Heap.lt_size e)) (Heap.get?_push_of_some _ e)
      obtain ⟨nD, hD'⟩ := hpl
      have hDn : h₂.get? D = none := by
        cases q : h₂.get? D with
        | none => rfl
        | some z =>
          have := Heap.get?_push_of_some { cls := .type "range_iterator", data := .fields #[rawInt 0, rawInt (Builtin.Range.rangeSize 0 (v1.toArray.size : Nat) 1), rawInt 1] } q
          rw [hD] at this
          cases this
      have F₄ := fr_keep F₂ hkn
      have N₄ := news_cons F₄ (news_keep N₂ hkn) hD' (fr_none F₂ hDn) (fr_new F₂ hDn)
      clear F₂ N₂
      have hsz : ys.size = 0 ↔ v1 = v2 := by
        rw [← same_filter hlen' hvl (fun j v e => (hvP j v e).1), ← Array.length_toList, ← paired_length hF]
      repeat' walk1
      rename_i l' h₅ F₅ N₅ lt₅
      by_cases hy : ys.size = 0
      · have e12 := hsz.mp hy
        refine PySem.SeqAt.eq_listAt (items := ys) (items2 := #[]) (e := fun _ => true) ⟨_, N₅.get (.tail _ (.head _)), rfl, _, rfl⟩ ⟨_, N₅.get (.head _), rfl, _, rfl⟩ (by simp [hy]) (by rw [cLine_is]; exact Nat.lt_of_le_of_lt (Nat.le_of_eq (rfl : _ = 3003)) (by decide)) (fun j h1 h2 => absurd h2 (by simp)) ?_
        have q := hQ h₅ tk F₅.keep
        rw [show (v1 == v2) = true by simp [e12]] at q
        rw [hy]
        exact q
      · refine PySem.SeqAt.eq_list_lengthsAt (items := ys) (items2 := #[]) ⟨_, N₅.get (.tail _ (.head _)), rfl, _, rfl⟩ ⟨_, N₅.get (.head _), rfl, _, rfl⟩ (by simpa using hy) (by rw [cLine_is]; exact Nat.lt_of_le_of_lt (Nat.le_of_eq (rfl : _ = 3003)) (by decide)) ?_
        have q := hQ h₅ tk F₅.keep
        have e : (v1 == v2) = false := by
          rw [Bool.eq_false_iff]
          intro q
          exact hy (hsz.mpr (eq_of_beq q))
        rw [e] at q
        exact q
  · rename_i hlen
    have e : (v1 == v2) = (((v1.toArray.size : Nat) : Int) == ((v2.toArray.size : Nat) : Int)) := by
      have : ¬ v1.length = v2.length := by simp at hlen; omega
      have h1 : (v1 == v2) = false := by
        rw [Bool.eq_false_iff]
        intro q
        exact this (congrArg List.length (eq_of_beq q))
      rw [h1]
      symm
      simp
      omega
    rw [← e]
    exact hQ _ _ hkp
end
end Mine
end

section
example : True ∧ True := by
  w_top off
  first | (walk1; done) | exact ⟨trivial, trivial⟩
open PySem PySem.W PySem.Calls PyProof.Rows
set_option maxRecDepth 100000
set_option maxHeartbeats 4000000
namespace Mine
section
variable {prog : Program} {w : World} {A : Around} {R : Result → Shared → Prop} {s : Shared}
theorem turn_0 (elt t1 iter1 t2 iter2 : Expr) (scope : Scope) (pos : Pos) (it acc : Value) (env : Env) :
    compTurn (.ListComp elt [⟨t1, iter1, [], 0⟩, ⟨t2, iter2, [], 0⟩] scope pos) 0 it acc env = (standAt iter1.pos >>= fun _ => pyNext it >>= fun r => match r with
      | none => pure (.done .next)
      | some v => letOwnedTupleGo t1 it v >>= fun _ => assign t1 env v >>= fun _ => eval iter2 env >>= fun x => standAt iter2.pos >>= fun _ => foldedSetIterable iter2 env x >>= fun x => holding [x] (pyIter x) >>= fun i2 =>
          runOwn (.compStart (.ListComp elt [⟨t1, iter1, [], 0⟩, ⟨t2, iter2, [], 0⟩] scope pos) 1 i2 acc env) env >>= fun _ =>
          again (.compLoop (.ListComp elt [⟨t1, iter1, [], 0⟩, ⟨t2, iter2, [], 0⟩] scope pos) 0 it acc env)) := by rfl
theorem turn_1 (elt t1 iter1 t2 iter2 : Expr) (scope : Scope) (pos : Pos) (it acc : Value) (env : Env) :
    compTurn (.ListComp elt [⟨t1, iter1, [], 0⟩, ⟨t2, iter2, [], 0⟩] scope pos) 1 it acc env = (standAt iter2.pos >>= fun _ => pyNext it >>= fun r => match r with
      | none => pure (.done .next)
      | some v => letOwnedTupleGo t2 it v >>= fun _ => assign t2 env v >>= fun _ =>
        (eval elt env >>= fun x => call (.builtin "list.append") [acc, x] >>= fun _ => pure ()) >>= fun _ =>
          again (.compLoop (.ListComp elt [⟨t1, iter1, [], 0⟩, ⟨t2, iter2, [], 0⟩] scope pos) 1 it acc env)) := by rfl
theorem loop_0 {elt t1 iter1 t2 iter2 : Expr} {scope : Scope} {pos : Pos} {it acc : Value} {env : Env} (I : Nat → Shared → Prop) (hs2 : ∀ x, foldedSetIterable iter2 env x = pure x)
    (turn : ∀ n s, I n s → wpAny (model prog w) A (pyNext it) (fun r s₁ => match r with
      | none => R (.ok .next) s₁
      | some v => wpAny (model prog w) A (assign t1 env v) (fun _ s₂ => wpAny (model prog w) A (eval iter2 env) (fun x s₃ => wpAny (model prog w) A (pyIter x) (fun i2 s₄ =>
          codeAny (model prog w) A (.compStart (.ListComp elt [⟨t1, iter1, [], 0⟩, ⟨t2, iter2, [], 0⟩] scope pos) 1 i2 acc env) (fun r s₅ => match r with | .ok _ => ∃ m, m < n ∧ I m s₅ | .error _ => False) s₄) (fun _ _ => False) s₃) (fun _ _ => False) s₂) (fun _ _ => False) s₁) (fun _ _ => False) s)
    (n : Nat) (h : I n s) (ht : ∀ v, letOwnedTupleGo t1 it v = pure () := by intro _; rfl) :
    codeAny (model prog w) A (.compLoop (.ListComp elt [⟨t1, iter1, [], 0⟩, ⟨t2, iter2, [], 0⟩] scope pos) 0 it acc env) R s := by
  refine codeAny_loop rfl I (fun n s hI => ?_) n h
  show wpAny _ A ((compTurn (.ListComp elt [⟨t1, iter1, [], 0⟩, ⟨t2, iter2, [], 0⟩] scope pos) 0 it acc env).onRaise (fun x => do noteFrame x env; theTreesLotGoes x)) _ _ s
  refine wpAny_noted ?_
  rw [turn_0]
  refine wpAny_bind (wpAny_standAt (wpAny_bind (wpAny_mono (turn n s hI) (fun r s₁ h₁ => ?_) fun _ _ h' => h'.elim)))
  cases r with
  | none => exact wpAny_pure h₁
  | some v =>
    refine wpAny_bind (wpAny_of_eq (ht v) ?_)
    refine wpAny_bind (wpAny_mono h₁ (fun _ s₂ h₂ => wpAny_bind (wpAny_mono h₂ (fun x s₃ h₃ => wpAny_bind (wpAny_standAt (wpAny_bind (wpAny_of_eq (hs2 x) ?_)))) fun _ _ h' => h'.elim)) fun _ _ h' => h'.elim)
    refine wpAny_bind (wpAny_holding (wpAny_mono h₃ (fun i2 s₄ h₄ => ?_) fun _ _ h' => h'.elim))
    refine wpAny_bind (wpAny_runOwn (codeAny_mono h₄ fun r s₅ h₅ => ?_))
    cases r with
    | error e => exact h₅.elim
    | ok f => exact wpAny_pure ⟨rfl, h₅⟩
theorem loop_1 {elt t1 iter1 t2 iter2 : Expr} {scope : Scope} {pos : Pos} {it acc : Value} {env : Env} (I : Nat → Shared → Prop)
    (turn : ∀ n s, I n s → wpAny (model prog w) A (pyNext it) (fun r s₁ => match r with
      | none => R (.ok .next) s₁
      | some v => wpAny (model prog w) A (assign t2 env v) (fun _ s₂ => wpAny (model prog w) A (eval elt env) (fun x s₃ => wpAny (model prog w) A (call (.builtin "list.append") [acc, x]) (fun _ s₄ => ∃ m, m < n ∧ I m s₄) (fun _ _ => False) s₃) (fun _ _ => False) s₂) (fun _ _ => False) s₁) (fun _ _ => False) s)
    (n : Nat) (h : I n s) (ht : ∀ v, letOwnedTupleGo t2 it v = pure () := by intro _; rfl) :
    codeAny (model prog w) A (.compLoop (.ListComp elt [⟨t1, iter1, [], 0⟩, ⟨t2, iter2, [], 0⟩] scope pos) 1 it acc env) R s := by
  refine codeAny_loop rfl I (fun n s hI => ?_) n h
  show wpAny _ A ((compTurn (.ListComp elt [⟨t1, iter1, [], 0⟩, ⟨t2, iter2, [], 0⟩] scope pos) 1 it acc env).onRaise (fun x => do noteFrame x env; theTreesLotGoes x)) _ _ s
  refine wpAny_noted ?_
  rw [turn_1]
  refine wpAny_bind (wpAny_standAt (wpAny_bind (wpAny_mono (turn n s hI) (fun r s₁ h₁ => ?_) fun _ _ h' => h'.elim)))
  cases r with
  | none => exact wpAny_pure h₁
  | some v =>
    refine wpAny_bind (wpAny_of_eq (ht v) ?_)
    refine wpAny_bind (wpAny_mono h₁ (fun _ s₂ h₂ => wpAny_bind (wpAny_bind (wpAny_mono h₂ (fun x s₃ h₃ => wpAny_bind (wpAny_mono h₃ (fun _ s₄ h₄ => ?_) fun _ _ h' => h'.elim)) fun _ _ h' => h'.elim))) fun _ _ h' => h'.elim)
    exact wpAny_pure (wpAny_pure ⟨rfl, h₄⟩)
theorem start_1 {elt t1 iter1 t2 iter2 : Expr} {scope : Scope} {pos : Pos} {it acc : Value} {env : Env}
    (h0 : codeAny (model prog w) A (.compLoop (.ListComp elt [⟨t1, iter1, [], 0⟩, ⟨t2, iter2, [], 0⟩] scope pos) 1 it acc env) R s)
    (h : wpAny (model prog w) A (pyIter it) (fun it' s' => codeAny (model prog w) A (.compLoop (.ListComp elt [⟨t1, iter1, [], 0⟩, ⟨t2, iter2, [], 0⟩] scope pos) 1 it' acc env) R s') (fun _ _ => False) s) :
    codeAny (model prog w) A (.compStart (.ListComp elt [⟨t1, iter1, [], 0⟩, ⟨t2, iter2, [], 0⟩] scope pos) 1 it acc env) R s := by
  refine codeAny_of_tree ?_
  show wpAny _ A ((compStart (.ListComp elt [⟨t1, iter1, [], 0⟩, ⟨t2, iter2, [], 0⟩] scope pos) 1 it acc env).onRaise (fun x => do noteFrame x env; standAt theWindowsPlace)) _ _ s
  refine wpAny_notedAt ?_
  unfold compStart
  show wpAny _ _ (ask >>= _) _ _ s
  refine wpAny_bind (wpAny_askSetting (wpAny_ite ?_))
  split
  · first
      | exact wpAny_bind (wpAny_pure (wpAny_pure (And.intro rfl h0)))
      | exact wpAny_pure (And.intro rfl h0)
  · refine wpAny_bind (wpAny_rule ?_)
    show wpAny _ _ (standAt iter2.pos >>= _) _ _ s
    exact wpAny_bind (wpAny_standAt (wpAny_bind (wpAny_mono h (fun it' s' h' => wpAny_pure (And.intro rfl h')) fun _ _ x => x.elim)))
end
section
variable {prog : Program} {w : World} {A : Around} {E : Value → Shared → Prop} {s : Shared} {env : Env} {iter iter2 : Expr} {x y : Str} {px py py' pos : Pos} {scope : Scope} {cl : List (Str × Addr)} {h₀ : Heap} {L : Addr}
/-- what is new beside a heap -/
def Beside (h h' : Heap) (l : Addr) : Prop := (∃ o, h.get? l = some o) ∨ h'.get? l = none
theorem Beside.ne {h h' : Heap} {l b : Addr} {o : Obj} (hB : Beside h h' l) (h1 : h.get? b = none) (h2 : h'.get? b = some o) : l ≠ b := by
  rintro rfl
  rcases hB with ⟨o', e⟩ | e
  · rw [h1] at e; cases e
  · rw [h2] at e; cases e
/-- [y for x in LIST for y in ITER2(x)] -/
theorem compFlat {Q : Value → Shared → Prop} (g : Value → List Value) (hh : A.handled = none) (hclos : closureFor scope env = pure cl) (hcell : ∀ y ∈ scope.names, y.2 ≠ .cell) (hkind : scope.kind = .function)
    (hnames : ∀ y ∈ scope.names, y.2 = .local → scope.names.lookup y.1 = some .local) (hx : scope.names.lookup x = some .local) (hy : scope.names.lookup y = some .local) (hd : (y == ("__debug__" : Str)) = false)
    (hs : ∀ x, foldedSetIterable iter env x = pure x) (hs2 : ∀ (cenv : Env) x, foldedSetIterable iter2 cenv x = pure x)
    (h : wpAny (model prog w) A (eval iter env) (fun xv s₁ => Hold (∃ ax items m₁ news₁, xv = .ref ax ∧ s₁.heap.IsList ax items ∧ (items.toList.flatMap g).length ≤ 100000 ∧ Fr h₀ L s₁.heap m₁ ∧ News h₀ L s₁.heap news₁ ∧
      (∀ C v s₃ m₃, v ∈ items → Fr s₁.heap C s₃.heap m₃ → m₃ x = some v → s₃.gens = s₁.gens → s₃.drawn = s₁.drawn → s₃.os = s₁.os →
        wpAny (model prog w) A (eval iter2 (compEnvC scope cl C env)) (fun x2 s₄ => ∃ l2, x2 = .ref l2 ∧ s₄.heap.IsList l2 (g v).toArray ∧ Beside s₁.heap s₃.heap l2 ∧ Keeps s₃ s₄) (fun _ _ => False) s₃) ∧
      (∀ D n h' tk, Fr h₀ L h' m₁ → News h₀ L h' ((D, listOf (items.toList.flatMap g).toArray n) :: news₁) → (∀ q ∈ news₁, q.1 ≠ D) → Keep s₁.heap h' → s₁.heap.get? D = none → Q (.ref D) { s₁ with heap := h', toks := tk }))) E s) :
    wpAny (model prog w) A (eval (.ListComp (.Name y py') [⟨.Name x px, iter, [], 0⟩, ⟨.Name y py, iter2, [], 0⟩] scope pos) env) Q E s := by
  rw [eval_ListComp]
  refine wpAny_comprehension_free (use := none) rfl hs hclos hkind hnames (wpAny_mono h (fun xv s₁ h₁ => ?_) fun _ _ e => e)
  obtain ⟨ax, items, m₁, news₁, rfl, hl, hlen, F, N, hin, hQ⟩ := h₁
  obtain ⟨ol, hol, hol'⟩ := id hl
  refine wpAny_pyIter_list hl ?_
  refine wpAny_newObj_type (wpAny_newFunctionEnv hcell (by intro y hy; simp at hy) (fun h₁ hns₁ hsb₁ => ?_) hkind)
  dsimp only at hns₁ hsb₁ ⊢
  obtain ⟨H0, g0, d0, k0, os0⟩ := s₁
  dsimp only at *
  generalize hH1 : H0.push { cls := .type "list_iterator", data := .fields #[.ref ax, .int 0 0] } = H1 at hns₁ hsb₁ ⊢
  generalize hH2 : H1.push { cls := .type "list", dict := none, data := .seq ([] : List Value).toArray } = H2 at hns₁ hsb₁ ⊢
  have hI' : H1.objs.size = H0.objs.size + 1 := by rw [← hH1, Heap.size_push]
  have hC' : H2.objs.size = H1.objs.size + 1 := by rw [← hH2, Heap.size_push]
  generalize hI : H0.objs.size = I at *
  generalize hD : H1.objs.size = D at *
  generalize hC : H2.objs.size = C at *
  have hID : I ≠ D := by omega
  have hIC : I ≠ C := by omega
  have hDC : D ≠ C := by omega
  have hIn : H0.get? I = none := fresh_of (by omega)
  have hDn : H0.get? D = none := fresh_of (by omega)
  have hCn : H0.get? C = none := fresh_of (by omega)
  have haxI : ax ≠ I := fun e => by rw [e, hIn] at hol; cases hol
  have old : Keep H0 h₁ := fun b o e => hsb₁.extBut b o (fun q => by rw [q, hCn] at e; cases e) (Heap.get?_push_of_some _ (by rw [← hH2, ← hH1]; exact Heap.get?_push_of_some _ (Heap.get?_push_of_some _ e)))
  have hacc : h₁.get? D = some (listOf ([] : List Value).toArray 0) := hsb₁.extBut _ _ hDC (Heap.get?_push_of_some _ (by rw [← hH2, ← hD]; exact Heap.get?_push_size _ rfl))
  have hit : h₁.IsListIter I ax 0 := ⟨_, hsb₁.extBut _ _ hIC (Heap.get?_push_of_some _ (by rw [← hH2]; exact Heap.get?_push_of_some _ (by rw [← hH1, ← hI]; exact Heap.get?_push_size _ rfl))), rfl, rfl⟩
  have loop : ∀ {cenv : Env} (_ : cenv = compEnvC scope cl C env) (R : Result → Shared → Prop), (∀ h' tk m' n, h'.Ns C m' → h'.get? D = some (listOf (items.toList.flatMap g).toArray n) → Keep H0 h' → R (.ok .next) ⟨h', g0, d0, tk, os0⟩) →
      codeAny (model prog w) A (.compLoop (.ListComp (.Name y py') [⟨.Name x px, iter, [], 0⟩, ⟨.Name y py, iter2, [], 0⟩] scope pos) 0 (.ref I) (.ref D) cenv) R ⟨h₁, g0, d0, k0 + ([] : List (Str × Value)).length, os0⟩ := by
    intro cenv hce R hR
    have hcl : cenv.locals = C := by rw [hce]; rfl
    have hkx : cenv.kindOf x = some .local := by rw [hce]; exact lookup_relabel_local hx
    have hky : cenv.kindOf y = some .local := by rw [hce]; exact lookup_relabel_local hy
    have hks : cenv.scope.kind = .function := by rw [hce]; exact hkind
    have hpp : (cenv.scope.kind == .class || (cenv.scope.kind == .module && cenv.locals != cenv.globals)) = false := by rw [hks]; rfl
    refine loop_0 (fun k τ => ∃ i h' tk m' n, τ = ⟨h', g0, d0, tk, os0⟩ ∧ k = items.size - i ∧ i ≤ items.size ∧ h'.IsListIter I ax i ∧ h'.Ns C m' ∧ h'.get? D = some (listOf ((items.toList.take i).flatMap g).toArray n) ∧ Keep H0 h') (hs2 _) ?_ items.size
      ⟨0, h₁, _, _, 0, rfl, rfl, Nat.zero_le _, hit, hns₁, by simpa using hacc, old⟩
    rintro k τ ⟨i, h', tk, m', n, rfl, rfl, hi, hit', hn', hD', hk'⟩
    have hl' : h'.IsList ax items := hl.at fun o e => hk' _ _ e
    cases hv : items[i]? with
    | none =>
      have hsz : items.toList.length ≤ i := by simpa using hv
      refine wpAny_pyNext_list_end hh hit' hl' hv fun h₂ he₂ => ?_
      rw [List.take_of_length_le hsz] at hD'
      exact hR h₂ tk m' n (hn'.extBut he₂ (Ne.symm hIC)) (he₂ _ _ (Ne.symm hID) hD') fun b o e => he₂ b o (fun q => by rw [q, hIn] at e; cases e) (hk' b o e)
    | some v =>
      have hlt : i < items.size := (Array.getElem?_eq_some_iff.mp hv).1
      have hmem : v ∈ items := by obtain ⟨h1, rfl⟩ := Array.getElem?_eq_some_iff.mp hv; exact Array.getElem_mem h1
      have hvl : items.toList[i]? = some v := by simpa using hv
      refine wpAny_pyNext_list_item hit' hl' hv fun h₂ hit₂ hs₂ => ?_
      refine wpAny_assign_Name (wpAny_storeName_local hkx (by rw [hcl]; exact hn'.sameBut hs₂ (Ne.symm hIC)) (fun h₃ hn₃ hs₃ => ?_) hpp)
      rw [hcl] at hn₃ hs₃
      have k3 : Keep H0 h₃ := fun b o e => hs₃.extBut b o (fun q => by rw [q, hCn] at e; cases e) (hs₂.extBut b o (fun q => by rw [q, hIn] at e; cases e) (hk' b o e))
      have F₃ : Fr H0 C h₃ (fun z => if z = x then some v else m' z) := ⟨hn₃, k3, by omega⟩
      have hD₃ : h₃.get? D = some (listOf ((items.toList.take i).flatMap g).toArray n) := hs₃.extBut _ _ hDC (hs₂.extBut _ _ (Ne.symm hID) hD')
      have hit₃ : h₃.IsListIter I ax (i + 1) := hit₂.at fun o e => hs₃.extBut _ _ hIC e
      rw [hce]
      refine wpAny_mono (hin C v _ _ hmem F₃ (by simp) rfl rfl rfl) (fun x2 s₄ h₄ => ?_) fun _ _ x => x
      obtain ⟨l2, rfl, hl2, hbs, h₄, tk₄, rfl, hk₄⟩ := h₄
      dsimp only at hl2 hbs hk₄ ⊢
      have hl2D : l2 ≠ D := hbs.ne hDn hD₃
      have hl2C : l2 ≠ C := by obtain ⟨o, _, _, ho, _⟩ := hn₃; exact hbs.ne hCn ho
      have hl2I : l2 ≠ I := by obtain ⟨o, ho, _⟩ := hit₃; exact hbs.ne hIn ho
      refine wpAny_pyIter_list hl2 ?_
      dsimp only
      generalize hH5 : h₄.push { cls := .type "list_iterator", data := .fields #[.ref l2, .int 0 0] } = H5
      generalize hJ : h₄.objs.size = J
      have hJn : h₄.get? J = none := fresh_of (by omega)
      have k5 : Keep h₄ H5 := fun b o e => hH5 ▸ Heap.get?_push_of_some _ e
      have hit5 : H5.IsListIter J l2 0 := ⟨_, by rw [← hH5, ← hJ]; exact Heap.get?_push_size _ rfl, rfl, rfl⟩
      have hl25 : H5.IsList l2 (g v).toArray := hl2.at fun o e => k5 _ _ e
      have hDJ : D ≠ J := fun q => by have := hk₄ _ _ hD₃; rw [q, hJn] at this; cases this
      have hCJ : C ≠ J := fun q => by obtain ⟨o, _, _, ho, _⟩ := hn₃; have := hk₄ _ _ ho; rw [q, hJn] at this; cases this
      have hIJ : I ≠ J := fun q => by obtain ⟨o, ho, _⟩ := hit₃; have := hk₄ _ _ ho; rw [q, hJn] at this; cases this
      have hl2J : l2 ≠ J := fun q => by obtain ⟨o, ho, _⟩ := hl2; rw [q, hJn] at ho; cases ho
      have h0J : ∀ b o, H0.get? b = some o → b ≠ J := fun b o e q => by have := hk₄ _ _ (k3 _ _ e); rw [q, hJn] at this; cases this
      rw [← hce]
      have inner : ∀ (R : Result → Shared → Prop), (∀ h' tk m' n', h'.Ns C m' → h'.IsListIter I ax (i + 1) → h'.get? D = some (listOf ((items.toList.take (i + 1)).flatMap g).toArray n') → Keep H0 h' → R (.ok .next) ⟨h', g0, d0, tk, os0⟩) →
          codeAny (model prog w) A (.compLoop (.ListComp (.Name y py') [⟨.Name x px, iter, [], 0⟩, ⟨.Name y py, iter2, [], 0⟩] scope pos) 1 (.ref J) (.ref D) cenv) R ⟨H5, g0, d0, tk₄, os0⟩ := by
        intro R hR
        refine loop_1 (fun k τ => ∃ j h' tk m' n, τ = ⟨h', g0, d0, tk, os0⟩ ∧ k = (g v).length - j ∧ j ≤ (g v).length ∧ h'.IsListIter J l2 j ∧ h'.IsList l2 (g v).toArray ∧ h'.IsListIter I ax (i + 1) ∧ h'.Ns C m' ∧
          h'.get? D = some (listOf ((items.toList.take i).flatMap g ++ (g v).take j).toArray n) ∧ Keep H0 h') ?_ (g v).length
          ⟨0, H5, _, _, n, rfl, rfl, Nat.zero_le _, hit5, hl25, hit₃.at fun o e => k5 _ _ (hk₄ _ _ e), hn₃.at' fun o e => k5 _ _ (hk₄ _ _ e), by simpa using k5 _ _ (hk₄ _ _ hD₃), fun b o e => k5 _ _ (hk₄ _ _ (k3 _ _ e))⟩
        rintro k τ ⟨j, h', tk, m', n, rfl, rfl, hj, hitJ, hl2', hitI, hn', hD', hk'⟩
        cases hu : (g v)[j]? with
        | none =>
          have hsz : (g v).length ≤ j := by simpa using hu
          refine wpAny_pyNext_list_end hh hitJ hl2' (by simpa using hu) fun h₆ he₆ => ?_
          refine hR h₆ tk m' n (hn'.extBut he₆ hCJ) (hitI.at fun o e => he₆ _ _ hIJ e) ?_ fun b o e => he₆ b o (h0J b o e) (hk' b o e)
          rw [List.take_of_length_le hsz] at hD'
          rw [List.take_add_one, hvl, List.flatMap_append]
          simpa using he₆ _ _ hDJ hD'
        | some u =>
          have hjlt : j < (g v).length := (List.getElem?_eq_some_iff.mp hu).1
          refine wpAny_pyNext_list_item hitJ hl2' (x := u) (by simpa using hu) fun h₆ hit₆ hs₆ => ?_
          refine wpAny_assign_Name (wpAny_storeName_local hky (by rw [hcl]; exact hn'.sameBut hs₆ hCJ) (fun h₇ hn₇ hs₇ => ?_) hpp)
          rw [hcl] at hn₇ hs₇
          refine wpAny_Name (wpAny_loadName_local hks hky (by rw [hcl]; exact hn₇) (v := u) (by simp) ?_) hd
          have hD7 : h₇.get? D = some (listOf ((items.toList.take i).flatMap g ++ (g v).take j).toArray n) := hs₇.extBut _ _ hDC (hs₆.extBut _ _ hDJ hD')
          refine wpAny_list_append_plain ⟨n, hD7⟩ (fun h₈ hpl hs₈ => ?_) (Nat.le_trans (?_ : _ ≤ 100000) (Nat.le_trans (by decide) sizeLine_big))
          · obtain ⟨ep', he⟩ := hpl
            refine ⟨(g v).length - (j + 1), by omega, j + 1, h₈, tk + 1, _, ep', rfl, rfl, hjlt, ?_, ?_, ?_, hn₇.sameBut hs₈ (Ne.symm hDC), ?_, ?_⟩
            · exact hit₆.at fun o e => hs₈.extBut _ _ (Ne.symm hDJ) (hs₇.extBut _ _ (Ne.symm hCJ) e)
            · exact hl2'.at fun o e => hs₈.extBut _ _ hl2D (hs₇.extBut _ _ hl2C (hs₆.extBut _ _ hl2J e))
            · exact hitI.at fun o e => hs₈.extBut _ _ hID (hs₇.extBut _ _ hIC (hs₆.extBut _ _ hIJ e))
            · rw [List.take_add_one, hu, he, List.push_toArray]
              simp
            · exact fun b o e => hs₈.extBut _ _ (fun q => by rw [q, hDn] at e; cases e) (hs₇.extBut _ _ (fun q => by rw [q, hCn] at e; cases e) (hs₆.extBut _ _ (h0J b o e) (hk' b o e)))
          · have e1 : items.toList.flatMap g = (items.toList.take i).flatMap g ++ (g v ++ (items.toList.drop (i + 1)).flatMap g) := by
              have e3 : items.toList.drop i = v :: items.toList.drop (i + 1) := by
                rw [List.drop_eq_getElem_cons (by simpa using hlt)]
                congr 1
                have := List.getElem?_eq_getElem (l := items.toList) (i := i) (by simpa using hlt)
                rw [hvl] at this
                exact (Option.some.inj this).symm
              rw [← List.flatMap_cons, ← e3, ← List.flatMap_append, List.take_append_drop]
            have e2 := congrArg List.length e1
            simp only [List.length_append] at e2
            simp only [List.size_toArray, List.length_append, List.length_take]
            omega
      have fin : ∀ h' tk m' n', h'.Ns C m' → h'.IsListIter I ax (i + 1) → h'.get? D = some (listOf ((items.toList.take (i + 1)).flatMap g).toArray n') → Keep H0 h' →
          ∃ m, m < items.size - i ∧ ∃ i' h'' tk' m'' n'', (⟨h', g0, d0, tk, os0⟩ : Shared) = ⟨h'', g0, d0, tk', os0⟩ ∧ m = items.size - i' ∧ i' ≤ items.size ∧ h''.IsListIter I ax i' ∧ h''.Ns C m'' ∧ h''.get? D = some (listOf ((items.toList.take i').flatMap g).toArray n'') ∧ Keep H0 h'' :=
        fun h' tk m' n' a b c d => ⟨items.size - (i + 1), by omega, i + 1, h', tk, m', n', rfl, rfl, hlt, b, a, c, d⟩
      exact start_1 (inner _ fin) (wpAny_pyIter_listiter hit5 (inner _ fin))
  have loop' := loop (cenv := { scope := relabel scope env, locals := C, globals := env.globals, cells := cl, qual := env.qual, func := none, code := env.code, frame := env.frame, builtins := env.builtins }) rfl (compPost (model prog w) A E none Q (.ref D) C) (fun h' tk m' n hn' hD' hk' => ?_)
  · exact codeAny_compStart_list loop' (wpAny_pyIter_listiter hit loop')
  · refine ⟨m', hn', fun h'' hs'' => ?_⟩
    have kC : Keep H0 h'' := fun b o e => hs''.extBut b o (fun q => by rw [q, hCn] at e; cases e) (hk' b o e)
    have F'' := fr_keep F kC
    refine hQ D n h'' tk F'' (news_cons F'' (news_keep N kC) (hs''.extBut _ _ hDC hD') (fr_none F hDn) (fr_new F hDn)) (fun q hq e => ?_) kC hDn
    have := (N q hq).1
    rw [e, hDn] at this; cases this
end
end Mine
end

section
example : True ∧ True := by
  w_top off
  first | (walk1; done) | exact ⟨trivial, trivial⟩
open PySem PySem.W PySem.Calls PyProof.Rows
set_option maxRecDepth 100000
set_option maxHeartbeats 4000000
namespace Mine
mutual
theorem rep_inj {P : Params} {h : Heap} : ∀ (n1 n2 : Nd), Rep P (hf h) n1 → Rep P (hf h) n2 → n1.addr = n2.addr → n1 = n2
  | .tok a ty v, .tok a' ty' v', ⟨dx, t1, t2, t3, t4, h1, h2⟩, ⟨dx', u1, u2, u3, u4, h3, h4⟩, e => by
    cases e
    have e1 := Option.some.inj (h1.symm.trans h3)
    injection e1 with _ e1
    cases e1
    have e2 := Option.some.inj (h2.symm.trans h4)
    simp [dictOf, tokEs] at e2
    simp [e2]
  | .tok a ty v, .tree a' dx' l' d' ks', ⟨dx, t1, t2, t3, t4, h1, h2⟩, ⟨⟨u1, u2, u3, u4, h3, h4⟩, _⟩, e => by
    cases e
    have e1 := Option.some.inj (h1.symm.trans h3)
    injection e1 with e1
    cases e1
  | .tree a' dx' l' d' ks', .tok a ty v, ⟨⟨u1, u2, u3, u4, h3, h4⟩, _⟩, ⟨dx, t1, t2, t3, t4, h1, h2⟩, e => by
    cases e
    have e1 := Option.some.inj (h1.symm.trans h3)
    injection e1 with e1
    cases e1
  | .tree a dx l d ks, .tree a' dx' l' d' ks', ⟨⟨t1, t2, t3, t4, h1, h2⟩, ⟨n, h3⟩, h4⟩, ⟨⟨u1, u2, u3, u4, g1, g2⟩, ⟨n', g3⟩, g4⟩, e => by
    cases e
    have e1 := Option.some.inj (h1.symm.trans g1)
    injection e1 with _ e1
    cases e1
    have e2 := Option.some.inj (h2.symm.trans g2)
    simp [dictOf, treeEs] at e2
    obtain ⟨⟨_, e3, _⟩, ⟨_, e4⟩, _⟩ := e2
    subst e3 e4
    have e5 := Option.some.inj (h3.symm.trans g3)
    simp [W.listOf] at e5
    rw [rep_injL ks ks' h4 g4 (by simpa using e5.1)]
theorem rep_injL {P : Params} {h : Heap} : ∀ (n1 n2 : List Nd), RepL P (hf h) n1 → RepL P (hf h) n2 → n1.map Nd.val = n2.map Nd.val → n1 = n2
  | [], [], _, _, _ => rfl
  | [], _ :: _, _, _, e => by cases e
  | _ :: _, [], _, _, e => by cases e
  | a :: r, b :: t, h1, h2, e => by
    simp only [List.map_cons, List.cons.injEq, Nd.val, Value.ref.injEq] at e
    rw [rep_inj a b h1.1 h2.1 e.1, rep_injL r t h1.2 h2.2 e.2]
end
/-- the node of a value, among nodes -/
def ndOf (ns : List Nd) (v : Value) : Nd := match ns.find? (fun k => k.val == v) with
  | some k => k
  | none => .tok 0 Str.empty 0
theorem ndOf_val {P : Params} {h : Heap} {ns : List Nd} (hr : RepL P (hf h) ns) {k : Nd} (hk : k ∈ ns) : ndOf ns k.val = k := by
  unfold ndOf
  cases e : ns.find? (fun k' => k'.val == k.val) with
  | none => exact absurd (List.find?_eq_none.mp e k hk) (by simp)
  | some k' =>
    have h1 := List.find?_some e
    have h2 := List.mem_of_find?_eq_some e
    have h3 : k'.addr = k.addr := by
      have := eq_of_beq h1
      injection this
    exact rep_inj _ _ (repL_iff.mp hr _ h2) (repL_iff.mp hr _ hk) h3
theorem flat_preL {P : Params} {h : Heap} {ns : List Nd} (hr : RepL P (hf h) ns) : (ns.map Nd.val).flatMap (fun v => (pre (ndOf ns v)).map Nd.val) = (preL ns).map Nd.val := by
  have : ∀ r : List Nd, (∀ k ∈ r, k ∈ ns) → (r.map Nd.val).flatMap (fun v => (pre (ndOf ns v)).map Nd.val) = (preL r).map Nd.val := by
    intro r
    induction r with
    | nil => intro _; rfl
    | cons k r ih =>
      intro hm
      rw [List.map_cons, List.flatMap_cons, ih fun x hx => hm x (.tail _ hx), ndOf_val hr (hm k (.head _))]
      simp [preL]
  exact this ns fun k hk => hk
mutual
theorem pre_length : ∀ n : Nd, (pre n).length = n.size
  | .tok .. => rfl
  | .tree _ _ _ _ ks => by simp only [pre, List.length_cons, Nd.size, preL_length ks]; omega
theorem preL_length : ∀ ns : List Nd, (preL ns).length = sizeL ns
  | [] => rfl
  | k :: r => by simp only [preL, List.length_append, sizeL, pre_length k, preL_length r]
end
mutual
theorem rep_pre {P : Params} {G : Facts} : ∀ {n : Nd}, Rep P G n → RepL P G (pre n)
  | .tok .., h => ⟨h, trivial⟩
  | .tree _ _ _ _ ks, h => ⟨h, rep_preL (ns := ks) h.2.2⟩
theorem rep_preL {P : Params} {G : Facts} : ∀ {ns : List Nd}, RepL P G ns → RepL P G (preL ns)
  | [], _ => trivial
  | k :: r, h => repL_append.mpr ⟨rep_pre h.1, rep_preL h.2⟩
end
theorem Rep.here {P : Params} {h : Heap} {n : Nd} (hr : Rep P (hf h) n) : Here h n.val := by
  cases n with
  | tok => obtain ⟨dx, t1, t2, t3, t4, h1, h2⟩ := hr; exact ⟨_, _, rfl, h1, by simp [instObj]⟩
  | tree => obtain ⟨⟨t1, t2, t3, t4, h1, h2⟩, _⟩ := hr; exact ⟨_, _, rfl, h1, by simp [instObj]⟩
local macro_rules | `(tactic| k_inst) => `(tactic| (refine' instOf_base ?F ?h1 ?h2; (case F => k_asm); (case h1 => assumption); (case h2 => assumption)))
local macro_rules | `(tactic| walk_at "eval Name") => `(tactic| ((with_reducible show wpAny _ _ (eval (.Name _ _) (compEnvC _ _ _ _)) _ _ _); first
  | (refine' nmG_L ?F ?hv ?_ ?hk ?hx ?hd; (case hk => exact rfl); (case hx => exact rfl); (case hd => exact rfl); (case F => assumption); (case hv => assumption))
  | (refine' nmG_K ?F ?X ?T ?e ?_ ?hk ?hx ?hg ?hd; (case hk => exact rfl); (case hx => exact rfl); (case hg => exact rfl); (case hd => exact rfl); (case F => assumption); (case X => assumption); (case T => assumption); (case e => k_is))))
local macro_rules | `(tactic| walk_at "eval ListComp") => `(tactic| refine holdC ?_)
section
variable {prog : Program} {w : World} {p : Program} {loose : List Str} {mg mb : Str → Option Value}
theorem written_tok {A : Around} {s : Shared} {Q E : Value → Shared → Prop} {a : Addr} {ty : Str} {v : Int} (X : (hd.heap_39 w.params).In s.heap) (T : TopRead p loose mg mb s.heap)
    (hr : Rep w.params (hf s.heap) (.tok a ty v)) (hh : A.handled = none) (hd : A.depth ≤ 900) (hu : A.units ≤ 9000)
    (hQ : ∀ D m h' tk, Keep s.heap h' → s.heap.get? D = none → h'.get? D = some (listOf [Value.ref a].toArray m) → Q (.ref D) { s with heap := h', toks := tk }) :
    wpAny (model prog w) A (call (.ref 158) [.ref a]) Q E s := by
  obtain ⟨dx, t1, t2, t3, t4, h1, h2⟩ := hr
  refine wpAny_call (to_ArC 900 9000 hh (by omega) (by omega) ?_)
  refine' enterB (h₀ := s.heap) [(Str.ofString "tree", .ref a)] ?kK ?kK1 ?kK2 ?kL ?k6 ?k7 ?k8 ?k9 ?kB ?_ ?c5 ?c2 ?c3 ?c4
  case kK => assumption
  case kK1 => exact fun _ _ e => e
  case kK2 => exact Nat.le_refl _
  case kL => exact TopRead.nolimit (by assumption)
  case k6 => k_is
  case k7 => k_is
  case k8 => show 900 < 1000; decide
  case k9 => exact BindsTo.of_eq rfl
  case kB => exact rfl
  case c5 => decide
  case c2 => exact rfl
  case c3 => exact rfl
  case c4 => exact rfl
  intro L h₁ tk hL F hkp
  have N : News s.heap L h₁ [] := fun p hp => nomatch hp
  repeat' walk1
  rename_i l' h' F' N' _
  exact hQ _ _ _ _ F'.keep (N' _ (.head _)).2.2 (N' _ (.head _)).1
theorem written_call : ∀ (k : Nat) (n : Nd), n.height ≤ k → k ≤ 20 → n.size ≤ 1000 → ∀ {A : Around} {s : Shared} {Q E : Value → Shared → Prop} (_ : (hd.heap_39 w.params).In s.heap) (_ : TopRead p loose mg mb s.heap),
    Rep w.params (hf s.heap) n → A.handled = none → A.depth + 4 * k ≤ 900 → A.units + 50 * k ≤ 9000 →
    (∀ D m h' tk, Keep s.heap h' → s.heap.get? D = none → h'.get? D = some (listOf ((pre n).map Nd.val).toArray m) → Q (.ref D) { s with heap := h', toks := tk }) →
    wpAny (model prog w) A (call (.ref 158) [n.val]) Q E s := by
  intro k
  induction k with
  | zero =>
    intro n hk1 hk hz A s Q E X T hr hh hd hu hQ
    cases n with
    | tree => simp [Nd.height] at hk1
    | tok a ty v => exact written_tok X T hr hh (by omega) (by omega) hQ
  | succ k ih =>
    intro n hk1 hk hz A s Q E X T hr hh hd hu hQ
    cases n with
    | tok a ty v => exact written_tok X T hr hh (by omega) (by omega) hQ
    | tree a dx l d ks =>
      obtain ⟨⟨t1, t2, t3, t4, hx1, hx2⟩, ⟨nl, hl⟩, hks⟩ := hr
      refine wpAny_call (to_ArC (900 - 4 * (k + 1)) (9000 - 50 * (k + 1)) hh (by omega) (by omega) ?_)
      refine' enterB (h₀ := s.heap) [(Str.ofString "tree", .ref a)] ?kK ?kK1 ?kK2 ?kL ?k6 ?k7 ?k8 ?k9 ?kB ?_ ?c5 ?c2 ?c3 ?c4
      case kK => assumption
      case kK1 => exact fun _ _ e => e
      case kK2 => exact Nat.le_refl _
      case kL => exact TopRead.nolimit (by assumption)
      case k6 => k_is
      case k7 => k_is
      case k8 => show 900 - 4 * (k + 1) < 1000; omega
      case k9 => exact BindsTo.of_eq rfl
      case kB => exact rfl
      case c5 => decide
      case c2 => exact rfl
      case c3 => exact rfl
      case c4 => exact rfl
      intro L h₁ tk hL F hkp
      have N : News s.heap L h₁ [] := fun p hp => nomatch hp
      repeat' walk1
      rename_i l' h' F' N' _
      unfold Hold
      refine compFlat (h₀ := s.heap) (L := L) (cl := ?cl) (fun v => (pre (ndOf ks v)).map Nd.val) rfl ?hclos ?hcell rfl ?hnames rfl rfl rfl ?hs ?hs2 ?h
      case hclos => exact rfl
      case hcell => decide
      case hnames => decide
      case hs => exact fun _ => rfl
      case hs2 => exact fun _ _ => rfl
      repeat' walk1
      refine ⟨l, (ks.map Nd.val).toArray, _, _, rfl, ⟨_, F'.keep _ _ hl, rfl, _, rfl⟩, ?_, F', N', ?_, ?_⟩
      · rw [List.toList_toArray, flat_preL hks]
        have := preL_length ks
        simp [Nd.size] at hz ⊢
        omega
      · intro C v s₃ m₃ hv F₃ hm hg hdr hos
        rw [List.mem_toArray] at hv
        obtain ⟨c, hc, rfl⟩ := List.mem_map.mp hv
        rw [ndOf_val hks hc]
        have X₁ := X.keeps F'.keep
        have T₁ := T.keeps F'.keep
        have hrc : Rep w.params (hf h') c := (repL_iff.mp hks c hc).mono F'.keep
        have hks1 := height_le_of_mem hc
        have hks2 := size_mem hc
        simp only [Nd.height, Nd.size] at hk1 hz
        dsimp only at F₃ hg hdr hos ⊢
        obtain ⟨H3, g3, d3, k3, o3⟩ := s₃
        dsimp only at F₃ hg hdr hos ⊢
        subst hg hdr hos
        have k₃ := F₃.keep
        repeat' walk1
        refine ih c (by omega) (by omega) (by omega) (X₁.keeps k₃) (T₁.keeps k₃) (hrc.mono k₃) rfl ?_ ?_ fun D m h'' tk'' hkd hDn hDl => ?_
        · exact Nat.le_trans (Nat.le_of_eq (rfl : _ = 900 - 4 * (k + 1) + 1 + 4 * k)) (by omega)
        · exact Nat.le_trans (Nat.le_of_eq (rfl : _ = 9000 - 50 * (k + 1) + 3 + 50 * k)) (by omega)
        refine ⟨D, rfl, ⟨_, hDl, rfl, _, rfl⟩, .inr hDn, _, _, rfl, hkd⟩
      · intro D n h₂ tk₂ F₂ N₂ off hk₂ hDn
        rw [List.toList_toArray, flat_preL hks] at N₂
        dsimp only at hk₂ hDn ⊢
        refine kmk_add_lit F₂ N₂ (its := #[Value.ref a]) (its2 := ((preL ks).map Nd.val).toArray) ⟨_, N₂.get (.tail _ (.head _)), rfl, _, rfl⟩ ⟨_, N₂.get (.head _), rfl, _, rfl⟩ (zs := (pre (.tree a dx l d ks)).map Nd.val) ?_ ?_ ?_
        · simp [pre, Nd.val, Nd.addr]
        · intro D' h₄ F₄ N₄ off₄
          exact hQ D' _ _ _ F₄.keep (N₄ _ (.head _)).2.2 (N₄ _ (.head _)).1
        · have := preL_length ks
          simp only [Nd.size] at hz
          refine Nat.le_trans (?_ : _ ≤ 1000000) sizeLine_big
          simp
          omega
end
end Mine
end

section
example : True ∧ True := by
  w_top off
  first | (walk1; done) | exact ⟨trivial, trivial⟩
open PySem PySem.W PySem.Calls PyProof.Rows
set_option maxRecDepth 100000
set_option maxHeartbeats 4000000
namespace Mine
/-- the namespace of a comprehension whose variable x is a cell -/
def compEnvK (scope : Scope) (cl : List (Str × Addr)) (C : Addr) (env : Env) (x : Str) : Env :=
  { scope := relabel scope env, locals := C, globals := env.globals, cells := (x, C + 1) :: cl, qual := env.qual, func := none, code := env.code, frame := env.frame, builtins := env.builtins }
section
variable {M : Model} {A : Around} {E : Value → Shared → Prop} {s : Shared}
theorem newEnv_around {scope : Scope} {globals : Addr} {cl : List (Str × Addr)} {qual : Str} {code : Value} {builtins : Addr} {outer : Env} {Q : Env → Shared → Prop}
    (h : Q { scope := scope, locals := s.heap.objs.size, globals := globals, cells := cellsFrom (s.heap.objs.size + 1) scope.names cl, qual := qual, func := none, code := outer.code, frame := outer.frame, builtins := outer.builtins }
      { s with heap := pushCells (s.heap.push { cls := .type "dict", data := .dict #[] }) scope.names }) :
    wpAny M A (newFunctionEnv scope globals cl [] qual none code (some outer) builtins) Q E s := by
  simp only [newFunctionEnv, Option.isSome_some, if_true]
  refine wpAny_bind (wpAny_alloc ?_)
  refine wpAny_bind (wpAny_layCells _ (fun name kind cells => by cases hkc : kind == NameKind.cell <;> simp [hkc]) _ _ _ _ ?_)
  rw [show ({ s with heap := s.heap.push { cls := .type "dict", data := .dict #[] } } : Shared).heap.objs.size = s.heap.objs.size + 1 from Heap.size_push ..]
  rw [List.forIn_nil]
  exact wpAny_bind (wpAny_pure (wpAny_pure h))
end
section
variable {prog : Program} {w : World} {A : Around} {E : Value → Shared → Prop} {s : Shared} {env : Env} {iter : Expr} {x : Str} {px px' pos : Pos} {scope : Scope} {cl : List (Str × Addr)} {h₀ : Heap} {L : Addr}
/-- [x for x in ITER if TESTS], x a cell -/
theorem compCell {ifs : List Expr} {Q : Value → Shared → Prop} (p : Value → Bool) (hclos : closureFor scope env = pure cl) (hkind : scope.kind = .function)
    (hnames : ∀ y ∈ scope.names, y.2 = .local → scope.names.lookup y.1 = some .local) (hx : ∀ C, (compEnvK scope cl C env x).kindOf x = some .cell) (hd : (x == ("__debug__" : Str)) = false)
    (hcells : ∀ n, cellsFrom n scope.names cl = (x, n) :: cl) (hpush : ∀ h : Heap, pushCells h scope.names = h.push { cls := .type "cell", data := .cell none })
    (hs : ∀ x, foldedSetIterable iter env x = pure x)
    (h : wpAny (model prog w) A (eval iter env) (fun xv s₁ => wpAny (model prog w) A (pyIter xv) (fun it s₂ => Hold (∃ I fp wr n P St m₁ news₁, it = .ref I ∧ Walks prog w A I fp wr n P St ∧ n ≤ 100000 ∧ St 0 s₂.heap ∧ (∀ b ∈ fp, b < s₂.heap.objs.size) ∧
      Fr h₀ L s₂.heap m₁ ∧ News h₀ L s₂.heap news₁ ∧ (∀ q ∈ news₁, q.1 ∉ wr) ∧ (∀ b ∈ wr, h₀.get? b = none) ∧ L ∉ wr ∧
      (∀ C i v s₃ oc, P i v → s₂.heap.objs.size ≤ C → (∃ m, s₃.heap.Ns C m) → s₃.heap.get? (C + 1) = some oc → oc.data = .cell (some v) → (∀ b o, b ∉ wr → s₂.heap.get? b = some o → s₃.heap.get? b = some o) →
        wpAny (model prog w) A (forIn ifs true fun c r => if r = true then do let ok ← isTrue c (compEnvK scope cl C env x) (eval c (compEnvK scope cl C env x)); pure (ForInStep.yield ok) else pure (ForInStep.yield r)) (fun ok s₄ => ok = p v ∧ Keeps s₃ s₄) (fun _ _ => False) s₃) ∧
      (∀ D k h' tk (vs : List Value), vs.length = n → (∀ j v, vs[j]? = some v → P j v) → Fr h₀ L h' m₁ → News h₀ L h' ((D, listOf (vs.filter p).toArray k) :: news₁) → (∀ q ∈ news₁, q.1 < D) → Q (.ref D) { s₂ with heap := h', toks := tk }))) E s₁) E s) :
    wpAny (model prog w) A (eval (.ListComp (.Name x px') [⟨.Name x px, iter, ifs, 0⟩] scope pos) env) Q E s := by
  rw [eval_ListComp]
  refine wpAny_comprehension_free (use := none) rfl hs hclos hkind hnames (wpAny_mono h (fun xv s₁ h₁ => wpAny_mono h₁ (fun it s₂ h₂ => ?_) fun _ _ e => e) fun _ _ e => e)
  obtain ⟨I, fp, wr, n, P, St, m₁, news₁, rfl, W, hn, hst, hfp, F, N, hnw, h0w, hLw, ht, hQ⟩ := h₂
  refine wpAny_newObj_type (newEnv_around ?_)
  dsimp only
  rw [hcells, hpush]
  obtain ⟨H0, g0, d0, k0, os0⟩ := s₂
  dsimp only at *
  generalize hH1 : H0.push { cls := .type "list", dict := none, data := .seq ([] : List Value).toArray } = H1
  have hC' : H1.objs.size = H0.objs.size + 1 := by rw [← hH1, Heap.size_push]
  generalize hD : H0.objs.size = D at *
  generalize hC : H1.objs.size = C at *
  subst hC'
  have hDn : H0.get? D = none := fresh_of (by omega)
  have hCn : H0.get? (D + 1) = none := fresh_of (by omega)
  have hKn : H0.get? (D + 1 + 1) = none := fresh_of (by omega)
  generalize hH2 : (H1.push { cls := .type "dict", data := .dict #[] }).push { cls := .type "cell", data := .cell none } = H2
  have old : Keep H0 H2 := fun b o e => by rw [← hH2, ← hH1]; exact Heap.get?_push_of_some _ (Heap.get?_push_of_some _ (Heap.get?_push_of_some _ e))
  have hacc : H2.get? D = some (listOf ([] : List Value).toArray 0) := by
    rw [← hH2]
    refine Heap.get?_push_of_some _ (Heap.get?_push_of_some _ ?_)
    rw [← hH1, ← hD]
    exact Heap.get?_push_size _ rfl
  have hns : H2.Ns (D + 1) (fun _ => none) := by
    have := Heap.Ns.new H1 (.type "dict")
    rw [hC] at this
    rw [← hH2]
    exact this.keeps fun b o e => Heap.get?_push_of_some _ e
  have hcell : H2.IsCell (D + 1 + 1) none := by
    have e : (H1.push { cls := .type "dict", data := .dict #[] }).objs.size = D + 1 + 1 := by rw [Heap.size_push, hC]
    rw [← hH2, ← e]
    exact ⟨_, Heap.get?_push_size _ rfl, rfl⟩
  have hnw' : ∀ b ∈ wr, b < D := fun b hb => hfp b (W.sub b hb)
  have loop : ∀ {cenv : Env} (_ : cenv = compEnvK scope cl (D + 1) env x) (R : Result → Shared → Prop), (∀ h' tk m' k (vs : List Value), h'.Ns (D + 1) m' → vs.length = n → (∀ j v, vs[j]? = some v → P j v) → h'.get? D = some (listOf (vs.filter p).toArray k) → (∀ b o, b ∉ wr → H0.get? b = some o → h'.get? b = some o) → R (.ok .next) ⟨h', g0, d0, tk, os0⟩) →
      codeAny (model prog w) A (.compLoop (.ListComp (.Name x px') [⟨.Name x px, iter, ifs, 0⟩] scope pos) 0 (.ref I) (.ref D) cenv) R ⟨H2, g0, d0, k0, os0⟩ := by
    intro cenv hce R hR
    have hcl : cenv.locals = D + 1 := by rw [hce]; rfl
    have hkx : cenv.kindOf x = some .cell := by rw [hce]; exact hx _
    have hcc : cenv.cells.lookup x = some (D + 1 + 1) := by rw [hce]; simp [compEnvK, List.lookup]
    have hks : cenv.scope.kind = .function := by rw [hce]; exact hkind
    refine codeAny_compLoop_tests (fun q τ => ∃ i h' tk m' k, ∃ (vs : List Value), ∃ oc, τ = ⟨h', g0, d0, tk, os0⟩ ∧ q = n - i ∧ i ≤ n ∧ vs.length = i ∧ (∀ j v, vs[j]? = some v → P j v) ∧ St i h' ∧ h'.Ns (D + 1) m' ∧ h'.get? (D + 1 + 1) = some oc ∧ (∃ v₀, oc.data = .cell v₀) ∧ h'.get? D = some (listOf (vs.filter p).toArray k) ∧ (∀ b o, b ∉ wr → H0.get? b = some o → h'.get? b = some o)) ?_ n ?_
    · rintro q τ ⟨i, h', tk, m', k, vs, oc, rfl, rfl, hi, hvl, hvP, hst', hn', hoc, ⟨v₀, hv₀⟩, hD', hk'⟩
      by_cases hin : i = n
      · subst hin
        refine W.done _ _ _ hst' fun h₂ tk₂ hk₂ => ?_
        have nb : ∀ b, D ≤ b → b ∉ wr := fun b hb hm => Nat.lt_irrefl _ (Nat.lt_of_lt_of_le (hnw' b hm) hb)
        exact hR h₂ tk₂ m' k vs (hn'.at' fun o e => hk₂ _ _ (nb _ (by first | exact Nat.le_succ _ | exact Nat.le_trans (Nat.le_succ _) (Nat.le_succ _))) e) hvl hvP (hk₂ _ _ (nb _ (Nat.le_refl _)) hD') fun b o hb e => hk₂ _ _ hb (hk' b o hb e)
      · have hlt : i < n := by omega
        refine W.item i _ _ _ hlt hst' fun v h₂ tk₂ hPv hst₂ hk₂ => ?_
        have nb : ∀ b, D ≤ b → b ∉ wr := fun b hb hm => Nat.lt_irrefl _ (Nat.lt_of_lt_of_le (hnw' b hm) hb)
        have hD₂ := hk₂ _ _ (nb _ (Nat.le_refl _)) hD'
        have hoc₂ := hk₂ _ _ (nb _ (by first | exact Nat.le_succ _ | exact Nat.le_trans (Nat.le_succ _) (Nat.le_succ _))) hoc
        have hn₂ : h₂.Ns (D + 1) m' := hn'.at' fun o e => hk₂ _ _ (nb _ (by first | exact Nat.le_succ _ | exact Nat.le_trans (Nat.le_succ _) (Nat.le_succ _))) e
        refine wpAny_assign_Name (wpAny_storeName_cell hks hkx hcc ⟨oc, hoc₂, hv₀⟩ fun h₃ hic₃ hs₃ => ?_)
        obtain ⟨oc₃, hoc₃, hdc₃⟩ := hic₃
        have k3 : ∀ b o, b ≠ D + 1 + 1 → h₂.get? b = some o → h₃.get? b = some o := fun b o hb e => (hs₃.2 b hb).trans e
        have fpb : ∀ b ∈ fp, b ≠ D + 1 + 1 := fun b hb => Nat.ne_of_lt (Nat.lt_trans (hfp b hb) (Nat.lt_succ_of_lt (Nat.lt_succ_self _)))
        rw [hce]
        refine wpAny_mono (ht (D + 1) i v _ oc₃ hPv (Nat.le_succ _) ⟨_, hn₂.sameBut hs₃ (by first | exact Nat.ne_of_lt (Nat.lt_succ_self _) | exact Nat.ne_of_gt (Nat.lt_succ_self _) | exact Nat.ne_of_lt (Nat.lt_succ_of_lt (Nat.lt_succ_self _)) | exact Nat.ne_of_gt (Nat.lt_succ_of_lt (Nat.lt_succ_self _)))⟩ hoc₃ hdc₃ fun b o hb e => k3 b o (fun q => by rw [q, hKn] at e; cases e) (hk₂ b o hb (hk' b o hb e))) (fun ok s₄ h₄ => ?_) fun _ _ x => x.elim
        obtain ⟨rfl, h₄, tk₄, rfl, hk₄⟩ := h₄
        dsimp only at hk₄ ⊢
        have keep4 : ∀ b o, b ∉ wr → H0.get? b = some o → h₄.get? b = some o := fun b o hb e => hk₄ _ _ (k3 b o (fun q => by rw [q, hKn] at e; cases e) (hk₂ b o hb (hk' b o hb e)))
        have hD₄ := hk₄ _ _ (k3 _ _ (by omega) hD₂)
        have hst₄ : St (i + 1) h₄ := W.frame _ _ _ hst₂ fun b hb o e => hk₄ _ _ (k3 b o (fpb b hb) e)
        have hn₄ : h₄.Ns (D + 1) m' := hn₂.at' fun o e => hk₄ _ _ (k3 _ _ (by omega) e)
        have hvl' : (vs ++ [v]).length = i + 1 := by simp [hvl]
        have hvP' : ∀ j u, (vs ++ [v])[j]? = some u → P j u := by
          intro j u hj
          rw [List.getElem?_append] at hj
          split at hj
          · exact hvP j u hj
          · rename_i hge
            have : j = vs.length := by
              have := (List.getElem?_eq_some_iff.mp hj).1
              simp at this
              omega
            subst this
            simp at hj
            subst hj
            rw [hvl]
            exact hPv
        cases hp : p v with
        | false =>
          simp only [Bool.false_eq_true, if_false]
          exact ⟨n - (i + 1), by omega, i + 1, h₄, tk₄, m', k, vs ++ [v], oc₃, rfl, rfl, hlt, hvl', hvP', hst₄, hn₄, hk₄ _ _ hoc₃, ⟨_, hdc₃⟩, by rw [List.filter_append]; simp [hp]; exact hD₄, keep4⟩
        | true =>
          simp only [if_true]
          rw [← hce]
          refine wpAny_Name (wpAny_loadName_cell hks hkx hcc (v := v) ⟨oc₃, hk₄ _ _ hoc₃, hdc₃⟩ ?_) hd
          refine wpAny_list_append_plain ⟨k, hD₄⟩ (fun h₅ hpl hs₅ => ?_) (Nat.le_trans (?_ : _ ≤ 100000) (Nat.le_trans (by decide) sizeLine_big))
          · obtain ⟨ep', he⟩ := hpl
            have k5 : ∀ b o, b ≠ D → h₄.get? b = some o → h₅.get? b = some o := fun b o hb e => (hs₅.2 b hb).trans e
            refine ⟨n - (i + 1), by omega, i + 1, h₅, tk₄, m', ep', vs ++ [v], oc₃, rfl, rfl, hlt, hvl', hvP', W.frame _ _ _ hst₄ fun b hb o e => k5 b o (Nat.ne_of_lt (hfp b hb)) e, hn₄.sameBut hs₅ (by first | exact Nat.ne_of_lt (Nat.lt_succ_self _) | exact Nat.ne_of_gt (Nat.lt_succ_self _) | exact Nat.ne_of_lt (Nat.lt_succ_of_lt (Nat.lt_succ_self _)) | exact Nat.ne_of_gt (Nat.lt_succ_of_lt (Nat.lt_succ_self _))), k5 _ _ (by first | exact Nat.ne_of_lt (Nat.lt_succ_self _) | exact Nat.ne_of_gt (Nat.lt_succ_self _) | exact Nat.ne_of_lt (Nat.lt_succ_of_lt (Nat.lt_succ_self _)) | exact Nat.ne_of_gt (Nat.lt_succ_of_lt (Nat.lt_succ_self _))) (hk₄ _ _ hoc₃), ⟨_, hdc₃⟩, ?_, fun b o hb e => k5 b o (fun q => by rw [q, hDn] at e; cases e) (keep4 b o hb e)⟩
            rw [he, List.filter_append, List.push_toArray]
            simp [hp]
          · have := List.length_filter_le p vs
            simp only [List.size_toArray]
            omega
    · exact ⟨0, H2, k0, _, 0, [], _, rfl, rfl, Nat.zero_le _, rfl, fun j v e => by simp at e, W.frame _ _ _ hst fun b hb o e => old b o e, hns, hcell.choose_spec.1, ⟨_, hcell.choose_spec.2⟩, by simpa using hacc, fun b o _ e => old b o e⟩
  have loop' := loop (cenv := { scope := relabel scope env, locals := D + 1, globals := env.globals, cells := (x, D + 1 + 1) :: cl, qual := env.qual, func := none, code := env.code, frame := env.frame, builtins := env.builtins }) rfl (compPost (model prog w) A E none Q (.ref D) (D + 1)) (fun h' tk m' k vs hn' hvl hvP hD' hk' => ?_)
  · exact codeAny_compStart_list loop' (W.self 0 _ _ _ (W.frame _ _ _ hst fun b hb o e => old b o e) loop')
  · refine ⟨m', hn', fun h'' hs'' => ?_⟩
    have kC : ∀ b o, b ∉ wr → H0.get? b = some o → h''.get? b = some o := fun b o hb e => hs''.extBut b o (fun q => by rw [q, hCn] at e; cases e) (hk' b o hb e)
    obtain ⟨oL, es, ep, hL, r⟩ := F.ns
    have F'' : Fr h₀ L h'' m₁ := ⟨⟨oL, es, ep, kC _ _ hLw hL, r⟩, fun b o e => kC b o (fun hm => by rw [h0w b hm] at e; cases e) (F.keep b o e), F.above⟩
    have N'' : News h₀ L h'' news₁ := fun q hq => ⟨kC _ _ (hnw q hq) (N q hq).1, (N q hq).2⟩
    have hlt : ∀ q ∈ news₁, q.1 < D := fun q hq => hD ▸ Heap.lt_size (N q hq).1
    exact hQ D k h'' tk vs hvl hvP F'' (news_cons F'' N'' (hs''.extBut _ _ (by first | exact Nat.ne_of_lt (Nat.lt_succ_self _) | exact Nat.ne_of_gt (Nat.lt_succ_self _) | exact Nat.ne_of_lt (Nat.lt_succ_of_lt (Nat.lt_succ_self _)) | exact Nat.ne_of_gt (Nat.lt_succ_of_lt (Nat.lt_succ_self _))) hD') (fr_none F hDn) (fr_new F hDn)) hlt
end
end Mine
end

section
example : True ∧ True := by
  w_top off
  first | (walk1; done) | exact ⟨trivial, trivial⟩
open PySem PySem.W PySem.Calls PyProof.Rows
set_option maxRecDepth 100000
set_option maxHeartbeats 4000000
namespace Mine
/-- the order in which iter_subtrees meets the trees of its queue -/
def bfs : Nat → List Nd → List Nd
  | 0, _ => []
  | _ + 1, [] => []
  | f + 1, x :: r => x :: bfs f (r ++ (treesOf x.kids).reverse)
theorem bfs_nil : ∀ f, bfs f [] = []
  | 0 => rfl
  | _ + 1 => rfl
theorem sizeL_trees : ∀ ks : List Nd, sizeL (treesOf ks) ≤ sizeL ks
  | [] => Nat.le_refl _
  | .tok .. :: r => by rw [treesOf_tok]; have := sizeL_trees r; simp [sizeL]; omega
  | .tree .. :: r => by rw [treesOf_tree]; have := sizeL_trees r; simp [sizeL]; omega
theorem size_kids : ∀ x : Nd, x.isTree = true → x.size = 1 + sizeL x.kids
  | .tree .., _ => rfl
theorem preL_flat : ∀ ns : List Nd, preL ns = ns.flatMap pre
  | [] => rfl
  | k :: r => by rw [preL, preL_flat r]; rfl
theorem preL_perm {a b : List Nd} (h : a.Perm b) : (preL a).Perm (preL b) := by
  rw [preL_flat, preL_flat]
  exact List.Perm.flatMap_right _ h
theorem trees_pre : ∀ ks : List Nd, treesOf (preL (treesOf ks)) = treesOf (preL ks)
  | [] => rfl
  | .tok .. :: r => by rw [treesOf_tok, trees_pre r]; rfl
  | .tree a dx l d ks :: r => by
    rw [treesOf_tree]
    simp only [preL, treesOf_append, trees_pre r]
theorem fuel_step {x : Nd} {r : List Nd} {f : Nat} (ht : x.isTree = true) (h : sizeL (x :: r) ≤ f + 1) : sizeL (r ++ (treesOf x.kids).reverse) ≤ f := by
  rw [sizeL_append, sizeL_reverse]
  have := sizeL_trees x.kids
  simp only [sizeL, size_kids x ht] at h
  omega
theorem trees_step {x : Nd} {r : List Nd} (ht : ∀ y ∈ x :: r, y.isTree = true) : ∀ y ∈ r ++ (treesOf x.kids).reverse, y.isTree = true := by
  intro y hy
  rcases List.mem_append.mp hy with hy | hy
  · exact ht y (.tail _ hy)
  · exact (List.mem_filter.mp (List.mem_reverse.mp hy)).2
theorem pre_tree {x : Nd} (ht : x.isTree = true) : pre x = x :: preL x.kids := by
  cases x with
  | tok => cases ht
  | tree => rfl
theorem bfs_perm : ∀ (f : Nat) (q : List Nd), (∀ x ∈ q, x.isTree = true) → sizeL q ≤ f → (bfs f q).Perm (treesOf (preL q))
  | 0, [], _, _ => by rw [bfs_nil]; exact List.Perm.refl _
  | 0, x :: r, _, h => by have := size_pos x; simp [sizeL] at h; omega
  | _ + 1, [], _, _ => List.Perm.refl _
  | f + 1, x :: r, ht, h => by
    have hx := ht x (.head _)
    have ih := bfs_perm f (r ++ (treesOf x.kids).reverse) (trees_step ht) (fuel_step hx h)
    show (x :: bfs f (r ++ (treesOf x.kids).reverse)).Perm _
    have e : treesOf (preL (x :: r)) = x :: (treesOf (preL x.kids) ++ treesOf (preL r)) := by
      rw [preL, pre_tree hx, treesOf_append]
      show List.filter _ _ ++ _ = _
      rw [List.filter_cons, if_pos hx]
      rfl
    rw [e]
    refine List.Perm.cons x (ih.trans ?_)
    rw [preL_append, treesOf_append]
    refine List.perm_append_comm.trans (List.Perm.append_right _ ?_)
    have p1 : (preL (treesOf x.kids).reverse).Perm (preL (treesOf x.kids)) := preL_perm (List.reverse_perm _)
    have p2 := p1.filter Nd.isTree
    exact p2.trans (by rw [show (preL (treesOf x.kids)).filter Nd.isTree = treesOf (preL (treesOf x.kids)) from rfl, trees_pre])
theorem bfs_mem {f : Nat} {q : List Nd} (ht : ∀ x ∈ q, x.isTree = true) (h : sizeL q ≤ f) {x : Nd} (hx : x ∈ q) : x ∈ bfs f q := by
  refine (bfs_perm f q ht h).mem_iff.mpr (List.mem_filter.mpr ⟨?_, ht x hx⟩)
  rw [preL_flat]
  refine List.mem_flatMap.mpr ⟨x, hx, ?_⟩
  rw [pre_tree (ht x hx)]
  exact .head _
/-- a tree comes ahead of the trees below it -/
theorem bfs_kids : ∀ (f : Nat) (q : List Nd), (∀ x ∈ q, x.isTree = true) → sizeL q ≤ f → ∀ (a : List Nd) (x : Nd) (b : List Nd), bfs f q = a ++ x :: b → ∀ c ∈ treesOf x.kids, c ∈ b
  | 0, q, _, _, a, x, b, e, _, _ => by simp [bfs] at e
  | _ + 1, [], _, _, a, x, b, e, _, _ => by simp [bfs] at e
  | f + 1, y :: r, ht, h, a, x, b, e, c, hc => by
    have hy := ht y (.head _)
    rw [bfs] at e
    cases a with
    | nil =>
      simp only [List.nil_append, List.cons.injEq] at e
      obtain ⟨rfl, rfl⟩ := e
      exact bfs_mem (trees_step ht) (fuel_step hy h) (List.mem_append_right _ (List.mem_reverse.mpr hc))
    | cons z a =>
      simp only [List.cons_append, List.cons.injEq] at e
      exact bfs_kids f _ (trees_step ht) (fuel_step hy h) a x b e.2 c hc
theorem bfs_nodup {n : Nd} (ht : n.isTree = true) (hnd : ((treesOf (pre n)).map Nd.addr).Nodup) : ((bfs n.size [n]).map Nd.addr).Nodup := by
  have p := bfs_perm n.size [n] (by simpa using ht) (by simp [sizeL])
  have e : preL [n] = pre n := by simp [preL]
  rw [e] at p
  exact (p.map Nd.addr).nodup_iff.mpr hnd
theorem bfs_apart {n x : Nd} {done r : List Nd} {k : Nat} (ht : n.isTree = true) (hnd : ((treesOf (pre n)).map Nd.addr).Nodup) (h : bfs n.size [n] = done ++ bfs k (x :: r)) (hk : sizeL (x :: r) ≤ k) : ∀ y ∈ done, y.addr ≠ x.addr := by
  intro y hy e
  have nd := bfs_nodup ht hnd
  rw [h] at nd
  cases k with
  | zero => have := size_pos x; simp [sizeL] at hk; omega
  | succ k =>
    rw [bfs, List.map_append, List.nodup_append] at nd
    exact nd.2.2 y.addr (List.mem_map_of_mem hy) x.addr (by simp) e
theorem bfs_apart2 {n x : Nd} {done r : List Nd} {k : Nat} (ht : n.isTree = true) (hnd : ((treesOf (pre n)).map Nd.addr).Nodup) (h : bfs n.size [n] = done ++ bfs (k + 1) (x :: r)) (htr : ∀ y ∈ x :: r, y.isTree = true) (hk : sizeL (x :: r) ≤ k + 1) :
    ∀ y ∈ done ++ [x], ∀ c ∈ treesOf x.kids, y.addr ≠ c.addr := by
  intro y hy c hc e
  have nd := bfs_nodup ht hnd
  have e1 : done ++ bfs (k + 1) (x :: r) = (done ++ [x]) ++ bfs k (r ++ (treesOf x.kids).reverse) := by simp [bfs]
  rw [h, e1, List.map_append, List.nodup_append] at nd
  exact nd.2.2 y.addr (List.mem_map_of_mem hy) c.addr (List.mem_map_of_mem (bfs_mem (trees_step htr) (fuel_step (htr x (.head _)) hk) (List.mem_append_right _ (List.mem_reverse.mpr hc)))) e
end Mine
end

section
example : True ∧ True := by
  w_top off
  first | (walk1; done) | exact ⟨trivial, trivial⟩
open PySem PySem.W PySem.Calls PyProof.Rows
set_option maxRecDepth 100000
set_option maxHeartbeats 4000000
namespace Mine
theorem lri_no_len : typeLookup (.type "list_reverseiterator") "__len__" = pure none := by rw [typeLookup_type, builtinLookup_eq_fast]; kernel_rfl
theorem lri_hint : typeLookup (.type "list_reverseiterator") "__length_hint__" = pure (some (.builtin "list_reverseiterator.__length_hint__")) := by rw [typeLookup_type, builtinLookup_eq_fast]; kernel_rfl
section
variable {prog : Program} {w : World} {A : Around} {E : Value → Shared → Prop} {s : Shared}
theorem hint_rev {I : Addr} {Q : Bool → Shared → Prop} (hT : s.TypeIs (.ref I) "list_reverseiterator") (h : Q false s) : wpAny (model prog w) A (Builtin.List.listLengthHint (.ref I)) Q E s := by
  unfold Builtin.List.listLengthHint
  refine wpAny_bind (wpAny_specialOf hT lri_no_len ?_)
  show wpAny _ _ (specialOf (Value.ref I) (Str.ofString "__length_hint__") >>= _) _ _ _
  refine wpAny_bind (wpAny_specialOf hT lri_hint ?_)
  generalize hid : ("list_reverseiterator.__length_hint__" : String) = id0
  wp_delta
  rw [show splitId id0 = some ("list_reverseiterator", "__length_hint__") from by subst hid; decide +kernel]
  subst hid
  refine wpAny_bind (wpAny_isInstance (b := true) hT (by rw [isSubtype_type]; kernel_rfl) ?_)
  refine wpAny_pure h
theorem extend_rev {R : Result → Shared → Prop} {I l : Addr} {items : Array Value} (hh : A.handled = none) (hit : s.heap.IsRevIter I l ((items.size : Int) - 1)) (hl : s.heap.IsList l items) (hne : l ≠ I) (S : Addr) (res : Value) (c₀ : Nat)
    (hSI : S ≠ I) (hSl : S ≠ l) (hS : s.heap.get? S = some { cls := .type "list", data := .seq #[] c₀ })
    (hR : ∀ h' tk acc' c', (∀ b o, b ≠ S → b ≠ I → s.heap.get? b = some o → h'.get? b = some o) → h'.get? S = some { cls := .type "list", dict := none, data := .seq acc' c', slots := #[] } → ItemsOf (fun i v => items[items.size - 1 - i]? = some v) acc' items.size → R (.ok (.ret res)) { s with heap := h', toks := tk }) (hn : items.size ≤ sizeLine) :
    wpAny (model prog w) A.in1 (Builtin.List.listExtendWith (.ref S) (.ref I) res)
      (fun fin s' => match fin with | .done f => R (.ok f) s' | .again c' => c'.quiet = true ∧ codeAny (model prog w) A c' R s') (fun e s' => R (.error e) s') s := by
  have W := Walks.listRev (prog := prog) (w := w) (A := A.in1) hh I l hne items
  have st : (fun i h => i ≤ items.size ∧ h.IsRevIter I l ((items.size : Int) - 1 - (i : Int)) ∧ h.IsList l items) 0 s.heap := ⟨Nat.zero_le _, by simpa using hit, hl⟩
  have hT := hit.typeIs
  have hSf : S ∉ [I, l] := by simp [hSI, hSl]
  unfold Builtin.List.listExtendWith
  refine wpAny_bind (wpAny_typeOf hT ?_)
  have h1 : Builtin.List.listSameRef (.ref S) (.ref I) = false := by simp [Builtin.List.listSameRef, hSI]
  have h2 : (Value.type "list_reverseiterator" == Value.type "list") = false := by decide
  have h3 : (Value.type "list_reverseiterator" == Value.type "tuple") = false := by decide
  simp only [h1, h2, h3, Bool.or_false, Bool.false_eq_true, if_false]
  refine wpAny_bind (W.self 0 _ _ _ st ?_)
  refine wpAny_bind (wpAny_holding (hint_rev hT ?_))
  have key : ∀ (h : Heap) (c₁ tk : Nat), (∀ b o, b ≠ S → s.heap.get? b = some o → h.get? b = some o) → h.get? S = some { cls := .type "list", data := .seq #[] c₁ } →
      codeAny (model prog w) A (.builtin "list.extend.loop" ⟨[.ref S, .ref I, res], []⟩) R { s with heap := h, toks := tk } := by
    intro h c₁ tk hk hS₁
    refine codeAny_extend_loopS W.toS hn S hSf res items.size 0 _ #[] c₁ rfl (Nat.zero_le _) (W.frame 0 _ _ st fun b hb o e => hk b o (fun q => hSf (q ▸ hb)) e) hS₁ (ItemsOf.nil _) fun s' acc' c' hm hS' hacc => ?_
    rw [Moved.eq_with hm]
    refine hR s'.heap s'.toks acc' c' (fun b o hb hbI e => hm.heap b o (fun hmem => ?_) (hk b o hb e)) hS' hacc
    rcases List.mem_cons.mp hmem with e' | hmem
    · exact hb e'
    · exact hbI (List.mem_singleton.mp hmem)
  refine wpAny_ite_split (fun _ => ?_) (fun _ => wpAny_pure ⟨plainId_quiet PySem.F.plain_extend_loop _, key _ c₀ s.toks (fun b o _ e => e) hS⟩)
  refine wpAny_bind (wpAny_rule ?_)
  refine wpAny_bind ?_
  show wpAny _ _ (updateSeq S (·.push .none) >>= fun _ => updateSeq S (·.pop)) _ _ _
  refine wpAny_bind (wpAny_updateSeq hS rfl ?_)
  have hS₂ := Heap.get?_update_self (Obj.mapSeq (·.push Value.none)) hS rfl
  refine wpAny_updateSeq (hz := by seq_fits) hS₂ rfl ?_
  have hS₃ := Heap.get?_update_self (Obj.mapSeq (·.pop)) hS₂ rfl
  exact wpAny_pure ⟨plainId_quiet PySem.F.plain_extend_loop _, key _ _ _ (fun b o hb e => (Heap.get?_update_other _ _ (Ne.symm hb)).trans ((Heap.get?_update_other _ _ (Ne.symm hb)).trans e)) hS₃⟩
theorem items_rev {items acc : Array Value} (h : ItemsOf (fun i v => items[items.size - 1 - i]? = some v) acc items.size) : acc = items.toList.reverse.toArray := by
  apply Array.ext'
  simp only [List.toList_toArray]
  apply List.ext_getElem?
  intro j
  by_cases hj : j < acc.size
  · have := h.2 j acc[j] (by simp [hj])
    rw [Array.getElem?_toList, List.getElem?_reverse (by have := h.1; simp; omega)]
    simp only [Array.length_toList, Array.getElem?_toList]
    rw [this]
    simp [hj]
  · rw [List.getElem?_eq_none (by simp; omega), List.getElem?_eq_none (by have := h.1; simp; omega)]
/-- list(reversed(L)) -/
theorem list_rev {Q : Value → Shared → Prop} {I l : Addr} {items : Array Value} (hh : A.handled = none) (hit : s.heap.IsRevIter I l ((items.size : Int) - 1)) (hl : s.heap.IsList l items) (hne : l ≠ I) (hn : items.size ≤ sizeLine)
    (hQ : ∀ h' tk c, (∀ b o, b ≠ I → s.heap.get? b = some o → h'.get? b = some o) → h'.get? s.heap.objs.size = some (listOf items.toList.reverse.toArray c) → Q (.ref s.heap.objs.size) { s with heap := h', toks := tk }) :
    wpAny (model prog w) A (call (.type "list") [.ref I]) Q E s := by
  refine callType_codes (Q₁ := fun obj s₁ => obj = .ref s.heap.objs.size ∧ s₁ = { s with heap := s.heap.push { cls := .type "list", data := .seq #[] } }) PySem.F.called_list (PySem.F.typeCall_list_1 _) PySem.F.entry_list_init
    (code_list_new _ ⟨rfl, rfl⟩) fun obj s₁ h₁ => ?_
  obtain ⟨rfl, rfl⟩ := h₁
  have hS : (s.heap.push { cls := .type "list", data := .seq #[] }).get? s.heap.objs.size = some { cls := .type "list", data := .seq #[] } := Heap.get?_push_size _ rfl
  have hlI : I < s.heap.objs.size := by obtain ⟨o, ho, _⟩ := hit; exact Heap.lt_size ho
  have hll : l < s.heap.objs.size := by obtain ⟨o, ho, _⟩ := hl; exact Heap.lt_size ho
  refine ⟨⟨_, hS, rfl⟩, PySem.F.args_list_init_2 _ _, ?_⟩
  show wpAny _ _ (do let old ← Builtin.List.listItems (.ref s.heap.objs.size); Builtin.List.listUpdate (.ref s.heap.objs.size) (fun _ => #[]); letGo old.toList.reverse; Builtin.List.listExtendWith (.ref s.heap.objs.size) (.ref I) .none) _ _ _
  refine wpAny_bind ?_
  unfold Builtin.List.listItems
  refine wpAny_bind (wpAny_seqItems hS rfl (wpAny_pure ?_))
  show wpAny _ _ (updateSeq s.heap.objs.size (fun _ => #[]) >>= fun _ => letGo (#[] : Array Value).toList.reverse >>= fun _ => Builtin.List.listExtendWith (.ref s.heap.objs.size) (.ref I) .none) _ _ _
  refine wpAny_bind (wpAny_updateSeq hS rfl ?_)
  have hS₂ := Heap.get?_update_self (Obj.mapSeq (fun _ => (#[] : Array Value))) hS rfl
  have oth : ∀ b o, b ≠ s.heap.objs.size → s.heap.get? b = some o → ((s.heap.push { cls := .type "list", data := .seq #[] }).update s.heap.objs.size (Obj.mapSeq (fun _ => (#[] : Array Value)))).get? b = some o :=
    fun b o hb e => (Heap.get?_update_other _ _ (Ne.symm hb)).trans (Heap.get?_push_of_some _ e)
  obtain ⟨c₀, hS₃⟩ : ∃ c, ((s.heap.push { cls := .type "list", data := .seq #[] }).update s.heap.objs.size (Obj.mapSeq (fun _ => (#[] : Array Value)))).get? s.heap.objs.size = some ({ cls := .type "list", data := .seq #[] c } : Obj) := ⟨_, hS₂.trans (by unfold Obj.mapSeq; rfl)⟩
  refine wpAny_bind (wpAny_letGo ?_)
  refine extend_rev (A := A.in1) (s := { s with heap := (s.heap.push { cls := .type "list", data := .seq #[] }).update s.heap.objs.size (Obj.mapSeq (fun _ => (#[] : Array Value))) }) hh (hit.at fun o e => oth _ _ (Nat.ne_of_lt hlI) e) (hl.at fun o e => oth _ _ (Nat.ne_of_lt hll) e) hne _ _ c₀ (Nat.ne_of_gt hlI) (Nat.ne_of_gt hll) hS₃ (fun h' tk acc' c' hk hS' hacc => ?_) hn
  refine ⟨rfl, ?_⟩
  rw [items_rev hacc] at hS'
  exact hQ h' tk c' (fun b o hb e => hk b o (Nat.ne_of_lt (Heap.lt_size e)) hb (oth b o (Nat.ne_of_lt (Heap.lt_size e)) e)) hS'
theorem iadd_lists {Q : Value → Shared → Prop} {h₀ : Heap} {L l b : Addr} {m : Str → Option Value} {news : List (Addr × Obj)} {items items2 : Array Value} {n n2 : Nat} {g : Obj → List (Addr × Obj)} (F : Fr h₀ L s.heap m) (N : News h₀ L s.heap news)
    (U : UpdF l (listOf items n) news g) (hb : s.heap.get? b = some (listOf items2 n2)) (hz : items.size + items2.size ≤ 1000000)
    (h : ∀ h' c, Fr h₀ L h' m → News h₀ L h' (g (listOf (items ++ items2) c)) → Q (.ref l) { s with heap := h' }) : wpAny (model prog w) A (inplaceOp .Add (.ref l) (.ref b)) Q E s := by
  obtain ⟨pre, post, rfl, hg, h1, h2⟩ := U.split
  have z := N (l, listOf items n) (List.mem_append_right _ (.head _))
  have ha : s.TypeIs (.ref l) "list" := ⟨_, z.1, rfl⟩
  have hbT : s.TypeIs (.ref b) "list" := ⟨_, hb, rfl⟩
  unfold inplaceOp
  refine wpAny_holding ?_
  have hfi : fillsInplaceSlot (.type "list") "add" (Operator.Add == .Add) = pure false := by
    unfold fillsInplaceSlot
    show (typeLookup (.type "list") (dunderI "add") >>= fun fi => pure (fi.isSome && !isSeqSlot fi)) = pure false
    rw [PySem.F.slot_list_iadd.lookup]
    show (pure ((some (Value.builtin "list.__iadd__")).isSome && !isSeqSlot (some (.builtin "list.__iadd__"))) : Sem Bool) = _
    rw [show isSeqSlot (some (.builtin "list.__iadd__")) = true by decide +kernel]
    rfl
  have hsi : seqSlot? (.type "list") (dunderI "add") = pure (some (.builtin "list.__iadd__")) := PySem.seqSlot_of PySem.F.slot_list_iadd.lookup (by decide +kernel)
  refine wpAny_bind (wpAny_typeOf ha (wpAny_bind (wpAny_of_eq hfi ?_)))
  show wpAny _ A (if false = true then _ else _) Q E s
  rw [if_neg Bool.false_ne_true]
  refine wpAny_bind (wpAny_binaryOp1_none (nm := "add") ha hbT PySem.noFill_list_add ?_)
  refine wpAny_bind (wpAny_of_eq hsi ?_)
  have hline := sizeLine_big
  refine wpAny_bind (wpAny_rule (call_meets PySem.F.slot_list_iadd ha PySem.F.entry_list_iadd (PySem.F.args_list_iadd_2 _ _) (AutoSeq1.list___iadd___list_list_0 l items n b items2 n2 (by simp [Builtin.List.listTooLong]; intro _; omega) (by omega) (by omega)) ⟨z.1, hb, ?_⟩))
  have hu := Heap.get?_update_self (Obj.mapSeq fun x => x ++ items2) z.1 rfl
  obtain ⟨c, hc⟩ : ∃ c, (s.heap.update l (Obj.mapSeq fun x => x ++ items2)).get? l = some (listOf (items ++ items2) c) := ⟨_, hu.trans (by unfold Obj.mapSeq; rfl)⟩
  refine h _ c (F.change (Heap.SameBut.update ..) z.2.1 z.2.2) ?_
  rw [hg]
  exact News.setAt N h1 h2 (Heap.SameBut.update ..) hc
end
end Mine
end

section
example : True ∧ True := by
  w_top off
  first | (walk1; done) | exact ⟨trivial, trivial⟩
open PySem PySem.W PySem.Calls PyProof.Rows
set_option maxRecDepth 100000
set_option maxHeartbeats 4000000
namespace Mine
local macro_rules | `(tactic| k_inst) => `(tactic| (refine' instOf_base ?F ?h1 ?h2; (case F => k_asm); (case h1 => assumption); (case h2 => assumption)))
local macro_rules | `(tactic| walk_at "eval Name") => `(tactic| ((with_reducible show wpAny _ _ (eval (.Name _ _) (compEnvC _ _ _ _)) _ _ _); first
  | (refine' nmG_L ?F ?hv ?_ ?hk ?hx ?hd; (case hk => exact rfl); (case hx => exact rfl); (case hd => exact rfl); (case F => assumption); (case hv => assumption))
  | (refine' nmG_C ?F ?hc ?ho ?hv ?_ ?hk ?hx ?hd; (case hk => exact rfl); (case hx => exact rfl); (case hd => exact rfl); (case F => assumption); (case hc => exact rfl); (case ho => assumption); (case hv => assumption))
  | (refine' nmG_K ?F ?X ?T ?e ?_ ?hk ?hx ?hg ?hd; (case hk => exact rfl); (case hx => exact rfl); (case hg => exact rfl); (case hd => exact rfl); (case F => assumption); (case X => assumption); (case T => assumption); (case e => k_is))))
local macro_rules | `(tactic| walk_at "eval ListComp") => `(tactic| refine holdC ?_)
local macro_rules | `(tactic| walk_at "eval Name") => `(tactic| ((with_reducible show wpAny _ _ (eval (.Name _ _) (compEnvK _ _ _ _ _)) _ _ _); first
  | (refine' nmG_B ?F ?X ?T ?e ?hv ?hn ?_ ?hk ?hx ?hg ?hb ?hd; (case hk => exact rfl); (case hx => exact rfl); (case hg => exact rfl); (case hb => exact rfl); (case hd => exact rfl); (case F => assumption); (case X => assumption); (case T => assumption); (case e => k_is); (case hn => decide); (case hv => first | exact boot_isinstance | exact rfl))))
section
variable {prog : Program} {w : World} {p : Program} {loose : List Str} {mg mb : Str → Option Value}
theorem filt_kids {P : Params} {h : Heap} {ks : List Nd} (hr : RepL P (hf h) ks) : (ks.map Nd.val).filter (fun v => (ndOf ks v).isTree) = (treesOf ks).map Nd.val := by
  rw [List.filter_map]
  congr 1
  refine List.filter_congr fun k hk => ?_
  simp only [Function.comp]
  rw [ndOf_val hr hk]
theorem nmH_C {M : Model} {A : Around} {E : Value → Shared → Prop} {s : Shared} {env : Env} {x : Str} {pos : Pos} {v : Value} {Q : Value → Shared → Prop} {c : Addr} {o : Obj} (hc : env.cells.lookup x = some c) (ho : s.heap.get? c = some o) (hv : o.data = .cell (some v)) (h : Q v s) (hk : env.scope.kind = .function) (hx : env.kindOf x = some .cell) (hd : (x == ("__debug__" : Str)) = false := by decide) :
    wpAny M A (eval (.Name x pos) env) Q E s := wpAny_Name (wpAny_loadName_cell hk hx hc ⟨o, ho, hv⟩ h) hd
theorem iter_call {A : Around} {s : Shared} {Q E : Value → Shared → Prop} {n : Nd} (X : (hd.heap_39 w.params).In s.heap) (T : TopRead p loose mg mb s.heap) (hr : Rep w.params (hf s.heap) n) (hz : n.size ≤ 1000) (ht : n.isTree = true)
    (hnd : ((treesOf (pre n)).map Nd.addr).Nodup) (hh : A.handled = none) (hd : A.depth ≤ 500) (hu : A.units ≤ 3000)
    (hQ : ∀ D m h' tk, Keep s.heap h' → s.heap.get? D = none → h'.get? D = some (listOf ((bfs n.size [n]).reverse.map Nd.val).toArray m) → Q (.ref D) { s with heap := h', toks := tk }) :
    wpAny (model prog w) A (call (.ref 83) [n.val]) Q E s := by
  refine wpAny_call (to_ArC 500 3000 hh hd hu ?_)
  refine' enterC [(Str.ofString "self", n.val)] ?kK ?kL ?k6 ?k7 ?k8 ?k9 ?kB ?kD ?_ ?c2 ?c3 ?c4
  case kK => assumption
  case kL => exact TopRead.nolimit (by assumption)
  case k6 => k_is
  case k7 => k_is
  case k8 => show 500 < 1000; decide
  case k9 => exact BindsTo.of_eq rfl
  case kB => exact rfl
  case kD => decide +kernel
  case c2 => exact rfl
  case c3 => exact rfl
  case c4 => exact rfl
  intro L h₁ tk cells hL F N Y hkp
  have hY := CellsAre.two Y
  obtain ⟨c2, c1, hE, dc2, dc1⟩ := hY
  subst hE
  clear Y
  repeat' walk1
  rename_i q h₂ hq h₃ st h₄ hst h₅ o₁ F₁ N₁ d₁
  refine wpAny_For ?_
  repeat' walk1
  refine iter_lit F₁ N₁ (items := #[n.val]) ⟨_, N₁.get (.tail _ (.head _)), rfl, _, rfl⟩ fun it h₆ ob F₃ N₃ hob hit hitn => ?_
  have hlt1 := hit _ (.head _)
  have hlt2 := hit _ (.tail _ (.head _))
  have hlt3 := hit _ (.tail _ (.tail _ (.head _)))
  have hlt4 := hit _ (.tail _ (.tail _ (.tail _ (.head _))))
  dsimp only at hlt1 hlt2 hlt3 hlt4
  refine for_any (fun k σ => ∃ h tk m done rest ob ep1 ep2 o1 o2 v2, k ≤ 1000 ∧ sizeL rest ≤ k ∧ σ = { s with heap := h, toks := tk } ∧ bfs n.size [n] = done ++ bfs k rest ∧ (∀ x ∈ rest, x.isTree = true) ∧ RepL w.params (hf s.heap) rest ∧ RepL w.params (hf s.heap) done ∧
      Fr s.heap L h m ∧ m (Str.ofString "queue") = some (.ref q) ∧ o1.data = .cell (some (.ref st)) ∧ o2.data = .cell v2 ∧ LitIs ob q done.length ∧
      News s.heap L h [(it, ob), (st, listOf (done.map Nd.val).toArray ep1), (q, listOf ((done ++ rest).map Nd.val).toArray ep2), (L + 1 + 1, o2), (L + 1, o1)]) ?_ n.size ?_
  · rintro k _ ⟨h, tk, m, done, rest, ob, ep1, ep2, o1, o2, v2, hk1000, hsz, rfl, hbfs, htr, hrr, hrd, F₇, hm, ho1, ho2, hob₇, N₇⟩
    have off : ∀ p ∈ [(st, listOf (done.map Nd.val).toArray ep1), (q, listOf ((done ++ rest).map Nd.val).toArray ep2), (L + 1 + 1, o2), (L + 1, o1)], p.1 ≠ it := by
      intro p hp
      simp only [List.mem_cons, List.not_mem_nil, or_false] at hp
      rcases hp with rfl | rfl | rfl | rfl
      · exact Nat.ne_of_lt hlt1
      · exact Nat.ne_of_lt hlt2
      · exact Nat.ne_of_lt hlt3
      · exact Nat.ne_of_lt hlt4
    have hdl : done.length ≤ 1000 := by
      have h1 := congrArg List.length hbfs
      rw [List.length_append, (bfs_perm n.size [n] (by simpa using ht) (by simp [sizeL])).length_eq] at h1
      have h2 := List.length_filter_le Nd.isTree (preL [n])
      have h3 := preL_length [n]
      simp only [sizeL] at h3
      have h1' : (List.filter Nd.isTree (preL [n])).length = done.length + (bfs k rest).length := h1
      omega
    have hql : h.IsList q ((done ++ rest).map Nd.val).toArray := ⟨_, N₇.get (.tail _ (.tail _ (.head _))), rfl, _, rfl⟩
    cases rest with
    | nil =>
      refine next_lit_end rfl F₇ N₇ off hob₇ hql (by simp) fun h₈ F₈ N₈ => ?_
      dsimp only
      repeat' walk1
      rename_i it₉ h₉ F₉ N₉ lt₉
      refine list_rev (l := st) (items := (done.map Nd.val).toArray) rfl ⟨_, N₉.get (.head _), rfl, by simp [revObj]⟩ ⟨_, N₉.get (.tail _ (.head _)), rfl, _, rfl⟩ (Nat.ne_of_lt lt₉.1) (Nat.le_trans (by simp; omega : _ ≤ 1000000) sizeLine_big) fun h' tk' c hk hD => ?_
      refine hQ _ c h' tk' (fun b o e => hk b o (fun q => ?_) (F₉.keep b o e)) (fresh_of (Nat.le_of_lt (Nat.lt_of_le_of_lt (F₉.above) F₉.ns.lt))) ?_
      · rw [q, (N₉ _ (.head _)).2.2] at e; cases e
      · rw [hbfs, bfs_nil, List.append_nil, List.map_reverse]
        simpa using hD
    | cons x r =>
      refine next_lit F₇ N₇ off hob₇ hql (x := x.val) (by simp) fun h₈ ob₈ F₈ N₈ hob₈ => ?_
      show wpAny _ _ (pure ()) _ _ _
      refine wpAny_pure ?_
      refine wpAny_assign_Name ?_
      refine storeX_C F₈ N₈ rfl (UpdF.tail (Nat.ne_of_gt hlt3) (UpdF.tail (Nat.ne_of_gt hst.2.1) (UpdF.tail (Nat.ne_of_gt hq.1) (UpdF.head ?_)))) ho2 fun h₉ o2' F₉ N₉ ho2' => ?_
      · intro p hp
        simp only [List.mem_cons, List.not_mem_nil, or_false] at hp
        subst hp
        exact Nat.ne_of_lt (Nat.lt_succ_self _)
      repeat' walk1
      show wpAny _ _ _ _ _ _
      have gc2 : h₉.get? (L + 1 + 1) = some o2' := N₉.get (.tail _ (.tail _ (.tail _ (.head _))))
      have gc1 : h₉.get? (L + 1) = some o1 := N₉.get (.tail _ (.tail _ (.tail _ (.tail _ (.head _)))))
      have hx := hrr.1
      refine compF (h₀ := s.heap) (L := L) (cl := ?cl) (fun v => v == x.val) rfl ?hclos ?hcell rfl ?hnames rfl rfl ?hs ?h
      case hclos => exact rfl
      case hcell => decide
      case hnames => decide
      case hs => exact fun _ => rfl
      repeat' walk1
      refine ⟨st, (done.map Nd.val).toArray, _, _, rfl, ⟨_, N₉.get (.tail _ (.head _)), rfl, _, rfl⟩, by simp; omega, F₉, N₉, ?_, ?_⟩
      · intro C v s₃ m₃ hv F₃ hm₃
        rw [List.mem_toArray] at hv
        obtain ⟨y, hy, rfl⟩ := List.mem_map.mp hv
        have k₃ := F₃.keep
        dsimp only at F₃ k₃
        refine wpAny_tests_one ?_
        repeat' walk1
        have hy' := repL_iff.mp hrd y hy
        refine is_here ((hy'.here.keep F₉.keep).keep k₃) ((hx.here.keep F₉.keep).keep k₃) ?_
        exact wpAny_truthy_bool ⟨rfl, s₃.heap, s₃.toks, rfl, fun _ _ e => e⟩
      · intro D nD h' tk' F' N' offD hkD hDn
        have hfil : List.filter (fun v => v == x.val) (done.map Nd.val) = [] := by
          rw [List.filter_eq_nil_iff]
          intro v hv hvx
          obtain ⟨y, hy, rfl⟩ := List.mem_map.mp hv
          have e1 := eq_of_beq hvx
          injection e1 with e1
          exact bfs_apart ht hnd hbfs hsz y hy e1
        simp only [hfil] at N'
        repeat' walk1
        clear F₉
        rename Fr _ L _ _ => F₁₁
        have N₁₁ := news_sub N' (news' := [(it, ob₈), (st, listOf (done.map Nd.val).toArray ep1), (q, listOf ((done ++ x :: r).map Nd.val).toArray ep2), (L + 1 + 1, o2'), (L + 1, o1)]) (fun p hp => .tail _ hp)
        have e3 : ((done ++ [x]).map Nd.val).toArray = (done.map Nd.val).toArray.push x.val := by
          rw [List.map_append, List.push_toArray]
          rfl
        refine append_K F₁₁ N₁₁ (Upd.tail (Nat.ne_of_gt hlt1) (Upd.head ?_)) (fun h₁₂ F₁₂ N₁₂ => ?_) ?_
        · intro p hp
          simp only [List.mem_cons, List.not_mem_nil, or_false] at hp
          rcases hp with rfl | rfl | rfl
          · exact Nat.ne_of_lt hst.1
          · exact Nat.ne_of_lt hst.2.1
          · exact Nat.ne_of_lt hst.2.2
        · rw [← e3] at N₁₂
          clear N' F₁₁ N₁₁
          rw [upd_self hm] at F₁₂
          repeat' walk1
          show wpAny _ _ _ _ _ _
          obtain ⟨a, dx, l, d, ks, rfl⟩ : ∃ a dx l d ks, x = .tree a dx l d ks := by
            cases x with
            | tok => have := htr _ (.head _); cases this
            | tree a dx l d ks => exact ⟨a, dx, l, d, ks, rfl⟩
          obtain ⟨⟨t1, t2, t3, t4, hx1, hx2⟩, ⟨nl, hl⟩, hks⟩ := id hx
          have gb2 : h₁₂.get? (L + 1 + 1) = some o2' := N₁₂.get (.tail _ (.tail _ (.tail _ (.head _))))
          have gb1 : h₁₂.get? (L + 1) = some o1 := N₁₂.get (.tail _ (.tail _ (.tail _ (.tail _ (.head _)))))
          refine compCell (h₀ := s.heap) (L := L) (cl := ?cl2) (fun v => (ndOf ks v).isTree) ?hclos2 rfl ?hnames2 ?hx2 rfl ?hcells2 ?hpush2 ?hs2 ?h2
          case hclos2 => exact rfl
          case hnames2 => decide
          case hx2 => exact fun _ => rfl
          case hcells2 => exact fun _ => rfl
          case hpush2 => exact fun _ => rfl
          case hs2 => exact fun _ => rfl
          repeat' walk1
          refine krv_reversed (vs := ks.map Nd.val) F₁₂ N₁₂ ⟨_, F₁₂.keep _ _ hl, rfl, _, rfl⟩ fun I h₁₃ F₁₃ N₁₃ hI => ?_
          refine wpAny_pyIter_revIter ⟨_, (N₁₃ _ (.head _)).1, rfl, rfl⟩ ?_
          have hlI : l ≠ I := fun e => by have := (N₁₃ _ (.head _)).2.2; rw [← e] at this; rw [hl] at this; cases this
          have hkl : (ks.map Nd.val).toArray.size = ks.length := by simp
          have hszx : 1 + sizeL ks + sizeL r ≤ 1000 := by
            have e : sizeL (Nd.tree a dx l d ks :: r) = 1 + sizeL ks + sizeL r := by simp [sizeL, Nd.size]
            omega
          have hkz : ks.length ≤ 1000 := by have := length_le_sizeL ks; omega
          refine ⟨I, [I, l], [I], (ks.map Nd.val).toArray.size, _, _, _, [(it, ob₈), (st, listOf ((done ++ [Nd.tree a dx l d ks]).map Nd.val).toArray (ep1 + 1)), (q, listOf ((done ++ Nd.tree a dx l d ks :: r).map Nd.val).toArray ep2), (L + 1 + 1, o2'), (L + 1, o1)], rfl, Walks.listRev rfl I l hlI (ks.map Nd.val).toArray, by simp; omega, ⟨Nat.zero_le _, ⟨_, (N₁₃ _ (.head _)).1, rfl, by simp [revObj]⟩, ⟨_, F₁₃.keep _ _ hl, rfl, _, rfl⟩⟩, ?_, F₁₃, fun p hp => N₁₃ p (.tail _ hp), ?_, ?_, ?_, ?_, ?_⟩
          · intro b hb
            simp only [List.mem_cons, List.not_mem_nil, or_false] at hb
            rcases hb with rfl | rfl
            · exact Heap.lt_size (N₁₃ _ (.head _)).1
            · exact Heap.lt_size (F₁₃.keep _ _ hl)
          · intro p hp hpI
            have := hI p hp
            rw [List.mem_singleton.mp hpI] at this
            exact Nat.lt_irrefl _ this
          · intro b hb
            rw [List.mem_singleton.mp hb]
            exact (N₁₃ _ (.head _)).2.2
          · intro hb
            exact (N₁₃ _ (.head _)).2.1 (List.mem_singleton.mp hb).symm
          · intro C i v s₃ oc hP hC hns hoc hdc hk₃
            obtain ⟨m₃, hns⟩ := hns
            have hv : v ∈ ks.map Nd.val := by
              have := Array.mem_of_getElem? hP
              simpa using this
            obtain ⟨c, hc, rfl⟩ := List.mem_map.mp hv
            rw [ndOf_val hks hc]
            have hcr := repL_iff.mp hks c hc
            have ltC : ∀ b o, h₁₃.get? b = some o → b < C := fun b o e => Nat.lt_of_lt_of_le (Heap.lt_size e) hC
            have nI : ∀ b o, (b, o) ∈ [(it, ob₈), (st, listOf ((done ++ [Nd.tree a dx l d ks]).map Nd.val).toArray (ep1 + 1)), (q, listOf ((done ++ Nd.tree a dx l d ks :: r).map Nd.val).toArray ep2), (L + 1 + 1, o2'), (L + 1, o1)] → b ∉ [I] := fun b o hm hI' => by
              have := hI _ hm
              rw [List.mem_singleton.mp hI'] at this
              exact Nat.lt_irrefl _ this
            have F₃ : Fr s.heap C s₃.heap m₃ := ⟨hns, fun b o e => hk₃ b o (fun hm => by rw [List.mem_singleton.mp hm, (N₁₃ _ (.head _)).2.2] at e; cases e) (F₁₃.keep b o e), Nat.le_trans F₁₃.above (Nat.le_of_lt (ltC _ _ F₁₃.ns.choose_spec.choose_spec.choose_spec.1))⟩
            have gs1 : s₃.heap.get? (L + 1) = some o1 := hk₃ _ _ (nI _ o1 (by simp)) (N₁₃.get (by simp))
            have gst : s₃.heap.get? st = some (listOf ((done ++ [Nd.tree a dx l d ks]).map Nd.val).toArray (ep1 + 1)) := hk₃ _ _ (nI _ (listOf ((done ++ [Nd.tree a dx l d ks]).map Nd.val).toArray (ep1 + 1)) (by simp)) (N₁₃.get (by simp))
            clear F₁₃ N₁₃ F₁₂ N₁₂
            refine wpAny_tests_one ?_
            cases c with
            | tok ca cty cv =>
              obtain ⟨cdx, s1, s2, s3, s4, hc1, hc2⟩ := hcr
              iterate 6 walk1
              refine nmH_C rfl hoc hdc ?_ rfl rfl
              walk1
              refine nmG_K F₃ X T (by k_is) ?_ rfl rfl rfl
              repeat' walk1
              exact ⟨s₃.heap, s₃.toks + 1, rfl, fun _ _ e => e⟩
            | tree ca cdx cl cd cks =>
              obtain ⟨⟨s1, s2, s3, s4, hc1, hc2⟩, _⟩ := id hcr
              iterate 6 walk1
              refine nmH_C rfl hoc hdc ?_ rfl rfl
              walk1
              refine nmG_K F₃ X T (by k_is) ?_ rfl rfl rfl
              repeat' walk1
              show wpAny _ _ _ _ _ _
              refine compF (h₀ := s.heap) (L := C) (cl := ?cl3) (fun v => v == Value.ref ca) rfl ?hclos3 ?hcell3 rfl ?hnames3 rfl rfl ?hs3 ?h3
              case hclos3 => exact rfl
              case hcell3 => decide
              case hnames3 => decide
              case hs3 => exact fun _ => rfl
              refine nmH_C rfl gs1 ho1 ?_ rfl rfl
              refine ⟨st, ((done ++ [Nd.tree a dx l d ks]).map Nd.val).toArray, _, [], rfl, ⟨_, gst, rfl, _, rfl⟩, by simp; omega, F₃, (fun p hp => nomatch hp), ?_, ?_⟩
              · intro C2 v s₅ m₅ hv F₅ hm₅
                rw [List.mem_toArray] at hv
                obtain ⟨y, hy, rfl⟩ := List.mem_map.mp hv
                have hyr : Rep w.params (hf s.heap) y := repL_iff.mp (repL_append.mpr ⟨hrd, (show RepL w.params (hf s.heap) [Nd.tree a dx l d ks] from ⟨hx, trivial⟩)⟩) y hy
                have k₅ := F₅.keep
                refine wpAny_tests_one ?_
                walk1
                refine nmG_L F₅ hm₅ ?_ rfl rfl
                refine nmG_C F₅ rfl hoc hdc ?_ rfl rfl
                refine is_here ((hyr.here.keep F₃.keep).keep k₅) ((hcr.here.keep F₃.keep).keep k₅) ?_
                exact wpAny_truthy_bool ⟨rfl, s₅.heap, s₅.toks, rfl, fun _ _ e => e⟩
              · intro D₅ n₅ h₅ tk₅ F₅ N₅ off₅ hk₅ hDn₅
                have hfil5 : List.filter (fun v => v == Value.ref ca) ((done ++ [Nd.tree a dx l d ks]).map Nd.val) = [] := by
                  rw [List.filter_eq_nil_iff]
                  intro v hv hvx
                  obtain ⟨y, hy, rfl⟩ := List.mem_map.mp hv
                  have e1 := eq_of_beq hvx
                  injection e1 with e1
                  obtain ⟨k', rfl⟩ : ∃ k', k = k' + 1 := ⟨k - 1, by have := size_pos (Nd.tree a dx l d ks); simp only [sizeL] at hsz; omega⟩
                  exact bfs_apart2 ht hnd hbfs htr hsz y hy (Nd.tree ca cdx cl cd cks) (List.mem_filter.mpr ⟨hc, rfl⟩) e1
                simp only [hfil5] at N₅
                refine m_truthy N₅ (.head _) (by simp) fun tk₆ => ?_
                repeat' walk1
                exact ⟨h₅, tk₆, rfl, hk₅⟩
          · intro D₂ kD h₁₄ tk₁₄ vs hvl hvP F₁₄ N₁₄ hlD
            have hvs : vs = (ks.map Nd.val).reverse := by
              have := items_rev (items := (ks.map Nd.val).toArray) (acc := vs.toArray) ⟨by simpa using hvl, fun j v e => hvP j v (by simpa using e)⟩
              simpa using this
            rw [hvs, List.filter_reverse, filt_kids hks] at N₁₄
            refine iadd_lists F₁₄ N₁₄ (UpdF.tail (Nat.ne_of_gt (hlD (q, listOf ((done ++ Nd.tree a dx l d ks :: r).map Nd.val).toArray ep2) (by simp))) (UpdF.tail (Nat.ne_of_gt hlt2) (UpdF.tail (Nat.ne_of_gt hst.1) (UpdF.head ?_)))) (N₁₄ _ (.head _)).1 ?_ fun h₁₅ c₁₅ F₁₅ N₁₅ => ?_
            · intro p hp
              simp only [List.mem_cons, List.not_mem_nil, or_false] at hp
              rcases hp with rfl | rfl
              · exact Nat.ne_of_lt hq.1
              · exact Nat.ne_of_lt hq.2
            · have h1 := List.length_filter_le Nd.isTree ks
              have h2 := length_le_sizeL r
              have h3 : (treesOf ks).length ≤ ks.length := h1
              simp
              omega
            have N₁₆ := news_sub N₁₅ (news' := [(it, ob₈), (st, listOf ((done ++ [Nd.tree a dx l d ks]).map Nd.val).toArray (ep1 + 1)), (q, listOf (((done ++ Nd.tree a dx l d ks :: r).map Nd.val).toArray ++ ((treesOf ks).map Nd.val).reverse.toArray) c₁₅), (L + 1 + 1, o2'), (L + 1, o1)]) (fun p hp => .tail _ hp)
            clear N₁₅
            repeat' walk1
            rename_i h₁₇ F₁₇ N₁₇
            obtain ⟨k', rfl⟩ : ∃ k', k = k' + 1 := ⟨k - 1, by have := size_pos (Nd.tree a dx l d ks); simp only [sizeL] at hsz; omega⟩
            have e4 : ((done ++ Nd.tree a dx l d ks :: r).map Nd.val).toArray ++ ((treesOf ks).map Nd.val).reverse.toArray = (((done ++ [Nd.tree a dx l d ks]) ++ (r ++ (treesOf ks).reverse)).map Nd.val).toArray := by simp
            rw [e4] at N₁₇
            refine ⟨k', Nat.lt_succ_self _, _, _, _, done ++ [Nd.tree a dx l d ks], r ++ (treesOf ks).reverse, ob₈, _, _, o1, o2', _, by omega, fuel_step (htr _ (.head _)) hsz, rfl, ?_, trees_step htr, ?_, ?_, F₁₇, rfl, ho1, ho2', ?_, N₁₇⟩
            · rw [hbfs]
              simp [bfs, Nd.kids]
            · exact repL_append.mpr ⟨hrr.2, repL_iff.mpr fun y hy => repL_iff.mp hks y (List.mem_filter.mp (List.mem_reverse.mp hy)).1⟩
            · exact repL_append.mpr ⟨hrd, (show RepL w.params (hf s.heap) [Nd.tree a dx l d ks] from ⟨hx, trivial⟩)⟩
            · simpa using hob₈
        · have := sizeLine_big
          simp
          omega
  · exact ⟨h₆, _, _, [], [n], ob, _, _, _, _, _, hz, by simp [sizeL], rfl, rfl, by simpa using ht, ⟨hr, trivial⟩, trivial, F₃, rfl, d₁, dc2, hob, N₃⟩
end
end Mine
end

section
example : True ∧ True := by
  w_top off
  first | (walk1; done) | exact ⟨trivial, trivial⟩
open PySem PySem.W PySem.Calls PyProof.Rows
set_option maxRecDepth 100000
set_option maxHeartbeats 4000000
namespace Mine
abbrev enumO (it : Addr) (i : Int) (old : Value) : Obj := { cls := .type "enumerate", dict := none, data := .fields #[.none, .bool false, .ref it, rawInt i, .none, old], slots := #[] }
section
variable {prog : Program} {w : World} {A : Around} {E : Value → Shared → Prop} {s : Shared} {h₀ : Heap} {L e it l : Addr} {m : Str → Option Value} {news : List (Addr × Obj)} {ob : Obj} {items : Array Value} {v old : Value} {env : Env}
theorem fr_keep2 {h h' : Heap} (F : Fr h₀ L h m) (he : h₀.get? e = none) (hi : h₀.get? it = none) (hLe : e ≠ L) (hLi : it ≠ L) (hk : ∀ b o, b ≠ e → b ≠ it → h.get? b = some o → h'.get? b = some o) : Fr h₀ L h' m := by
  obtain ⟨oL, es, ep, ho, r⟩ := F.ns
  exact ⟨⟨oL, es, ep, hk _ _ (Ne.symm hLe) (Ne.symm hLi) ho, r⟩, fun b o q => hk b o (fun z => by rw [z, he] at q; cases q) (fun z => by rw [z, hi] at q; cases q) (F.keep b o q), F.above⟩
theorem enum_step {i : Nat} {xi xv : Str} {pi pv pt : Pos} {x1} {K R0 : Shared → Prop} (hh : A.handled = none) (F : Fr h₀ L s.heap m) (N : News h₀ L s.heap ((e, enumO it (i : Nat) old) :: (it, ob) :: news)) (hei : e ≠ it) (offe : ∀ p ∈ news, p.1 ≠ e) (offi : ∀ p ∈ news, p.1 ≠ it)
    (hob : LitIs ob l i) (hl : s.heap.IsList l items) (hx : items[i]? = some v)
    (h : ∀ h' ob' tk tk', Fr h₀ L h' m → News h₀ L h' ((e, enumO it (i + 1 : Nat) v) :: (it, ob') :: news) → LitIs ob' l (i + 1) →
      wpAny (model prog w) A (assign (.Name xi pi) env (.int i tk)) (fun _ s₁ => wpAny (model prog w) A (assign (.Name xv pv) env v) (fun _ s₂ => K s₂) E s₁) E { s with heap := h', toks := tk' }) :
    wpAny (model prog w) A (pyNext (.ref e)) (fun r s₁ => match r with
      | none => R0 s₁
      | some v => wpAny (model prog w) A (letOwnedTupleGo (.Tuple [.Name xi pi, .Name xv pv] x1 pt) (.ref e) v) (fun _ s₁' => wpAny (model prog w) A (assign (.Tuple [.Name xi pi, .Name xv pv] x1 pt) env v) (fun _ s₂ => K s₂) E s₁') E s₁) E s := by
  obtain ⟨H, g0, d0, tk, os0⟩ := s
  dsimp only at *
  have ne := N _ (.head _)
  have ni := N _ (.tail _ (.head _))
  have he' : IsEnum H e it i old := ne.1
  have hit' : H.IsListIter it l i := ⟨_, ni.1, hob.1, hob.2⟩
  refine wpAny_pyNext_enum_item he' hit' hl hx hei fun h₁ heo hit₁ ht₁ hz₁ hk₁ => ?_
  refine wpAny_letOwnedTupleGo_enum heo fun h₂ he₂ hs₂ => ?_
  replace hs₂ : Heap.SameBut e h₁ h₂ := hs₂
  have heH : e < H.objs.size := Heap.lt_size he'
  have ht₂ : h₂.IsTuple H.objs.size #[.int i tk, v] := ⟨_, (hs₂.2 _ (Nat.ne_of_gt heH)).trans ht₁, rfl, _, rfl⟩
  have hz₂ : h₂.objs.size = H.objs.size + 1 := hs₂.1.trans hz₁
  refine wpAny_assign_Tuple hh ht₂ rfl rfl fun h₃ hx₃ => ?_
  replace hx₃ : Heap.ExtBut h₂.objs.size h₂ h₃ := hx₃
  have old₃ : ∀ b o, h₂.get? b = some o → h₃.get? b = some o := fun b o x => hx₃ b o (Nat.ne_of_lt (Heap.lt_size x)) x
  have k3 : ∀ b o, b ≠ e → b ≠ it → H.get? b = some o → h₃.get? b = some o := fun b o h1 h2 x => old₃ b o ((hs₂.2 b h1).trans (hk₁ b o h1 h2 x))
  have F₃ : Fr h₀ L h₃ m := fr_keep2 F ne.2.2 ni.2.2 ne.2.1 ni.2.1 k3
  obtain ⟨ob', hob1, hob2, hob3⟩ := hit₁
  have N₃ : News h₀ L h₃ ((e, enumO it (i + 1 : Nat) v) :: (it, ob') :: news) := by
    intro p hp
    rcases List.mem_cons.mp hp with rfl | hp
    · refine ⟨old₃ _ _ ?_, ne.2⟩
      have := he₂
      rw [show ((i : Int) + 1) = ((i + 1 : Nat) : Int) by push_cast; rfl] at this
      exact this
    rcases List.mem_cons.mp hp with rfl | hp
    · exact ⟨old₃ _ _ ((hs₂.2 _ (Ne.symm hei)).trans hob1), ni.2⟩
    · have np := N p (.tail _ (.tail _ hp))
      exact ⟨k3 _ _ (offe p hp) (offi p hp) np.1, np.2⟩
  show wpAny _ A (do holding [v] (assign (.Name xi pi) env (.int i tk)); do holding [] (assign (.Name xv pv) env v); pure ()) _ _ _
  refine wpAny_bind (wpAny_holding (wpAny_mono (h h₃ ob' tk _ F₃ N₃ ⟨hob2, hob3⟩) (fun _ s₁ h₁' => ?_) fun _ _ x => x))
  exact wpAny_bind (wpAny_holding (wpAny_mono h₁' (fun _ s₂ h₂' => wpAny_pure h₂') fun _ _ x => x))
theorem enum_end {i : Nat} {K : Value → Shared → Prop} {R0 : Shared → Prop} (hh : A.handled = none) (F : Fr h₀ L s.heap m) (N : News h₀ L s.heap ((e, enumO it (i : Nat) old) :: (it, ob) :: news)) (hei : e ≠ it) (offi : ∀ p ∈ news, p.1 ≠ it)
    (hob : LitIs ob l i) (hl : s.heap.IsList l items) (hx : items[i]? = none)
    (h : ∀ h', Fr h₀ L h' m → News h₀ L h' news → R0 { s with heap := h' }) :
    wpAny (model prog w) A (pyNext (.ref e)) (fun r s₁ => match r with
      | none => R0 s₁
      | some v => K v s₁) E s := by
  have ne := N _ (.head _)
  have ni := N _ (.tail _ (.head _))
  refine wpAny_pyNext_enum_end hh ne.1 ⟨_, ni.1, hob.1, hob.2⟩ hl hx fun h' he => ?_
  exact h h' (fr_ext F ni.2.2 ni.2.1 he) (news_ext (fun p hp => N p (.tail _ (.tail _ hp))) offi he)
theorem enum_start {n : Nat} {Q : Value → Shared → Prop} (F : Fr h₀ L s.heap m) (N : News h₀ L s.heap news) (hl : s.heap.get? l = some (listOf items n))
    (h : ∀ e it h' ob, Fr h₀ L h' m → News h₀ L h' ((e, enumO it (0 : Nat) .none) :: (it, ob) :: news) → LitIs ob l 0 → e ≠ it → (∀ p ∈ news, p.1 < it) → (∀ p ∈ news, p.1 < e) → Keep s.heap h' → s.heap.get? e = none → s.heap.get? it = none → Q (.ref e) { s with heap := h' }) :
    wpAny (model prog w) A (call (.type "enumerate") [.ref l]) Q E s := by
  refine call_enumerate_1 hl fun h' he hit hz hk => ?_
  have F' := fr_keep F hk
  have N' := news_keep N hk
  obtain ⟨ob, ho, h1, h2⟩ := hit
  have n1 : s.heap.get? s.heap.objs.size = none := fresh_of (Nat.le_refl _)
  have n2 : s.heap.get? (s.heap.objs.size + 1) = none := fresh_of (Nat.le_succ _)
  refine h _ _ h' ob F' (news_cons F' (news_cons F' N' ho (fr_none F n1) (fr_new F n1)) he (fr_none F n2) (fr_new F n2)) ⟨h1, h2⟩ (Nat.ne_of_gt (Nat.lt_succ_self _)) (fun p hp => Heap.lt_size (N p hp).1) (fun p hp => Nat.lt_succ_of_lt (Heap.lt_size (N p hp).1)) hk n2 n1
end
end Mine
end

section
example : True ∧ True := by
  w_top off
  first | (walk1; done) | exact ⟨trivial, trivial⟩
open PySem PySem.W PySem.Calls PyProof.Rows
set_option maxRecDepth 100000
set_option maxHeartbeats 4000000
namespace Mine
/-- what _law_built's loop does, on shapes -/
def bTok (odd : Int) (place : Nat) (n : Int) (t : Nat) : Sh :=
  .tok (if odd = 3 ∧ t = 0 then Str.ofString "Z" else if (n.fdiv 3).fmod 2 = 0 then Str.ofString "X" else Str.ofString "Y") (if odd = 2 ∧ t = 0 then 99 else place)
def bName (odd : Int) (n : Int) (t : Nat) : Str := if odd = 4 ∧ t = 0 then Str.ofString "z" else if n.fmod 3 = 1 then Str.ofString "p" else Str.ofString "q"
def bCut (n : Int) (len : Nat) : Nat := len - min ((n.fdiv 3).fmod 4).toNat len
def bStep (odd : Int) (place : Nat) (n : Int) (S : List Sh × Nat × Nat) : List Sh × Nat × Nat :=
  if n.fmod 3 = 0 then (S.1 ++ [bTok odd place n S.2.1], S.2.1 + 1, S.2.2)
  else (S.1.take (bCut n S.1.length) ++ [.tree (bName odd n S.2.2) (S.1.drop (bCut n S.1.length))], S.2.1, S.2.2 + 1)
def bRun (odd : Int) : Nat → List Int → List Sh × Nat × Nat → List Sh × Nat × Nat
  | _, [], S => S
  | i, n :: r, S => bRun odd (i + 1) r (bStep odd i n S)
def bEnd (odd : Int) (ns : List Int) : List Sh × Nat × Nat := bRun odd 0 ns ([], 0, 0)
def builtS (odd : Int) (ns : List Int) : Sh := .tree (Str.ofString "top") ((bEnd odd ns).1 ++ if odd = 1 then [.tok (Str.ofString "Z") 99] else [])
local macro_rules | `(tactic| k_inst) => `(tactic| (refine' instOf_base ?F ?h1 ?h2; (case F => k_asm); (case h1 => assumption); (case h2 => assumption)))
local macro_rules | `(tactic| walk_at "eval ListComp") => `(tactic| refine holdC ?_)
theorem ints_get : ∀ {vs : List Value} {ns : List Int}, IntsAre vs ns → ∀ (i : Nat) (h : i < ns.length), ∃ t, vs[i]? = some (.int ns[i] t)
  | _, _, .cons n t _, 0, _ => ⟨t, rfl⟩
  | _, _, .cons n t r, i + 1, h => by
    obtain ⟨u, e⟩ := ints_get r i (by simpa using h)
    exact ⟨u, by simpa using e⟩
theorem ints_len : ∀ {vs : List Value} {ns : List Int}, IntsAre vs ns → vs.length = ns.length
  | _, _, .nil => rfl
  | _, _, .cons n t r => by simp [ints_len r]
theorem bRun_snoc (odd : Int) (x : Int) : ∀ (a : List Int) (k : Nat) (S : List Sh × Nat × Nat), bRun odd k (a ++ [x]) S = bStep odd (k + a.length) x (bRun odd k a S)
  | [], k, S => rfl
  | y :: r, k, S => by
    show bRun odd (k + 1) (r ++ [x]) (bStep odd k y S) = _
    rw [bRun_snoc odd x r (k + 1)]
    show bStep odd (k + 1 + r.length) x (bRun odd (k + 1) r (bStep odd k y S)) = bStep odd (k + (r.length + 1)) x (bRun odd (k + 1) r (bStep odd k y S))
    congr 1
    omega
theorem bRun_step (odd : Int) {ns : List Int} {i : Nat} (h : i < ns.length) (S : List Sh × Nat × Nat) : bRun odd 0 (ns.take (i + 1)) S = bStep odd i ns[i] (bRun odd 0 (ns.take i) S) := by
  rw [List.take_add_one, List.getElem?_eq_getElem h]
  show bRun odd 0 (ns.take i ++ [ns[i]]) S = _
  rw [bRun_snoc]
  congr 1
  simp
  omega
theorem fmod2 (a : Int) : a.fmod 2 = 0 ∨ a.fmod 2 = 1 := by
  rw [Int.fmod_eq_emod_of_nonneg a (by decide)]; omega
theorem fmod3 (a : Int) : a.fmod 3 = 0 ∨ a.fmod 3 = 1 ∨ a.fmod 3 = 2 := by
  rw [Int.fmod_eq_emod_of_nonneg a (by decide)]; omega
theorem fmod4 (a : Int) : 0 ≤ a.fmod 4 ∧ a.fmod 4 < 4 := by
  rw [Int.fmod_eq_emod_of_nonneg a (by decide)]; omega
def bKind (odd : Int) (t : Nat) (n : Int) : Str := if odd = 3 ∧ t = 0 then Str.ofString "Z" else if (n.fdiv 3).fmod 2 = 0 then Str.ofString "X" else Str.ofString "Y"
def bVal (odd : Int) (t place : Nat) : Int := if odd = 2 ∧ t = 0 then 99 else place
theorem bTok_eq (odd : Int) (place : Nat) (n : Int) (t : Nat) : bTok odd place n t = .tok (bKind odd t n) (bVal odd t place) := rfl
theorem rep_addr {P : Params} {G : Facts} : ∀ {n : Nd}, Rep P G n → ∃ o, G n.addr o
  | .tok .., ⟨_, _, _, _, _, h, _⟩ => ⟨_, h⟩
  | .tree .., ⟨⟨_, _, _, _, h, _⟩, _⟩ => ⟨_, h⟩
theorem pick_from {l : List Value} {x : Int} (h : 0 ≤ x) : slicePick l.toArray (some x) none none = (l.drop x.toNat).toArray := by
  have e : sliceBounds (some x) none none l.toArray.size = (((min x.toNat l.toArray.size : Nat) : Int), ((l.toArray.size : Nat) : Int), 1) := by
    simp only [sliceBounds, Option.getD_none, show (1 : Int) > 0 by decide, if_true, if_neg (show ¬ (x < 0) by omega)]
    congr 1
    omega
  rw [kmk_pick_nat _ e]
  congr 1
  simp only [List.size_toArray, kmk_drop_min]
  rw [List.take_of_length_le]
  simp
  omega
theorem pick_upto {l : List Value} {y : Int} (h : 0 ≤ y) : slicePick l.toArray none (some y) none = (l.take y.toNat).toArray := by
  have e : sliceBounds none (some y) none l.toArray.size = (((0 : Nat) : Int), ((min y.toNat l.toArray.size : Nat) : Int), 1) := by
    simp only [sliceBounds, Option.getD_none, show (1 : Int) > 0 by decide, if_true, if_neg (show ¬ (y < 0) by omega)]
    congr 1
    congr 1
    omega
  rw [kmk_pick_nat _ e]
  congr 1
  simp only [List.drop_zero, Nat.sub_zero, List.size_toArray, kmk_take_min]
theorem pick_all {l : List Value} : slicePick l.toArray none none none = l.toArray := by
  have e : sliceBounds none none none l.toArray.size = (((0 : Nat) : Int), ((l.toArray.size : Nat) : Int), 1) := by
    simp [sliceBounds]
  rw [kmk_pick_nat _ e]
  congr 1
  simp
theorem len_news {prog : Program} {w : World} {A : Around} {E : Value → Shared → Prop} {s : Shared} {h₀ : Heap} {L : Addr} {news : List (Addr × Obj)} {l : Addr} {items : Array Value} {n : Nat} {Q : Value → Shared → Prop} (N : News h₀ L s.heap news) (hm : (l, listOf items n) ∈ news) (hz : items.size ≤ 1000000)
    (h : ∀ t tk, Q (.int items.size t) { s with toks := tk }) : wpAny (model prog w) A (call (.builtin "len") [.ref l]) Q E s :=
  Calls.call_len_list ⟨_, N.get hm, rfl, _, rfl⟩ (by omega) (h _ _)
theorem holdF {M : Model} {A : Around} {E : Value → Shared → Prop} {s : Shared} {env : Env} {t i : Expr} {b o : List Stmt} {pos : Pos} {Q : Flow → Shared → Prop} (h : Hold (wpAny M A (exec (.For t i b o pos) env) Q E s)) : wpAny M A (exec (.For t i b o pos) env) Q E s := h
theorem holdI {M : Model} {A : Around} {E : Value → Shared → Prop} {s : Shared} {env : Env} {a b c : Expr} {pos : Pos} {Q : Value → Shared → Prop} (h : Hold (wpAny M A (eval (.IfExp a b c pos) env) Q E s)) : wpAny M A (eval (.IfExp a b c pos) env) Q E s := h
local macro_rules | `(tactic| walk_at "call builtin:len") => `(tactic| ((with_reducible show wpAny _ _ (call (Value.builtin "len") [Value.ref _]) _ _ _); (refine' len_news ?N ?hm ?hz ?_; (case N => assumption); (case hm => first | exact .head _ | exact .tail _ (.head _) | exact .tail _ (.tail _ (.head _)) | exact .tail _ (.tail _ (.tail _ (.head _))) | exact .tail _ (.tail _ (.tail _ (.tail _ (.head _))))); (case hz => (simp; omega)); intro tLen tkLen)))
local macro_rules | `(tactic| walk_at "eval IfExp") => `(tactic| refine holdI ?_)
local macro_rules | `(tactic| walk_at "exec For Tuple Call") => `(tactic| refine holdF ?_)
end Mine
end

section
example : True ∧ True := by
  w_top off
  first | (walk1; done) | exact ⟨trivial, trivial⟩
open PySem PySem.W PySem.Calls PyProof.Rows
set_option maxRecDepth 100000
set_option maxHeartbeats 4000000
namespace Mine
local macro_rules | `(tactic| k_inst) => `(tactic| (refine' instOf_base ?F ?h1 ?h2; (case F => k_asm); (case h1 => assumption); (case h2 => assumption)))
local macro_rules | `(tactic| walk_at "eval ListComp") => `(tactic| refine holdC ?_)
local macro_rules | `(tactic| walk_at "call builtin:len") => `(tactic| ((with_reducible show wpAny _ _ (call (Value.builtin "len") [Value.ref _]) _ _ _); (refine' len_news ?N ?hm ?hz ?_; (case N => assumption); (case hm => first | exact .head _ | exact .tail _ (.head _) | exact .tail _ (.tail _ (.head _)) | exact .tail _ (.tail _ (.tail _ (.head _))) | exact .tail _ (.tail _ (.tail _ (.tail _ (.head _))))); (case hz => (simp; omega)); intro tLen tkLen)))
local macro_rules | `(tactic| walk_at "eval IfExp") => `(tactic| refine holdI ?_)
local macro_rules | `(tactic| walk_at "exec For Tuple Call") => `(tactic| refine holdF ?_)
section
variable {prog : Program} {w : World} {p : Program} {loose : List Str} {mg mb : Str → Option Value}
theorem built_call {A : Around} {s : Shared} {Q E : Value → Shared → Prop} {ln : Addr} {odd : Int} {todd : Tok} {vs : List Value} {ns : List Int} {en : Nat} (X : (hd.heap_39 w.params).In s.heap) (T : TopRead p loose mg mb s.heap)
    (hln : s.heap.get? ln = some (listOf vs.toArray en)) (hia : IntsAre vs ns) (hlen : ns.length ≤ 16) (hodd : 0 ≤ odd ∧ odd ≤ 4) (hh : A.handled = none) (hd : A.depth ≤ 400) (hu : A.units ≤ 2000)
    (hQ : ∀ (a dx l : Addr) (ks : List Nd) (big : List (Addr × Obj)) h' tk t1 t2 t3 td n, Keep s.heap h' → h'.get? a = some (instObj 142 dx) → h'.get? dx = some (dictOf (treeEs w.params t1 t2 t3 (.str (Str.ofString "top") td) (.ref l)) 3) → h'.get? l = some (listOf (ks.map Nd.val).toArray n) →
      s.heap.get? a = none → s.heap.get? dx = none → s.heap.get? l = none → a ≠ dx → a ≠ l → dx ≠ l → (∀ p ∈ big, h'.get? p.1 = some p.2 ∧ s.heap.get? p.1 = none ∧ p.1 ≠ a ∧ p.1 ≠ dx ∧ p.1 ≠ l) → RepL w.params (fun b o => (b, o) ∈ big) ks →
      (Nd.tree a dx l (Str.ofString "top") ks).sh = builtS odd ns → ((pre (.tree a dx l (Str.ofString "top") ks)).map Nd.addr).Nodup → sizeL ks ≤ 17 → Q (.ref a) { s with heap := h', toks := tk }) :
    wpAny (model prog w) A (call (.ref 153) [.ref ln, .int odd todd]) Q E s := by
  refine wpAny_call (to_ArC 400 2000 hh hd hu ?_)
  refine' enterB (h₀ := s.heap) [(Str.ofString "numbers", .ref ln), (Str.ofString "odd", .int odd todd)] ?kK ?kK1 ?kK2 ?kL ?k6 ?k7 ?k8 ?k9 ?kB ?_ ?c5 ?c2 ?c3 ?c4
  case kK => assumption
  case kK1 => exact fun _ _ e => e
  case kK2 => exact Nat.le_refl _
  case kL => exact TopRead.nolimit (by assumption)
  case k6 => k_is
  case k7 => k_is
  case k8 => show 400 < 1000; decide
  case k9 => exact BindsTo.of_eq rfl
  case kB => exact rfl
  case c5 => decide
  case c2 => exact rfl
  case c3 => exact rfl
  case c4 => exact rfl
  intro L h₁ tk hL F hkp
  have N : News s.heap L h₁ [] := fun p hp => nomatch hp
  repeat' walk1
  show wpAny _ _ _ _ _ _
  rename_i st h₂ lt₂ h₃ tk₃ D₃ h₄ lt₄ h₅ h₆ h₇ F₁ N₁
  refine wpAny_For ?_
  repeat' walk1
  have N₂ := news_sub N₁ (news' := [(st, listOf #[] 0)]) (fun p hp => .tail _ hp)
  refine enum_start F₁ N₂ (F₁.keep _ _ hln) fun e it h₈ ob F₃ N₃ hob hei hlt hlt' hk₈ hen hin => ?_
  refine wpAny_pyIter_enum (N₃ _ (.head _)).1 ?_
  refine for_any (fun k σ => ∃ i h tk m nodes big ob old st ep tn tt t1 t2, i ≤ ns.length ∧ k = ns.length - i ∧ σ = { s with heap := h, toks := tk } ∧ Fr s.heap L h m ∧
      m (Str.ofString "stack") = some (.ref st) ∧ m (Str.ofString "tokens") = some (.int (tn : Nat) t1) ∧ m (Str.ofString "trees") = some (.int (tt : Nat) t2) ∧ m (Str.ofString "odd") = some (.int odd todd) ∧
      News s.heap L h ((e, enumO it (i : Nat) old) :: (it, ob) :: (st, listOf (nodes.map Nd.val).toArray ep) :: big) ∧ LitIs ob ln i ∧ RepL w.params (fun a o => (a, o) ∈ big) nodes ∧
      (nodes.map Nd.sh, tn, tt) = bRun odd 0 (ns.take i) ([], 0, 0) ∧ ((preL nodes).map Nd.addr).Nodup ∧ (∀ p ∈ big, p.1 ≠ e ∧ p.1 ≠ it ∧ p.1 ≠ st) ∧ st ≠ e ∧ st ≠ it ∧ sizeL nodes ≤ i) ?_ ns.length ?_
  · rintro k _ ⟨i, h, tk, m, nodes, big, ob, old, st, ep, tn, tt, t1, t2, hi, rfl, rfl, F, hm1, hm2, hm3, hm4, N, hob, hR, hrun, hnd, hbig, hse, hsi, hsz⟩
    have offe : ∀ p ∈ (st, listOf (nodes.map Nd.val).toArray ep) :: big, p.1 ≠ e := by
      intro p hp
      rcases List.mem_cons.mp hp with rfl | hp
      · exact hse
      · exact (hbig p hp).1
    have offi : ∀ p ∈ (st, listOf (nodes.map Nd.val).toArray ep) :: big, p.1 ≠ it := by
      intro p hp
      rcases List.mem_cons.mp hp with rfl | hp
      · exact hsi
      · exact (hbig p hp).2.1
    have hll : h.IsList ln vs.toArray := ⟨_, F.keep _ _ hln, rfl, _, rfl⟩
    by_cases hin' : i < ns.length
    · obtain ⟨tn', hvi⟩ := ints_get hia i hin'
      refine enum_step (v := .int ns[i] tn') rfl F N hei offe offi hob hll (by simpa using hvi) fun h₁₁ ob₁₁ tk₁₁ tk₁₂ F₁₁ N₁₁ hob₁₁ => ?_
      rw [upd_self hm1, upd_self hm2, upd_self hm3, upd_self hm4] at F₁₁
      walk1
      walk1
      walk1
      walk1
      rename_i h₁₂ F₁₂ N₁₂
      obtain ⟨mm, F₁₃, e1, e2, e3, e4, e5, e6⟩ : ∃ mm, Fr s.heap L h₁₂ mm ∧ mm (Str.ofString "stack") = some (.ref st) ∧ mm (Str.ofString "tokens") = some (.int (tn : Nat) t1) ∧ mm (Str.ofString "trees") = some (.int (tt : Nat) t2) ∧ mm (Str.ofString "odd") = some (.int odd todd) ∧
        mm (Str.ofString "n") = some (.int ns[i] tn') ∧ mm (Str.ofString "place") = some (.int (i : Nat) tk₁₁) := ⟨_, F₁₂, rfl, rfl, rfl, rfl, rfl, rfl⟩
      clear F₁₂
      have F₁₄ := F₁₃
      rw [upd_self e1, upd_self e2, upd_self e3, upd_self e4, upd_self e5, upd_self e6] at F₁₄
      repeat' walk1
      · -- TOKEN
        show wpAny _ _ _ _ _ _
        rename_i hn3 tk₁₃
        refine wpAny_mono (E := fun _ _ => False) (Q := fun v s' => Hold (∃ t h' tk', v = .str (bKind odd tn ns[i]) t ∧ s' = { s with heap := h', toks := tk' } ∧
          Fr s.heap L h' mm ∧ News s.heap L h' ((e, enumO it (i + 1 : Nat) (.int ns[i] tn')) :: (it, ob₁₁) :: (st, listOf (nodes.map Nd.val).toArray ep) :: big))) ?_ (fun v s' hv => ?_) (fun _ _ x => x.elim)
        · refine wpAny_IfExp ?_
          repeat' walk1
          · rename_i ho ht
            have ht' : tn = 0 := by omega
            have hK : bKind odd tn ns[i] = Str.ofString "Z" := by rw [bKind, if_pos ⟨ho, ht'⟩]
            unfold Hold
            rw [hK]
            exact ⟨_, _, _, rfl, rfl, F₁₃, N₁₂⟩
          · rename_i ho ht l' h' F' N' lt'
            have hno : ¬ (odd = 3 ∧ tn = 0) := fun q => ht (by omega)
            have Fm : Fr s.heap L h' mm := by rw [upd_self e1, upd_self e2, upd_self e3, upd_self e4, upd_self e5, upd_self e6]; exact F'
            rcases fmod2 (ns[i].fdiv 3) with hz | hz
            · rw [hz]
              refine item_list ⟨_, N'.get (.head _), rfl, _, rfl⟩ (by decide) (by decide) rfl ?_
              have hK : bKind odd tn ns[i] = Str.ofString "X" := by rw [bKind, if_neg hno, if_pos hz]
              unfold Hold
              rw [hK]
              exact ⟨_, h', _, rfl, rfl, Fm, fun p hp => N' p (.tail _ hp)⟩
            · rw [hz]
              refine item_list ⟨_, N'.get (.head _), rfl, _, rfl⟩ (by decide) (by decide) rfl ?_
              have hK : bKind odd tn ns[i] = Str.ofString "Y" := by rw [bKind, if_neg hno, if_neg (by rw [hz]; decide)]
              unfold Hold
              rw [hK]
              exact ⟨_, h', _, rfl, rfl, Fm, fun p hp => N' p (.tail _ hp)⟩
          · rename_i ho l' h' F' N' lt'
            have hno : ¬ (odd = 3 ∧ tn = 0) := fun q => ho q.1
            have Fm : Fr s.heap L h' mm := by rw [upd_self e1, upd_self e2, upd_self e3, upd_self e4, upd_self e5, upd_self e6]; exact F'
            rcases fmod2 (ns[i].fdiv 3) with hz | hz
            · rw [hz]
              refine item_list ⟨_, N'.get (.head _), rfl, _, rfl⟩ (by decide) (by decide) rfl ?_
              have hK : bKind odd tn ns[i] = Str.ofString "X" := by rw [bKind, if_neg hno, if_pos hz]
              unfold Hold
              rw [hK]
              exact ⟨_, h', _, rfl, rfl, Fm, fun p hp => N' p (.tail _ hp)⟩
            · rw [hz]
              refine item_list ⟨_, N'.get (.head _), rfl, _, rfl⟩ (by decide) (by decide) rfl ?_
              have hK : bKind odd tn ns[i] = Str.ofString "Y" := by rw [bKind, if_neg hno, if_neg (by rw [hz]; decide)]
              unfold Hold
              rw [hK]
              exact ⟨_, h', _, rfl, rfl, Fm, fun p hp => N' p (.tail _ hp)⟩
        · obtain ⟨t, h₁₅, tk₁₅, rfl, rfl, F₁₅, N₁₅⟩ := hv
          clear F₁₃ F₁₄ N₁₂
          have F₁₆ := F₁₅
          rw [upd_self e1, upd_self e2, upd_self e3, upd_self e4, upd_self e5, upd_self e6] at F₁₆
          repeat' walk1
          show wpAny _ _ _ _ _ _
          refine wpAny_mono (E := fun _ _ => False) (Q := fun v s' => Hold (∃ t tk', v = .int (bVal odd tn i) t ∧ s' = { s with heap := h₁₅, toks := tk' })) ?_ (fun v s' hv => ?_) (fun _ _ x => x.elim)
          · refine wpAny_IfExp ?_
            repeat' walk1
            · rename_i ho ht
              have hK : bVal odd tn i = 99 := by rw [bVal, if_pos ⟨ho, by omega⟩]
              unfold Hold
              rw [hK]
              exact ⟨_, _, rfl, rfl⟩
            · rename_i ho ht
              have hK : bVal odd tn i = (i : Int) := by rw [bVal, if_neg fun q => ht (by omega)]
              unfold Hold
              rw [hK]
              exact ⟨_, _, rfl, rfl⟩
            · rename_i ho
              have hK : bVal odd tn i = (i : Int) := by rw [bVal, if_neg fun q => ho q.1]
              unfold Hold
              rw [hK]
              exact ⟨_, _, rfl, rfl⟩
          · obtain ⟨t', tk₁₆, rfl, rfl⟩ := hv
            repeat' walk1
            have X₁ := X.keeps F₁₅.keep
            have T₁ := T.keeps F₁₅.keep
            refine mkTok X₁ T₁ rfl (Nat.le_of_ble_eq_true rfl) (Nat.le_of_ble_eq_true rfl) fun dx u1 u2 h₁₇ tk₁₇ hdx hk₁₇ ha1 ha2 => ?_
            dsimp only at hdx hk₁₇
            have nd1 : h₁₅.get? dx = none := fresh_of (Nat.le_of_eq hdx.symm)
            have nd2 : h₁₅.get? (dx + 1) = none := fresh_of (by rw [hdx]; exact Nat.le_succ _)
            have F₁₇ := fr_keep F₁₅ hk₁₇
            have N₁₇ := news_keep N₁₅ hk₁₇
            have N₁₈ : News s.heap L h₁₇ ((e, enumO it (i + 1 : Nat) (.int ns[i] tn')) :: (it, ob₁₁) :: (st, listOf (nodes.map Nd.val).toArray ep) :: (dx + 1, instObj 45 dx) :: (dx, dictOf (tokEs w.params u1 u2 (.str (bKind odd tn ns[i]) t) (.int (bVal odd tn i) t')) 2) :: big) := by
              intro p hp
              simp only [List.mem_cons] at hp
              rcases hp with rfl | rfl | rfl | rfl | rfl | hp
              · exact N₁₇ _ (.head _)
              · exact N₁₇ _ (.tail _ (.head _))
              · exact N₁₇ _ (.tail _ (.tail _ (.head _)))
              · exact ⟨ha1, fr_new F₁₅ nd2, fr_none F₁₅ nd2⟩
              · exact ⟨ha2, fr_new F₁₅ nd1, fr_none F₁₅ nd1⟩
              · exact N₁₇ _ (.tail _ (.tail _ (.tail _ hp)))
            have F₁₈ := F₁₇
            rw [upd_self e1, upd_self e2, upd_self e3, upd_self e4, upd_self e5, upd_self e6] at F₁₈
            clear F₁₆ N₁₇
            repeat' walk1
            have e9 : ((nodes ++ [Nd.tok (dx + 1) (bKind odd tn ns[i]) (bVal odd tn i)]).map Nd.val).toArray = (nodes.map Nd.val).toArray.push (.ref (dx + 1)) := by
              rw [List.map_append, List.push_toArray]
              rfl
            have hzn : nodes.length ≤ 16 := by have := length_le_sizeL nodes; omega
            have hnst : ∀ b o, h₁₅.get? b = some o → b ≠ dx ∧ b ≠ dx + 1 := fun b o e => ⟨(fun q => by rw [q, nd1] at e; cases e), (fun q => by rw [q, nd2] at e; cases e)⟩
            have bst := hnst _ _ (N₁₅ _ (.tail _ (.tail _ (.head _)))).1
            have bit := hnst _ _ (N₁₅ _ (.tail _ (.head _))).1
            have bee := hnst _ _ (N₁₅ _ (.head _)).1
            have bbig : ∀ p ∈ big, p.1 ≠ dx ∧ p.1 ≠ dx + 1 := fun p hp => hnst _ _ (N₁₅ p (.tail _ (.tail _ (.tail _ hp)))).1
            refine append_K F₁₈ N₁₈ (Upd.tail hse.symm (Upd.tail hsi.symm (Upd.head ?_))) (fun h₁₉ F₁₉ N₁₉ => ?_) ?_
            · intro p hp
              simp only [List.mem_cons] at hp
              rcases hp with rfl | rfl | hp
              · exact Ne.symm bst.2
              · exact Ne.symm bst.1
              · exact (hbig p hp).2.2
            · rw [← e9] at N₁₉
              clear F₁₈ N₁₈
              repeat' walk1
              rename_i h₂₁ F₂₁ N₂₁
              refine ⟨ns.length - (i + 1), by omega, i + 1, h₂₁, _, _, nodes ++ [Nd.tok (dx + 1) (bKind odd tn ns[i]) (bVal odd tn i)], _, ob₁₁, _, st, _, tn + 1, tt, _, t2, hin', rfl, rfl, F₂₁, rfl, rfl, rfl, rfl, N₂₁, hob₁₁, ?_, ?_, ?_, ?_, hse, hsi, ?_⟩
              · refine repL_append.mpr ⟨hR.mono fun a o e => .tail _ (.tail _ e), ⟨dx, u1, u2, t, t', .head _, .tail _ (.head _)⟩, trivial⟩
              · rw [bRun_step odd hin', ← hrun]
                simp only [bStep, if_pos tk₁₃, bTok_eq]
                simp [Nd.sh]
              · rw [preL_append, List.map_append, List.nodup_append]
                refine ⟨hnd, by simp [preL, pre], ?_⟩
                intro x hx y hy
                obtain ⟨z, hz, rfl⟩ := List.mem_map.mp hx
                obtain ⟨oz, hoz⟩ := rep_addr (repL_iff.mp (rep_preL hR) z hz)
                have hy' : y = dx + 1 := by simpa [preL, pre, Nd.addr] using hy
                rw [hy']
                exact (bbig _ hoz).2
              · intro p hp
                simp only [List.mem_cons] at hp
                rcases hp with rfl | rfl | hp
                · exact ⟨Ne.symm bee.2, Ne.symm bit.2, Ne.symm bst.2⟩
                · exact ⟨Ne.symm bee.1, Ne.symm bit.1, Ne.symm bst.1⟩
                · exact hbig p hp
              · rw [sizeL_append]
                simp [sizeL, Nd.size]
                omega
            · have := sizeLine_big
              simp
              omega
      -- ENDTOKEN
      · show wpAny _ _ _ _ _ _
        rename_i hn3 tk₁₃ h₁₅ F₁₅ N₁₅
        obtain ⟨mc, F₁₆, f1, f2, f3, f4, tc, f5, f6⟩ : ∃ mc, Fr s.heap L h₁₅ mc ∧ mc (Str.ofString "stack") = some (.ref st) ∧ mc (Str.ofString "tokens") = some (.int (tn : Nat) t1) ∧ mc (Str.ofString "trees") = some (.int (tt : Nat) t2) ∧ mc (Str.ofString "odd") = some (.int odd todd) ∧
          ∃ tc, mc (Str.ofString "count") = some (.int ((ns[i].fdiv 3).fmod 4) tc) ∧ mc (Str.ofString "n") = some (.int ns[i] tn') := ⟨_, F₁₅, rfl, rfl, rfl, rfl, _, rfl, rfl⟩
        clear F₁₅
        have F₁₇ := F₁₆
        rw [upd_self f1, upd_self f2, upd_self f3, upd_self f4, upd_self f5, upd_self f6] at F₁₇
        have hzn : nodes.length ≤ 16 := by have := length_le_sizeL nodes; omega
        refine wpAny_mono (E := fun _ _ => False) (Q := fun v s' => Hold (∃ bl epb h' tk', v = .ref bl ∧ s' = { s with heap := h', toks := tk' } ∧ Fr s.heap L h' mc ∧ (∀ p ∈ (e, enumO it (i + 1 : Nat) (.int ns[i] tn')) :: (it, ob₁₁) :: (st, listOf (nodes.map Nd.val).toArray ep) :: big, p.1 ≠ bl) ∧
          News s.heap L h' ((bl, listOf ((nodes.drop (bCut ns[i] nodes.length)).map Nd.val).toArray epb) :: (e, enumO it (i + 1 : Nat) (.int ns[i] tn')) :: (it, ob₁₁) :: (st, listOf (nodes.map Nd.val).toArray ep) :: big))) ?_ (fun v s' hv => ?_) (fun _ _ x => x.elim)
        · refine wpAny_IfExp ?_
          repeat' walk1
          · rename_i tl tkl hcl tl2 tkl2 h' F' N'
            have hcl' : ((ns[i].fdiv 3).fmod 4).toNat ≤ nodes.length := by simp at hcl; omega
            have hx : ((((nodes.map Nd.val).toArray.size : Nat) : Int) - (ns[i].fdiv 3).fmod 4).toNat = bCut ns[i] nodes.length := by
              have := fmod4 (ns[i].fdiv 3)
              unfold bCut
              simp
              omega
            rw [pick_from (by have := fmod4 (ns[i].fdiv 3); simp at hcl ⊢; omega), hx, ← List.map_drop] at N'
            unfold Hold
            exact ⟨_, _, h', _, rfl, rfl, (by rw [upd_self f1, upd_self f2, upd_self f3, upd_self f4, upd_self f5, upd_self f6]; exact F'), (fun p hp => Nat.ne_of_lt (Nat.lt_succ_of_lt (Heap.lt_size (N₁₅ p hp).1))), N'⟩
          · rename_i tl tkl hcl h' F' N'
            have hx : bCut ns[i] nodes.length = 0 := by
              have := fmod4 (ns[i].fdiv 3)
              unfold bCut
              simp at hcl
              omega
            rw [pick_all] at N'
            unfold Hold
            rw [hx, List.drop_zero]
            exact ⟨_, _, h', _, rfl, rfl, (by rw [upd_self f1, upd_self f2, upd_self f3, upd_self f4, upd_self f5, upd_self f6]; exact F'), (fun p hp => Nat.ne_of_lt (Nat.lt_succ_of_lt (Heap.lt_size (N₁₅ p hp).1))), N'⟩
        · obtain ⟨bl, epb, h₁₈, tk₁₈, rfl, rfl, F₁₈, hbl, N₁₈⟩ := hv
          clear F₁₆ F₁₇ N₁₅
          have F₁₉ := F₁₈
          rw [upd_self f1, upd_self f2, upd_self f3, upd_self f4, upd_self f5, upd_self f6] at F₁₉
          repeat' walk1
          · rename_i hS h₂₀ F₂₀ N₂₀
            exfalso
            simp at hS
            omega
          show wpAny _ _ _ _ _ _
          rename_i h₁₉ F₁₉' N₁₉ tL1 tk1 tL2 tk2 hS h₂₀ F₂₀ N₂₀
          have hcut : bCut ns[i] nodes.length ≤ nodes.length := by unfold bCut; omega
          have hx : ((((nodes.map Nd.val).toArray.size : Nat) : Int) - (((nodes.drop (bCut ns[i] nodes.length)).map Nd.val).toArray.size : Nat)).toNat = bCut ns[i] nodes.length := by
            simp
            omega
          rw [pick_upto hS, hx, ← List.map_take] at N₂₀
          dsimp only at N₂₀ F₂₀ N₁₉ ⊢
          have hsl : ∀ p ∈ (bl, listOf ((nodes.drop (bCut ns[i] nodes.length)).map Nd.val).toArray epb) :: (e, enumO it (i + 1 : Nat) (.int ns[i] tn')) :: (it, ob₁₁) :: (st, listOf (nodes.map Nd.val).toArray ep) :: big, p.1 ≠ h₁₉.objs.size + 1 := fun p hp => Nat.ne_of_lt (Nat.lt_succ_of_lt (Heap.lt_size (N₁₉ p hp).1))
          generalize h₁₉.objs.size + 1 = sl at N₂₀ hsl ⊢
          clear N₁₉
          obtain ⟨md, F₂₁, g1, g2, g3, g4, g5, g6⟩ : ∃ md, Fr s.heap L h₂₀ md ∧ md (Str.ofString "below") = some (.ref bl) ∧ md (Str.ofString "stack") = some (.ref st) ∧ md (Str.ofString "tokens") = some (.int (tn : Nat) t1) ∧ md (Str.ofString "trees") = some (.int (tt : Nat) t2) ∧ md (Str.ofString "odd") = some (.int odd todd) ∧
            md (Str.ofString "n") = some (.int ns[i] tn') := ⟨_, F₂₀, rfl, rfl, rfl, rfl, rfl, rfl⟩
          clear F₂₀
          have F₂₂ := F₂₁
          rw [upd_self g1, upd_self g2, upd_self g3, upd_self g4, upd_self g5, upd_self g6] at F₂₂
          refine wpAny_mono (E := fun _ _ => False) (Q := fun v s' => Hold (∃ t h' tk', v = .str (bName odd ns[i] tt) t ∧ s' = { s with heap := h', toks := tk' } ∧ Fr s.heap L h' md ∧
            News s.heap L h' ((sl, listOf ((nodes.take (bCut ns[i] nodes.length)).map Nd.val).toArray 0) :: (bl, listOf ((nodes.drop (bCut ns[i] nodes.length)).map Nd.val).toArray epb) :: (e, enumO it (i + 1 : Nat) (.int ns[i] tn')) :: (it, ob₁₁) :: (st, listOf (nodes.map Nd.val).toArray ep) :: big))) ?_ (fun v s' hv => ?_) (fun _ _ x => x.elim)
          · refine wpAny_IfExp ?_
            repeat' walk1
            · rename_i ho ht
              have hK : bName odd ns[i] tt = Str.ofString "z" := by rw [bName, if_pos ⟨ho, by omega⟩]
              unfold Hold
              rw [hK]
              exact ⟨_, _, _, rfl, rfl, F₂₁, N₂₀⟩
            · rename_i ho ht l' h' F' N' lt'
              have hno : ¬ (odd = 4 ∧ tt = 0) := fun q => ht (by omega)
              have Fm : Fr s.heap L h' md := by rw [upd_self g1, upd_self g2, upd_self g3, upd_self g4, upd_self g5, upd_self g6]; exact F'
              rcases fmod3 ns[i] with hz | hz | hz
              · exact absurd hz tk₁₃
              · rw [hz]
                refine item_list ⟨_, N'.get (.head _), rfl, _, rfl⟩ (by decide) (by decide) rfl ?_
                have hK : bName odd ns[i] tt = Str.ofString "p" := by rw [bName, if_neg hno, if_pos hz]
                unfold Hold
                rw [hK]
                exact ⟨_, h', _, rfl, rfl, Fm, fun p hp => N' p (.tail _ hp)⟩
              · rw [hz]
                refine item_list ⟨_, N'.get (.head _), rfl, _, rfl⟩ (by decide) (by decide) rfl ?_
                have hK : bName odd ns[i] tt = Str.ofString "q" := by rw [bName, if_neg hno, if_neg (by rw [hz]; decide)]
                unfold Hold
                rw [hK]
                exact ⟨_, h', _, rfl, rfl, Fm, fun p hp => N' p (.tail _ hp)⟩
            · rename_i ho l' h' F' N' lt'
              have hno : ¬ (odd = 4 ∧ tt = 0) := fun q => ho q.1
              have Fm : Fr s.heap L h' md := by rw [upd_self g1, upd_self g2, upd_self g3, upd_self g4, upd_self g5, upd_self g6]; exact F'
              rcases fmod3 ns[i] with hz | hz | hz
              · exact absurd hz tk₁₃
              · rw [hz]
                refine item_list ⟨_, N'.get (.head _), rfl, _, rfl⟩ (by decide) (by decide) rfl ?_
                have hK : bName odd ns[i] tt = Str.ofString "p" := by rw [bName, if_neg hno, if_pos hz]
                unfold Hold
                rw [hK]
                exact ⟨_, h', _, rfl, rfl, Fm, fun p hp => N' p (.tail _ hp)⟩
              · rw [hz]
                refine item_list ⟨_, N'.get (.head _), rfl, _, rfl⟩ (by decide) (by decide) rfl ?_
                have hK : bName odd ns[i] tt = Str.ofString "q" := by rw [bName, if_neg hno, if_neg (by rw [hz]; decide)]
                unfold Hold
                rw [hK]
                exact ⟨_, h', _, rfl, rfl, Fm, fun p hp => N' p (.tail _ hp)⟩
          · obtain ⟨t, h₂₃, tk₂₃, rfl, rfl, F₂₃, N₂₃⟩ := hv
            clear F₂₁ F₂₂ N₂₀
            have F₂₄ := F₂₃
            rw [upd_self g1, upd_self g2, upd_self g3, upd_self g4, upd_self g5, upd_self g6] at F₂₄
            repeat' walk1
            have X₁ := X.keeps F₂₃.keep
            have T₁ := T.keeps F₂₃.keep
            refine mkTree X₁ T₁ rfl (Nat.le_of_ble_eq_true rfl) (Nat.le_of_ble_eq_true rfl) fun dx u1 u2 u3 h₂₅ tk₂₅ hdx hk₂₅ ha1 ha2 => ?_
            dsimp only at hdx hk₂₅
            have nd1 : h₂₃.get? dx = none := fresh_of (Nat.le_of_eq hdx.symm)
            have nd2 : h₂₃.get? (dx + 1) = none := fresh_of (by rw [hdx]; exact Nat.le_succ _)
            have hnst : ∀ b o, h₂₃.get? b = some o → b ≠ dx ∧ b ≠ dx + 1 := fun b o e => ⟨(fun q => by rw [q, nd1] at e; cases e), (fun q => by rw [q, nd2] at e; cases e)⟩
            have F₂₅ := fr_keep F₂₃ hk₂₅
            have N₂₅ := news_keep N₂₃ hk₂₅
            have N₂₆ := news_cons F₂₅ (news_cons F₂₅ N₂₅ ha2 (fr_none F₂₃ nd1) (fr_new F₂₃ nd1)) ha1 (fr_none F₂₃ nd2) (fr_new F₂₃ nd2)
            have F₂₆ := F₂₅
            rw [upd_self g1, upd_self g2, upd_self g3, upd_self g4, upd_self g5, upd_self g6] at F₂₆
            have hnb : ∀ p ∈ big, p.1 ≠ dx + 1 ∧ p.1 ≠ dx := fun p hp => let q := hnst _ _ (N₂₃ p (.tail _ (.tail _ (.tail _ (.tail _ (.tail _ hp)))))).1; ⟨q.2, q.1⟩
            have bst := hnst _ _ (N₂₃ _ (.tail _ (.tail _ (.tail _ (.tail _ (.head _)))))).1
            have bit := hnst _ _ (N₂₃ _ (.tail _ (.tail _ (.tail _ (.head _))))).1
            have bee := hnst _ _ (N₂₃ _ (.tail _ (.tail _ (.head _)))).1
            clear N₂₅ F₂₄
            repeat' walk1
            rename_i l₂₇ h₂₇ F₂₇ N₂₇ lt₂₇
            have hcl := List.take_append_drop (bCut ns[i] nodes.length) nodes
            have hR2 := hR
            rw [← hcl] at hR2
            obtain ⟨hRt, hRd⟩ := repL_append.mp hR2
            have hs2 := sizeL_append (nodes.take (bCut ns[i] nodes.length)) (nodes.drop (bCut ns[i] nodes.length))
            rw [hcl] at hs2
            have hp2 := preL_append (nodes.take (bCut ns[i] nodes.length)) (nodes.drop (bCut ns[i] nodes.length))
            rw [hcl] at hp2
            have n16 := length_le_sizeL nodes
            refine kmk_add_lit (zs := ((nodes.take (bCut ns[i] nodes.length) ++ [Nd.tree (dx + 1) dx bl (bName odd ns[i] tt) (nodes.drop (bCut ns[i] nodes.length))]).map Nd.val)) F₂₇ N₂₇ ⟨_, (N₂₇ _ (.tail _ (.tail _ (.tail _ (.head _))))).1, rfl, _, rfl⟩ ⟨_, (N₂₇ _ (.head _)).1, rfl, _, rfl⟩ ?_ (fun D h₂₈ F₂₈ N₂₈ lt₂₈ => ?_) ?_
            · simp [Nd.addr]
            · have lt₂₉ := fun p hp => Nat.ne_of_lt (lt₂₈ p hp)
              clear F₂₇ N₂₇ lt₂₈
              repeat' walk1
              rename_i h₃₀ F₃₀ N₃₀
              have hbl' : ∀ p ∈ big, p.1 ≠ bl := fun p hp => hbl p (.tail _ (.tail _ (.tail _ hp)))
              refine ⟨ns.length - (i + 1), by omega, i + 1, h₃₀, _, _, nodes.take (bCut ns[i] nodes.length) ++ [Nd.tree (dx + 1) dx bl (bName odd ns[i] tt) (nodes.drop (bCut ns[i] nodes.length))],
                (dx + 1, instObj 142 dx) :: (dx, dictOf (treeEs w.params u1 u2 u3 (Value.str (bName odd ns[i] tt) t) (Value.ref bl)) 3) :: (bl, listOf ((nodes.drop (bCut ns[i] nodes.length)).map Nd.val).toArray epb) :: big,
                ob₁₁, .int ns[i] tn', D, 0, tn, tt + 1, t1, _, hin', rfl, rfl, F₃₀, rfl, rfl, rfl, rfl, news_sub N₃₀ ?_, hob₁₁, ?_, ?_, ?_, ?_, ?_, ?_, ?_⟩
              · intro p hp
                simp only [List.mem_cons] at hp ⊢
                rcases hp with rfl | rfl | rfl | rfl | rfl | rfl | hp
                · exact .inr (.inr (.inr (.inr (.inr (.inr (.inl rfl))))))
                · exact .inr (.inr (.inr (.inr (.inr (.inr (.inr (.inl rfl)))))))
                · exact .inl rfl
                · exact .inr (.inr (.inl rfl))
                · exact .inr (.inr (.inr (.inl rfl)))
                · exact .inr (.inr (.inr (.inr (.inr (.inl rfl)))))
                · exact .inr (.inr (.inr (.inr (.inr (.inr (.inr (.inr (.inr hp))))))))
              · refine repL_append.mpr ⟨hRt.mono fun a o e => .tail _ (.tail _ (.tail _ e)), ⟨⟨u1, u2, u3, t, .head _, .tail _ (.head _)⟩, ⟨epb, .tail _ (.tail _ (.head _))⟩, hRd.mono fun a o e => .tail _ (.tail _ (.tail _ e))⟩, trivial⟩
              · rw [bRun_step odd hin', ← hrun]
                simp only [bStep, if_neg tk₁₃]
                simp [Nd.sh, shL_map, List.map_take, List.map_drop]
              · rw [hp2] at hnd
                rw [preL_append]
                simp only [preL, pre, List.append_nil, List.map_append, List.map_cons] at hnd ⊢
                rw [List.perm_middle.nodup_iff]
                refine List.nodup_cons.mpr ⟨?_, hnd⟩
                rw [← List.map_append, ← hp2]
                intro hx
                obtain ⟨z, hz, he⟩ := List.mem_map.mp hx
                obtain ⟨oz, hoz⟩ := rep_addr (repL_iff.mp (rep_preL hR) z hz)
                exact (hnb _ hoz).1 he
              · intro p hp
                simp only [List.mem_cons] at hp
                rcases hp with rfl | rfl | rfl | hp
                · exact ⟨Ne.symm bee.2, Ne.symm bit.2, lt₂₉ _ (.tail _ (.head _))⟩
                · exact ⟨Ne.symm bee.1, Ne.symm bit.1, lt₂₉ _ (.tail _ (.tail _ (.head _)))⟩
                · exact ⟨Ne.symm (hbl _ (.head _)), Ne.symm (hbl _ (.tail _ (.head _))), lt₂₉ _ (.tail _ (.tail _ (.tail _ (.tail _ (.head _)))))⟩
                · exact ⟨(hbig p hp).1, (hbig p hp).2.1, lt₂₉ _ (.tail _ (.tail _ (.tail _ (.tail _ (.tail _ (.tail _ (.tail _ (.tail _ hp))))))))⟩
              · exact Ne.symm (lt₂₉ _ (.tail _ (.tail _ (.tail _ (.tail _ (.tail _ (.head _)))))))
              · exact Ne.symm (lt₂₉ _ (.tail _ (.tail _ (.tail _ (.tail _ (.tail _ (.tail _ (.head _))))))))
              · rw [sizeL_append]
                simp [sizeL, Nd.size]
                omega
            · have := sizeLine_big
              simp
              omega
    · have hie : i = ns.length := by omega
      subst hie
      refine enum_end rfl F N hei offi hob hll (by rw [List.getElem?_toArray, List.getElem?_eq_none (by rw [ints_len hia]; exact Nat.le_refl _)]) fun h₁₁ F₁₁ N₁₁ => ?_
      rw [List.take_length] at hrun
      have F₁₂ := F₁₁
      rw [upd_self hm1, upd_self hm2, upd_self hm3, upd_self hm4] at F₁₂
      have hl16 := length_le_sizeL nodes
      repeat' walk1
      show wpAny _ _ _ _ _ _
      refine wpAny_mono (E := fun _ _ => False) (Q := fun v s' => Hold (∃ zl zn zs bigz h' tk', v = .ref zl ∧ s' = { s with heap := h', toks := tk' } ∧ Fr s.heap L h' m ∧ News s.heap L h' ((zl, listOf (zs.map Nd.val).toArray zn) :: (st, listOf (nodes.map Nd.val).toArray ep) :: bigz) ∧
        RepL w.params (fun a o => (a, o) ∈ bigz) (nodes ++ zs) ∧ zs.map Nd.sh = (if odd = 1 then [.tok (Str.ofString "Z") 99] else []) ∧ ((preL (nodes ++ zs)).map Nd.addr).Nodup ∧ sizeL zs ≤ 1)) ?_ (fun v s' hv => ?_) (fun _ _ x => x.elim)
      · refine wpAny_IfExp ?_
        repeat' walk1
        · rename_i ho
          have X₁ := X.keeps F₁₁.keep
          have T₁ := T.keeps F₁₁.keep
          refine mkTok X₁ T₁ rfl (Nat.le_of_ble_eq_true rfl) (Nat.le_of_ble_eq_true rfl) fun dx u1 u2 h₁₇ tk₁₇ hdx hk₁₇ ha1 ha2 => ?_
          dsimp only at hdx hk₁₇
          obtain ⟨td, tv, ha2⟩ : ∃ td tv, h₁₇.get? dx = some (dictOf (tokEs w.params u1 u2 (.str (Str.ofString "Z") td) (.int 99 tv)) 2) := ⟨_, _, ha2⟩
          have nd1 : h₁₁.get? dx = none := fresh_of (Nat.le_of_eq hdx.symm)
          have nd2 : h₁₁.get? (dx + 1) = none := fresh_of (by rw [hdx]; exact Nat.le_succ _)
          have F₁₇ := fr_keep F₁₁ hk₁₇
          have N₁₇ := news_keep N₁₁ hk₁₇
          have N₁₈ := news_cons F₁₇ (news_cons F₁₇ N₁₇ ha2 (fr_none F₁₁ nd1) (fr_new F₁₁ nd1)) ha1 (fr_none F₁₁ nd2) (fr_new F₁₁ nd2)
          have hnb : ∀ p ∈ big, p.1 ≠ dx + 1 := fun p hp q => by
            have := (N₁₁ p (.tail _ hp)).1
            rw [q, nd2] at this
            cases this
          have F₁₈ := F₁₇
          rw [upd_self hm1, upd_self hm2, upd_self hm3, upd_self hm4] at F₁₈
          clear F₁₂ N₁₇
          repeat' walk1
          rename_i l h₁₉ F₁₉ N₁₉ lt₁₉
          unfold Hold
          refine ⟨l, 0, [Nd.tok (dx + 1) (Str.ofString "Z") 99], (dx + 1, instObj 45 dx) :: (dx, dictOf (tokEs w.params u1 u2 (.str (Str.ofString "Z") td) (.int 99 tv)) 2) :: big, h₁₉, _, rfl, rfl, (by rw [upd_self hm1, upd_self hm2, upd_self hm3, upd_self hm4]; exact F₁₉), news_sub N₁₉ ?_, repL_append.mpr ⟨hR.mono fun a o e => .tail _ (.tail _ e), ⟨dx, u1, u2, td, tv, .head _, .tail _ (.head _)⟩, trivial⟩, ?_, ?_, ?_⟩
          · intro p hp
            simp only [List.mem_cons] at hp ⊢
            rcases hp with rfl | rfl | rfl | rfl | hp
            · exact .inl rfl
            · exact .inr (.inr (.inr (.inl rfl)))
            · exact .inr (.inl rfl)
            · exact .inr (.inr (.inl rfl))
            · exact .inr (.inr (.inr (.inr hp)))
          · rw [if_pos ho]
            rfl
          · rw [preL_append, List.map_append, List.nodup_append]
            refine ⟨hnd, by simp [preL, pre], ?_⟩
            intro x hx y hy
            obtain ⟨z, hz, rfl⟩ := List.mem_map.mp hx
            obtain ⟨oz, hoz⟩ := rep_addr (repL_iff.mp (rep_preL hR) z hz)
            have hy' : y = dx + 1 := by simpa [preL, pre, Nd.addr] using hy
            rw [hy']
            exact hnb _ hoz
          · exact Nat.le_refl _
        · rename_i ho l h₁₉ F₁₉ N₁₉ lt₁₉
          unfold Hold
          refine ⟨l, 0, [], big, h₁₉, _, rfl, rfl, (by rw [upd_self hm1, upd_self hm2, upd_self hm3, upd_self hm4]; exact F₁₉), N₁₉, ?_, ?_, ?_, Nat.zero_le _⟩
          · rw [List.append_nil]; exact hR
          · rw [if_neg ho]
            rfl
          · rw [List.append_nil]; exact hnd
      · obtain ⟨zl, zn, zs, bigz, h₁₃, tk₁₃, rfl, rfl, F₁₃, N₁₃, hRz, hsz', hndz, hzz⟩ := hv
        have hl1 := length_le_sizeL zs
        refine kmk_add_lit (zs := (nodes ++ zs).map Nd.val) F₁₃ N₁₃ ⟨_, (N₁₃ _ (.tail _ (.head _))).1, rfl, _, rfl⟩ ⟨_, (N₁₃ _ (.head _)).1, rfl, _, rfl⟩ ?_ (fun l h₁₄ F₁₄ N₁₄ lt₁₄ => ?_) ?_
        · simp
        · have F₁₅ := F₁₄
          rw [upd_self hm1, upd_self hm2, upd_self hm3, upd_self hm4] at F₁₅
          clear F₁₁ F₁₂ F₁₃ N₁₃
          repeat' walk1
          have X₁ := X.keeps F₁₄.keep
          have T₁ := T.keeps F₁₄.keep
          refine mkTree X₁ T₁ rfl (Nat.le_of_ble_eq_true rfl) (Nat.le_of_ble_eq_true rfl) fun dx u1 u2 u3 h₂₅ tk₂₅ hdx hk₂₅ ha1 ha2 => ?_
          dsimp only at hdx hk₂₅
          have nd1 : h₁₄.get? dx = none := fresh_of (Nat.le_of_eq hdx.symm)
          have nd2 : h₁₄.get? (dx + 1) = none := fresh_of (by rw [hdx]; exact Nat.le_succ _)
          have hnst : ∀ b o, h₁₄.get? b = some o → b ≠ dx ∧ b ≠ dx + 1 := fun b o e => ⟨(fun q => by rw [q, nd1] at e; cases e), (fun q => by rw [q, nd2] at e; cases e)⟩
          have bl := hnst _ _ (N₁₄ _ (.head _)).1
          refine hQ (dx + 1) dx l (nodes ++ zs) bigz h₂₅ tk₂₅ u1 u2 u3 _ 0 (fun b o e => hk₂₅ _ _ (F₁₄.keep _ _ e)) ha1 ha2 (hk₂₅ _ _ (N₁₄ _ (.head _)).1) (fr_none F₁₄ nd2) (fr_none F₁₄ nd1) (N₁₄ _ (.head _)).2.2 (Nat.succ_ne_self dx) (Ne.symm bl.2) (Ne.symm bl.1) ?_ hRz ?_ ?_ ?_
          · intro p hp
            have np := N₁₄ p (.tail _ (.tail _ (.tail _ hp)))
            have q := hnst _ _ np.1
            exact ⟨hk₂₅ _ _ np.1, np.2.2, q.2, q.1, Nat.ne_of_lt (lt₁₄ p (.tail _ (.tail _ hp)))⟩
          · show Sh.tree _ (shL (nodes ++ zs)) = _
            rw [shL_map, List.map_append, hsz']
            unfold builtS bEnd
            rw [← hrun]
          · show ((Nd.tree (dx + 1) dx l (Str.ofString "top") (nodes ++ zs) :: preL (nodes ++ zs)).map Nd.addr).Nodup
            rw [List.map_cons]
            refine List.nodup_cons.mpr ⟨?_, hndz⟩
            intro hx
            obtain ⟨z, hz, he⟩ := List.mem_map.mp hx
            obtain ⟨oz, hoz⟩ := rep_addr (repL_iff.mp (rep_preL hRz) z hz)
            exact (hnst _ _ (N₁₄ _ (.tail _ (.tail _ (.tail _ hoz)))).1).2 he
          · rw [sizeL_append]
            omega
        · have := sizeLine_big
          simp
          omega
  · refine ⟨0, h₈, _, _, [], [], ob, .none, st, 0, 0, 0, _, _, Nat.zero_le _, by omega, rfl, F₃, rfl, rfl, rfl, rfl, N₃, hob, trivial, rfl, .nil, fun p hp => (nomatch hp), Nat.ne_of_lt (hlt' _ (.head _)), Nat.ne_of_lt (hlt _ (.head _)), Nat.le_refl _⟩
end
end Mine
end

section
example : True ∧ True := by
  w_top off
  first | (walk1; done) | exact ⟨trivial, trivial⟩
open PySem PySem.W PySem.Calls PyProof.Rows
set_option maxRecDepth 100000
set_option maxHeartbeats 4000000
namespace Mine
/-! what the model's tables say of filter -/
theorem fil_slot_init : Slot "filter" "__init__" "object.__init__" :=
  .of (owner := "object") (n := "__init__") (by rw [typeLookup_type, builtinLookup_eq_fast]; kernel_rfl) (by decide +kernel) (by decide +kernel) (by decide +kernel) (by first | exact .inl (by decide +kernel) | exact .inr (by decide +kernel)) (by rw [isSubtype_type]; kernel_rfl)
theorem fil_slot_iter : Slot "filter" "__iter__" "filter.__iter__" :=
  .of (owner := "filter") (n := "__iter__") (by rw [typeLookup_type, builtinLookup_eq_fast]; kernel_rfl) (by decide +kernel) (by decide +kernel) (by decide +kernel) (by first | exact .inl (by decide +kernel) | exact .inr (by decide +kernel)) (by rw [isSubtype_type]; kernel_rfl)
theorem fil_slot_next : Slot "filter" "__next__" "filter.__next__" :=
  .of (owner := "filter") (n := "__next__") (by rw [typeLookup_type, builtinLookup_eq_fast]; kernel_rfl) (by decide +kernel) (by decide +kernel) (by decide +kernel) (by first | exact .inl (by decide +kernel) | exact .inr (by decide +kernel)) (by rw [isSubtype_type]; kernel_rfl)
theorem fil_entry_next : entryFor table "filter.__next__" = some Builtin.«filter.__next__» := entryFor_of_tree (by kernel_rfl)
theorem fil_entry_new : entryFor table "filter.__new__" = some Builtin.«filter.__new__» := entryFor_of_tree (by kernel_rfl)
theorem fil_entry_iter : entryFor table "filter.__iter__" = some Builtin.«dict_keyiterator.__iter__» :=
  entryFor_alias (id' := "dict_keyiterator.__iter__") (by kernel_rfl) (by first | rfl | decide +kernel | (unfold String.splitOn; simp +decide [String.splitOnAux])) (by decide +kernel) (by kernel_rfl)
theorem fil_mro : mroOf (.type "filter") = pure [.type "filter", .type "object"] := by rw [mroOf_type]; kernel_rfl
theorem fil_lookup_new : typeLookup (.type "filter") "__new__" = pure (some (.builtin "filter.__new__")) := by rw [typeLookup_type, builtinLookup_eq_fast]; kernel_rfl
theorem fil_called : TypeCalled "filter" "filter.__new__" "object.__init__" :=
  ⟨by decide +kernel, by decide +kernel, ⟨_, _, fil_mro⟩, madeBy_type fil_mro fil_lookup_new (by decide +kernel), by decide +kernel, by rw [isSubtype_type]; kernel_rfl, fil_slot_init⟩
theorem fil_typeCall (a b : Value) : checkTypeCall "filter" ⟨[a, b], []⟩ = pure () := by kernel_rfl
theorem fil_newCall (a b : Value) : checkBuiltinCall "filter.__new__" ⟨[.type "filter", a, b], []⟩ = pure () := by kernel_rfl
theorem fil_args_next (a : Value) : argsOk "filter.__next__" ⟨[a], []⟩ := by kernel_rfl
theorem fil_args_iter (a : Value) : argsOk "filter.__iter__" ⟨[a], []⟩ := by kernel_rfl
theorem fil_args_init (a b c : Value) : argsOk "object.__init__" ⟨[a, b, c], []⟩ := by kernel_rfl
end Mine
end

section
example : True ∧ True := by
  w_top off
  first | (walk1; done) | exact ⟨trivial, trivial⟩
open PySem PySem.W PySem.Calls PyProof.Rows
set_option maxRecDepth 100000
set_option maxHeartbeats 4000000
namespace Mine
/-- a filter object -/
abbrev filO (fv : Value) (it : Addr) : Obj := { cls := .type "filter", dict := none, data := .fields #[fv, .ref it], slots := #[] }
section
variable {prog : Program} {w : World} {A : Around} {E : Value → Shared → Prop} {s : Shared}
theorem cs_item {it l : Addr} {i : Nat} {items : Array Value} {x : Value} {Q : Option Value → Shared → Prop} (hit : s.heap.IsListIter it l i) (hl : s.heap.IsList l items) (hx : items[i]? = some x)
    (hQ : ∀ h', h'.IsListIter it l (i + 1) → Heap.SameBut it s.heap h' → Q (some x) { s with heap := h' }) : wpAny (model prog w) A (callSpecial? (.ref it) "__next__") Q E s := by
  obtain ⟨o, ho, hc, hd⟩ := id hit
  obtain ⟨ol, hol, _, nl, hdl⟩ := hl
  refine wpAny_callSpecial?_slot (name := Str.ofString "__next__") hit.typeIs slot_listiter_next (wpAny_call_entry slot_listiter_next hit.typeIs entry_listiter_next ?_ (args_listiter_next _))
  show wpAny _ _ (field (.ref it) 0 >>= _) _ _ s
  refine wpAny_bind (wpAny_field ho hd (x := .ref l) rfl ?_)
  show wpAny _ _ (if (Value.ref l == Value.none) = true then _ else _) _ _ s
  rw [if_neg (show ¬ ((Value.ref l == Value.none) = true) from Bool.false_ne_true)]
  show wpAny _ _ (field (.ref it) 1 >>= _) _ _ s
  refine wpAny_bind (wpAny_field ho hd (x := .int i 0) rfl ?_)
  show wpAny _ _ (seqItems? (.ref l) >>= _) _ _ s
  refine wpAny_bind (wpAny_seqItems hol hdl ?_)
  simp only [Int.toNat_natCast, hx]
  refine wpAny_bind (wpAny_setField ho hd (by simp) (wpAny_pure ⟨x, rfl, hQ _ ?_ (Heap.SameBut.update ..)⟩))
  exact ⟨_, Heap.get?_update_self _ ho (Obj.isFreed_of_fields (Obj.data_mapFields hd _)), (Obj.cls_mapFields ..).trans hc, by
    rw [Obj.data_mapFields hd]; simp [rawInt]⟩
theorem cs_end {it l : Addr} {i : Nat} {items : Array Value} {Q : Option Value → Shared → Prop} (hh : A.handled = none) (hit : s.heap.IsListIter it l i) (hl : s.heap.IsList l items) (hx : items[i]? = none)
    (hE : ∀ h' e, Heap.ExtBut it s.heap h' → (∃ o, h'.get? e = some o ∧ o.cls = .type "StopIteration") → E (.ref e) { s with heap := h' }) : wpAny (model prog w) A (callSpecial? (.ref it) "__next__") Q E s := by
  obtain ⟨o, ho, hc, hd⟩ := id hit
  obtain ⟨ol, hol, _, nl, hdl⟩ := hl
  refine wpAny_callSpecial?_slot (name := Str.ofString "__next__") hit.typeIs slot_listiter_next (wpAny_call_entry slot_listiter_next hit.typeIs entry_listiter_next ?_ (args_listiter_next _))
  show wpAny _ _ (field (.ref it) 0 >>= _) _ _ s
  refine wpAny_bind (wpAny_field ho hd (x := .ref l) rfl ?_)
  show wpAny _ _ (if (Value.ref l == Value.none) = true then _ else _) _ _ s
  rw [if_neg (show ¬ ((Value.ref l == Value.none) = true) from Bool.false_ne_true)]
  show wpAny _ _ (field (.ref it) 1 >>= _) _ _ s
  refine wpAny_bind (wpAny_field ho hd (x := .int i 0) rfl ?_)
  show wpAny _ _ (seqItems? (.ref l) >>= _) _ _ s
  refine wpAny_bind (wpAny_seqItems hol hdl ?_)
  simp only [Int.toNat_natCast, hx]
  refine wpAny_bind (wpAny_rule (wpAny_bind (wpAny_setField ho hd (by simp) ?_)))
  show wpAny _ _ (newExc (.type "StopIteration") [] >>= _) _ _ _
  refine wpAny_bind ?_
  simp only [newExc, newTuple]
  refine wpAny_bind (wpAny_newObj_type ?_ (by size_fits))
  refine wpAny_bind (m := firstArgMember _ _) (wpAny_of_eq (a := Value.none) (by first | rfl | (simp only [firstArgMember]; rfl)) ?_)
  refine wpAny_newObj_type ?_ (by size_fits)
  simp only [raiseNew]
  refine wpAny_bind (wpAny_handled ?_)
  first | rw [show A.in1.handled = none from hh] | rw [hh]
  refine wpAny_bind (wpAny_pure (wpAny_throw ?_))
  exact hE _ _ (((Heap.SameBut.update ..).extBut.push _).push _) ⟨_, Heap.get?_push_size _ rfl, rfl⟩
theorem code_bi {id : String} {args : Args} {b : Builtin} {R : Result → Shared → Prop} (hb : entryFor table id = some b)
    (h : wpAny (model prog w) (A.under (.builtin id args)) (b args) (fun fin s' => match fin with | .done f => R (.ok f) s' | .again c' => c'.quiet = true ∧ codeAny (model prog w) A c' R s') (fun e s' => R (.error e) s') s) :
    codeAny (model prog w) A (.builtin id args) R s := by
  refine codeAny_of_tree ?_
  show wpAny _ _ (match entryFor table id with | some b => b args | none => unsupported ((withoutEnding? id "#data").getD id)) _ _ s
  rw [hb]
  exact h
theorem fil_weight (args : Args) : (Code.builtin "filter.__next__" args).weight ≤ 1 := by
  have : (Code.builtin "filter.__next__" args).weight = 0 := by kernel_rfl
  omega
theorem fil_quiet (args : Args) : (Code.builtin "filter.__next__" args).quiet = true := by kernel_rfl
/-- the predicate of a filter, told of the items -/
abbrev FilPred (prog : Program) (w : World) (H : Heap) (fa : Addr) (items : Array Value) (p : Value → Bool) : Prop :=
  ∀ v, v ∈ items → ∀ (A : Around) (s : Shared) (Q E : Value → Shared → Prop), A.handled = none → A.depth ≤ 950 → A.units ≤ 9500 → (∀ b o, H.get? b = some o → s.heap.get? b = some o) →
    (∀ h' tk, Keep s.heap h' → Q (.bool (p v)) { s with heap := h', toks := tk }) → wpAny (model prog w) A (call (.ref fa) [v]) Q E s
theorem code_fil (p : Value → Bool) {fa f it l : Addr} {items : Array Value} {H : Heap} (hfi : f ≠ it) (hli : l ≠ it) (hHi : H.get? it = none) (hp : FilPred prog w H fa items p) :
    ∀ (k i : Nat) (A : Around) (s : Shared) (R : Result → Shared → Prop), items.size - i = k → A.handled = none → A.depth ≤ 940 → A.units ≤ 9400 → (∀ b o, H.get? b = some o → s.heap.get? b = some o) →
      s.heap.get? f = some (filO (.ref fa) it) → s.heap.IsListIter it l i → s.heap.IsList l items →
      (∀ v j h' tk, (items.toList.drop i).filter p = v :: (items.toList.drop j).filter p → h'.IsListIter it l j → (∀ b o, b ≠ it → s.heap.get? b = some o → h'.get? b = some o) → R (.ok (.ret v)) { s with heap := h', toks := tk }) →
      ((items.toList.drop i).filter p = [] → ∀ h' e tk, (∀ b o, b ≠ it → s.heap.get? b = some o → h'.get? b = some o) → (∃ o, h'.get? e = some o ∧ o.cls = .type "StopIteration") → R (.error (.ref e)) { s with heap := h', toks := tk }) →
      codeAny (model prog w) A (.builtin "filter.__next__" ⟨[.ref f], []⟩) R s := by
  intro k
  induction k with
  | zero =>
    intro i A s R hk hh hd hu hH hf hit hl h1 h2
    refine code_bi fil_entry_next ?_
    show wpAny _ _ (field (.ref f) 0 >>= _) _ _ s
    refine wpAny_bind (wpAny_field hf rfl (x := .ref fa) rfl ?_)
    show wpAny _ _ (field (.ref f) 1 >>= _) _ _ s
    refine wpAny_bind (wpAny_field hf rfl (x := .ref it) rfl ?_)
    have hx : items[i]? = none := by rw [Array.getElem?_eq_none]; omega
    refine wpAny_bind (cs_end (by exact hh) hit hl hx fun h' e he hx => ?_)
    refine h2 ?_ h' e _ he hx
    rw [List.drop_eq_nil_of_le (by simp; omega)]; rfl
  | succ k ih =>
    intro i A s R hk hh hd hu hH hf hit hl h1 h2
    have hi : i < items.size := by omega
    refine code_bi fil_entry_next ?_
    show wpAny _ _ (field (.ref f) 0 >>= _) _ _ s
    refine wpAny_bind (wpAny_field hf rfl (x := .ref fa) rfl ?_)
    show wpAny _ _ (field (.ref f) 1 >>= _) _ _ s
    refine wpAny_bind (wpAny_field hf rfl (x := .ref it) rfl ?_)
    have hx : items[i]? = some items[i] := Array.getElem?_eq_getElem hi
    have hdr : items.toList.drop i = items[i] :: items.toList.drop (i + 1) := by
      rw [List.drop_eq_getElem_cons (by simpa using hi)]; rfl
    refine wpAny_bind (cs_item hit hl hx fun h₁ hit₁ hs₁ => ?_)
    refine wpAny_bind ?_
    refine wpAny_holding ?_
    show wpAny _ _ (call (.ref fa) [items[i]] >>= _) _ _ _
    have hH₁ : ∀ b o, H.get? b = some o → h₁.get? b = some o := fun b o e => (hs₁.2 b (fun q => by rw [q, hHi] at e; cases e)).trans (hH b o e)
    refine wpAny_bind (hp _ (Array.getElem_mem hi) _ _ _ _ (by exact hh) (by show A.depth + Code.weight _ ≤ 950; have := fil_weight ⟨[Value.ref f], []⟩; omega) (Nat.le_trans (Nat.add_le_add_right hu 1) (by decide : 9400 + 1 ≤ 9500)) hH₁ fun h₂ tk₂ hk₂ => ?_)
    refine wpAny_holding ?_
    refine wpAny_truthy_bool ?_
    have hk₃ : ∀ b o, b ≠ it → s.heap.get? b = some o → h₂.get? b = some o := fun b o hb e => hk₂ _ _ ((hs₁.2 b hb).trans e)
    have hit₂ : h₂.IsListIter it l (i + 1) := let ⟨o, ho, r⟩ := hit₁; ⟨o, hk₂ _ _ ho, r⟩
    cases hpv : p items[i] with
    | true =>
      rw [if_pos rfl]
      refine wpAny_pure ?_
      refine h1 _ (i + 1) h₂ tk₂ ?_ hit₂ hk₃
      rw [hdr, List.filter_cons, if_pos hpv]
    | false =>
      rw [if_neg Bool.false_ne_true]
      refine wpAny_pure ⟨fil_quiet _, ?_⟩
      have hfl : (items.toList.drop i).filter p = (items.toList.drop (i + 1)).filter p := by
        rw [hdr, List.filter_cons, if_neg (by rw [hpv]; exact Bool.false_ne_true)]
      refine ih (i + 1) A _ R (by omega) hh hd hu (fun b o e => hk₂ _ _ (hH₁ b o e)) (hk₃ _ _ hfi hf) hit₂ (hl.at fun o e => hk₃ _ _ hli e) ?_ ?_
      · intro v j h' tk hv hj hk'
        exact h1 v j h' tk (hfl.trans hv) hj fun b o hb e => hk' b o hb (hk₃ b o hb e)
      · intro hn h' e tk hk' he
        exact h2 (hfl.trans hn) h' e tk (fun b o hb x => hk' b o hb (hk₃ b o hb x)) he
theorem next_fil (p : Value → Bool) {fa f it l : Addr} {items : Array Value} {H : Heap} {i : Nat} {Q : Option Value → Shared → Prop} (hfi : f ≠ it) (hli : l ≠ it) (hHi : H.get? it = none) (hp : FilPred prog w H fa items p)
    (hh : A.handled = none) (hd : A.depth ≤ 940) (hu : A.units ≤ 9400) (hH : ∀ b o, H.get? b = some o → s.heap.get? b = some o) (hf : s.heap.get? f = some (filO (.ref fa) it)) (hit : s.heap.IsListIter it l i) (hl : s.heap.IsList l items)
    (h1 : ∀ v j h' tk, (items.toList.drop i).filter p = v :: (items.toList.drop j).filter p → h'.IsListIter it l j → (∀ b o, b ≠ it → s.heap.get? b = some o → h'.get? b = some o) → Q (some v) { s with heap := h', toks := tk })
    (h2 : (items.toList.drop i).filter p = [] → ∀ h' tk, (∀ b o, b ≠ it → s.heap.get? b = some o → h'.get? b = some o) → Q none { s with heap := h', toks := tk }) : wpAny (model prog w) A (pyNext (.ref f)) Q E s := by
  have hT : s.TypeIs (.ref f) "filter" := ⟨_, hf, rfl⟩
  unfold pyNext
  refine wpAny_bind (wpAny_attempt (wpAny_callSpecial?_slot (name := Str.ofString "__next__") hT fil_slot_next ?_))
  refine wpAny_call (codeAny_call_builtin_code (fil_quiet _) (fil_slot_next.check _ _ _ _ _ _ _ _ hT (fil_args_next _) ?_))
  refine code_fil p hfi hli hHi hp _ i A s _ rfl hh hd hu hH hf hit hl (fun v j h' tk a b c => ?_) (fun a h' e tk b c => ?_)
  · exact wpAny_pure (h1 v j h' tk a b c)
  · obtain ⟨o, ho, hc⟩ := c
    refine wpAny_bind (wpAny_isInstance (T := "StopIteration") (b := true) ⟨o, ho, hc⟩ isSubtype_stop ?_)
    exact wpAny_pure (h2 a h' tk b)
theorem iter_fil {f it : Addr} {fv : Value} {Q : Value → Shared → Prop} (hf : s.heap.get? f = some (filO fv it)) (h : Q (.ref f) s) : wpAny (model prog w) A (pyIter (.ref f)) Q E s := by
  have hT : s.TypeIs (.ref f) "filter" := ⟨_, hf, rfl⟩
  refine wpAny_pyIter_slot hT fil_slot_iter (wpAny_call_entry fil_slot_iter hT fil_entry_iter ?_ (fil_args_iter _))
  show wpAny _ _ (ret (.ref f)) _ _ s
  exact wpAny_pure ⟨_, rfl, "filter", _, hT, fil_slot_next.lookup, h⟩
theorem fil_walks (p : Value → Bool) {fa f it l N : Addr} {items : Array Value} {H : Heap} (hfi : f ≠ it) (hli : l ≠ it) (hHi : H.get? it = none) (hp : FilPred prog w H fa items p) (hh : A.handled = none) (hd : A.depth ≤ 940) (hu : A.units ≤ 9400)
    (hHN : ∀ b o, H.get? b = some o → b < N) (hfN : f < N) (hiN : it < N) (hlN : l < N) :
    Walks prog w A f (List.range N) [it] (items.toList.filter p).length (fun k v => (items.toList.filter p)[k]? = some v)
      (fun k h => (∀ b o, H.get? b = some o → h.get? b = some o) ∧ h.get? f = some (filO (.ref fa) it) ∧ h.IsList l items ∧ ∃ i, h.IsListIter it l i ∧ (items.toList.drop i).filter p = (items.toList.filter p).drop k) where
  sub := fun b hb => by rw [List.mem_singleton.mp hb]; exact List.mem_range.mpr hiN
  frame := fun k h h' ⟨a, b, c, i, d, e⟩ hk => ⟨fun x o q => hk x (List.mem_range.mpr (hHN x o q)) o (a x o q), hk f (List.mem_range.mpr hfN) _ b, c.at fun o q => hk l (List.mem_range.mpr hlN) o q, i, d.at fun o q => hk it (List.mem_range.mpr hiN) o q, e⟩
  item := fun k s Q E hk ⟨a, b, c, i, d, e⟩ hQ => by
    refine next_fil p hfi hli hHi hp hh hd hu a b d c (fun v j h' tk hv hj hk' => ?_) (fun hn => ?_)
    · rw [e, List.drop_eq_getElem_cons hk] at hv
      obtain ⟨hv1, hv2⟩ := List.cons.inj hv
      refine hQ v h' tk ?_ ⟨fun x o q => hk' x o (fun z => by rw [z, hHi] at q; cases q) (a x o q), hk' _ _ hfi b, c.at fun o q => hk' _ _ hli q, j, hj, hv2.symm⟩ fun x o hx q => hk' x o (fun z => hx (z ▸ .head _)) q
      rw [List.getElem?_eq_getElem hk, hv1]
    · rw [e, List.drop_eq_nil_iff] at hn
      omega
  done := fun s Q E ⟨a, b, c, i, d, e⟩ hQ => by
    refine next_fil p hfi hli hHi hp hh hd hu a b d c (fun v j h' tk hv hj hk' => ?_) (fun hn h' tk hk' => hQ h' tk fun x o hx q => hk' x o (fun z => hx (z ▸ .head _)) q)
    rw [e, List.drop_length] at hv
    cases hv
  self := fun k s Q E ⟨a, b, c, i, d, e⟩ hQ => iter_fil b hQ
theorem fil_meets (fa l : Addr) (items : Array Value) (n : Nat) :
    Meets (Builtin.«filter.__new__» ⟨[.type "filter", .ref fa, .ref l], []⟩) (fun _ R s => s.heap.get? l = some (listOf items n) ∧
      R (.ok (.ret (.ref (s.heap.push { cls := .type "list_iterator", data := .fields #[.ref l, .int 0 0] }).objs.size)))
        { s with heap := (s.heap.push { cls := .type "list_iterator", data := .fields #[.ref l, .int 0 0] }).push (filO (.ref fa) s.heap.objs.size) }) :=
  .of_wp fun prog w A R s h => by
    obtain ⟨hp, g, d, tk, os⟩ := s
    obtain ⟨hl, h⟩ := h
    have hsub : isSubtype (.type "filter") (.type "filter") = pure true := by rw [isSubtype_type]; kernel_rfl
    have hL : Heap.IsList (Shared.heap ⟨hp, g, d, tk, os⟩) l items := ⟨_, hl, rfl, n, rfl⟩
    wp_walk using wpAny_pyIter_list hL
    exact ⟨_, rfl, h⟩
theorem call_filter {fa l : Addr} {items : Array Value} {n : Nat} {Q : Value → Shared → Prop} (hl : s.heap.get? l = some (listOf items n))
    (h : ∀ h', h'.get? (s.heap.objs.size + 1) = some (filO (.ref fa) s.heap.objs.size) → h'.IsListIter s.heap.objs.size l 0 → Keep s.heap h' → Q (.ref (s.heap.objs.size + 1)) { s with heap := h' }) :
    wpAny (model prog w) A (call (.type "filter") [.ref fa, .ref l]) Q E s := by
  refine callType_new fil_called (by decide) (fil_typeCall _ _) (fil_newCall _ _) (fun obj => fil_args_init obj _ _) fil_entry_new (fil_meets fa l items n) ⟨hl, ?_⟩
  have hz : (s.heap.push { cls := .type "list_iterator", data := .fields #[.ref l, .int 0 0] }).objs.size = s.heap.objs.size + 1 := Heap.size_push ..
  show _ ∧ _
  rw [hz]
  have he : ((s.heap.push { cls := .type "list_iterator", data := .fields #[.ref l, .int 0 0] }).push (filO (.ref fa) s.heap.objs.size)).get? (s.heap.objs.size + 1) = some (filO (.ref fa) s.heap.objs.size) := by
    have := Heap.get?_push_size (s.heap.push { cls := .type "list_iterator", data := .fields #[.ref l, .int 0 0] }) (o := filO (.ref fa) s.heap.objs.size) rfl
    rw [hz] at this
    exact this
  exact ⟨⟨_, he, rfl⟩, h _ he ⟨_, Heap.get?_push_of_some _ (Heap.get?_push_size _ rfl), rfl, rfl⟩ fun b o x => Heap.get?_push_of_some _ (Heap.get?_push_of_some _ x)⟩
end
section
variable {prog : Program} {w : World} {A : Around} {E : Value → Shared → Prop} {s : Shared} {env : Env} {iter : Expr} {x : Str} {px px' pos : Pos} {scope : Scope} {cl : List (Str × Addr)} {h₀ : Heap} {L : Addr}
/-- [x for x in FILTER] -/
theorem compFil {Q : Value → Shared → Prop} (hh : A.handled = none) (hdp : A.depth ≤ 940) (hup : A.units ≤ 9400) (hclos : closureFor scope env = pure cl) (hcell : ∀ y ∈ scope.names, y.2 ≠ .cell) (hkind : scope.kind = .function)
    (hnames : ∀ y ∈ scope.names, y.2 = .local → scope.names.lookup y.1 = some .local) (hx : scope.names.lookup x = some .local) (hd : (x == ("__debug__" : Str)) = false)
    (hs : ∀ x, foldedSetIterable iter env x = pure x)
    (h : wpAny (model prog w) A (eval iter env) (fun xv s₁ => Hold (∃ (f it l fa : Addr) (items : Array Value) (n : Nat) (H : Heap) (p : Value → Bool) (m₁ : Str → Option Value) (news₁ : List (Addr × Obj)), xv = .ref f ∧ f ≠ it ∧ l ≠ it ∧ H.get? it = none ∧ FilPred prog w H fa items p ∧
      (∀ b o, H.get? b = some o → s₁.heap.get? b = some o) ∧ s₁.heap.get? f = some (filO (.ref fa) it) ∧ s₁.heap.IsListIter it l 0 ∧ s₁.heap.get? l = some (listOf items n) ∧ items.size ≤ 100000 ∧
      h₀.get? it = none ∧ it ≠ L ∧ Fr h₀ L s₁.heap m₁ ∧ News h₀ L s₁.heap news₁ ∧ (∀ q ∈ news₁, q.1 ≠ it) ∧
      (∀ D n h' tk, Fr h₀ L h' m₁ → News h₀ L h' ((D, listOf (items.toList.filter p).toArray n) :: news₁) → (∀ q ∈ news₁, q.1 ≠ D) → Q (.ref D) { s₁ with heap := h', toks := tk }))) E s) :
    wpAny (model prog w) A (eval (.ListComp (.Name x px') [⟨.Name x px, iter, [], 0⟩] scope pos) env) Q E s := by
  refine wpAny_ListComp_free (fun _ => true) (fun a b => a = b) hclos hcell hkind hnames hx (wpAny_mono h (fun xv s₁ h₁ => ?_) fun _ _ e => e) hs
  obtain ⟨f, it, l, fa, items, n, H, p, m₁, news₁, rfl, hfi, hli, hHi, hp, hH, hf, hit, hl, hsz, h0i, hiL, F, N, off, hQ⟩ := h₁
  obtain ⟨oi, hoi, _⟩ := id hit
  refine iter_fil hf ⟨f, List.range s₁.heap.objs.size, [it], _, _, _, rfl, fil_walks p hfi hli hHi hp hh hdp hup (fun b o q => Heap.lt_size (hH b o q)) (Heap.lt_size hf) (Heap.lt_size hoi) (Heap.lt_size hl), ?_, ⟨hH, hf, ⟨_, hl, rfl, _, rfl⟩, 0, hit, rfl⟩, fun b hb => List.mem_range.mp hb, ⟨?_, ?_⟩, ?_⟩
  · have h1 := List.length_filter_le p items.toList
    have h2 := sizeLine_big
    simp at h1
    omega
  · intro C i v s₃ m₃ E' hC hP hn hm hkk _
    exact wpAny_pure ⟨rfl, s₃.heap, s₃.toks, rfl, fun _ _ e => e⟩
  · intro C i v s₃ m₃ E' hC hP _ hn hm hkk _
    exact wpAny_Name (wpAny_loadName_local hkind (lookup_relabel_local hx) hn hm ⟨rfl, s₃.heap, s₃.toks, rfl, fun _ _ e => e⟩) hd
  · intro D h' tk ys vs hD _ hpl hlen hP hF hk
    have keep : Heap.ExtBut it s₁.heap h' := fun b ob hb e => hk b ob (fun hm => hb (List.mem_singleton.mp hm)) e
    obtain ⟨n', e⟩ := hpl
    have hvs : vs = items.toList.filter p := by
      apply List.ext_getElem?
      intro j
      by_cases hj : j < vs.length
      · rw [List.getElem?_eq_getElem hj]
        exact (hP j _ (List.getElem?_eq_getElem hj)).symm
      · rw [List.getElem?_eq_none (by omega), List.getElem?_eq_none (by omega)]
    have hys : ys = (items.toList.filter p).toArray := by
      have e1 := paired_eq hF
      rw [List.filter_eq_self.mpr fun _ _ => rfl, hvs] at e1
      rw [e1]
    rw [hys] at e
    have F' := fr_ext F h0i hiL keep
    refine hQ D n' h' tk F' (news_cons F' (news_ext N off keep) e (fr_none F hD) (fr_new F hD)) fun q hq z => ?_
    have := (N q hq).1
    rw [z, hD] at this
    cases this
end
end Mine
end

section
example : True ∧ True := by
  w_top off
  first | (walk1; done) | exact ⟨trivial, trivial⟩
open PySem PySem.W PySem.Calls PyProof.Rows
set_option maxRecDepth 100000
set_option maxHeartbeats 4000000
namespace Mine
local macro_rules | `(tactic| k_inst) => `(tactic| (refine' instOf_base ?F ?h1 ?h2; (case F => k_asm); (case h1 => assumption); (case h2 => assumption)))
section
variable {prog : Program} {w : World} {p : Program} {loose : List Str} {mg mb : Str → Option Value}
theorem find_pred_call {A : Around} {s : Shared} {Q E : Value → Shared → Prop} {n : Nd} {fa : Addr} (X : (hd.heap_39 w.params).In s.heap) (T : TopRead p loose mg mb s.heap) (hfa : ∃ o fd, s.heap.get? fa = some o ∧ o.data = .func fd)
    (hh : A.handled = none) (hd : A.depth ≤ 450) (hu : A.units ≤ 2500) (ht : n.isTree = true) (hR : Rep w.params (hf s.heap) n) (hsz : n.size ≤ 1000) (hnd : ((treesOf (pre n)).map Nd.addr).Nodup)
    (hQ : ∀ f it l nn h' tk, Keep s.heap h' → h'.get? f = some (filO (.ref fa) it) → h'.IsListIter it l 0 → h'.get? l = some (listOf ((bfs n.size [n]).reverse.map Nd.val).toArray nn) → f ≠ it → l ≠ it → s.heap.get? it = none → Q (.ref f) { s with heap := h', toks := tk }) :
    wpAny (model prog w) A (call (.ref 97) [n.val, .ref fa]) Q E s := by
  cases n with
  | tok => cases ht
  | tree a dx l d ks =>
  have hR' := hR
  obtain ⟨⟨t1, t2, t3, t4, hx1, hx2⟩, ⟨nl, hl⟩, hks⟩ := hR
  refine wpAny_call (to_ArC 450 2500 hh hd hu ?_)
  refine' enterB (h₀ := s.heap) [(Str.ofString "self", .ref a), (Str.ofString "pred", .ref fa)] ?kK ?kK1 ?kK2 ?kL ?k6 ?k7 ?k8 ?k9 ?kB ?_ ?c5 ?c2 ?c3 ?c4
  case kK => assumption
  case kK1 => exact fun _ _ e => e
  case kK2 => exact Nat.le_refl _
  case kL => exact TopRead.nolimit (by assumption)
  case k6 => k_is
  case k7 => k_is
  case k8 => show 450 < 1000; decide
  case k9 => exact BindsTo.of_eq rfl
  case kB => exact rfl
  case c5 => decide
  case c2 => exact rfl
  case c3 => exact rfl
  case c4 => exact rfl
  intro L h₁ tk hL F hkp
  have N : News s.heap L h₁ [] := fun p hp => nomatch hp
  repeat' walk1
  refine iter_call (X.keeps F.keep) (T.keeps F.keep) (hR'.mono fun a o e => F.keep a o e) hsz ht hnd rfl (Nat.le_of_ble_eq_true rfl) (Nat.le_of_ble_eq_true rfl) fun D m h₂ tk₂ hk₂ hDn hD => ?_
  dsimp only at hk₂ hDn
  have F₂ := fr_keep F hk₂
  have N₂ := news_keep N hk₂
  repeat' walk1
  refine call_filter hD fun h₃ hf hit hk₃ => ?_
  dsimp only at hf hit hk₃ ⊢
  have hn : h₂.get? h₂.objs.size = none := fresh_of (Nat.le_refl _)
  refine hQ _ h₂.objs.size D m h₃ tk₂ (fun b o e => hk₃ _ _ (F₂.keep _ _ e)) hf hit (hk₃ _ _ hD) (Nat.succ_ne_self _) (Nat.ne_of_lt (Heap.lt_size hD)) (fr_none F₂ hn)
end
end Mine
end

section
example : True ∧ True := by
  w_top off
  first | (walk1; done) | exact ⟨trivial, trivial⟩
open PySem PySem.W PySem.Calls PyProof.Rows
set_option maxRecDepth 100000
set_option maxHeartbeats 4000000
namespace Mine
local macro_rules | `(tactic| k_inst) => `(tactic| (refine' instOf_base ?F ?h1 ?h2; (case F => k_asm); (case h1 => assumption); (case h2 => assumption)))
section
variable {prog : Program} {w : World} {A : Around} {s : Shared} {K : Frag} {R : Result → Shared → Prop} {name qual : Str} {params : Arguments} {body : List Stmt} {scope : Scope} {dV kV doc pm cdv ct oc : Value} {an od : Option Addr}
    {osl : Array (Option Value)} {f : Addr} {args : Args}
/-- a def with cells is entered over a ground below the heap -/
theorem enterCB {h₀ : Heap} (binds : List (Str × Value)) (X : K.In h₀) (hk0 : ∀ b o, h₀.get? b = some o → s.heap.get? b = some o) (hsz : h₀.objs.size ≤ s.heap.objs.size) (hlim : h₀.NoLimit)
    (ho : K.lookup f = some ⟨oc, od, .func (fnOf name qual params body scope dV kV doc pm an cdv ct), osl⟩) (hcd : codeIn K cdv qual = true) (hroom : A.depth < recursionLimit)
    (hbind : BindsTo s (fnOf name qual params body scope dV kV doc pm an cdv ct) args binds) (hkind : (binds.all fun y => scope.names.lookup y.1 == some .local || scope.names.lookup y.1 == some .cell) = true)
    (hnd : ((cellsFrom 0 scope.names []).map (·.1)).Nodup)
    (h : ∀ L h₁ tk cells, L = s.heap.objs.size → Fr h₀ L h₁ (bindL (envOfC qual scope L f cdv).kindOf binds fun _ => none) → News h₀ L h₁ cells →
      CellsAre (bindC (envOfC qual scope L f cdv).kindOf binds fun _ => none) (cellsFrom (L + 1) scope.names []) cells → Keep s.heap h₁ →
      wpAny (model prog w) (A.deeper (envOfC qual scope L f cdv)) (execs body (envOfC qual scope L f cdv))
        (fun fl s' => R (.ok (.ret (match fl with | .ret v => v | _ => .none))) s') (fun _ _ => False) { s with heap := h₁, toks := tk })
    (hco : scope.isCoroutine = false) (hgen : scope.isGenerator = false) (hk : scope.kind = .function) : codeAny (model prog w) A (.call (.ref f) args) R s := by
  refine codeAny_call_function hroom ((X.keeps hk0) _ _ ho) rfl hco hgen rfl (codeRec_of (X.keeps hk0) hcd) (hbind _ _ _ _ ?_)
  refine wpAny_newFunctionEnv_cells hk (kindsX hkind _) fun env' he s' x => ?_
  subst he
  refine ⟨(hlim.keeps hk0).keeps x.toInCall.keep, codeAny_func ?_⟩
  obtain ⟨h₁, tk, rfl, _⟩ := x.done
  have hk₁ := x.toInCall.keep
  obtain ⟨cells, NC, Y⟩ := Cl.news (h₀ := h₀) hsz fun n c hm => ⟨x.cell n c (lookup_of_mem_nodup (cellsFrom_names scope.names 0 (s.heap.objs.size + 1) [] [] rfl ▸ hnd) hm), x.above n c hm⟩
  exact wpAny_mono (h s.heap.objs.size h₁ tk cells rfl ⟨x.toInCall.ns, fun b o e => hk₁ _ _ (hk0 b o e), hsz⟩ NC Y hk₁) (fun _ _ x => x) fun _ _ x => x.elim
end
/-- a lambda is entered; the ground is the heap itself -/
theorem lam_enter {prog : Program} {w : World} {A : Around} {s : Shared} {R : Result → Shared → Prop} {name qual : Str} {params : Arguments} {body : Expr} {scope : Scope} {cl : List (Str × Addr)} {pm ctv : Value} {c' f : Addr} {args : Args} {oc : Obj} {vs : Array Value} {t : Tok} (binds : List (Str × Value))
    (hlim : s.heap.NoLimit) (ho : s.heap.get? f = some (kla_obj name qual params body scope cl pm c' ctv)) (hoc : s.heap.get? c' = some oc) (d1 : oc.data = .fields vs) (d2 : vs[1]? = some (.str qual t)) (hroom : A.depth < recursionLimit)
    (hbind : bindArgs (kla_fn name qual params body scope cl pm (.ref c') ctv) args = pure binds) (hloc : ∀ y ∈ binds, scope.names.lookup y.1 = some .local)
    (h : ∀ L h₁ tk, L = s.heap.objs.size → Fr s.heap L h₁ (fun y => binds.reverse.lookup y) →
      wpAny (model prog w) (A.deeper (envX qual scope L f (.ref c') cl)) (eval body (envX qual scope L f (.ref c') cl)) (fun v s' => R (.ok (.ret v)) s') (fun _ _ => False) { s with heap := h₁, toks := tk })
    (hco : scope.isCoroutine = false) (hgen : scope.isGenerator = false) (hk : scope.kind = .function) (hcell : ∀ x ∈ scope.names, x.2 ≠ .cell) : codeAny (model prog w) A (.call (.ref f) args) R s := by
  refine kla_callFunE hroom ho rfl hco hgen rfl ⟨c', oc, vs, t, rfl, hoc, d1, d2⟩ ?_
  rw [hbind]
  refine wpAny_pure (wpAny_newFunctionEnv hcell hloc (fun h₁ hns hsb => ⟨hlim.fresh _ hsb, ?_⟩) hk)
  show codeAny _ _ (.expr body (envX qual scope s.heap.objs.size f (.ref c') cl)) _ _
  have hk₁ : ∀ b o, s.heap.get? b = some o → h₁.get? b = some o := fun b o e => hsb.extBut b o (Nat.ne_of_lt (Heap.lt_size e)) (Heap.get?_push_of_some _ e)
  exact kla_codeExpr (wpAny_mono (h s.heap.objs.size h₁ _ rfl ⟨hns, hk₁, Nat.le_refl _⟩) (fun _ _ x => x) fun _ _ x => x.elim)
def typeT (x : Str) : Nd → Bool
  | .tok _ ty _ => ty == x
  | _ => false
/-- what a call of find_token or find_data leaves: the table has grown -/
abbrev Grew (P : Addr) (h h' : Heap) : Prop := (∀ b o, b ≠ P → h.get? b = some o → h'.get? b = some o) ∧ ∃ ps, h'.get? P = some (tabObj ps)
section
variable {prog : Program} {w : World} {p : Program} {loose : List Str} {mg mb : Str → Option Value} {mean : ExcName → Option Value}
theorem find_token_call {A : Around} {s : Shared} {Q E : Value → Shared → Prop} {H : Heap} {n : Nd} {x : Str} {tx : Tok} (X : (hd.heap_39 w.params).In H) (T : Top p loose mean mg mb H) (hH : ∀ b o, H.get? b = some o → s.heap.get? b = some o) (hHs : H.objs.size ≤ s.heap.objs.size)
    (hHP : H.get? 106 = none) (hP : s.heap.get? 106 = some (tabObj #[])) (hC : CodeHd H 110 106)
    (hh : A.handled = none) (hd : A.depth ≤ 850) (hu : A.units ≤ 8500) (ht : n.isTree = true) (hR : Rep w.params (fun b o => s.heap.get? b = some o ∧ b ≠ 106) n) (hsz : n.size ≤ 1000) (hht : n.height ≤ 20)
    (hQ : ∀ h₂ tk₂ v s', Grew 106 s.heap h₂ → GenMade prog w (Ar 820 8000).in1 h₂ ((toksIf (typeT x) (preL n.kids)).map Nd.val) { s with heap := h₂, toks := tk₂ } v s' → Q v s') :
    wpAny (model prog w) A (call (.ref 111) [n.val, .str x tx]) Q E s := by
  have hgH : ∀ b o, H.get? b = some o → (hideAll s.heap [106]).get? b = some o := fun b o e => hideAll_get _ (hH b o e) fun hm => by rw [List.mem_singleton.mp hm, hHP] at e; cases e
  have Xg := X.keeps hgH
  have Tg := T.keeps hgH
  have Cg := hC.keeps hgH
  have hRg : Rep w.params (hf (hideAll s.heap [106])) n := hR.mono fun b o e => hideAll_get _ e.1 fun hm => e.2 (List.mem_singleton.mp hm)
  have hgP : (hideAll s.heap [106]).get? 106 = none := hideAll_none _ (.head _)
  have hgs : ∀ b o, (hideAll s.heap [106]).get? b = some o → s.heap.get? b = some o := fun b o e => of_hideAll _ e
  have hgz : (hideAll s.heap [106]).objs.size ≤ s.heap.objs.size := Nat.le_of_eq (hideAll_size _ _)
  have hPl : 106 < s.heap.objs.size := Heap.lt_size hP
  have hsg : ∀ b o, b ≠ 106 → s.heap.get? b = some o → (hideAll s.heap [106]).get? b = some o := fun b o hb e => hideAll_get _ e fun hm => hb (List.mem_singleton.mp hm)
  clear X T hC hgH hHP hHs hH hR
  generalize hideAll s.heap [106] = g at *
  cases n with
  | tok => cases ht
  | tree a dx l d ks =>
  have hR' := hRg
  obtain ⟨⟨t1, t2, t3, t4, hx1, hx2⟩, ⟨nl, hl⟩, hks⟩ := hRg
  refine wpAny_call (to_ArC 850 8500 hh hd hu ?_)
  refine' enterCB (h₀ := g) [(Str.ofString "self", .ref a), (Str.ofString "token_type", .str x tx)] ?kK ?kK1 ?kK2 ?kL ?k6 ?k7 ?k8 ?k9 ?kB ?kD ?_ ?c2 ?c3 ?c4
  case kK => assumption
  case kK1 => assumption
  case kK2 => assumption
  case kL => exact Tg.nolimit
  case k6 => k_is
  case k7 => k_is
  case k8 => show 850 < 1000; decide
  case k9 => exact BindsTo.of_eq rfl
  case kB => exact rfl
  case kD => decide +kernel
  case c2 => exact rfl
  case c3 => exact rfl
  case c4 => exact rfl
  intro L h₁ tk cells hL F N Y hkp
  obtain ⟨oc, hE, dc⟩ := CellsAre.one Y
  subst hE
  clear Y
  have N1 := news_cons F N (hkp _ _ hP) hgP (Nat.ne_of_lt (hL ▸ hPl))
  clear N
  iterate 10 walk1
  rename_i f' c' oc' vs' t' ct' h₂ tk₂ F₂ N₂ d1 d2 l1 l2
  have X₂ := Xg.keeps F₂.keep
  have T₂ := Tg.keeps F₂.keep
  have pred : PredOk prog w h₂ f' (typeT x) := by
    refine ⟨⟨_, _, (N₂ _ (.head _)).1, rfl⟩, fun n hn hRn A₁ s₁ Q₁ E₁ hh₁ hd₁ hu₁ hk₁ hq => ?_⟩
    cases n with
    | tree => cases hn
    | tok ta ty tv =>
    obtain ⟨td, w1, w2, w3, w4, hy1, hy2⟩ := hRn
    have y1 := hk₁ _ _ hy1
    have y2 := hk₁ _ _ hy2
    have hce := hk₁ _ _ (N₂ _ (.tail _ (.tail _ (.tail _ (.head _))))).1
    refine wpAny_call (to_ArC 950 9500 hh₁ hd₁ hu₁ ?_)
    refine lam_enter [(Str.ofString "v", .ref ta)] (T₂.nolimit.keeps hk₁) (hk₁ _ _ (N₂ _ (.head _)).1) (hk₁ _ _ (N₂ _ (.tail _ (.head _))).1) d1 d2 (by show 950 < 1000; decide) rfl (locs rfl) ?_ rfl rfl rfl (by decide)
    intro L₃ h₃ tk₃ hL₃ F₃
    have X₃ := X₂.keeps hk₁
    have T₃ := topRead_of (T₂.keeps hk₁)
    clear F₂ N₂ X₂ T₂ Xg Tg hk₁ hR' hx1 hx2 hks hl N1
    iterate 17 walk1
    refine nmG_F F₃ rfl hce dc ?_ rfl rfl
    walk1
    exact hq _ _ F₃.keep
  refine scan_call X₂ (topRead_of T₂) pred 20 (.tree a dx l d ks) rfl hht (Nat.le_refl _) (hR'.mono fun b o e => F₂.keep _ _ e) hsz _ { s with heap := h₂, toks := tk₂ } _ _ ?j1 ?j2 ?j3 (fun _ _ e => e) (Nat.le_refl _) fun v s' hg => ?_
  case j1 => exact rfl
  case j2 => exact Nat.le_of_ble_eq_true rfl
  case j3 => exact Nat.le_of_ble_eq_true rfl
  exact hQ h₂ tk₂ v s' ⟨fun b o hb e => F₂.keep _ _ (hsg b o hb e), _, (N₂ _ (.tail _ (.tail _ (.head _)))).1⟩ hg
end
end Mine
end

section
example : True ∧ True := by
  w_top off
  first | (walk1; done) | exact ⟨trivial, trivial⟩
open PySem PySem.W PySem.Calls PyProof.Rows
set_option maxRecDepth 100000
set_option maxHeartbeats 4000000
namespace Mine
local macro_rules | `(tactic| k_inst) => `(tactic| (refine' instOf_base ?F ?h1 ?h2; (case F => k_asm); (case h1 => assumption); (case h2 => assumption)))
/-- what iter_subtrees gives -/
abbrev told (n : Nd) : List Nd := (bfs n.size [n]).reverse
/-- a function object of the ground, told of trees -/
def PredT (prog : Program) (w : World) (H : Heap) (fa : Addr) (pz : Nd → Bool) : Prop :=
  (∃ fo fd, H.get? fa = some fo ∧ fo.data = .func fd) ∧
  ∀ n, n.isTree = true → n.size ≤ 1000 → Rep w.params (hf H) n → ∀ (A : Around) (s : Shared) (Q E : Value → Shared → Prop), A.handled = none → A.depth ≤ 950 → A.units ≤ 9500 → (∀ b o, H.get? b = some o → s.heap.get? b = some o) →
    (∀ h' tk, Keep s.heap h' → Q (.bool (pz n)) { s with heap := h', toks := tk }) → wpAny (model prog w) A (call (.ref fa) [n.val]) Q E s
mutual
theorem pre_size : ∀ (n m : Nd), m ∈ pre n → m.size ≤ n.size
  | .tok .., m, h => by rw [List.mem_singleton.mp h]; exact Nat.le_refl _
  | .tree a dx l d ks, m, h => by
    rcases List.mem_cons.mp h with h | h
    · rw [h]; exact Nat.le_refl _
    · have := preL_size ks m h
      simp only [Nd.size]
      omega
theorem preL_size : ∀ (ks : List Nd) (m : Nd), m ∈ preL ks → m.size ≤ sizeL ks
  | [], m, h => absurd h List.not_mem_nil
  | k :: r, m, h => by
    rcases List.mem_append.mp h with h | h
    · have := pre_size k m h
      simp only [sizeL]
      omega
    · have := preL_size r m h
      simp only [sizeL]
      omega
end
theorem told_mem {n m : Nd} (ht : n.isTree = true) : m ∈ told n ↔ m ∈ treesOf (pre n) := by
  have h := bfs_perm n.size [n] (fun x hx => by rw [List.mem_singleton.mp hx]; exact ht) (by simp [sizeL])
  have e : preL [n] = pre n := by simp [preL]
  rw [e] at h
  rw [List.mem_reverse]
  exact h.mem_iff
theorem told_rep {P : Params} {G : Facts} {n : Nd} (hr : Rep P G n) : RepL P G (treesOf (pre n)) := repL_iff.mpr fun m hm => repL_iff.mp (rep_pre hr) m (List.mem_filter.mp hm).1
theorem filPred_told {prog : Program} {w : World} {H : Heap} {fa : Addr} {pz : Nd → Bool} {n : Nd} (hp : PredT prog w H fa pz) (hr : Rep w.params (hf H) n) (ht : n.isTree = true) (hz : n.size ≤ 1000) :
    FilPred prog w H fa ((told n).map Nd.val).toArray (fun v => pz (ndOf (treesOf (pre n)) v)) := by
  intro v hv A s Q E hh hd hu hk hq
  simp only [List.mem_toArray, List.mem_map] at hv
  obtain ⟨m, hm, rfl⟩ := hv
  have hm' := (told_mem ht).mp hm
  refine hp.2 m (List.mem_filter.mp hm').2 (Nat.le_trans (pre_size n m (List.mem_filter.mp hm').1) hz) (repL_iff.mp (told_rep hr) m hm') A s Q E hh hd hu hk fun h' tk hk' => ?_
  have := hq h' tk hk'
  dsimp only at this
  rw [ndOf_val (told_rep hr) hm'] at this
  exact this
theorem filt_told {P : Params} {H : Heap} {pz : Nd → Bool} {n : Nd} (hr : Rep P (hf H) n) (ht : n.isTree = true) : ((told n).map Nd.val).toArray.toList.filter (fun v => pz (ndOf (treesOf (pre n)) v)) = ((told n).filter pz).map Nd.val := by
  show ((told n).map Nd.val).filter _ = _
  rw [List.filter_map]
  congr 1
  refine List.filter_congr fun m hm => ?_
  show pz (ndOf _ m.val) = pz m
  rw [ndOf_val (told_rep hr) ((told_mem ht).mp hm)]
section
variable {prog : Program} {w : World} {p : Program} {loose : List Str} {mg mb : Str → Option Value} {mean : ExcName → Option Value}
theorem find_data_call {A : Around} {s : Shared} {Q E : Value → Shared → Prop} {H : Heap} {n : Nd} {x : Str} {tx : Tok} (X : (hd.heap_39 w.params).In H) (T : Top p loose mean mg mb H) (hH : ∀ b o, H.get? b = some o → s.heap.get? b = some o) (hHs : H.objs.size ≤ s.heap.objs.size)
    (hHP : H.get? 99 = none) (hP : s.heap.get? 99 = some (tabObj #[])) (hC : CodeHd H 103 99)
    (hh : A.handled = none) (hd : A.depth ≤ 440) (hu : A.units ≤ 2400) (ht : n.isTree = true) (hR : Rep w.params (fun b o => s.heap.get? b = some o ∧ b ≠ 99) n) (hsz : n.size ≤ 1000) (hnd : ((treesOf (pre n)).map Nd.addr).Nodup)
    (hQ : ∀ h₂ fa f it l nn h' tk, Grew 99 s.heap h₂ → PredT prog w h₂ fa (fun t => t.name == x) → Keep h₂ h' → h'.get? f = some (filO (.ref fa) it) → h'.IsListIter it l 0 → h'.get? l = some (listOf ((told n).map Nd.val).toArray nn) → f ≠ it → l ≠ it → h₂.get? it = none → Q (.ref f) { s with heap := h', toks := tk }) :
    wpAny (model prog w) A (call (.ref 104) [n.val, .str x tx]) Q E s := by
  have hgH : ∀ b o, H.get? b = some o → (hideAll s.heap [99]).get? b = some o := fun b o e => hideAll_get _ (hH b o e) fun hm => by rw [List.mem_singleton.mp hm, hHP] at e; cases e
  have Xg := X.keeps hgH
  have Tg := T.keeps hgH
  have Cg := hC.keeps hgH
  have hRg : Rep w.params (hf (hideAll s.heap [99])) n := hR.mono fun b o e => hideAll_get _ e.1 fun hm => e.2 (List.mem_singleton.mp hm)
  have hgP : (hideAll s.heap [99]).get? 99 = none := hideAll_none _ (.head _)
  have hgs : ∀ b o, (hideAll s.heap [99]).get? b = some o → s.heap.get? b = some o := fun b o e => of_hideAll _ e
  have hgz : (hideAll s.heap [99]).objs.size ≤ s.heap.objs.size := Nat.le_of_eq (hideAll_size _ _)
  have hPl : 99 < s.heap.objs.size := Heap.lt_size hP
  have hsg : ∀ b o, b ≠ 99 → s.heap.get? b = some o → (hideAll s.heap [99]).get? b = some o := fun b o hb e => hideAll_get _ e fun hm => hb (List.mem_singleton.mp hm)
  clear X T hC hgH hHP hHs hH hR
  generalize hideAll s.heap [99] = g at *
  cases n with
  | tok => cases ht
  | tree a dx l d ks =>
  have hR' := hRg
  obtain ⟨⟨t1, t2, t3, t4, hx1, hx2⟩, ⟨nl, hl⟩, hks⟩ := hRg
  refine wpAny_call (to_ArC 440 2400 hh hd hu ?_)
  refine' enterCB (h₀ := g) [(Str.ofString "self", .ref a), (Str.ofString "data", .str x tx)] ?kK ?kK1 ?kK2 ?kL ?k6 ?k7 ?k8 ?k9 ?kB ?kD ?_ ?c2 ?c3 ?c4
  case kK => assumption
  case kK1 => assumption
  case kK2 => assumption
  case kL => exact Tg.nolimit
  case k6 => k_is
  case k7 => k_is
  case k8 => show 440 < 1000; decide
  case k9 => exact BindsTo.of_eq rfl
  case kB => exact rfl
  case kD => decide +kernel
  case c2 => exact rfl
  case c3 => exact rfl
  case c4 => exact rfl
  intro L h₁ tk cells hL F N Y hkp
  obtain ⟨oc, hE, dc⟩ := CellsAre.one Y
  subst hE
  clear Y
  have N1 := news_cons F N (hkp _ _ hP) hgP (Nat.ne_of_lt (hL ▸ hPl))
  clear N
  iterate 10 walk1
  rename_i f' c' oc' vs' t' ct' h₂ tk₂ F₂ N₂ d1 d2 l1 l2
  have X₂ := Xg.keeps F₂.keep
  have T₂ := Tg.keeps F₂.keep
  have pred : PredT prog w h₂ f' (fun t => t.name == x) := by
    refine ⟨⟨_, _, (N₂ _ (.head _)).1, rfl⟩, fun n hn hnz hRn A₁ s₁ Q₁ E₁ hh₁ hd₁ hu₁ hk₁ hq => ?_⟩
    cases n with
    | tok => cases hn
    | tree ta tdx tl td tks =>
    obtain ⟨⟨w1, w2, w3, w4, hy1, hy2⟩, _, _⟩ := hRn
    have y1 := hk₁ _ _ hy1
    have y2 := hk₁ _ _ hy2
    have hce := hk₁ _ _ (N₂ _ (.tail _ (.tail _ (.tail _ (.head _))))).1
    refine wpAny_call (to_ArC 950 9500 hh₁ hd₁ hu₁ ?_)
    refine lam_enter [(Str.ofString "t", .ref ta)] (T₂.nolimit.keeps hk₁) (hk₁ _ _ (N₂ _ (.head _)).1) (hk₁ _ _ (N₂ _ (.tail _ (.head _))).1) d1 d2 (by show 950 < 1000; decide) rfl (locs rfl) ?_ rfl rfl rfl (by decide)
    intro L₃ h₃ tk₃ hL₃ F₃
    have X₃ := X₂.keeps hk₁
    have T₃ := topRead_of (T₂.keeps hk₁)
    clear F₂ N₂ X₂ T₂ Xg Tg hk₁ hR' hx1 hx2 hks hl N1
    iterate 4 walk1
    refine nmG_F F₃ rfl hce dc ?_ rfl rfl
    walk1
    exact hq _ _ F₃.keep
  refine find_pred_call X₂ (topRead_of T₂) pred.1 ?j1 ?j2 ?j3 (n := .tree a dx l d ks) rfl (hR'.mono fun b o e => F₂.keep _ _ e) hsz hnd ?_
  case j1 => exact rfl
  case j2 => exact Nat.le_of_ble_eq_true rfl
  case j3 => exact Nat.le_of_ble_eq_true rfl
  intro f it l' nn h₃ tk₃ hk₃ hf hit hl' hne1 hne2 hitn
  exact hQ h₂ f' f it l' nn h₃ tk₃ ⟨fun b o hb e => F₂.keep _ _ (hsg b o hb e), _, (N₂ _ (.tail _ (.tail _ (.head _)))).1⟩ pred hk₃ hf hit hl' hne1 hne2 hitn
end
end Mine
end

section
example : True ∧ True := by
  w_top off
  first | (walk1; done) | exact ⟨trivial, trivial⟩
open PySem PySem.W PySem.Calls PyProof.Rows
set_option maxRecDepth 100000
set_option maxHeartbeats 4000000
namespace Mine
section
variable {prog : Program} {w : World} {A : Around} {E : Value → Shared → Prop} {s : Shared}
theorem bounds_one {i n : Nat} (hi : i < n) : sliceBounds (some (i : Int)) (some ((i : Int) + 1)) none n = ((i : Int), (i : Int) + 1, 1) := by
  simp only [sliceBounds, Option.getD_none]
  have h1 : ¬ ((i : Int) < 0) := by omega
  have h2 : ¬ ((i : Int) + 1 < 0) := by omega
  simp only [h1, h2, if_false, show (1 : Int) > 0 by decide, if_true]
  congr 1
  · omega
  · congr 1; omega
theorem set_slice {l sl kl : Addr} {items new : Array Value} {n i : Nat} {t1 t2 : Tok} {Q : Unit → Shared → Prop} (ho : s.heap.get? l = some (listOf items n)) (hs : s.heap.IsSliceOf sl (.int i t1) (.int ((i : Int) + 1) t2) .none) (hn : s.heap.IsList kl new) (hne : l ≠ kl)
    (hi : i < items.size) (hsz : items.size + new.size ≤ 100000)
    (hQ : Q () { s with heap := s.heap.update l (Obj.mapSeq fun xs => xs.extract 0 i ++ new ++ xs.extract (i + 1) xs.size) }) : wpAny (model prog w) A (setItem (.ref l) (.ref sl) (.ref kl)) Q E s := by
  have hl : s.heap.IsList l items := ⟨_, ho, rfl, _, rfl⟩
  obtain ⟨os, hos, hcs, hds⟩ := id hs
  obtain ⟨ok, hok, hck, nk, hdk⟩ := id hn
  have hTs : s.TypeIs (.ref sl) "slice" := ⟨os, hos, hcs⟩
  have hTk : s.TypeIs (.ref kl) "list" := ⟨ok, hok, hck⟩
  have hbig := sizeLine_big
  unfold setItem
  try with_reducible refine wpAny_holding ?_
  first | refine wpAny_bind (wpAny_pure ?_) | skip
  refine wpAny_bind (wpAny_sequenceKey hl.typeIs (by decide) ?_)
  refine wpAny_bind (wpAny_callSpecial?_slot (name := Str.ofString "__setitem__") hl.typeIs slot_list_setitem
    (wpAny_call_entry slot_list_setitem hl.typeIs entry_list_setitem ?_ (args_list_setitem _ _ _)))
  show wpAny _ _ (Builtin.List.listSubscript? (.ref sl) >>= _) _ _ s
  refine wpAny_bind ?_
  unfold Builtin.List.listSubscript?
  refine wpAny_bind (wpAny_specialOf hTs slice_no_index ?_)
  simp only [Option.isNone_none, if_true]
  refine wpAny_pure ?_
  show wpAny _ _ (typeOf (.ref sl) >>= _) _ _ s
  refine wpAny_bind (wpAny_typeOf hTs ?_)
  rw [if_neg (by decide)]
  rw [listSliceParts_eq]
  refine wpAny_bind (wpAny_bind (wpAny_field hos hds (x := .none) rfl (wpAny_bind (wpAny_listPart .none ?_))))
  rw [if_neg (show ¬ ((rawPart none == rawInt 0) = true) from Bool.false_ne_true)]
  refine wpAny_bind (wpAny_field hos hds (x := .int i t1) rfl (wpAny_bind (wpAny_listPart (.int _ _) ?_)))
  refine wpAny_bind (wpAny_field hos hds (x := .int ((i : Int) + 1) t2) rfl (wpAny_bind (wpAny_listPart (.int _ _) (wpAny_pure ?_))))
  have hsr : Builtin.List.listSameRef (.ref l) (.ref kl) = false := by
    show (l == kl) = false
    simpa using hne
  rw [hsr]
  rw [if_neg Bool.false_ne_true]
  refine wpAny_bind ?_
  unfold Builtin.List.listAllItems
  refine wpAny_bind (wpAny_typeOf hTk ?_)
  rw [if_pos (by decide)]
  unfold Builtin.List.listItems
  refine wpAny_bind (wpAny_seqItems hok hdk (wpAny_pure ?_))
  refine wpAny_bind ?_
  refine wpAny_bind (wpAny_seqItems ho rfl (wpAny_pure ?_))
  refine wpAny_bind (wpAny_of_eq (sliceIndices_raw (some (i : Int)) (some ((i : Int) + 1)) none items.size (by simp)) ?_)
  rw [bounds_one hi]
  dsimp only
  rw [if_pos (by decide : ((1 : Int) == 1) = true)]
  refine wpAny_bind (wpAny_rule ?_)
  have ht : Builtin.List.listTooLong (items.size + new.size) = false := by
    unfold Builtin.List.listTooLong
    simp
    omega
  rw [ht]
  rw [if_neg Bool.false_ne_true]
  have e1 : ((i : Int)).toNat = i := by omega
  have e2 : (max (i : Int) ((i : Int) + 1)).toNat = i + 1 := by omega
  rw [e1, e2]
  show wpAny _ _ (updateSeq l _ >>= _) _ _ _
  refine wpAny_bind (wpAny_updateSeq ho rfl ?_ (by omega) ?_)
  · refine wpAny_bind (wpAny_letGo ?_)
    exact wpAny_pure ⟨.none, rfl, wpAny_pure hQ⟩
  · simp
    omega
end
end Mine
end

section
example : True ∧ True := by
  w_top off
  first | (walk1; done) | exact ⟨trivial, trivial⟩
open PySem PySem.W PySem.Calls PyProof.Rows
set_option maxRecDepth 100000
set_option maxHeartbeats 4000000
namespace Mine
local macro_rules | `(tactic| k_inst) => `(tactic| (refine' instOf_base ?F ?h1 ?h2; (case F => k_asm); (case h1 => assumption); (case h2 => assumption)))
local macro_rules | `(tactic| walk_at "call builtin:len") => `(tactic| ((with_reducible show wpAny _ _ (call (Value.builtin "len") [Value.ref _]) _ _ _); (refine' len_news ?N ?hm ?hz ?_; (case N => assumption); (case hm => first | exact .head _ | exact .tail _ (.head _) | exact .tail _ (.tail _ (.head _)) | exact .tail _ (.tail _ (.tail _ (.head _))) | exact .tail _ (.tail _ (.tail _ (.tail _ (.head _))))); (case hz => (simp; omega)); intro tLen tkLen)))
local macro_rules | `(tactic| walk_at "exec For Name Call cons nil") => `(tactic| refine holdF ?_)
/-- what expand_kids_by_data makes of a child -/
def exp1 (xs : List Str) (k : Nd) : List Nd := if (k.isTree && xs.contains k.name) = true then k.kids else [k]
def expandL (xs : List Str) (ks : List Nd) : List Nd := ks.flatMap (exp1 xs)
def expAny (xs : List Str) (ks : List Nd) : Bool := ks.any fun k => k.isTree && xs.contains k.name
abbrev tupO (vs : List Value) : Obj := { cls := .type "tuple", data := .seq vs.toArray }
section
variable {prog : Program} {w : World} {A : Around} {s : Shared} {K : Frag} {R : Result → Shared → Prop} {name qual : Str} {params : Arguments} {body : List Stmt} {scope : Scope} {dV kV doc pm cdv ct oc : Value} {an od : Option Addr}
    {osl : Array (Option Value)} {f : Addr} {args : Args}
/-- a def with *args is entered over a ground below the heap -/
theorem enterV {h₀ : Heap} (rest : List Value) (hrest : rest.length ≤ 1000) (binds : Value → List (Str × Value)) (X : K.In h₀) (hk : ∀ b o, h₀.get? b = some o → s.heap.get? b = some o) (hsz : h₀.objs.size ≤ s.heap.objs.size) (hlim : h₀.NoLimit)
    (ho : K.lookup f = some ⟨oc, od, .func (fnOf name qual params body scope dV kV doc pm an cdv ct), osl⟩) (hcd : codeIn K cdv qual = true) (hroom : A.depth < recursionLimit)
    (hb : bindArgs (fnOf name qual params body scope dV kV doc pm an cdv ct) args = (newTuple rest >>= fun t => pure (binds t))) (hloc : ∀ t, ((binds t).all fun x => decide (scope.names.lookup x.1 = some .local)) = true)
    (h : ∀ T L h₁ tk, T = s.heap.objs.size → L = T + 1 → Fr h₀ L h₁ (fun y => (binds (.ref T)).reverse.lookup y) → News h₀ L h₁ [(T, tupO rest)] → Keep s.heap h₁ →
      wpAny (model prog w) (A.deeper (envX qual scope L f cdv [])) (execs body (envX qual scope L f cdv []))
        (fun fl s' => R (.ok (.ret (match fl with | .ret v => v | _ => .none))) s') (fun _ _ => False) { s with heap := h₁, toks := tk })
    (hcell : ∀ x ∈ scope.names, x.2 ≠ .cell) (hco : scope.isCoroutine = false) (hgen : scope.isGenerator = false) (hkd : scope.kind = .function) :
    codeAny (model prog w) A (.call (.ref f) args) R s := by
  refine codeAny_call_function hroom ((X.keeps hk) _ _ ho) rfl hco hgen rfl (codeRec_of (X.keeps hk) hcd) ?_
  rw [hb]
  have hrz : rest.length ≤ sizeLine := Nat.le_trans hrest (Nat.le_trans (by decide) sizeLine_big)
  refine wpAny_bind (wpAny_newTuple (hsz := hrz) (wpAny_pure (wpAny_newFunctionEnv hcell (locs (hloc _)) (fun h₁ hns hsb => ?_) hkd)))
  have k1 : ∀ b o, s.heap.get? b = some o → (s.heap.push (tupO rest)).get? b = some o := fun b o e => Heap.get?_push_of_some _ e
  have hL : (s.heap.push (tupO rest)).objs.size = s.heap.objs.size + 1 := Heap.size_push ..
  have k2 : ∀ b o, (s.heap.push (tupO rest)).get? b = some o → h₁.get? b = some o := fun b o e => hsb.extBut b o (Nat.ne_of_lt (Heap.lt_size e)) (Heap.get?_push_of_some _ e)
  have hl0 : (s.heap.push (tupO rest)).NoLimit := (hlim.keeps hk).keeps k1
  refine ⟨hl0.fresh _ hsb, codeAny_func ?_⟩
  have q := h s.heap.objs.size _ h₁ (s.toks + (binds (.ref s.heap.objs.size)).length) rfl rfl (by
    rw [← hL]
    exact ⟨hns, fun b o e => k2 _ _ (k1 _ _ (hk b o e)), by rw [hL]; exact Nat.le_trans hsz (Nat.le_succ _)⟩) (by
    intro p hp
    obtain rfl := List.mem_singleton.mp hp
    exact ⟨k2 _ _ (Heap.get?_push_size _ rfl), Nat.ne_of_lt (Nat.lt_succ_self _), Heap.get?_none_of_le hsz⟩) (fun b o e => k2 _ _ (k1 _ _ e))
  rw [← hL] at q
  exact wpAny_mono q (fun _ _ x => x) fun _ _ x => x.elim
end
abbrev rngO (x left step : Int) : Obj := { cls := .type "range_iterator", dict := none, data := .fields #[rawInt x, rawInt left, rawInt step], slots := #[] }
theorem splice_list {A B C : List Value} {x : Value} {j : Nat} (hA : A.length = j) :
    (fun xs : Array Value => xs.extract 0 j ++ C.toArray ++ xs.extract (j + 1) xs.size) (A ++ x :: B).toArray = (A ++ C ++ B).toArray := by
  subst hA
  apply Array.ext'
  simp [List.extract_eq_take_drop]
  exact List.take_of_length_le (by omega)
abbrev slO (i : Nat) (t1 t2 : Tok) : Obj := { cls := .type "slice", dict := none, data := .fields #[.int i t1, .int ((i : Int) + 1) t2, .none], slots := #[] }
theorem set_sliceN {prog : Program} {w : World} {A : Around} {E : Value → Shared → Prop} {gn : Array GenState} {dr : Drawn} {tk : Nat} {os : OsState} {h h₀ : Heap} {L l kl it : Addr} {m : Str → Option Value} {ito : Obj} {post : List (Addr × Obj)} {Av Bv Cv : List Value} {x : Value} {n j : Nat} {t1 t2 : Tok} {Q : Unit → Shared → Prop}
    (F : Fr h₀ L h m) (N : News h₀ L h ((it, ito) :: (l, listOf (Av ++ x :: Bv).toArray n) :: post)) (hit : it ≠ l) (hp : ∀ p ∈ post, p.1 ≠ l) (hA : Av.length = j) (hn : h.IsList kl Cv.toArray) (hne : l ≠ kl) (hsz : Av.length + 1 + Bv.length + Cv.length ≤ 100000)
    (hQ : ∀ h' n', Fr h₀ L h' m → News h₀ L h' ((it, ito) :: (l, listOf (Av ++ Cv ++ Bv).toArray n') :: post) → Q () ⟨h', gn, dr, tk, os⟩) :
    wpAny (model prog w) A (setItem (.ref l) (.ref h.objs.size) (.ref kl)) Q E ⟨h.push (slO j t1 t2), gn, dr, tk, os⟩ := by
  have nl := N _ (.tail _ (.head _))
  have hlz : h.objs.size ≠ l := Nat.ne_of_gt (Heap.lt_size nl.1)
  refine set_slice (n := n) (items := (Av ++ x :: Bv).toArray) (new := Cv.toArray) (i := j) (Heap.get?_push_of_some _ nl.1) (Heap.IsSliceOf.new _ _ _ _) (hn.push _) hne ?_ ?_ ?_
  · simp [← hA]
  · simp
    omega
  · have N₉ := ki_turn (pre := [_, _]) (post := post) (fun xs : Array Value => xs.extract 0 j ++ Cv.toArray ++ xs.extract (j + 1) xs.size) (N.push F (slO j t1 t2)) (by
      intro p hp
      simp only [List.mem_cons, List.not_mem_nil, or_false] at hp
      rcases hp with rfl | rfl
      · exact hlz
      · exact hit) hp (splice_list hA) rfl
    have F₉ := fr_same (F.push (slO j t1 t2)) nl.2.2 nl.2.1 (Heap.SameBut.update _ l (Obj.mapSeq fun xs : Array Value => xs.extract 0 j ++ Cv.toArray ++ xs.extract (j + 1) xs.size))
    exact hQ _ _ F₉ (fun p hp => N₉ p (.tail _ hp))
theorem expandL_length (xs : List Str) : ∀ ks : List Nd, (expandL xs ks).length ≤ sizeL ks
  | [] => Nat.le_refl _
  | k :: r => by
    have h1 := expandL_length xs r
    have e : expandL xs (k :: r) = exp1 xs k ++ expandL xs r := rfl
    rw [e, List.length_append]
    have h2 : (exp1 xs k).length ≤ k.size := by
      unfold exp1
      split
      · cases k with
        | tok => exact Nat.zero_le _
        | tree a dx l d ks =>
          have := length_le_sizeL ks
          simp [Nd.kids, Nd.size]
          omega
      · exact size_pos k
    simp only [sizeL]
    omega
theorem rng_down {n : Nat} (h : n ≤ 100) : Builtin.Range.small ((n : Int) - 1) (-1) (-1) = true ∧ Builtin.Range.rangeSize ((n : Int) - 1) (-1) (-1) = n := by
  have k : ∀ m, m < 101 → (Builtin.Range.small ((m : Nat) - 1 : Int) (-1) (-1) = true ∧ Builtin.Range.rangeSize ((m : Nat) - 1 : Int) (-1) (-1) = (m : Nat)) := by decide +kernel
  exact k n (by omega)
section
variable {prog : Program} {w : World} {p : Program} {loose : List Str} {mg mb : Str → Option Value}
theorem expand_call {A : Around} {s : Shared} {Q E : Value → Shared → Prop} {H : Heap} {a dx l : Addr} {d : Str} {ks : List Nd} {nl : Nat} {t1 t2 t3 t4 : Tok} {vs : List Value} {xs : List Str} (X : (hd.heap_39 w.params).In H) (T : TopRead p loose mg mb H) (hH : ∀ b o, H.get? b = some o → s.heap.get? b = some o)
    (hHl : H.get? l = none) (hl : s.heap.get? l = some (listOf (ks.map Nd.val).toArray nl)) (hx1 : s.heap.get? a = some (instObj 142 dx)) (hx2 : s.heap.get? dx = some (dictOf (treeEs w.params t1 t2 t3 (.str d t4) (.ref l)) 3)) (hal : a ≠ l) (hdl : dx ≠ l)
    (hR : RepL w.params (fun b o => s.heap.get? b = some o ∧ b ≠ l) ks) (hv : StrsAre vs xs) (hvs : (∃ v, vs = [v]) ∨ ∃ v v', vs = [v, v']) (hz : sizeL ks ≤ 100)
    (hh : A.handled = none) (hd : A.depth ≤ 450) (hu : A.units ≤ 2500)
    (hQ : ∀ h' tk n', (∀ b o, b ≠ l → s.heap.get? b = some o → h'.get? b = some o) → h'.get? l = some (listOf ((expandL xs ks).map Nd.val).toArray n') → Q (.bool (expAny xs ks)) { s with heap := h', toks := tk }) :
    wpAny (model prog w) A (call (.ref 118) (.ref a :: vs)) Q E s := by
  have hgH : ∀ b o, H.get? b = some o → (hideAll s.heap [l]).get? b = some o := fun b o e => hideAll_get _ (hH b o e) fun hm => by rw [List.mem_singleton.mp hm, hHl] at e; cases e
  have Xg := X.keeps hgH
  have Tg := T.keeps hgH
  have hgP : (hideAll s.heap [l]).get? l = none := hideAll_none _ (.head _)
  have hgs : ∀ b o, (hideAll s.heap [l]).get? b = some o → s.heap.get? b = some o := fun b o e => of_hideAll _ e
  have hgz : (hideAll s.heap [l]).objs.size ≤ s.heap.objs.size := Nat.le_of_eq (hideAll_size _ _)
  have hPl : l < s.heap.objs.size := Heap.lt_size hl
  have hsg : ∀ b o, b ≠ l → s.heap.get? b = some o → (hideAll s.heap [l]).get? b = some o := fun b o hb e => hideAll_get _ e fun hm => hb (List.mem_singleton.mp hm)
  have hRg : RepL w.params (hf (hideAll s.heap [l])) ks := hR.mono fun b o e => hsg _ _ e.2 e.1
  have gx1 := hsg _ _ hal hx1
  have gx2 := hsg _ _ hdl hx2
  clear X T hgH hHl hH hR hx1 hx2
  generalize hideAll s.heap [l] = g at *
  refine wpAny_call (to_ArC 450 2500 hh hd hu ?_)
  refine' enterV (h₀ := g) vs (by rcases hvs with ⟨v, rfl⟩ | ⟨v, v', rfl⟩ <;> simp) (fun t => [(Str.ofString "self", .ref a), (Str.ofString "data_values", t)]) ?kK ?kK1 ?kK2 ?kL ?k6 ?k7 ?k8 ?k9 ?kB ?_ ?c5 ?c2 ?c3 ?c4
  case kK => assumption
  case kK1 => assumption
  case kK2 => assumption
  case kL => exact TopRead.nolimit (by assumption)
  case k6 => k_is
  case k7 => k_is
  case k8 => show 450 < 1000; decide
  case k9 => rcases hvs with ⟨v, rfl⟩ | ⟨v, v', rfl⟩ <;> rfl
  case kB => intro t; exact rfl
  case c5 => decide
  case c2 => exact rfl
  case c3 => exact rfl
  case c4 => exact rfl
  intro T L h₁ tk hT hL F N hkp
  have N1 := news_cons F N (hkp _ _ hl) hgP (by rw [hL, hT]; exact Nat.ne_of_lt (Nat.lt_succ_of_lt hPl))
  clear N
  have hkl : ks.length ≤ 100 := Nat.le_trans (length_le_sizeL ks) hz
  iterate 5 walk1
  refine wpAny_For ?_
  repeat' walk1
  rename_i h₂ F₂ N₂ tl tkl h₃ tk₃ t₅ u₅ v₅ hr F₃ N₃ hk₃
  clear F₂ N₂
  have hsize : (((ks.map Nd.val).toArray.size : Nat) : Int) = (ks.length : Nat) := by simp
  rw [hsize] at hr
  obtain ⟨hsm, hrs⟩ := rng_down hkl
  refine wpAny_pyIter_range hr hsm ?_
  rw [hrs]
  dsimp only
  have itn : h₃.get? h₃.objs.size = none := fresh_of (Nat.le_refl _)
  have hit0 : ∀ p ∈ [(l, listOf (ks.map Nd.val).toArray nl), (T, tupO vs)], p.1 ≠ h₃.objs.size := fun p hp => Nat.ne_of_lt (Heap.lt_size (N₃ p hp).1)
  have N₄ := N₃.push F₃ (rngO ((ks.length : Nat) - 1) (ks.length : Nat) (-1))
  have F₄ := F₃.push (rngO ((ks.length : Nat) - 1) (ks.length : Nat) (-1))
  have hlT : l ≠ T := by rw [hT]; exact Nat.ne_of_lt hPl
  generalize hite : h₃.objs.size = it at *
  have hitl : l ≠ it := hit0 _ (.head _)
  have hitT : T ≠ it := hit0 _ (.tail _ (.head _))
  refine for_any (fun k σ => ∃ h tk m n', σ = { s with heap := h, toks := tk } ∧ k ≤ ks.length ∧ Fr g L h m ∧ m (Str.ofString "self") = some (.ref a) ∧ m (Str.ofString "data_values") = some (.ref T) ∧ m (Str.ofString "changed") = some (.bool (expAny xs (ks.drop k))) ∧
    News g L h [(it, rngO ((k : Nat) - 1) (k : Nat) (-1)), (l, listOf ((ks.take k ++ expandL xs (ks.drop k)).map Nd.val).toArray n'), (T, tupO vs)]) ?_ ks.length ?_
  · rintro k _ ⟨h, tk, m, n', rfl, hk, F₅, hm1, hm2, hm3, N₅⟩
    have off : ∀ p ∈ [(l, listOf ((ks.take k ++ expandL xs (ks.drop k)).map Nd.val).toArray n'), (T, tupO vs)], p.1 ≠ it := by
      intro p hp
      simp only [List.mem_cons, List.not_mem_nil, or_false] at hp
      rcases hp with rfl | rfl
      · exact hitl
      · exact hitT
    have n5 := N₅ _ (.head _)
    cases k with
    | zero =>
      refine wpAny_pyNext_range_end rfl n5.1 (Int.le_refl _) fun h' he => ?_
      have F₆ := fr_ext F₅ n5.2.2 n5.2.1 he
      have N₆ := news_ext (fun p hp => N₅ p (.tail _ hp)) off he
      rw [upd_self hm1, upd_self hm2, upd_self hm3] at F₆
      dsimp only
      repeat' walk1
      dsimp only
      refine hQ h' tk n' (fun b o hb e => F₆.keep _ _ (hsg b o hb e)) ?_
      simpa using (N₆ _ (.head _)).1
    | succ j =>
      refine wpAny_pyNext_range_item n5.1 (by omega) fun h' hi hs => ?_
      have F₆ := fr_same F₅ n5.2.2 n5.2.1 hs
      have N₆ := news_same N₅ off hs hi
      have e1 : ((j + 1 : Nat) : Int) - 1 = (j : Nat) := by omega
      rw [upd_self hm1, upd_self hm2, upd_self hm3] at F₆
      rw [e1] at N₆ ⊢
      dsimp only
      show wpAny _ _ (pure ()) _ _ _
      refine wpAny_pure ?_
      iterate 10 walk1
      rename_i h₇ F₇ N₇
      have hj : j < ks.length := hk
      have hx := repL_iff.mp hRg _ (List.getElem_mem hj)
      have ed : ks.drop j = ks[j] :: ks.drop (j + 1) := List.drop_eq_getElem_cons hj
      have et : ks.take (j + 1) = ks.take j ++ [ks[j]] := by rw [List.take_add_one, List.getElem?_eq_getElem hj]; rfl
      have hxi : (((ks.take (j + 1) ++ expandL xs (ks.drop (j + 1))).map Nd.val).toArray)[j]? = some (ks[j]).val := by
        have htl : (ks.take j).length = j := List.length_take_of_le (Nat.le_of_lt hj)
        rw [et, List.append_assoc, List.map_append, List.getElem?_toArray, List.getElem?_append_right (by rw [List.length_map, htl]; exact Nat.le_refl _), List.length_map, htl, Nat.sub_self]
        rfl
      generalize ks[j] = x at hx ed et hxi
      refine item_listR (x := x.val) ⟨_, (N₇ _ (.tail _ (.head _))).1, rfl, _, rfl⟩ (by omega) (by omega) hxi ?_
      cases x with
      | tok ta ty tv =>
        obtain ⟨tdx, w1, w2, w3, w4, hy1, hy2⟩ := hx
        repeat' walk1
        rename Fr _ _ _ _ => F₈
        rename News _ _ _ _ => N₈
        have e2 : exp1 xs (Nd.tok ta ty tv) = [Nd.tok ta ty tv] := by simp [exp1, Nd.isTree]
        have e3 : ks.take j ++ expandL xs (ks.drop j) = ks.take (j + 1) ++ expandL xs (ks.drop (j + 1)) := by
          rw [ed, et]
          simp [expandL, e2]
        have e4 : expAny xs (ks.drop j) = expAny xs (ks.drop (j + 1)) := by
          rw [ed]
          simp [expAny, Nd.isTree]
        dsimp only
        unfold Hold
        refine ⟨j, Nat.lt_succ_self _, _, _, _, n', rfl, Nat.le_of_lt hj, F₈, rfl, rfl, ?_, ?_⟩
        · rw [e4]
          rfl
        · rw [e3]
          have e5 : (((j + 1 : Nat) : Int) - 1) = (j : Nat) := by omega
          exact N₈
      | tree a' dx' l' d' ks' =>
        obtain ⟨⟨w1, w2, w3, w4, hy1, hy2⟩, ⟨n'', hy3⟩, _⟩ := hx
        repeat' walk1
        · rename_i hin
          rename Fr _ _ _ _ => F₈
          rename News _ _ _ _ => N₈
          dsimp only
          have hm : d' ∈ xs := by simpa using hin
          have e2 : exp1 xs (Nd.tree a' dx' l' d' ks') = ks' := by simp [exp1, Nd.isTree, Nd.name, hm, Nd.kids]
          have e3 : ks.take j ++ expandL xs (ks.drop j) = ks.take j ++ ks' ++ expandL xs (ks.drop (j + 1)) := by
            rw [ed]
            simp [expandL, e2]
          have e4 : expAny xs (ks.drop j) = true := by
            rw [ed]
            simp [expAny, Nd.isTree, Nd.name, hm]
          have htl : (ks.take j).length = j := List.length_take_of_le (Nat.le_of_lt hj)
          have hne : l ≠ l' := fun q => by
            have h1 : g.get? l' = some _ := hy3
            rw [← q, hgP] at h1
            cases h1
          have hs1 := sizeL_append (ks.take (j + 1)) (ks.drop (j + 1))
          rw [List.take_append_drop] at hs1
          have hs2 := expandL_length xs (ks.drop (j + 1))
          have hs3 : sizeL (ks.take (j + 1)) = sizeL (ks.take j) + (1 + sizeL ks') := by
            rw [et, sizeL_append]
            simp [sizeL, Nd.size]
          have hs4 := length_le_sizeL ks'
          have e6 : (ks.take (j + 1) ++ expandL xs (ks.drop (j + 1))).map Nd.val = (ks.take j).map Nd.val ++ (Nd.tree a' dx' l' d' ks').val :: (expandL xs (ks.drop (j + 1))).map Nd.val := by
            rw [et]
            simp
          rw [e6] at N₈
          refine set_sliceN F₈ N₈ hitl.symm ?_ (by rw [List.length_map, htl]) ⟨_, F₈.keep _ _ hy3, rfl, _, rfl⟩ hne ?_ fun h₉ n₉ F₉ N₉ => ?_
          · intro p hp
            obtain rfl := List.mem_singleton.mp hp
            exact hlT.symm
          · simp only [List.length_map, htl]
            omega
          · clear F₈ N₈
            repeat' walk1
            rename Fr _ _ _ _ => F₀
            rename News _ _ _ _ => N₀
            dsimp only
            unfold Hold
            refine ⟨j, Nat.lt_succ_self _, _, _, _, n₉, rfl, Nat.le_of_lt hj, F₀, rfl, rfl, ?_, ?_⟩
            · rw [e4]
              rfl
            · rw [e3, List.map_append, List.map_append]
              exact N₀
        · rename_i hin
          rename Fr _ _ _ _ => F₈
          rename News _ _ _ _ => N₈
          have hm : d' ∉ xs := fun hm => by
            simp at hin
            exact hin d' hm rfl
          have e2 : exp1 xs (Nd.tree a' dx' l' d' ks') = [Nd.tree a' dx' l' d' ks'] := by simp [exp1, Nd.isTree, Nd.name, hm]
          have e3 : ks.take j ++ expandL xs (ks.drop j) = ks.take (j + 1) ++ expandL xs (ks.drop (j + 1)) := by
            rw [ed, et]
            simp [expandL, e2]
          have e4 : expAny xs (ks.drop j) = expAny xs (ks.drop (j + 1)) := by
            rw [ed]
            simp [expAny, Nd.isTree, Nd.name, hm]
          dsimp only
          unfold Hold
          refine ⟨j, Nat.lt_succ_self _, _, _, _, n', rfl, Nat.le_of_lt hj, F₈, rfl, rfl, ?_, ?_⟩
          · rw [e4]
            rfl
          · rw [e3]
            exact N₈
  · refine ⟨_, _, _, nl, rfl, Nat.le_refl _, F₄, rfl, rfl, ?_, ?_⟩
    · rw [List.drop_length]
      rfl
    · rw [List.drop_length, List.take_length]
      simpa [expandL] using N₄
end
end Mine
end

section
example : True ∧ True := by
  w_top off
  first | (walk1; done) | exact ⟨trivial, trivial⟩
open PySem PySem.W PySem.Calls PyProof.Rows
set_option maxRecDepth 100000
set_option maxHeartbeats 4000000
namespace Mine
local macro_rules | `(tactic| k_inst) => `(tactic| (refine' instOf_base ?F ?h1 ?h2; (case F => k_asm); (case h1 => assumption); (case h2 => assumption)))
section
variable {prog : Program} {w : World} {p : Program} {loose : List Str} {mg mb : Str → Option Value}
theorem copy_call {A : Around} {s : Shared} {Q E : Value → Shared → Prop} {a dx l : Addr} {d : Str} {t1 t2 t3 t4 : Tok} (X : (hd.heap_39 w.params).In s.heap) (T : TopRead p loose mg mb s.heap)
    (hx1 : s.heap.get? a = some (instObj 142 dx)) (hx2 : s.heap.get? dx = some (dictOf (treeEs w.params t1 t2 t3 (.str d t4) (.ref l)) 3)) (hh : A.handled = none) (hd : A.depth ≤ 450) (hu : A.units ≤ 2500)
    (hQ : ∀ dx' u1 u2 u3 h' tk, Keep s.heap h' → s.heap.get? dx' = none → s.heap.get? (dx' + 1) = none → h'.get? (dx' + 1) = some (instObj 142 dx') → h'.get? dx' = some (dictOf (treeEs w.params u1 u2 u3 (.str d t4) (.ref l)) 3) → Q (.ref (dx' + 1)) { s with heap := h', toks := tk }) :
    wpAny (model prog w) A (call (.ref 132) [.ref a]) Q E s := by
  refine wpAny_call (to_ArC 450 2500 hh hd hu ?_)
  refine' enterB (h₀ := s.heap) [(Str.ofString "self", .ref a)] ?kK ?kK1 ?kK2 ?kL ?k6 ?k7 ?k8 ?k9 ?kB ?_ ?c5 ?c2 ?c3 ?c4
  case kK => assumption
  case kK1 => exact fun _ _ e => e
  case kK2 => exact Nat.le_refl _
  case kL => exact TopRead.nolimit (by assumption)
  case k6 => k_is
  case k7 => k_is
  case k8 => show 450 < 1000; decide
  case k9 => exact BindsTo.of_eq rfl
  case kB => exact rfl
  case c5 => decide
  case c2 => exact rfl
  case c3 => exact rfl
  case c4 => exact rfl
  intro L h₁ tk hL F hkp
  have N : News s.heap L h₁ [] := fun p hp => nomatch hp
  have X₁ := X.keeps F.keep
  have T₁ := T.keeps F.keep
  iterate 15 walk1
  refine mkTree X₁ T₁ rfl (Nat.le_of_ble_eq_true rfl) (Nat.le_of_ble_eq_true rfl) fun dx' u1 u2 u3 h' tk' hdx hk ha1 ha2 => ?_
  dsimp only at hdx hk
  have nd1 : h₁.get? dx' = none := fresh_of (Nat.le_of_eq hdx.symm)
  have nd2 : h₁.get? (dx' + 1) = none := fresh_of (by rw [hdx]; exact Nat.le_succ _)
  exact hQ dx' u1 u2 u3 h' tk' (fun b o e => hk _ _ (F.keep _ _ e)) (fr_none F nd1) (fr_none F nd2) ha1 ha2
theorem set_call {A : Around} {s : Shared} {Q E : Value → Shared → Prop} {H : Heap} {a dx l c : Addr} {d x : Str} {t1 t2 t3 t4 tx : Tok} (X : (hd.heap_39 w.params).In H) (T : TopRead p loose mg mb H) (hH : ∀ b o, H.get? b = some o → s.heap.get? b = some o)
    (hHa : H.get? a = none) (hHd : H.get? dx = none) (had : a ≠ dx)
    (hx1 : s.heap.get? a = some (instObj 142 dx)) (hx2 : s.heap.get? dx = some (dictOf (treeEs w.params t1 t2 t3 (.str d t4) (.ref l)) 3)) (hh : A.handled = none) (hd : A.depth ≤ 450) (hu : A.units ≤ 2500)
    (hQ : ∀ u1 u2 u3 h' tk n, (∀ b o, b ≠ dx → s.heap.get? b = some o → h'.get? b = some o) → h'.get? dx = some (dictOf (treeEs w.params u1 u2 u3 (.str x tx) (.ref c)) n) → Q .none { s with heap := h', toks := tk }) :
    wpAny (model prog w) A (call (.ref 139) [.ref a, .str x tx, .ref c]) Q E s := by
  have hgH : ∀ b o, H.get? b = some o → (hideAll s.heap [a, dx]).get? b = some o := fun b o e => hideAll_get _ (hH b o e) fun hm => by
    rcases List.mem_cons.mp hm with rfl | hm
    · rw [hHa] at e; cases e
    · rw [List.mem_singleton.mp hm, hHd] at e; cases e
  have Xg := X.keeps hgH
  have Tg := T.keeps hgH
  have hga : (hideAll s.heap [a, dx]).get? a = none := hideAll_none _ (.head _)
  have hgd : (hideAll s.heap [a, dx]).get? dx = none := hideAll_none _ (.tail _ (.head _))
  have hgs : ∀ b o, (hideAll s.heap [a, dx]).get? b = some o → s.heap.get? b = some o := fun b o e => of_hideAll _ e
  have hgz : (hideAll s.heap [a, dx]).objs.size ≤ s.heap.objs.size := Nat.le_of_eq (hideAll_size _ _)
  have hsg : ∀ b o, b ≠ a → b ≠ dx → s.heap.get? b = some o → (hideAll s.heap [a, dx]).get? b = some o := fun b o hb hb2 e => hideAll_get _ e fun hm => by
    rcases List.mem_cons.mp hm with h | hm
    · exact hb h
    · exact hb2 (List.mem_singleton.mp hm)
  clear X T hgH hH hHa hHd
  generalize hideAll s.heap [a, dx] = g at *
  refine wpAny_call (to_ArC 450 2500 hh hd hu ?_)
  refine' enterB (h₀ := g) [(Str.ofString "self", .ref a), (Str.ofString "data", .str x tx), (Str.ofString "children", .ref c)] ?kK ?kK1 ?kK2 ?kL ?k6 ?k7 ?k8 ?k9 ?kB ?_ ?c5 ?c2 ?c3 ?c4
  case kK => assumption
  case kK1 => assumption
  case kK2 => assumption
  case kL => exact TopRead.nolimit (by assumption)
  case k6 => k_is
  case k7 => k_is
  case k8 => show 450 < 1000; decide
  case k9 => exact BindsTo.of_eq rfl
  case kB => exact rfl
  case c5 => decide
  case c2 => exact rfl
  case c3 => exact rfl
  case c4 => exact rfl
  intro L h₁ tk hL F hkp
  have l1 : a ≠ L := hL ▸ Nat.ne_of_lt (Heap.lt_size hx1)
  have l2 : dx ≠ L := hL ▸ Nat.ne_of_lt (Heap.lt_size hx2)
  have N : News g L h₁ [(a, instObj 142 dx), (dx, dictOf (treeEs w.params t1 t2 t3 (.str d t4) (.ref l)) 3)] := news_cons F (news_cons F (fun p hp => nomatch hp) (hkp _ _ hx2) hgd l2) (hkp _ _ hx1) hga l1
  repeat' walk1
  rename News _ _ _ _ => N₂
  rename Fr _ _ _ _ => F₂
  refine hQ t1 t2 t3 _ _ _ (fun b o hb e => ?_) (N₂ _ (.tail _ (.head _))).1
  by_cases ha : b = a
  · subst ha
    rw [hx1] at e
    cases e
    exact (N₂ _ (.head _)).1
  · exact F₂.keep _ _ (hsg _ _ ha hb e)
end
end Mine
end

section
example : True ∧ True := by
  w_top off
  first | (walk1; done) | exact ⟨trivial, trivial⟩
open PySem PySem.W PySem.Calls PyProof.Rows
set_option maxRecDepth 100000
set_option maxHeartbeats 4000000
namespace Mine
/-- the law's def, by its place among the module's statements -/
noncomputable def lawDef : Stmt := Mine.hd.view_39.main.body.getD 5 default
def stBody : Stmt → List Stmt
  | .FunctionDef _ _ b _ _ _ _ _ _ _ => b
  | _ => []
def stScope : Stmt → Scope
  | .FunctionDef _ _ _ _ _ _ sc _ _ _ => sc
  | _ => default
noncomputable def lawSt (k : Nat) : List Stmt := (stBody lawDef).drop k
noncomputable def lawEnv (L fa : Addr) : Env := envOfC (Str.ofString "law") (stScope lawDef) L fa (.ref 167)
theorem allLt_mem {d : Nat} {l : List (Addr × Obj)} (h : AllLt d l) : ∀ p ∈ l, p.1 < d := by
  induction l with
  | nil => intro p hp; exact absurd hp List.not_mem_nil
  | cons q r ih =>
    intro p hp
    rcases List.mem_cons.mp hp with hp | hp
    · rw [hp]; exact h.1
    · exact ih h.2 p hp
section
variable {prog : Program} {w : World} {p : Program} {loose : List Str} {mg mb : Str → Option Value} {mean : ExcName → Option Value}
theorem law_1 {s : Shared} {Q : Flow → Shared → Prop} {E : Value → Shared → Prop} {H : Heap} {L fa sc : Addr} {m : Str → Option Value} {vs : List Value} {ns : List Int} {news : List (Addr × Obj)} (X : (hd.heap_39 w.params).In H) (T : Top p loose mean mg mb H)
    (F : Fr H L s.heap m) (N : News H L s.heap news) (hm : m (Str.ofString "script") = some (.ref sc)) (hl : H.IsList sc vs.toArray) (hi : IntsAre vs ns) (hlen : ns.length ≤ 63)
    (hQ : ∀ (h' : Heap) (tk : Nat) (m' : Str → Option Value) (nl : Addr) (vs' : List Value) (ns' : List Int) (n' : Nat), Fr H L h' m' → News H L h' ((nl, listOf vs'.toArray n') :: news) → (∀ p ∈ news, p.1 < nl) → IntsAre vs' ns' → ns'.length ≤ 16 → m' (Str.ofString "numbers") = some (.ref nl) →
      wpAny (model prog w) (Ar 302 500) (execs (lawSt 1) (lawEnv L fa)) Q E { s with heap := h', toks := tk }) :
    wpAny (model prog w) (Ar 302 500) (execs (lawSt 0) (lawEnv L fa)) Q E s := by
  show wpAny _ _ (execs (Stmt.Assign _ (Expr.IfExp _ _ _ _) _ :: lawSt 1) (envOfC _ (Scope.mk _ _ _ _ _) _ _ _)) _ _ _
  unfold lawEnv at hQ
  generalize lawSt 1 = rest at hQ ⊢
  have F₀ := F
  rw [upd_self hm] at F₀
  clear F
  repeat' walk1
  · rename Fr _ _ _ _ => F'
    rename News _ _ _ _ => N'
    rename_i l1 _ _ _ l2 _
    refine hQ _ _ _ _ [.int 0 s.toks, .int 3 (s.toks + 1), .int 7 (s.toks + 1 + 1), .int 0 (s.toks + 1 + 1 + 1), .int 8 (s.toks + 1 + 1 + 1 + 1)] [0, 3, 7, 0, 8] 0 F' (news_sub N' ?_) (allLt_mem l2.2) (.cons _ _ (.cons _ _ (.cons _ _ (.cons _ _ (.cons _ _ .nil))))) (by decide) rfl
    intro p hp
    rcases List.mem_cons.mp hp with rfl | hp
    · exact .head _
    · exact .tail _ (.tail _ hp)
  · rename Fr _ _ _ _ => F'
    rename News _ _ _ _ => N'
    rename_i hI hC hL l2 _
    refine hQ _ _ _ _ _ _ 0 F' (news_sub N' ?_) (allLt_mem l2.2) hI (by omega) rfl
    intro p hp
    rcases List.mem_cons.mp hp with rfl | hp
    · exact .head _
    · exact .tail _ (.tail _ hp)
end
end Mine
end

section
example : True ∧ True := by
  w_top off
  first | (walk1; done) | exact ⟨trivial, trivial⟩
open PySem PySem.W PySem.Calls PyProof.Rows
set_option maxRecDepth 100000
set_option maxHeartbeats 4000000
namespace Mine
local macro_rules | `(tactic| k_inst) => `(tactic| (refine' instOf_base ?F ?h1 ?h2; (case F => k_asm); (case h1 => assumption); (case h2 => assumption)))
theorem filt_nd {P : Params} {h : Heap} {ns : List Nd} (hr : RepL P (hf h) ns) (q : Nd → Bool) : ((ns.map Nd.val).toArray.toList.filter fun v => q (ndOf ns v)) = (ns.filter q).map Nd.val := by
  show (ns.map Nd.val).filter _ = _
  rw [List.filter_map]
  congr 1
  refine List.filter_congr fun m hm => ?_
  show q (ndOf _ m.val) = q m
  rw [ndOf_val hr hm]
theorem ne_live {h : Heap} {a b : Addr} {o : Obj} (e : h.get? a = some o) (f : h.get? b = none) : a ≠ b := fun q => by rw [q, f] at e; cases e
theorem mem_val {ns : List Nd} {v : Value} (h : v ∈ (ns.map Nd.val).toArray) : ∃ k ∈ ns, v = k.val := by
  rw [List.mem_toArray] at h
  obtain ⟨k, hk, e⟩ := List.mem_map.mp h
  exact ⟨k, hk, e.symm⟩
mutual
theorem height_size : ∀ n : Nd, n.height ≤ n.size
  | .tok .. => Nat.zero_le _
  | .tree _ _ _ _ ks => by have := heightL_size ks; simp [Nd.height, Nd.size]; omega
theorem heightL_size : ∀ ks : List Nd, heightL ks ≤ sizeL ks
  | [] => Nat.le_refl _
  | k :: r => by have := height_size k; have := heightL_size r; simp [heightL, sizeL]; omega
end
local macro_rules | `(tactic| walk_at "eval ListComp") => `(tactic| refine holdC ?_)
local macro_rules | `(tactic| walk_at "eval Name") => `(tactic| ((with_reducible show wpAny _ _ (eval (.Name _ _) (compEnvC _ _ _ _)) _ _ _); first
  | (refine' nmG_L ?F ?hv ?_ ?hk ?hx ?hd; (case hk => exact rfl); (case hx => exact rfl); (case hd => exact rfl); (case F => assumption); (case hv => assumption))
  | (refine' nmG_K ?F ?X ?T ?e ?_ ?hk ?hx ?hg ?hd; (case hk => exact rfl); (case hx => exact rfl); (case hg => exact rfl); (case hd => exact rfl); (case F => assumption); (case X => assumption); (case T => assumption); (case e => k_is))
  | (refine' nmG_B ?F ?X ?T ?e ?hv ?hn ?_ ?hk ?hx ?hg ?hb ?hd; (case hk => exact rfl); (case hx => exact rfl); (case hg => exact rfl); (case hb => exact rfl); (case hd => exact rfl); (case F => assumption); (case X => assumption); (case T => assumption); (case e => k_is); (case hv => rfl); (case hn => decide))))
section
variable {prog : Program} {w : World} {p : Program} {loose : List Str} {mg mb : Str → Option Value} {mean : ExcName → Option Value}
theorem law_2 {s : Shared} {Q : Flow → Shared → Prop} {E : Value → Shared → Prop} {H : Heap} {L fa nl : Addr} {m : Str → Option Value} {vs : List Value} {ns : List Int} {nn : Nat} {news : List (Addr × Obj)} (X : (hd.heap_39 w.params).In H) (T : Top p loose mean mg mb H)
    (F : Fr H L s.heap m) (N : News H L s.heap ((nl, listOf vs.toArray nn) :: news)) (hnl : ∀ p ∈ news, p.1 < nl) (hm : m (Str.ofString "numbers") = some (.ref nl)) (hi : IntsAre vs ns) (hlen : ns.length ≤ 16)
    (hQ : ∀ (h' : Heap) (tk : Nat) (m' : Str → Option Value) (a dx l trl tol : Addr) (ks : List Nd) (big : List (Addr × Obj)) (t1 t2 t3 td : Tok) (nL ntr nto : Nat), Fr H L h' m' →
      News H L h' ((l, listOf (ks.map Nd.val).toArray nL) :: (dx, dictOf (treeEs w.params t1 t2 t3 (.str (Str.ofString "top") td) (.ref l)) 3) :: (news ++ big)) → RepL w.params (fun b o => (b, o) ∈ big) ks →
      (a, instObj 142 dx) ∈ big → (nl, listOf vs.toArray nn) ∈ big → (trl, listOf ((treesOf (pre (.tree a dx l (Str.ofString "top") ks))).map Nd.val).toArray ntr) ∈ big → (tol, listOf ((toksOf (pre (.tree a dx l (Str.ofString "top") ks))).map Nd.val).toArray nto) ∈ big →
      l ≠ dx → (∀ p ∈ big, p.1 ≠ l ∧ p.1 ≠ dx ∧ ∀ q ∈ news, p.1 ≠ q.1) → (∀ q ∈ news, q.1 ≠ l ∧ q.1 ≠ dx) →
      m' (Str.ofString "numbers") = some (.ref nl) → m' (Str.ofString "tree") = some (.ref a) → m' (Str.ofString "trees") = some (.ref trl) → m' (Str.ofString "tokens") = some (.ref tol) →
      (Nd.tree a dx l (Str.ofString "top") ks).sh = builtS 0 ns → ((pre (.tree a dx l (Str.ofString "top") ks)).map Nd.addr).Nodup → sizeL ks ≤ 17 →
      wpAny (model prog w) (Ar 302 500) (execs (lawSt 5) (lawEnv L fa)) Q E { s with heap := h', toks := tk }) :
    wpAny (model prog w) (Ar 302 500) (execs (lawSt 1) (lawEnv L fa)) Q E s := by
  show wpAny _ _ (execs (Stmt.Assign _ (Expr.Call _ _ _ _) _ :: Stmt.Assign _ (Expr.Call _ _ _ _) _ :: Stmt.Assign _ (Expr.ListComp _ _ _ _) _ :: Stmt.Assign _ (Expr.ListComp _ _ _ _) _ :: lawSt 5) (envOfC _ (Scope.mk _ _ _ _ _) _ _ _)) _ _ _
  unfold lawEnv at hQ
  generalize lawSt 5 = rest at hQ ⊢
  have F₀ := F
  rw [upd_self hm] at F₀
  clear F
  have TH := topRead_of T
  iterate 11 walk1
  refine built_call (X.keeps F₀.keep) (TH.keeps F₀.keep) (N _ (.head _)).1 hi hlen (by decide) rfl (Nat.le_of_ble_eq_true rfl) (Nat.le_of_ble_eq_true rfl) ?_
  intro a dx l ks big h₁ tk₁ t1 t2 t3 td nL hk₁ ga gdx gl na ndx nol had hal hdl hbig hR hsh hnd hsz
  dsimp only at hk₁ na ndx nol hbig
  have F₁ := fr_keep F₀ hk₁
  have N₁ := news_keep N hk₁
  have lv : ∀ q ∈ (nl, listOf vs.toArray nn) :: news, s.heap.get? q.1 = some q.2 := fun q hq => (N q hq).1
  have hRn : Rep w.params (fun b o => (b, o) ∈ (l, listOf (ks.map Nd.val).toArray nL) :: (dx, dictOf (treeEs w.params t1 t2 t3 (.str (Str.ofString "top") td) (.ref l)) 3) :: (a, instObj 142 dx) :: big) (.tree a dx l (Str.ofString "top") ks) :=
    ⟨⟨t1, t2, t3, td, .tail _ (.tail _ (.head _)), .tail _ (.head _)⟩, ⟨nL, .head _⟩, hR.mono fun b o h => .tail _ (.tail _ (.tail _ h))⟩
  have N₂ : News H L h₁ ((l, listOf (ks.map Nd.val).toArray nL) :: (dx, dictOf (treeEs w.params t1 t2 t3 (.str (Str.ofString "top") td) (.ref l)) 3) :: (news ++ (a, instObj 142 dx) :: (nl, listOf vs.toArray nn) :: big)) := by
    intro p hp
    simp only [List.mem_cons, List.mem_append] at hp
    rcases hp with rfl | rfl | hp | rfl | rfl | hp
    · exact ⟨gl, fr_new F₀ nol, fr_none F₀ nol⟩
    · exact ⟨gdx, fr_new F₀ ndx, fr_none F₀ ndx⟩
    · exact N₁ p (.tail _ hp)
    · exact ⟨ga, fr_new F₀ na, fr_none F₀ na⟩
    · exact N₁ _ (.head _)
    · have q := hbig p hp
      exact ⟨q.1, fr_new F₀ q.2.1, fr_none F₀ q.2.1⟩
  have hap : ∀ p ∈ (a, instObj 142 dx) :: (nl, listOf vs.toArray nn) :: big, p.1 ≠ l ∧ p.1 ≠ dx ∧ ∀ q ∈ news, p.1 ≠ q.1 := by
    intro p hp
    simp only [List.mem_cons] at hp
    rcases hp with rfl | rfl | hp
    · exact ⟨hal, had, fun q hq => Ne.symm (ne_live (lv q (.tail _ hq)) na)⟩
    · exact ⟨ne_live (lv _ (.head _)) nol, ne_live (lv _ (.head _)) ndx, fun q hq => Nat.ne_of_gt (hnl q hq)⟩
    · have q := hbig p hp
      exact ⟨q.2.2.2.2, q.2.2.2.1, fun r hr => Ne.symm (ne_live (lv r (.tail _ hr)) q.2.1)⟩
  have hnw : ∀ q ∈ news, q.1 ≠ l ∧ q.1 ≠ dx := fun q hq => ⟨ne_live (lv q (.tail _ hq)) nol, ne_live (lv q (.tail _ hq)) ndx⟩
  have hRh : ∀ {h' : Heap} {z : List (Addr × Obj)}, News H L h' ((l, listOf (ks.map Nd.val).toArray nL) :: (dx, dictOf (treeEs w.params t1 t2 t3 (.str (Str.ofString "top") td) (.ref l)) 3) :: (news ++ z)) → (∀ p ∈ (a, instObj 142 dx) :: big, p ∈ z) → Rep w.params (hf h') (.tree a dx l (Str.ofString "top") ks) := by
    intro h' z Nz hz
    refine hRn.mono fun b o h => ?_
    simp only [List.mem_cons] at h
    rcases h with h | h | h
    · exact (Nz (b, o) (h ▸ .head _)).1
    · exact (Nz (b, o) (h ▸ .tail _ (.head _))).1
    · exact (Nz (b, o) (.tail _ (.tail _ (List.mem_append_right _ (hz _ (List.mem_cons.mpr h)))))).1
  have hsz' : (Nd.tree a dx l (Str.ofString "top") ks).size ≤ 18 := by simp [Nd.size]; omega
  have hht : (Nd.tree a dx l (Str.ofString "top") ks).height ≤ 20 := Nat.le_trans (height_size _) (by omega)
  have hpl : (pre (Nd.tree a dx l (Str.ofString "top") ks)).length ≤ 18 := by
    have := preL_length [Nd.tree a dx l (Str.ofString "top") ks]
    simp [preL, sizeL] at this
    omega
  clear N₁ N F₀
  generalize hrt : Nd.tree a dx l (Str.ofString "top") ks = rt at *
  iterate 11 walk1
  rename_i h₂ F₂ N₃
  have hra : rt.val = .ref a := by rw [← hrt]; rfl
  rw [← hra]
  refine written_call 20 rt hht (by decide) (by omega) (X.keeps F₂.keep) (TH.keeps F₂.keep) (hRh N₃ fun p hp => by
    rcases List.mem_cons.mp hp with rfl | hp
    · exact .head _
    · exact .tail _ (.tail _ hp)) rfl (Nat.le_of_ble_eq_true rfl) (Nat.le_of_ble_eq_true rfl) fun wl nw h₃ tk₃ hk₃ hwn hw => ?_
  dsimp only at hk₃ hwn
  have hapw := hap
  have lv₃ : ∀ q ∈ (l, listOf (ks.map Nd.val).toArray nL) :: (dx, dictOf (treeEs w.params t1 t2 t3 (.str (Str.ofString "top") td) (.ref l)) 3) :: news, wl ≠ q.1 := fun q hq => Ne.symm (ne_live (N₃ q (by
    simp only [List.mem_cons, List.mem_append] at hq ⊢
    rcases hq with h | h | h
    · exact .inl h
    · exact .inr (.inl h)
    · exact .inr (.inr (.inl h)))).1 hwn)
  have F₃ := fr_keep F₂ hk₃
  have N₄ := news_cons F₃ (news_keep N₃ hk₃) hw (fr_none F₂ hwn) (fr_new F₂ hwn)
  clear N₃ F₂
  iterate 3 walk1
  rename_i h₄ F₄ N₅
  have hRp : RepL w.params (hf h₄) (pre rt) := rep_pre (hRh (fun p hp => N₅ p (.tail _ hp)) fun p hp => by
    rcases List.mem_cons.mp hp with rfl | hp
    · exact .head _
    · exact .tail _ (.tail _ hp))
  refine compFA (h₀ := H) (L := L) (cl := ?cla) (fun v => (ndOf (pre rt) v).isTree) rfl ?hswa ?hclosa ?hcella rfl ?hnamesa rfl rfl ?hsa rfl rfl rfl ?_
  case hswa => exact rfl
  case hclosa => exact rfl
  case hcella => decide
  case hnamesa => decide
  case hsa => exact fun _ => rfl
  walk1
  refine ⟨wl, ((pre rt).map Nd.val).toArray, _, _, rfl, ⟨_, (N₅ _ (.head _)).1, rfl, _, rfl⟩, by simp; omega, F₄, N₅, ?_, ?_⟩
  · intro C v s₅ m₅ hv F₅ hm₅
    obtain ⟨y, hy, rfl⟩ := mem_val hv
    have hyr := repL_iff.mp hRp y hy
    rw [ndOf_val hRp hy]
    have X₅ := X.keeps F₄.keep
    have T₅ := TH.keeps F₄.keep
    refine wpAny_tests_one ?_
    cases y with
    | tok ta ty tv =>
      obtain ⟨tdx, w1, w2, w3, w4, hy1, hy2⟩ := hyr
      repeat' walk1
      exact ⟨s₅.heap, _, rfl, fun _ _ e => e⟩
    | tree ta tdx tl td tks =>
      obtain ⟨⟨w1, w2, w3, w4, hy1, hy2⟩, _, _⟩ := hyr
      repeat' walk1
      exact ⟨s₅.heap, _, rfl, fun _ _ e => e⟩
  · intro D nD h₅ tk₅ F₅ N₆ hoff hDn
    rw [filt_nd hRp Nd.isTree] at N₆
    have off₅ : ∀ q ∈ (wl, listOf ((pre rt).map Nd.val).toArray nw) :: (l, listOf (ks.map Nd.val).toArray nL) :: (dx, dictOf (treeEs w.params t1 t2 t3 (.str (Str.ofString "top") td) (.ref l)) 3) :: (news ++ (a, instObj 142 dx) :: (nl, listOf vs.toArray nn) :: big), D ≠ q.1 := fun q hq => Ne.symm (hoff q hq)
    dsimp only
    walk1
    refine compFA (h₀ := H) (L := L) (cl := ?clb) (fun v => !(ndOf (pre rt) v).isTree) rfl ?hswb ?hclosb ?hcellb rfl ?hnamesb rfl rfl ?hsb rfl rfl rfl ?_
    case hswb => exact rfl
    case hclosb => exact rfl
    case hcellb => decide
    case hnamesb => decide
    case hsb => exact fun _ => rfl
    have hRq : RepL w.params (hf h₅) (pre rt) := rep_pre (hRh (fun p hp => N₆ p (.tail _ (.tail _ hp))) fun p hp => by
      rcases List.mem_cons.mp hp with rfl | hp
      · exact .head _
      · exact .tail _ (.tail _ hp))
    walk1
    refine ⟨wl, ((pre rt).map Nd.val).toArray, _, _, rfl, ⟨_, (N₆ _ (.tail _ (.head _))).1, rfl, _, rfl⟩, by simp; omega, F₅, N₆, ?_, ?_⟩
    · intro C v s₅ m₅ hv F₆ hm₅
      obtain ⟨y, hy, rfl⟩ := mem_val hv
      have hyr := repL_iff.mp hRq y hy
      rw [ndOf_val hRq hy]
      have X₅ := X.keeps F₅.keep
      have T₅ := TH.keeps F₅.keep
      refine wpAny_tests_one ?_
      cases y with
      | tok ta ty tv =>
        obtain ⟨tdx, w1, w2, w3, w4, hy1, hy2⟩ := hyr
        repeat' walk1
        exact ⟨s₅.heap, _, rfl, fun _ _ e => e⟩
      | tree ta tdx tl td tks =>
        obtain ⟨⟨w1, w2, w3, w4, hy1, hy2⟩, _, _⟩ := hyr
        repeat' walk1
        exact ⟨s₅.heap, _, rfl, fun _ _ e => e⟩
    · intro D' nD' h₆ tk₆ F₆ N₇ hoff' hDn'
      rw [filt_nd hRq fun n => !n.isTree] at N₇
      dsimp only
      have hD'D : ∀ q ∈ (D, listOf ((treesOf (pre rt)).map Nd.val).toArray nD) :: (wl, listOf ((pre rt).map Nd.val).toArray nw) :: (l, listOf (ks.map Nd.val).toArray nL) :: (dx, dictOf (treeEs w.params t1 t2 t3 (.str (Str.ofString "top") td) (.ref l)) 3) :: (news ++ (a, instObj 142 dx) :: (nl, listOf vs.toArray nn) :: big), D' ≠ q.1 := fun q hq => Ne.symm (hoff' q hq)
      refine hQ h₆ _ _ a dx l D D' ks ((D', listOf ((toksOf (pre rt)).map Nd.val).toArray nD') :: (D, listOf ((treesOf (pre rt)).map Nd.val).toArray nD) :: (a, instObj 142 dx) :: (nl, listOf vs.toArray nn) :: big) t1 t2 t3 td nL nD nD' F₆ (news_sub N₇ ?_)
        (hR.mono fun b o h => .tail _ (.tail _ (.tail _ (.tail _ h)))) (.tail _ (.tail _ (.head _))) (.tail _ (.tail _ (.tail _ (.head _)))) ?_ ?_ (Ne.symm hdl) ?_ hnw rfl rfl rfl rfl ?_ ?_ hsz
      · intro p hp
        simp only [List.mem_cons, List.mem_append] at hp ⊢
        rcases hp with h | h | h | h | h | h
        · exact .inr (.inr (.inr (.inl h)))
        · exact .inr (.inr (.inr (.inr (.inl h))))
        · exact .inr (.inr (.inr (.inr (.inr (.inl h)))))
        · exact .inl h
        · exact .inr (.inl h)
        · exact .inr (.inr (.inr (.inr (.inr (.inr h)))))
      · rw [hrt]
        exact .tail _ (.head _)
      · rw [hrt]
        exact .head _
      · intro p hp
        simp only [List.mem_cons] at hp
        rcases hp with rfl | rfl | hp
        · exact ⟨hD'D _ (.tail _ (.tail _ (.head _))), hD'D _ (.tail _ (.tail _ (.tail _ (.head _)))), fun q hq => hD'D q (.tail _ (.tail _ (.tail _ (.tail _ (List.mem_append_left _ hq)))))⟩
        · exact ⟨off₅ _ (.tail _ (.head _)), off₅ _ (.tail _ (.tail _ (.head _))), fun q hq => off₅ q (.tail _ (.tail _ (.tail _ (List.mem_append_left _ hq))))⟩
        · exact hap p (List.mem_cons.mpr (hp.imp id List.mem_cons.mpr))
      · rw [hrt]
        exact hsh
      · rw [hrt]
        exact hnd
end
end Mine
end

section
example : True ∧ True := by
  w_top off
  first | (walk1; done) | exact ⟨trivial, trivial⟩
open PySem PySem.W PySem.Calls PyProof.Rows
set_option maxRecDepth 100000
set_option maxHeartbeats 4000000
namespace Mine
local macro_rules | `(tactic| k_inst) => `(tactic| (refine' instOf_base ?F ?h1 ?h2; (case F => k_asm); (case h1 => assumption); (case h2 => assumption)))
local macro_rules | `(tactic| walk_at "eval ListComp") => `(tactic| refine holdC ?_)
local macro_rules | `(tactic| walk_at "eval Name") => `(tactic| ((with_reducible show wpAny _ _ (eval (.Name _ _) (compEnvC _ _ _ _)) _ _ _); first
  | (refine' nmG_L ?F ?hv ?_ ?hk ?hx ?hd; (case hk => exact rfl); (case hx => exact rfl); (case hd => exact rfl); (case F => assumption); (case hv => assumption))
  | (refine' nmG_K ?F ?X ?T ?e ?_ ?hk ?hx ?hg ?hd; (case hk => exact rfl); (case hx => exact rfl); (case hg => exact rfl); (case hd => exact rfl); (case F => assumption); (case X => assumption); (case T => assumption); (case e => k_is))
  | (refine' nmG_B ?F ?X ?T ?e ?hv ?hn ?_ ?hk ?hx ?hg ?hb ?hd; (case hk => exact rfl); (case hx => exact rfl); (case hg => exact rfl); (case hb => exact rfl); (case hd => exact rfl); (case F => assumption); (case X => assumption); (case T => assumption); (case e => k_is); (case hv => rfl); (case hn => decide))))
/-- the law's tree, and what stands around it -/
structure RD where
  a : Addr
  dx : Addr
  l : Addr
  nl : Addr
  trl : Addr
  tol : Addr
  ks : List Nd
  vs : List Value
  ns : List Int
  big : List (Addr × Obj)
  t1 : Tok
  t2 : Tok
  t3 : Tok
  td : Tok
  nL : Nat
  nn : Nat
  ntr : Nat
  nto : Nat
abbrev RD.n (r : RD) : Nd := .tree r.a r.dx r.l (Str.ofString "top") r.ks
abbrev RD.nw (r : RD) (P : Params) (news : List (Addr × Obj)) : List (Addr × Obj) :=
  (r.l, listOf (r.ks.map Nd.val).toArray r.nL) :: (r.dx, dictOf (treeEs P r.t1 r.t2 r.t3 (.str (Str.ofString "top") r.td) (.ref r.l)) 3) :: (news ++ r.big)
structure RD.ok (r : RD) (P : Params) (news : List (Addr × Obj)) : Prop where
  rep : RepL P (fun b o => (b, o) ∈ r.big) r.ks
  ma : (r.a, instObj 142 r.dx) ∈ r.big
  mn : (r.nl, listOf r.vs.toArray r.nn) ∈ r.big
  mtr : (r.trl, listOf ((treesOf (pre r.n)).map Nd.val).toArray r.ntr) ∈ r.big
  mto : (r.tol, listOf ((toksOf (pre r.n)).map Nd.val).toArray r.nto) ∈ r.big
  ld : r.l ≠ r.dx
  off : ∀ p ∈ r.big, p.1 ≠ r.l ∧ p.1 ≠ r.dx ∧ ∀ q ∈ news, p.1 ≠ q.1
  offn : ∀ q ∈ news, q.1 ≠ r.l ∧ q.1 ≠ r.dx
  sh : r.n.sh = builtS 0 r.ns
  nd : ((pre r.n).map Nd.addr).Nodup
  sz : sizeL r.ks ≤ 17
  hints : IntsAre r.vs r.ns
  hlen : r.ns.length ≤ 16
structure RD.names (r : RD) (m : Str → Option Value) : Prop where
  numbers : m (Str.ofString "numbers") = some (.ref r.nl)
  tree : m (Str.ofString "tree") = some (.ref r.a)
  trees : m (Str.ofString "trees") = some (.ref r.trl)
  tokens : m (Str.ofString "tokens") = some (.ref r.tol)
section
variable {r : RD} {P : Params} {news : List (Addr × Obj)} {H h : Heap} {L : Addr} {news' : List (Addr × Obj)}
theorem RD.repn (o : r.ok P news) (N : News H L h news') (hs : ∀ p ∈ r.nw P news, p ∈ news') : Rep P (hf h) r.n :=
  have g : ∀ b ob, (b, ob) ∈ r.big → h.get? b = some ob := fun b ob hm => (N _ (hs _ (.tail _ (.tail _ (List.mem_append_right _ hm))))).1
  ⟨⟨r.t1, r.t2, r.t3, r.td, g _ _ o.ma, (N _ (hs _ (.tail _ (.head _)))).1⟩, ⟨r.nL, (N _ (hs _ (.head _))).1⟩, o.rep.mono g⟩
theorem RD.size (o : r.ok P news) : r.n.size ≤ 18 := by have := o.sz; simp [RD.n, Nd.size]; omega
theorem RD.height (o : r.ok P news) : r.n.height ≤ 20 := Nat.le_trans (height_size _) (Nat.le_trans (RD.size o) (by decide))
theorem RD.plen (o : r.ok P news) : (pre r.n).length ≤ 18 := by
  have := preL_length [r.n]
  have h2 := RD.size o
  simp only [preL, sizeL, List.append_nil] at this
  omega
theorem here_all {ns : List Nd} (hr : RepL P (hf h) ns) : ∀ v ∈ ns.map Nd.val, Here h v := fun v hv => by
  obtain ⟨k, hk, rfl⟩ := List.mem_map.mp hv
  exact (repL_iff.mp hr k hk).here
theorem repL_filter {ns : List Nd} (hr : RepL P (hf h) ns) (q : Nd → Bool) : RepL P (hf h) (ns.filter q) := repL_iff.mpr fun k hk => repL_iff.mp hr k (List.mem_filter.mp hk).1
end
theorem made_rest {prog : Program} {w : World} {A : Around} {H : Heap} {all : List Value} {s s' : Shared} {v : Value} (h : GenMade prog w A H all s v s') : Rest 0 s s' := by
  obtain ⟨ga, _, _, _, _, hos, hgz, _, hba, _⟩ := h
  exact ⟨fun i hi => absurd hi (Nat.not_lt_zero _), hos, by omega, hba⟩
theorem instOf_news {h₀ h : Heap} {L x C dx : Addr} {od : Obj} {sl : Array (Option Value)} {news : List (Addr × Obj)} (N : News h₀ L h news) (h1 : (x, ⟨.ref C, some dx, .plain, sl⟩) ∈ news) (h2 : (dx, od) ∈ news) :
    InstAt h x ⟨.ref C, some dx, .plain, sl⟩ C (some od) := ⟨(N _ h1).1, rfl, rfl, (N _ h2).1⟩
local macro_rules | `(tactic| k_inst) => `(tactic| (refine' instOf_news ?N ?h1 ?h2; (case N => assumption); (case h1 => first | assumption | exact .tail _ (by assumption) | exact .tail _ (.tail _ (by assumption)) | exact .tail _ (.tail _ (.tail _ (by assumption)))); (case h2 => first | assumption | exact .tail _ (by assumption) | exact .tail _ (.tail _ (by assumption)) | exact .tail _ (.tail _ (.tail _ (by assumption))))))
section
variable {prog : Program} {w : World} {p : Program} {loose : List Str} {mg mb : Str → Option Value} {mean : ExcName → Option Value}
theorem law_3 {s : Shared} {Q : Flow → Shared → Prop} {E : Value → Shared → Prop} {H : Heap} {L fa : Addr} {m : Str → Option Value} {news : List (Addr × Obj)} {r : RD} (X : (hd.heap_39 w.params).In H) (T : Top p loose mean mg mb H)
    (F : Fr H L s.heap m) (N : News H L s.heap (r.nw w.params news)) (ok : r.ok w.params news) (hm : r.names m)
    (hQ : ∀ (s' : Shared) (m' : Str → Option Value), Fr H L s'.heap m' → News H L s'.heap (r.nw w.params news) → r.names m' → Rest 0 s s' → wpAny (model prog w) (Ar 302 500) (execs (lawSt 6) (lawEnv L fa)) Q E s') :
    wpAny (model prog w) (Ar 302 500) (execs (lawSt 5) (lawEnv L fa)) Q E s := by
  show wpAny _ _ (execs (Stmt.If (Expr.UnaryOp _ (Expr.Call _ _ _ _) _) _ _ _ :: lawSt 6) (envOfC _ (Scope.mk _ _ _ _ _) _ _ _)) _ _ _
  unfold lawEnv at hQ
  generalize lawSt 6 = rest at hQ ⊢
  have F₀ := F
  rw [upd_self hm.numbers, upd_self hm.tree, upd_self hm.trees, upd_self hm.tokens] at F₀
  clear F
  have TH := topRead_of T
  have hma : (r.a, instObj 142 r.dx) ∈ r.nw w.params news := .tail _ (.tail _ (List.mem_append_right _ ok.ma))
  have hmd : (r.dx, dictOf (treeEs w.params r.t1 r.t2 r.t3 (.str (Str.ofString "top") r.td) (.ref r.l)) 3) ∈ r.nw w.params news := .tail _ (.head _)
  repeat' walk1
  show wpAny _ _ _ _ _ _
  refine to_Ar 600 4000 rfl (Nat.le_of_ble_eq_true rfl) (Nat.le_of_ble_eq_true rfl) ?_
  refine gen_comp (h₀ := H) (L := L) (cl := ?cla) rfl (by show 600 < 1000; decide) ?hclosa ?hcella rfl ?hnamesa rfl rfl ?hsa ?_
  case hclosa => exact rfl
  case hcella => decide
  case hnamesa => decide
  case hsa => exact fun _ => rfl
  repeat' walk1
  have hRn := RD.repn ok N fun _ h => h
  refine topdown_call (n := r.n) (X.keeps F₀.keep) (TH.keeps F₀.keep) ?j1 ?j2 ?j3 hRn (Nat.le_trans (RD.size ok) (by decide)) fun v s₁ hg => ?_
  case j1 => exact rfl
  case j2 => exact Nat.le_of_ble_eq_true rfl
  case j3 => exact Nat.le_of_ble_eq_true rfl
  have hr1 := made_rest hg
  obtain ⟨ga, rfl, hk, hn, hn', hos, hgz, hgg, hba, hl1, hig, hga⟩ := hg
  have hlen : ((treesOf (pre r.n)).map Nd.val).length ≤ 18 := by
    rw [List.length_map]
    exact Nat.le_trans (List.length_filter_le _ _) (RD.plen ok)
  refine ⟨ga, _, s.heap, _, _, _, rfl, hig, Nat.le_trans hlen (by decide), hl1, hga, F₀, N, hk, ?_⟩
  intro D nD s₂ F₂ N₂ off₂ hk₂ hDn hrest
  have hRt : RepL w.params (hf s₂.heap) (treesOf (pre r.n)) := repL_filter (rep_pre (RD.repn ok N₂ fun _ h => .tail _ h)) _
  iterate 4 walk1
  refine same_call (X.keeps F₂.keep) (TH.keeps F₂.keep) rfl (Nat.le_of_ble_eq_true rfl) (Nat.le_of_ble_eq_true rfl) (N₂ _ (.head _)).1 (N₂ _ (.tail _ (.tail _ (.tail _ (List.mem_append_right _ ok.mtr))))).1 (Nat.le_trans hlen (by decide)) (Nat.le_trans hlen (by decide)) (here_all hRt) (here_all hRt) fun h₃ tk₃ hk₃ => ?_
  have F₃ := fr_keep F₂ hk₃
  have N₃ := news_keep N₂ hk₃
  rw [beq_self_eq_true]
  clear F₂ F₀ N₂
  repeat' walk1
  dsimp only
  exact hQ _ _ F₃ (fun p hp => N₃ p (.tail _ hp)) ⟨rfl, rfl, rfl, rfl⟩ ((hr1.trans hrest).same)
end
end Mine
end

section
example : True ∧ True := by
  w_top off
  first | (walk1; done) | exact ⟨trivial, trivial⟩
open PySem PySem.W PySem.Calls PyProof.Rows
set_option maxRecDepth 100000
set_option maxHeartbeats 4000000
namespace Mine
local macro_rules | `(tactic| k_inst) => `(tactic| (refine' instOf_base ?F ?h1 ?h2; (case F => k_asm); (case h1 => assumption); (case h2 => assumption)))
local macro_rules | `(tactic| walk_at "eval ListComp") => `(tactic| refine holdC ?_)
local macro_rules | `(tactic| walk_at "eval Name") => `(tactic| ((with_reducible show wpAny _ _ (eval (.Name _ _) (compEnvC _ _ _ _)) _ _ _); first
  | (refine' nmG_L ?F ?hv ?_ ?hk ?hx ?hd; (case hk => exact rfl); (case hx => exact rfl); (case hd => exact rfl); (case F => assumption); (case hv => assumption))
  | (refine' nmG_K ?F ?X ?T ?e ?_ ?hk ?hx ?hg ?hd; (case hk => exact rfl); (case hx => exact rfl); (case hg => exact rfl); (case hd => exact rfl); (case F => assumption); (case X => assumption); (case T => assumption); (case e => k_is))
  | (refine' nmG_B ?F ?X ?T ?e ?hv ?hn ?_ ?hk ?hx ?hg ?hb ?hd; (case hk => exact rfl); (case hx => exact rfl); (case hg => exact rfl); (case hb => exact rfl); (case hd => exact rfl); (case F => assumption); (case X => assumption); (case T => assumption); (case e => k_is); (case hv => rfl); (case hn => decide))))
local macro_rules | `(tactic| k_inst) => `(tactic| (refine' instOf_news ?N ?h1 ?h2; (case N => assumption); (case h1 => first | assumption | exact .tail _ (by assumption) | exact .tail _ (.tail _ (by assumption)) | exact .tail _ (.tail _ (.tail _ (by assumption)))); (case h2 => first | assumption | exact .tail _ (by assumption) | exact .tail _ (.tail _ (by assumption)) | exact .tail _ (.tail _ (.tail _ (by assumption))))))
local macro_rules | `(tactic| k_inst) => `(tactic| (refine' instOf_base ?F ?h1 ?h2; (case F => k_asm); (case h1 => assumption); (case h2 => assumption)))
def evenT : Nd → Bool
  | .tok _ _ v => v.fmod 2 == 0
  | _ => false
abbrev nwL (L : Addr) (o3 o2 o1 : Obj) (p1 p2 p3 : Array Value) : List (Addr × Obj) := [(L + 1 + 1 + 1, o3), (L + 1 + 1, o2), (L + 1, o1), (106, tabObj p1), (99, tabObj p2), (165, tabObj p3)]
theorem ok_keys {r : RD} {P : Params} {news news' : List (Addr × Obj)} (o : r.ok P news) (h : news.map (·.1) = news'.map (·.1)) : r.ok P news' := by
  have m : ∀ q ∈ news', ∃ q' ∈ news, q'.1 = q.1 := fun q hq => by
    have := List.mem_map_of_mem (f := (·.1)) hq
    rw [← h] at this
    obtain ⟨q', hq', e⟩ := List.mem_map.mp this
    exact ⟨q', hq', e⟩
  refine ⟨o.rep, o.ma, o.mn, o.mtr, o.mto, o.ld, fun p hp => ⟨(o.off p hp).1, (o.off p hp).2.1, fun q hq => ?_⟩, fun q hq => ?_, o.sh, o.nd, o.sz, o.hints, o.hlen⟩
  · obtain ⟨q', hq', e⟩ := m q hq
    rw [← e]
    exact (o.off p hp).2.2 q' hq'
  · obtain ⟨q', hq', e⟩ := m q hq
    rw [← e]
    exact o.offn q' hq'
section
variable {prog : Program} {w : World} {p : Program} {loose : List Str} {mg mb : Str → Option Value} {mean : ExcName → Option Value}
theorem law_4 {s : Shared} {Q : Flow → Shared → Prop} {E : Value → Shared → Prop} {H : Heap} {L fa : Addr} {m : Str → Option Value} {o3 o2 o1 : Obj} {p1 p2 : Array Value} {r : RD} (X : (hd.heap_39 w.params).In H) (T : Top p loose mean mg mb H) (hC : CodeHd H 167 165) (hl0 : 165 < L)
    (F : Fr H L s.heap m) (N : News H L s.heap (r.nw w.params (nwL L o3 o2 o1 p1 p2 #[]))) (ok : r.ok w.params (nwL L o3 o2 o1 p1 p2 #[])) (hm : r.names m)
    (hQ : ∀ (s' : Shared) (m' : Str → Option Value) (col : Int) (c' : Addr), Fr H L s'.heap m' → News H L s'.heap (r.nw w.params (nwL L o3 o2 o1 p1 p2 #[rawInt 107, rawInt col, .ref c'])) → r.names m' → Rest 0 s s' → wpAny (model prog w) (Ar 302 500) (execs (lawSt 7) (lawEnv L fa)) Q E s') :
    wpAny (model prog w) (Ar 302 500) (execs (lawSt 6) (lawEnv L fa)) Q E s := by
  show wpAny _ _ (execs (Stmt.If (Expr.UnaryOp _ (Expr.Call _ _ _ _) _) _ _ _ :: lawSt 7) (envOfC _ (Scope.mk _ _ _ _ _) _ _ _)) _ _ _
  unfold lawEnv at hQ
  generalize lawSt 7 = rest at hQ ⊢
  have F₀ := F
  rw [upd_self hm.numbers, upd_self hm.tree, upd_self hm.trees, upd_self hm.tokens] at F₀
  clear F
  have TH := topRead_of T
  have hma : (r.a, instObj 142 r.dx) ∈ r.nw w.params (nwL L o3 o2 o1 p1 p2 #[]) := .tail _ (.tail _ (List.mem_append_right _ ok.ma))
  have hmd : (r.dx, dictOf (treeEs w.params r.t1 r.t2 r.t3 (.str (Str.ofString "top") r.td) (.ref r.l)) 3) ∈ r.nw w.params (nwL L o3 o2 o1 p1 p2 #[]) := .tail _ (.head _)
  iterate 8 walk1
  show wpAny _ _ _ _ _ _
  refine to_Ar 820 8000 rfl (Nat.le_of_ble_eq_true rfl) (Nat.le_of_ble_eq_true rfl) ?_
  refine gen_comp (h₀ := H) (L := L) (cl := ?cla) rfl (by show 820 < 1000; decide) ?hclosa ?hcella rfl ?hnamesa rfl rfl ?hsa ?_
  case hclosa => exact rfl
  case hcella => decide
  case hnamesa => decide
  case hsa => exact fun _ => rfl
  iterate 5 walk1
  refine kla_eval rfl ?_
  have h165 := ok.offn (165, tabObj #[]) (.tail _ (.tail _ (.tail _ (.tail _ (.tail _ (.head _))))))
  refine kla_nest F₀ N T hC rfl (UpdF.tail (Ne.symm h165.1) (UpdF.tail (Ne.symm h165.2) (UpdF.tail ?n1 (UpdF.tail ?n2 (UpdF.tail ?n3 (UpdF.tail ?n4 (UpdF.tail ?n5 (UpdF.head ?n6)))))))) ?t1 ?t2 rfl ?_
  case n1 => exact Nat.ne_of_gt (Nat.lt_of_lt_of_le hl0 (Nat.le_add_right L 3))
  case n2 => exact Nat.ne_of_gt (Nat.lt_of_lt_of_le hl0 (Nat.le_add_right L 2))
  case n3 => exact Nat.ne_of_gt (Nat.lt_of_lt_of_le hl0 (Nat.le_add_right L 1))
  case n4 => exact (by decide : (106 : Nat) ≠ 165)
  case n5 => exact (by decide : (99 : Nat) ≠ 165)
  case n6 => exact fun q hq => (ok.off q hq).2.2 (165, tabObj #[]) (.tail _ (.tail _ (.tail _ (.tail _ (.tail _ (.head _))))))
  case t1 => exact trivial
  case t2 => exact rfl
  intro f c' oc vs' t' ctv h₂ tk₂ F₂ N₂ d1 d2 l1 l2
  have X₂ := X.keeps F₂.keep
  have T₂ := TH.keeps F₂.keep
  have pred : PredOk prog w h₂ f evenT := by
    refine ⟨⟨_, _, (N₂ _ (.head _)).1, rfl⟩, fun n hn hRn A₁ s₁ Q₁ E₁ hh₁ hd₁ hu₁ hk₁ hq => ?_⟩
    cases n with
    | tree => cases hn
    | tok ta ty tv =>
    obtain ⟨td, w1, w2, w3, w4, hy1, hy2⟩ := hRn
    have y1 := hk₁ _ _ hy1
    have y2 := hk₁ _ _ hy2
    refine wpAny_call (to_ArC 950 9500 hh₁ hd₁ hu₁ ?_)
    refine lam_enter [(Str.ofString "each", .ref ta)] (T₂.nolimit.keeps hk₁) (hk₁ _ _ (N₂ _ (.head _)).1) (hk₁ _ _ (N₂ _ (.tail _ (.head _))).1) d1 d2 (by show 950 < 1000; decide) rfl (locs rfl) ?_ rfl rfl rfl (by decide)
    intro L₃ h₃ tk₃ hL₃ F₃
    have X₃ := X₂.keeps hk₁
    have T₃ := T₂.keeps hk₁
    clear F₂ N₂ X₂ T₂ hk₁ N F₀ hma hmd hQ
    repeat' walk1
    dsimp only
    exact hq _ _ F₃.keep
  iterate 2 walk1
  obtain ⟨col, of, N₃⟩ : ∃ (col : Int) (of : Obj), News H L h₂ ((f, of) :: (c', oc) :: r.nw w.params (nwL L o3 o2 o1 p1 p2 #[rawInt 107, rawInt col, .ref c'])) := ⟨_, _, N₂⟩
  clear N₂
  have ok₂ := ok_keys (news' := nwL L o3 o2 o1 p1 p2 #[rawInt 107, rawInt col, .ref c']) ok rfl
  have hRn := RD.repn ok₂ N₃ fun _ h => .tail _ (.tail _ h)
  refine scan_call (H := h₂) X₂ T₂ pred 20 r.n rfl (RD.height ok) (Nat.le_refl _) hRn (Nat.le_trans (RD.size ok) (by decide)) _ { s with heap := h₂, toks := tk₂ } _ _ ?j1 ?j2 ?j3 (fun _ _ e => e) (Nat.le_refl _) fun v s₁ hg => ?_
  case j1 => exact rfl
  case j2 => exact Nat.le_of_ble_eq_true rfl
  case j3 => exact Nat.le_of_ble_eq_true rfl
  have hr1 := made_rest hg
  obtain ⟨ga, rfl, hk, hn, hn', hos, hgz, hgg, hba, hl1', hig, hga⟩ := hg
  have etk : toksOf (pre r.n) = toksOf (preL r.n.kids) := rfl
  have hpk : (preL r.n.kids).length ≤ 18 := by
    have := RD.plen ok
    have e : pre r.n = r.n :: preL r.n.kids := rfl
    rw [e] at this
    simp at this
    exact Nat.le_trans (Nat.le_succ _) (by simpa using this)
  have hlen : ((toksIf evenT (preL r.n.kids)).map Nd.val).length ≤ 18 := by
    rw [List.length_map]
    exact Nat.le_trans (List.length_filter_le _ _) (Nat.le_trans (List.length_filter_le _ _) hpk)
  refine ⟨ga, _, h₂, _, _, _, rfl, hig, Nat.le_trans hlen (by decide), hl1', hga, F₂, N₃, hk, ?_⟩
  intro D nD s₂ F₄ N₄ off₂ hk₂ hDn hrest
  have hRp : RepL w.params (hf s₂.heap) (pre r.n) := rep_pre (RD.repn ok₂ N₄ fun _ h => .tail _ (.tail _ (.tail _ h)))
  have hRt : RepL w.params (hf s₂.heap) (toksOf (pre r.n)) := repL_filter hRp _
  walk1
  show wpAny _ _ _ _ _ _
  refine compF (h₀ := H) (L := L) (cl := ?clb) (fun v => evenT (ndOf (toksOf (pre r.n)) v)) rfl ?hclosb ?hcellb rfl ?hnamesb rfl rfl ?hsb ?_
  case hclosb => exact rfl
  case hcellb => decide
  case hnamesb => decide
  case hsb => exact fun _ => rfl
  walk1
  have hmto := N₄ _ (.tail _ (.tail _ (.tail _ (.tail _ (.tail _ (List.mem_append_right _ ok.mto))))))
  have hzt : (toksOf (pre r.n)).length ≤ 18 := Nat.le_trans (List.length_filter_le _ _) (RD.plen ok)
  refine ⟨r.tol, ((toksOf (pre r.n)).map Nd.val).toArray, _, _, rfl, ⟨_, hmto.1, rfl, _, rfl⟩, (by simp only [List.size_toArray, List.length_map]; omega), F₄, N₄, ?_, ?_⟩
  · intro C v s₅ m₅ hv F₅ hm₅
    obtain ⟨y, hy, rfl⟩ := mem_val hv
    have hyr := repL_iff.mp hRt y hy
    rw [ndOf_val hRt hy]
    have X₅ := X.keeps F₄.keep
    have T₅ := TH.keeps F₄.keep
    refine wpAny_tests_one ?_
    cases y with
    | tok ta ty tv =>
      obtain ⟨tdx, w1, w2, w3, w4, hy1, hy2⟩ := hyr
      clear hmto
      repeat' walk1
      exact ⟨s₅.heap, _, rfl, fun _ _ e => e⟩
    | tree => exact absurd (List.mem_filter.mp hy).2 Bool.false_ne_true
  · intro D₃ n₃ h₆ tk₆ F₆ N₆ off₆ hk₆ hDn₆
    rw [filt_nd hRt evenT] at N₆
    iterate 2 walk1
    have hRt6 : RepL w.params (hf h₆) (toksIf evenT (preL r.n.kids)) := repL_filter (repL_filter (rep_pre (RD.repn ok₂ N₆ fun _ h => .tail _ (.tail _ (.tail _ (.tail _ h))))) (fun n => !n.isTree)) evenT
    refine same_call (X.keeps F₆.keep) (TH.keeps F₆.keep) rfl (Nat.le_of_ble_eq_true rfl) (Nat.le_of_ble_eq_true rfl) (N₆ _ (.tail _ (.head _))).1 (N₆ _ (.head _)).1 (Nat.le_trans hlen (by decide)) (Nat.le_trans hlen (by decide)) (here_all hRt6) (here_all hRt6) fun h₇ tk₇ hk₇ => ?_
    have F₇ := fr_keep F₆ hk₇
    have N₇ := news_keep N₆ hk₇
    have ebb : (((toksIf evenT (preL r.n.kids)).map Nd.val) == (((toksOf (pre r.n)).filter evenT).map Nd.val)) = true := beq_self_eq_true _
    rw [ebb]
    clear F₆ N₆ F₄ N₄ hmto
    repeat' walk1
    dsimp only
    exact hQ _ _ col c' F₇ (fun p hp => N₇ p (.tail _ (.tail _ (.tail _ (.tail _ hp))))) ⟨rfl, rfl, rfl, rfl⟩ ((Rest.refl.same.trans (hr1.trans hrest)).same)
end
end Mine
end

section
example : True ∧ True := by
  w_top off
  first | (walk1; done) | exact ⟨trivial, trivial⟩
open PySem PySem.W PySem.Calls PyProof.Rows
set_option maxRecDepth 100000
set_option maxHeartbeats 4000000
namespace Mine
local macro_rules | `(tactic| k_inst) => `(tactic| (refine' instOf_base ?F ?h1 ?h2; (case F => k_asm); (case h1 => assumption); (case h2 => assumption)))
local macro_rules | `(tactic| walk_at "eval ListComp") => `(tactic| refine holdC ?_)
local macro_rules | `(tactic| walk_at "eval Name") => `(tactic| ((with_reducible show wpAny _ _ (eval (.Name _ _) (compEnvC _ _ _ _)) _ _ _); first
  | (refine' nmG_L ?F ?hv ?_ ?hk ?hx ?hd; (case hk => exact rfl); (case hx => exact rfl); (case hd => exact rfl); (case F => assumption); (case hv => assumption))
  | (refine' nmG_K ?F ?X ?T ?e ?_ ?hk ?hx ?hg ?hd; (case hk => exact rfl); (case hx => exact rfl); (case hg => exact rfl); (case hd => exact rfl); (case F => assumption); (case X => assumption); (case T => assumption); (case e => k_is))
  | (refine' nmG_B ?F ?X ?T ?e ?hv ?hn ?_ ?hk ?hx ?hg ?hb ?hd; (case hk => exact rfl); (case hx => exact rfl); (case hg => exact rfl); (case hb => exact rfl); (case hd => exact rfl); (case F => assumption); (case X => assumption); (case T => assumption); (case e => k_is); (case hv => rfl); (case hn => decide))))
theorem RD.repG {r : RD} {P : Params} {news : List (Addr × Obj)} {G : Facts} (o : r.ok P news) (hl : G r.l (listOf (r.ks.map Nd.val).toArray r.nL)) (hd : G r.dx (dictOf (treeEs P r.t1 r.t2 r.t3 (.str (Str.ofString "top") r.td) (.ref r.l)) 3)) (hb : ∀ b ob, (b, ob) ∈ r.big → G b ob) : Rep P G r.n :=
  ⟨⟨r.t1, r.t2, r.t3, r.td, hb _ _ o.ma, hd⟩, ⟨r.nL, hl⟩, o.rep.mono hb⟩
theorem news_at {h₀ h h' : Heap} {L D : Addr} {o o' : Obj} {own rest : List (Addr × Obj)} (N : News h₀ L h (own ++ (D, o) :: rest)) (h1 : ∀ p ∈ own, p.1 ≠ D) (h2 : ∀ p ∈ rest, p.1 ≠ D) (hk : ∀ b x, b ≠ D → h.get? b = some x → h'.get? b = some x) (ho : h'.get? D = some o') : News h₀ L h' (own ++ (D, o') :: rest) := by
  intro p hp
  rcases List.mem_append.mp hp with hp | hp
  · have q := N p (List.mem_append_left _ hp)
    exact ⟨hk _ _ (h1 p hp) q.1, q.2⟩
  · rcases List.mem_cons.mp hp with rfl | hp
    · exact ⟨ho, (N (D, o) (List.mem_append_right _ (.head _))).2⟩
    · have q := N p (List.mem_append_right _ (.tail _ hp))
      exact ⟨hk _ _ (h2 p hp) q.1, q.2⟩
section
variable {prog : Program} {w : World} {p : Program} {loose : List Str} {mg mb : Str → Option Value} {mean : ExcName → Option Value}
theorem law_5 {s : Shared} {Q : Flow → Shared → Prop} {E : Value → Shared → Prop} {H : Heap} {L fa : Addr} {m : Str → Option Value} {o3 o2 o1 : Obj} {p2 p3 : Array Value} {r : RD} (X : (hd.heap_39 w.params).In H) (T : Top p loose mean mg mb H) (hC : CodeHd H 110 106) (hl0 : 165 < L) (hHL : H.objs.size ≤ L)
    (F : Fr H L s.heap m) (N : News H L s.heap (r.nw w.params (nwL L o3 o2 o1 #[] p2 p3))) (ok : r.ok w.params (nwL L o3 o2 o1 #[] p2 p3)) (hm : r.names m)
    (hQ : ∀ (s' : Shared) (m' : Str → Option Value) (p1 : Array Value), Fr H L s'.heap m' → News H L s'.heap (r.nw w.params (nwL L o3 o2 o1 p1 p2 p3)) → r.names m' → Rest 0 s s' → wpAny (model prog w) (Ar 302 500) (execs (lawSt 8) (lawEnv L fa)) Q E s') :
    wpAny (model prog w) (Ar 302 500) (execs (lawSt 7) (lawEnv L fa)) Q E s := by
  show wpAny _ _ (execs (Stmt.If (Expr.UnaryOp _ (Expr.Call _ _ _ _) _) _ _ _ :: lawSt 8) (envOfC _ (Scope.mk _ _ _ _ _) _ _ _)) _ _ _
  unfold lawEnv at hQ
  generalize lawSt 8 = rest at hQ ⊢
  have F₀ := F
  rw [upd_self hm.numbers, upd_self hm.tree, upd_self hm.trees, upd_self hm.tokens] at F₀
  clear F
  have TH := topRead_of T
  have hma : (r.a, instObj 142 r.dx) ∈ r.nw w.params (nwL L o3 o2 o1 #[] p2 p3) := .tail _ (.tail _ (List.mem_append_right _ ok.ma))
  have hmd : (r.dx, dictOf (treeEs w.params r.t1 r.t2 r.t3 (.str (Str.ofString "top") r.td) (.ref r.l)) 3) ∈ r.nw w.params (nwL L o3 o2 o1 #[] p2 p3) := .tail _ (.head _)
  iterate 8 walk1
  show wpAny _ _ _ _ _ _
  refine to_Ar 820 8000 rfl (Nat.le_of_ble_eq_true rfl) (Nat.le_of_ble_eq_true rfl) ?_
  refine gen_comp (h₀ := H) (L := L) (cl := ?cla) rfl (by show 820 < 1000; decide) ?hclosa ?hcella rfl ?hnamesa rfl rfl ?hsa ?_
  case hclosa => exact rfl
  case hcella => decide
  case hnamesa => decide
  case hsa => exact fun _ => rfl
  iterate 8 walk1
  have hnT : H.get? 106 = none := (N (106, tabObj #[]) (.tail _ (.tail _ (.tail _ (.tail _ (.tail _ (.head _))))))).2.2
  have h106 := ok.offn (106, tabObj #[]) (.tail _ (.tail _ (.tail _ (.head _))))
  have o106 := fun q hq => (ok.off q hq).2.2 (106, tabObj #[]) (.tail _ (.tail _ (.tail _ (.head _))))
  have hRn : Rep w.params (fun b o => s.heap.get? b = some o ∧ b ≠ 106) r.n := RD.repG ok ⟨(N _ (.head _)).1, Ne.symm h106.1⟩ ⟨(N _ (.tail _ (.head _))).1, Ne.symm h106.2⟩ fun b ob hb => ⟨(N _ (.tail _ (.tail _ (List.mem_append_right _ hb)))).1, o106 _ hb⟩
  refine find_token_call (H := H) (n := r.n) (x := Str.ofString "X") X T F₀.keep (Nat.le_trans hHL (Nat.le_of_lt F₀.ns.lt)) hnT (N (106, tabObj #[]) (.tail _ (.tail _ (.tail _ (.tail _ (.tail _ (.head _))))))).1 hC ?j1 ?j2 ?j3 rfl hRn (Nat.le_trans (RD.size ok) (by decide)) (RD.height ok) ?_
  case j1 => exact rfl
  case j2 => exact Nat.le_of_ble_eq_true rfl
  case j3 => exact Nat.le_of_ble_eq_true rfl
  intro h₂ tk₂ v s₁ hgr hg
  obtain ⟨hgk, p1, hgt⟩ := hgr
  dsimp only at hgk hgt
  have n1L : (L + 1 + 1 + 1 : Nat) ≠ 106 := Nat.ne_of_gt (Nat.lt_of_lt_of_le (Nat.lt_trans (by decide : 106 < 165) hl0) (Nat.le_add_right L 3))
  have n2L : (L + 1 + 1 : Nat) ≠ 106 := Nat.ne_of_gt (Nat.lt_of_lt_of_le (Nat.lt_trans (by decide : 106 < 165) hl0) (Nat.le_add_right L 2))
  have n3L : (L + 1 : Nat) ≠ 106 := Nat.ne_of_gt (Nat.lt_of_lt_of_le (Nat.lt_trans (by decide : 106 < 165) hl0) (Nat.le_add_right L 1))
  have n4L : (106 : Nat) ≠ L := Nat.ne_of_lt (Nat.lt_trans (by decide : 106 < 165) hl0)
  have F₂ := fr_ext F₀ hnT n4L hgk
  have N₂ : News H L h₂ (r.nw w.params (nwL L o3 o2 o1 p1 p2 p3)) := news_at (own := [_, _, _, _, _]) N (by
    intro q hq
    simp only [List.mem_cons, List.not_mem_nil, or_false] at hq
    rcases hq with rfl | rfl | rfl | rfl | rfl
    · exact Ne.symm h106.1
    · exact Ne.symm h106.2
    · exact n1L
    · exact n2L
    · exact n3L) (by
    intro q hq
    rcases List.mem_cons.mp hq with rfl | hq
    · exact (by decide : (99 : Nat) ≠ 106)
    rcases List.mem_cons.mp hq with rfl | hq
    · exact (by decide : (165 : Nat) ≠ 106)
    · exact o106 q hq) hgk hgt
  have ok₂ := ok_keys (news' := nwL L o3 o2 o1 p1 p2 p3) ok rfl
  have hr1 := made_rest hg
  obtain ⟨ga, rfl, hk, hn, hn', hos, hgz, hgg, hba, hl1', hig, hga⟩ := hg
  have hpk : (preL r.n.kids).length ≤ 18 := by
    have := RD.plen ok
    have e : pre r.n = r.n :: preL r.n.kids := rfl
    rw [e] at this
    exact Nat.le_trans (Nat.le_succ _) (by simpa using this)
  have hlen : ((toksIf (typeT (Str.ofString "X")) (preL r.n.kids)).map Nd.val).length ≤ 18 := by
    rw [List.length_map]
    exact Nat.le_trans (List.length_filter_le _ _) (Nat.le_trans (List.length_filter_le _ _) hpk)
  refine ⟨ga, _, h₂, _, _, _, rfl, hig, Nat.le_trans hlen (by decide), hl1', hga, F₂, N₂, hk, ?_⟩
  intro D nD s₂ F₄ N₄ off₂ hk₂ hDn hrest
  have hRp : RepL w.params (hf s₂.heap) (pre r.n) := rep_pre (RD.repn ok₂ N₄ fun _ h => .tail _ h)
  have hRt : RepL w.params (hf s₂.heap) (toksOf (pre r.n)) := repL_filter hRp _
  clear N F₀ N₂ F₂
  walk1
  show wpAny _ _ _ _ _ _
  refine compF (h₀ := H) (L := L) (cl := ?clb) (fun v => typeT (Str.ofString "X") (ndOf (toksOf (pre r.n)) v)) rfl ?hclosb ?hcellb rfl ?hnamesb rfl rfl ?hsb ?_
  case hclosb => exact rfl
  case hcellb => decide
  case hnamesb => decide
  case hsb => exact fun _ => rfl
  walk1
  have hmto := N₄ _ (.tail _ (.tail _ (.tail _ (List.mem_append_right _ ok.mto))))
  have hzt : (toksOf (pre r.n)).length ≤ 18 := Nat.le_trans (List.length_filter_le _ _) (RD.plen ok)
  refine ⟨r.tol, ((toksOf (pre r.n)).map Nd.val).toArray, _, _, rfl, ⟨_, hmto.1, rfl, _, rfl⟩, (by simp only [List.size_toArray, List.length_map]; omega), F₄, N₄, ?_, ?_⟩
  · intro C v s₅ m₅ hv F₅ hm₅
    obtain ⟨y, hy, rfl⟩ := mem_val hv
    have hyr := repL_iff.mp hRt y hy
    rw [ndOf_val hRt hy]
    have X₅ := X.keeps F₄.keep
    have T₅ := TH.keeps F₄.keep
    refine wpAny_tests_one ?_
    cases y with
    | tok ta ty tv =>
      obtain ⟨tdx, w1, w2, w3, w4, hy1, hy2⟩ := hyr
      clear hmto
      repeat' walk1
      exact ⟨s₅.heap, _, rfl, fun _ _ e => e⟩
    | tree => exact absurd (List.mem_filter.mp hy).2 Bool.false_ne_true
  · intro D₃ n₃ h₆ tk₆ F₆ N₆ off₆ hk₆ hDn₆
    rw [filt_nd hRt (typeT (Str.ofString "X"))] at N₆
    iterate 2 walk1
    have hRt6 : RepL w.params (hf h₆) (toksIf (typeT (Str.ofString "X")) (preL r.n.kids)) := repL_filter (repL_filter (rep_pre (RD.repn ok₂ N₆ fun _ h => .tail _ (.tail _ h))) (fun n => !n.isTree)) (typeT (Str.ofString "X"))
    refine same_call (X.keeps F₆.keep) (TH.keeps F₆.keep) rfl (Nat.le_of_ble_eq_true rfl) (Nat.le_of_ble_eq_true rfl) (N₆ _ (.tail _ (.head _))).1 (N₆ _ (.head _)).1 (Nat.le_trans hlen (by decide)) (Nat.le_trans hlen (by decide)) (here_all hRt6) (here_all hRt6) fun h₇ tk₇ hk₇ => ?_
    have F₇ := fr_keep F₆ hk₇
    have N₇ := news_keep N₆ hk₇
    have ebb : (((toksIf (typeT (Str.ofString "X")) (preL r.n.kids)).map Nd.val) == (((toksOf (pre r.n)).filter (typeT (Str.ofString "X"))).map Nd.val)) = true := beq_self_eq_true _
    rw [ebb]
    clear F₆ N₆ F₄ N₄ hmto
    repeat' walk1
    dsimp only
    exact hQ _ _ p1 F₇ (fun p hp => N₇ p (.tail _ (.tail _ hp))) ⟨rfl, rfl, rfl, rfl⟩ (((Rest.refl (s := s)).same.trans (hr1.trans hrest)).same)
end
end Mine
end

section
example : True ∧ True := by
  w_top off
  first | (walk1; done) | exact ⟨trivial, trivial⟩
open PySem PySem.W PySem.Calls PyProof.Rows
set_option maxRecDepth 100000
set_option maxHeartbeats 4000000
namespace Mine
local macro_rules | `(tactic| k_inst) => `(tactic| (refine' instOf_base ?F ?h1 ?h2; (case F => k_asm); (case h1 => assumption); (case h2 => assumption)))
local macro_rules | `(tactic| k_inst) => `(tactic| (refine' instOf_news ?N ?h1 ?h2; (case N => assumption); (case h1 => first | assumption | exact .tail _ (by assumption) | exact .tail _ (.tail _ (by assumption)) | exact .tail _ (.tail _ (.tail _ (by assumption)))); (case h2 => first | assumption | exact .tail _ (by assumption) | exact .tail _ (.tail _ (by assumption)) | exact .tail _ (.tail _ (.tail _ (by assumption))))))
local macro_rules | `(tactic| walk_at "call builtin:len") => `(tactic| ((with_reducible show wpAny _ _ (call (Value.builtin "len") [Value.ref _]) _ _ _); (refine' len_news ?N ?hm ?hz ?_; (case N => assumption); (case hm => first | exact .head _ | exact .tail _ (.head _) | exact .tail _ (.tail _ (.head _)) | exact .tail _ (.tail _ (.tail _ (.head _))) | exact .tail _ (.tail _ (.tail _ (.tail _ (.head _))))); (case hz => (simp; omega)); intro tLen tkLen)))
local macro_rules | `(tactic| walk_at "eval ListComp") => `(tactic| refine holdC ?_)
local macro_rules | `(tactic| walk_at "eval Name") => `(tactic| ((with_reducible show wpAny _ _ (eval (.Name _ _) (compEnvC _ _ _ _)) _ _ _); first
  | (refine' nmG_L ?F ?hv ?_ ?hk ?hx ?hd; (case hk => exact rfl); (case hx => exact rfl); (case hd => exact rfl); (case F => assumption); (case hv => assumption))
  | (refine' nmG_K ?F ?X ?T ?e ?_ ?hk ?hx ?hg ?hd; (case hk => exact rfl); (case hx => exact rfl); (case hg => exact rfl); (case hd => exact rfl); (case F => assumption); (case X => assumption); (case T => assumption); (case e => k_is))
  | (refine' nmG_B ?F ?X ?T ?e ?hv ?hn ?_ ?hk ?hx ?hg ?hb ?hd; (case hk => exact rfl); (case hx => exact rfl); (case hg => exact rfl); (case hb => exact rfl); (case hd => exact rfl); (case F => assumption); (case X => assumption); (case T => assumption); (case e => k_is); (case hv => rfl); (case hn => decide))))
abbrev RD.add (r : RD) (e : Addr × Obj) : RD := { r with big := e :: r.big }
theorem RD.ok_add {r : RD} {P : Params} {news : List (Addr × Obj)} {e : Addr × Obj} (o : r.ok P news) (h : ∀ q ∈ r.nw P news, q.1 ≠ e.1) : (r.add e).ok P news := by
  refine ⟨o.rep.mono fun _ _ h => .tail _ h, .tail _ o.ma, .tail _ o.mn, .tail _ o.mtr, .tail _ o.mto, o.ld, fun p hp => ?_, o.offn, o.sh, o.nd, o.sz, o.hints, o.hlen⟩
  rcases List.mem_cons.mp hp with rfl | hp
  · exact ⟨Ne.symm (h _ (.head _)), Ne.symm (h _ (.tail _ (.head _))), fun q hq => Ne.symm (h q (.tail _ (.tail _ (List.mem_append_left _ hq))))⟩
  · exact o.off p hp
theorem nw_add {r : RD} {P : Params} {news : List (Addr × Obj)} {e : Addr × Obj} {h₀ h : Heap} {L : Addr} (N : News h₀ L h (e :: r.nw P news)) : News h₀ L h ((r.add e).nw P news) := by
  intro p hp
  simp only [List.mem_cons, List.mem_append] at hp
  refine N p ?_
  simp only [List.mem_cons, List.mem_append]
  rcases hp with h | h | h | h | h
  · exact .inr (.inl h)
  · exact .inr (.inr (.inl h))
  · exact .inr (.inr (.inr (.inl h)))
  · exact .inl h
  · exact .inr (.inr (.inr (.inr h)))
theorem told_perm {n : Nd} (ht : n.isTree = true) : (told n).Perm (treesOf (pre n)) := by
  have h := bfs_perm n.size [n] (fun x hx => by rw [List.mem_singleton.mp hx]; exact ht) (by simp [sizeL])
  have e : preL [n] = pre n := by simp [preL]
  rw [e] at h
  exact (List.reverse_perm _).trans h
theorem nodup_trees {n : Nd} (h : ((pre n).map Nd.addr).Nodup) : ((treesOf (pre n)).map Nd.addr).Nodup := h.sublist (List.Sublist.map _ List.filter_sublist)
section
variable {prog : Program} {w : World} {p : Program} {loose : List Str} {mg mb : Str → Option Value} {mean : ExcName → Option Value}
theorem law_6 {s : Shared} {Q : Flow → Shared → Prop} {E : Value → Shared → Prop} {H : Heap} {L fa : Addr} {m : Str → Option Value} {news : List (Addr × Obj)} {r : RD} (X : (hd.heap_39 w.params).In H) (T : Top p loose mean mg mb H)
    (F : Fr H L s.heap m) (N : News H L s.heap (r.nw w.params news)) (ok : r.ok w.params news) (hm : r.names m)
    (hQ : ∀ (s' : Shared) (m' : Str → Option Value) (tdl : Addr) (nt : Nat), (∀ q ∈ r.nw w.params news, q.1 ≠ tdl) → Fr H L s'.heap m' → News H L s'.heap ((r.add (tdl, listOf ((told r.n).map Nd.val).toArray nt)).nw w.params news) → r.names m' → m' (Str.ofString "told") = some (.ref tdl) → Rest 0 s s' →
      wpAny (model prog w) (Ar 302 500) (execs (lawSt 10) (lawEnv L fa)) Q E s') :
    wpAny (model prog w) (Ar 302 500) (execs (lawSt 8) (lawEnv L fa)) Q E s := by
  show wpAny _ _ (execs (Stmt.Assign _ (Expr.ListComp _ _ _ _) _ :: Stmt.If (Expr.Compare _ _ _ _) _ _ _ :: lawSt 10) (envOfC _ (Scope.mk _ _ _ _ _) _ _ _)) _ _ _
  unfold lawEnv at hQ
  generalize lawSt 10 = rest at hQ ⊢
  have F₀ := F
  rw [upd_self hm.numbers, upd_self hm.tree, upd_self hm.trees, upd_self hm.tokens] at F₀
  clear F
  have TH := topRead_of T
  have hma : (r.a, instObj 142 r.dx) ∈ r.nw w.params news := .tail _ (.tail _ (List.mem_append_right _ ok.ma))
  have hmd : (r.dx, dictOf (treeEs w.params r.t1 r.t2 r.t3 (.str (Str.ofString "top") r.td) (.ref r.l)) 3) ∈ r.nw w.params news := .tail _ (.head _)
  walk1
  refine compFA (h₀ := H) (L := L) (cl := ?cla) (fun v => true) rfl ?hswa ?hclosa ?hcella rfl ?hnamesa rfl rfl ?hsa rfl rfl rfl ?_
  case hswa => exact rfl
  case hclosa => exact rfl
  case hcella => decide
  case hnamesa => decide
  case hsa => exact fun _ => rfl
  iterate 4 walk1
  have hzt : (told r.n).length ≤ 18 := by
    rw [(told_perm (n := r.n) rfl).length_eq]
    exact Nat.le_trans (List.length_filter_le _ _) (RD.plen ok)
  have hztr : (treesOf (pre r.n)).length ≤ 18 := Nat.le_trans (List.length_filter_le _ _) (RD.plen ok)
  refine iter_call (n := r.n) (X.keeps F₀.keep) (TH.keeps F₀.keep) (RD.repn ok N fun _ h => h) (Nat.le_trans (RD.size ok) (by decide)) rfl (nodup_trees ok.nd) rfl (Nat.le_of_ble_eq_true rfl) (Nat.le_of_ble_eq_true rfl) fun D nD h₂ tk₂ hk₂ hDn hD => ?_
  have F₂ := fr_keep F₀ hk₂
  have N₂ := news_keep N hk₂
  refine ⟨D, ((told r.n).map Nd.val).toArray, _, _, rfl, ⟨_, hD, rfl, _, rfl⟩, (by simp only [List.size_toArray, List.length_map]; omega), F₂, N₂, ?_, ?_⟩
  · intro C v s₅ m₅ hv F₅ hm₅
    exact wpAny_pure ⟨rfl, s₅.heap, s₅.toks, rfl, fun _ _ e => e⟩
  · intro tdl nt h₃ tk₃ F₃ N₃ off₃ hn₃
    rw [List.filter_eq_self.mpr fun _ _ => rfl] at N₃
    replace N₃ : News H L h₃ ((tdl, listOf ((told r.n).map Nd.val).toArray nt) :: r.nw w.params news) := N₃
    have hmtr : (r.trl, listOf ((treesOf (pre r.n)).map Nd.val).toArray r.ntr) ∈ (tdl, listOf ((told r.n).map Nd.val).toArray nt) :: r.nw w.params news := .tail _ (.tail _ (.tail _ (List.mem_append_right _ ok.mtr)))
    clear N N₂ F₀ F₂
    dsimp only
    iterate 9 walk1
    refine len_news N₃ (.head _) (by simp only [List.size_toArray, List.length_map]; omega) fun tl tkl => ?_
    iterate 6 walk1
    refine len_news N₃ hmtr (by simp only [List.size_toArray, List.length_map]; omega) fun tl2 tkl2 => ?_
    have esz : ((told r.n).map Nd.val).toArray.size = ((treesOf (pre r.n)).map Nd.val).toArray.size := by
      rw [List.size_toArray, List.size_toArray, List.length_map, List.length_map, (told_perm (n := r.n) rfl).length_eq]
    rw [esz]
    repeat' walk1
    · rename_i hne
      exact absurd rfl hne
    · dsimp only
      exact hQ _ _ tdl nt off₃ F₃ (nw_add N₃) ⟨rfl, rfl, rfl, rfl⟩ rfl (Rest.refl (s := s)).same
end
end Mine
end

section
example : True ∧ True := by
  w_top off
  first | (walk1; done) | exact ⟨trivial, trivial⟩
open PySem PySem.W PySem.Calls PyProof.Rows
set_option maxRecDepth 100000
set_option maxHeartbeats 4000000
namespace Mine
local macro_rules | `(tactic| k_inst) => `(tactic| (refine' instOf_base ?F ?h1 ?h2; (case F => k_asm); (case h1 => assumption); (case h2 => assumption)))
local macro_rules | `(tactic| k_inst) => `(tactic| (refine' instOf_news ?N ?h1 ?h2; (case N => assumption); (case h1 => first | assumption | exact .tail _ (by assumption) | exact .tail _ (.tail _ (by assumption)) | exact .tail _ (.tail _ (.tail _ (by assumption)))); (case h2 => first | assumption | exact .tail _ (by assumption) | exact .tail _ (.tail _ (by assumption)) | exact .tail _ (.tail _ (.tail _ (by assumption))))))
local macro_rules | `(tactic| walk_at "call builtin:len") => `(tactic| ((with_reducible show wpAny _ _ (call (Value.builtin "len") [Value.ref _]) _ _ _); (refine' len_news ?N ?hm ?hz ?_; (case N => assumption); (case hm => first | exact .head _ | exact .tail _ (.head _) | exact .tail _ (.tail _ (.head _)) | exact .tail _ (.tail _ (.tail _ (.head _))) | exact .tail _ (.tail _ (.tail _ (.tail _ (.head _))))); (case hz => (simp; omega)); intro tLen tkLen)))
local macro_rules | `(tactic| walk_at "eval ListComp") => `(tactic| refine holdC ?_)
local macro_rules | `(tactic| walk_at "eval Name") => `(tactic| ((with_reducible show wpAny _ _ (eval (.Name _ _) (compEnvC _ _ _ _)) _ _ _); first
  | (refine' nmG_L ?F ?hv ?_ ?hk ?hx ?hd; (case hk => exact rfl); (case hx => exact rfl); (case hd => exact rfl); (case F => assumption); (case hv => assumption))
  | (refine' nmG_K ?F ?X ?T ?e ?_ ?hk ?hx ?hg ?hd; (case hk => exact rfl); (case hx => exact rfl); (case hg => exact rfl); (case hd => exact rfl); (case F => assumption); (case X => assumption); (case T => assumption); (case e => k_is))
  | (refine' nmG_B ?F ?X ?T ?e ?hv ?hn ?_ ?hk ?hx ?hg ?hb ?hd; (case hk => exact rfl); (case hx => exact rfl); (case hg => exact rfl); (case hb => exact rfl); (case hd => exact rfl); (case F => assumption); (case X => assumption); (case T => assumption); (case e => k_is); (case hv => rfl); (case hn => decide))))
abbrev toldO (r : RD) (tdl : Addr) (nt : Nat) : Addr × Obj := (tdl, listOf ((told r.n).map Nd.val).toArray nt)
local macro_rules | `(tactic| walk_at "exec For Tuple Call") => `(tactic| refine holdF ?_)
theorem before_none {ns : List Nd} (hnd : (ns.map Nd.addr).Nodup) {i : Nat} (h : i < ns.length) : ((ns.map Nd.val).take i).filter (fun v => v == (ns[i]).val) = [] := by
  rw [List.filter_eq_nil_iff]
  intro v hv hq
  have e := eq_of_beq hq
  rw [List.mem_take_iff_getElem] at hv
  obtain ⟨j, hj, rfl⟩ := hv
  have hj' : j < i := by simp at hj; omega
  rw [List.getElem_map] at e
  injection e with e
  have h1 : (ns.map Nd.addr)[j]'(by simp; omega) = (ns.map Nd.addr)[i]'(by simpa using h) := by simpa using e
  exact (List.pairwise_iff_getElem.mp hnd) j i _ _ hj' h1
theorem some_left {ns : List Nd} {x : Nd} (h : x ∈ ns) : (ns.map Nd.val).filter (fun v => v == x.val) ≠ [] := by
  intro q
  rw [List.filter_eq_nil_iff] at q
  exact q x.val (List.mem_map_of_mem h) (by simp)
theorem news_dup {h₀ h : Heap} {L : Addr} {news : List (Addr × Obj)} {q : Addr × Obj} (N : News h₀ L h news) (hm : q ∈ news) : News h₀ L h (q :: news) := fun p hp => by
  rcases List.mem_cons.mp hp with rfl | hp
  · exact N _ hm
  · exact N p hp
def stForBody : Stmt → List Stmt
  | .For _ _ b _ _ => b
  | _ => []
noncomputable def lawIn : List Stmt := (stForBody ((lawSt 10).headD default)).drop 1
theorem kid_before {n : Nd} (ht : n.isTree = true) {i : Nat} (hi : i < (told n).length) {c : Nd} (hc : c ∈ treesOf ((told n)[i]).kids) : c ∈ (told n).take i := by
  have hl : (told n).length = (bfs n.size [n]).length := List.length_reverse
  have hj : (bfs n.size [n]).length - 1 - i < (bfs n.size [n]).length := by omega
  have hx : (told n)[i] = (bfs n.size [n])[(bfs n.size [n]).length - 1 - i] := List.getElem_reverse ..
  have hsp : bfs n.size [n] = (bfs n.size [n]).take ((bfs n.size [n]).length - 1 - i) ++ (bfs n.size [n])[(bfs n.size [n]).length - 1 - i] :: (bfs n.size [n]).drop ((bfs n.size [n]).length - 1 - i + 1) := by
    rw [← List.drop_eq_getElem_cons hj, List.take_append_drop]
  have hk := bfs_kids n.size [n] (fun x hx => by rw [List.mem_singleton.mp hx]; exact ht) (by simp [sizeL]) _ _ _ hsp c (hx ▸ hc)
  show c ∈ ((bfs n.size [n]).reverse).take i
  rw [List.take_reverse, List.mem_reverse]
  have e : (bfs n.size [n]).length - i = (bfs n.size [n]).length - 1 - i + 1 := by omega
  rw [e]
  exact hk
theorem instOf_here {h : Heap} {x C dx : Addr} {od : Obj} {sl : Array (Option Value)} (h1 : h.get? x = some ⟨.ref C, some dx, .plain, sl⟩) (h2 : h.get? dx = some od) : InstAt h x ⟨.ref C, some dx, .plain, sl⟩ C (some od) := ⟨h1, rfl, rfl, h2⟩
local macro_rules | `(tactic| k_inst) => `(tactic| (refine' instOf_here ?h1 ?h2; (case h1 => assumption); (case h2 => assumption)))
local macro_rules | `(tactic| walk_at "exec For Name Attribute cons nil") => `(tactic| refine holdF ?_)
section
variable {prog : Program} {w : World} {p : Program} {loose : List Str} {mg mb : Str → Option Value} {mean : ExcName → Option Value}
theorem law_7in {s : Shared} {K : Flow → Shared → Prop} {H : Heap} {L fa tdl e it : Addr} {eo ito : Obj} {nt i : Nat} {tkk : Tok} {m : Str → Option Value} {o3 o2 o1 : Obj} {p1 p2 p3 : Array Value} {r : RD} (X : (hd.heap_39 w.params).In H) (T : Top p loose mean mg mb H) (hl0 : 165 < L)
    (F : Fr H L s.heap m) (N : News H L s.heap ((e, eo) :: (it, ito) :: r.nw w.params (nwL L o3 o2 o1 p1 p2 p3))) (offe : ∀ a b, ∀ q ∈ r.nw w.params (nwL L o3 b a p1 p2 p3), q.1 ≠ e) (offi : ∀ a b, ∀ q ∈ r.nw w.params (nwL L o3 b a p1 p2 p3), q.1 ≠ it)
    (ok : ∀ a b, r.ok w.params (nwL L o3 b a p1 p2 p3)) (hm : r.names m) (htm : toldO r tdl nt ∈ r.big) (hmt : m (Str.ofString "told") = some (.ref tdl)) (hmk : m (Str.ofString "k") = some (.int (i : Nat) tkk)) (hi : i < (told r.n).length) (hc1 : o1.data = .cell (some ((told r.n)[i]).val)) (ho2 : ∃ v, o2.data = .cell v)
    (hK : ∀ (h' : Heap) (tk : Nat) (m' : Str → Option Value) (o2' : Obj), (∃ v, o2'.data = .cell v) → Fr H L h' m' → News H L h' ((e, eo) :: (it, ito) :: r.nw w.params (nwL L o3 o2' o1 p1 p2 p3)) → r.names m' → m' (Str.ofString "told") = some (.ref tdl) → K .next { s with heap := h', toks := tk }) :
    wpAny (model prog w) (Ar 302 500) (execs lawIn (lawEnv L fa)) K (fun _ _ => False) s := by
  show wpAny _ _ (execs (Stmt.For (Expr.Name _ _) (Expr.Attribute _ _ _) _ _ _ :: []) (envOfC _ (Scope.mk _ _ _ _ _) _ _ _)) _ _ _
  have hxm : (told r.n)[i] ∈ told r.n := List.getElem_mem hi
  have hxk : ∀ c ∈ treesOf ((told r.n)[i]).kids, c ∈ (told r.n).take i := fun c hc => kid_before rfl hi hc
  generalize hxe : (told r.n)[i] = x at *
  have TH := topRead_of T
  have F₀ := F
  rw [upd_self hm.numbers, upd_self hm.tree, upd_self hm.trees, upd_self hm.tokens, upd_self hmt, upd_self hmk] at F₀
  clear F
  have repT : ∀ {h' : Heap} {z : List (Addr × Obj)} {a b : Obj}, News H L h' z → (∀ q ∈ r.nw w.params (nwL L o3 b a p1 p2 p3), q ∈ z) → RepL w.params (hf h') (treesOf (pre r.n)) := fun Nz hz => repL_filter (rep_pre (RD.repn (ok _ _) Nz hz)) _
  have hxt : x ∈ treesOf (pre r.n) := (told_mem rfl).mp hxm
  have hxr := repL_iff.mp (repT N fun _ h => .tail _ (.tail _ h)) x hxt
  cases x with
  | tok => exact absurd (List.mem_filter.mp hxt).2 Bool.false_ne_true
  | tree xa xdx xl xd xks =>
  obtain ⟨⟨w1, w2, w3, w4, hx1, hx2⟩, ⟨nxl, hx3⟩, _⟩ := hxr
  walk1
  refine wpAny_For ?_
  iterate 3 walk1
  have hkey : ∀ a b, ∀ q ∈ r.nw w.params (nwL L o3 b a p1 p2 p3), ∃ q' ∈ r.nw w.params (nwL L o3 o2 o1 p1 p2 p3), q'.1 = q.1 := fun a b q hq => by
    have e : (r.nw w.params (nwL L o3 b a p1 p2 p3)).map (·.1) = (r.nw w.params (nwL L o3 o2 o1 p1 p2 p3)).map (·.1) := rfl
    have := List.mem_map_of_mem (f := (·.1)) hq
    rw [e] at this
    obtain ⟨q', hq', e'⟩ := List.mem_map.mp this
    exact ⟨q', hq', e'⟩
  refine iter_lit F₀ N ⟨_, hx3, rfl, _, rfl⟩ fun jt h₂ jb F₁ N₁ hjb hjl hjn => ?_
  have offj : ∀ b, ∀ q ∈ (e, eo) :: (it, ito) :: r.nw w.params (nwL L o3 b o1 p1 p2 p3), q.1 ≠ jt := fun b q hq => by
    rcases List.mem_cons.mp hq with rfl | hq
    · exact Nat.ne_of_lt (hjl _ (.head _))
    rcases List.mem_cons.mp hq with rfl | hq
    · exact Nat.ne_of_lt (hjl _ (.tail _ (.head _)))
    · obtain ⟨q', hq', e'⟩ := hkey o1 b q hq
      rw [← e']
      exact Nat.ne_of_lt (hjl q' (.tail _ (.tail _ hq')))
  have h2 := (ok o1 o2).offn (L + 1 + 1, o2) (.tail _ (.head _))
  have b2 := fun q hq => ((ok o1 o2).off q hq).2.2 (L + 1 + 1, o2) (.tail _ (.head _))
  have l32 : (L + 1 + 1 + 1 : Nat) ≠ L + 1 + 1 := Nat.ne_of_gt (Nat.lt_succ_self _)
  have l12 : (L + 1 : Nat) ≠ L + 1 + 1 := Nat.ne_of_lt (Nat.lt_succ_self _)
  have lt2 : ∀ c : Nat, c ≤ 165 → c ≠ L + 1 + 1 := fun c hc => Nat.ne_of_lt (Nat.lt_succ_of_lt (Nat.lt_succ_of_lt (Nat.lt_of_le_of_lt hc hl0)))
  have hzt : (told r.n).length ≤ 18 := by
    rw [(told_perm (n := r.n) rfl).length_eq]
    exact Nat.le_trans (List.length_filter_le _ _) (RD.plen (ok o1 o2))
  refine for_any (fun k σ => ∃ j h tk m o2 jb, j ≤ xks.length ∧ k = xks.length - j ∧ σ = { s with heap := h, toks := tk } ∧ Fr H L h m ∧ r.names m ∧ m (Str.ofString "told") = some (.ref tdl) ∧ m (Str.ofString "k") = some (.int (i : Nat) tkk) ∧ (∃ v, o2.data = .cell v) ∧
      News H L h ((jt, jb) :: (e, eo) :: (it, ito) :: r.nw w.params (nwL L o3 o2 o1 p1 p2 p3)) ∧ LitIs jb xl j) ?_ xks.length ?_
  · rintro k _ ⟨j, h, tk, m, o2', jb, hj, rfl, rfl, F, hm, hmt, hmk, ⟨v2, ho2⟩, N, hjb⟩
    have hxr := repL_iff.mp (repT N fun _ h => .tail _ (.tail _ (.tail _ h))) _ hxt
    obtain ⟨_, ⟨nxl', hx3'⟩, hxks⟩ := hxr
    have hll : h.IsList xl (xks.map Nd.val).toArray := ⟨_, hx3', rfl, _, rfl⟩
    by_cases hjn : j < xks.length
    · refine next_lit F N (offj _) hjb hll (x := (xks[j]).val) (by rw [List.getElem?_toArray, List.getElem?_map, List.getElem?_eq_getElem hjn]; rfl) fun h₄ jb₄ F₄ N₄ hjb₄ => ?_
      show wpAny _ _ (pure ()) _ _ _
      refine wpAny_pure ?_
      rw [upd_self hm.numbers, upd_self hm.tree, upd_self hm.trees, upd_self hm.tokens, upd_self hmt, upd_self hmk] at F₄
      have hcm : xks[j] ∈ xks := List.getElem_mem hjn
      generalize hce : xks[j] = c at *
      refine wpAny_assign_Name ?_
      refine storeX_C F₄ N₄ rfl (UpdF.tail (Ne.symm (fun q => offj o2' (L + 1 + 1, o2') (.tail _ (.tail _ (.tail _ (.tail _ (.tail _ (.head _)))))) q)) (UpdF.tail (Ne.symm (fun q => offe o1 o2' (L + 1 + 1, o2') (.tail _ (.tail _ (.tail _ (.head _)))) q)) (UpdF.tail (Ne.symm (fun q => offi o1 o2' (L + 1 + 1, o2') (.tail _ (.tail _ (.tail _ (.head _)))) q)) (UpdF.tail (Ne.symm h2.1) (UpdF.tail (Ne.symm h2.2) (UpdF.tail l32 (UpdF.head ?_))))))) ho2 fun h₅ o2n F₅ N₅ hc2 => ?_
      · intro q hq
        rcases List.mem_cons.mp hq with rfl | hq
        · exact l12
        rcases List.mem_cons.mp hq with rfl | hq
        · exact lt2 106 (by decide)
        rcases List.mem_cons.mp hq with rfl | hq
        · exact lt2 99 (by decide)
        rcases List.mem_cons.mp hq with rfl | hq
        · exact lt2 165 (by decide)
        · exact b2 q hq
      have hRt := repT N₅ fun _ h => .tail _ (.tail _ (.tail _ h))
      have hxr₅ := repL_iff.mp hRt _ hxt
      obtain ⟨_, _, hxks₅⟩ := hxr₅
      have hcr := repL_iff.mp hxks₅ c hcm
      clear F₄ N₄
      cases c with
      | tok ca cty cv =>
        obtain ⟨cdx, y1, y2, y3, y4, hy1, hy2⟩ := hcr
        repeat' walk1
        dsimp only
        unfold Hold
        exact ⟨xks.length - (j + 1), by omega, j + 1, h₅, _, _, o2n, jb₄, hjn, rfl, rfl, F₅, ⟨rfl, rfl, rfl, rfl⟩, rfl, rfl, ⟨_, hc2⟩, N₅, hjb₄⟩
      | tree ca cdx cl cd cks =>
        obtain ⟨⟨y1, y2, y3, y4, hy1, hy2⟩, _, _⟩ := hcr
        replace hc2 : o2n.data = .cell (some (.ref ca)) := hc2
        repeat' walk1
        show wpAny _ _ _ _ _ _
        refine compF (h₀ := H) (L := L) (cl := ?clA) (fun v => v == .ref ca) rfl ?hclosA ?hcellA rfl ?hnamesA rfl rfl ?hsA ?_
        case hclosA => exact rfl
        case hcellA => decide
        case hnamesA => decide
        case hsA => exact fun _ => rfl
        have hct := hxk (.tree ca cdx cl cd cks) (List.mem_filter.mpr ⟨hcm, rfl⟩)
        have hct2 := List.mem_of_mem_take hct
        have N₆ := news_dup (q := toldO r tdl nt) N₅ (.tail _ (.tail _ (.tail _ (.tail _ (.tail _ (.tail _ (.tail _ (.tail _ (.tail _ (.tail _ (.tail _ htm)))))))))))
        clear N₅ hy1 hy2
        repeat' walk1
        rename_i h₁₅ F₁₅ N₁₅
        rw [pick_upto (Int.natCast_nonneg i), Int.toNat_natCast] at N₁₅
        have gone : h₁₅.get? (L + 1 + 1) = some o2n := (N₁₅ (L + 1 + 1, o2n) (.tail _ (.tail _ (.tail _ (.tail _ (.tail _ (.tail _ (.tail _ (.tail _ (.head _)))))))))).1
        have hRt₂ := repT N₁₅ fun _ h => .tail _ (.tail _ (.tail _ (.tail _ (.tail _ h))))
        have hcr₂ := repL_iff.mp hRt₂ _ ((told_mem rfl).mp hct2)
        unfold Hold
        refine ⟨_, (((told r.n).map Nd.val).take i).toArray, _, _, rfl, ⟨_, (N₁₅ _ (.head _)).1, rfl, _, rfl⟩, (by simp only [List.size_toArray, List.length_take, List.length_map]; omega), F₁₅, N₁₅, ?_, ?_⟩
        · intro C v s₅ m₅ hv F₆ hm₅
          rw [List.mem_toArray] at hv
          obtain ⟨y, hy, rfl⟩ := List.mem_map.mp (List.mem_of_mem_take hv)
          have hyr := repL_iff.mp hRt₂ y ((told_mem rfl).mp hy)
          refine wpAny_tests_one ?_
          walk1
          refine nmG_L F₆ hm₅ ?_ rfl rfl
          refine nmG_C F₆ rfl gone hc2 ?_ rfl rfl
          refine is_here (hyr.here.keep F₆.keep) (hcr₂.here.keep F₆.keep) ?_
          exact wpAny_truthy_bool ⟨rfl, s₅.heap, s₅.toks, rfl, fun _ _ e => e⟩
        · intro D₂ n₂ h₁₈ tk₁₈ F₁₈ N₁₉ off₁₈ hk₁₈ hDn₁₈
          have esm : (((told r.n).take i).map Nd.val).filter (fun v => v == (Nd.tree ca cdx cl cd cks).val) ≠ [] := some_left hct
          rw [List.map_take] at esm
          replace esm : (((told r.n).map Nd.val).take i).filter (fun v => v == .ref ca) ≠ [] := esm
          have N₂₀ : News H L h₁₈ ((D₂, listOf ((((told r.n).map Nd.val).take i).filter fun v => v == .ref ca).toArray n₂) :: (jt, jb₄) :: (e, eo) :: (it, ito) :: r.nw w.params (nwL L o3 o2n o1 p1 p2 p3)) := fun q hq => by
            rcases List.mem_cons.mp hq with rfl | hq
            · exact N₁₉ _ (.head _)
            · exact N₁₉ q (.tail _ (.tail _ (.tail _ hq)))
          clear N₁₉
          generalize ((((told r.n).map Nd.val).take i).filter fun v => v == .ref ca) = fl at N₂₀ esm
          clear F₁₅ N₁₅
          iterate 3 walk1
          rename_i l₁₉ h₁₉ F₁₉ N₂₁ lt₁₉
          refine PySem.SeqAt.eq_list_lengthsAt (items := fl.toArray) (items2 := #[]) ⟨_, (N₂₁ _ (.tail _ (.head _))).1, rfl, _, rfl⟩ ⟨_, (N₂₁ _ (.head _)).1, rfl, _, rfl⟩ (by
            cases fl with
            | nil => exact absurd rfl esm
            | cons => rfl) (by rw [cLine_is]; exact Nat.lt_of_le_of_lt (Nat.le_of_eq (rfl : _ = 500)) (by decide)) ?_
          have N₂₂ := news_sub N₂₁ fun q (hq : q ∈ (jt, jb₄) :: (e, eo) :: (it, ito) :: r.nw w.params (nwL L o3 o2n o1 p1 p2 p3)) => .tail _ (.tail _ hq)
          clear N₂₁
          iterate 3 walk1
          refine wpAny_execs_nil ?_
          refine wpAny_execs_nil ?_
          exact ⟨xks.length - (j + 1), by omega, j + 1, h₁₉, _, _, o2n, jb₄, hjn, rfl, rfl, F₁₉, ⟨rfl, rfl, rfl, rfl⟩, rfl, rfl, ⟨_, hc2⟩, N₂₂, hjb₄⟩
    · refine next_lit_end rfl F N (offj _) hjb hll (by rw [List.getElem?_toArray, List.getElem?_map, List.getElem?_eq_none (by omega)]; rfl) fun h₄ F₄ N₄ => ?_
      dsimp only
      repeat' walk1
      exact hK _ _ m o2' ⟨_, ho2⟩ F₄ N₄ hm hmt
  · refine ⟨0, h₂, _, _, o2, jb, Nat.zero_le _, rfl, rfl, F₁, ⟨rfl, rfl, rfl, rfl⟩, rfl, rfl, ho2, N₁, hjb⟩
end
end Mine
end

section
example : True ∧ True := by
  w_top off
  first | (walk1; done) | exact ⟨trivial, trivial⟩
open PySem PySem.W PySem.Calls PyProof.Rows
set_option maxRecDepth 100000
set_option maxHeartbeats 4000000
namespace Mine
local macro_rules | `(tactic| k_inst) => `(tactic| (refine' instOf_base ?F ?h1 ?h2; (case F => k_asm); (case h1 => assumption); (case h2 => assumption)))
local macro_rules | `(tactic| k_inst) => `(tactic| (refine' instOf_news ?N ?h1 ?h2; (case N => assumption); (case h1 => first | assumption | exact .tail _ (by assumption) | exact .tail _ (.tail _ (by assumption)) | exact .tail _ (.tail _ (.tail _ (by assumption)))); (case h2 => first | assumption | exact .tail _ (by assumption) | exact .tail _ (.tail _ (by assumption)) | exact .tail _ (.tail _ (.tail _ (by assumption))))))
local macro_rules | `(tactic| walk_at "call builtin:len") => `(tactic| ((with_reducible show wpAny _ _ (call (Value.builtin "len") [Value.ref _]) _ _ _); (refine' len_news ?N ?hm ?hz ?_; (case N => assumption); (case hm => first | exact .head _ | exact .tail _ (.head _) | exact .tail _ (.tail _ (.head _)) | exact .tail _ (.tail _ (.tail _ (.head _))) | exact .tail _ (.tail _ (.tail _ (.tail _ (.head _))))); (case hz => (simp; omega)); intro tLen tkLen)))
local macro_rules | `(tactic| walk_at "eval ListComp") => `(tactic| refine holdC ?_)
local macro_rules | `(tactic| walk_at "eval Name") => `(tactic| ((with_reducible show wpAny _ _ (eval (.Name _ _) (compEnvC _ _ _ _)) _ _ _); first
  | (refine' nmG_L ?F ?hv ?_ ?hk ?hx ?hd; (case hk => exact rfl); (case hx => exact rfl); (case hd => exact rfl); (case F => assumption); (case hv => assumption))
  | (refine' nmG_K ?F ?X ?T ?e ?_ ?hk ?hx ?hg ?hd; (case hk => exact rfl); (case hx => exact rfl); (case hg => exact rfl); (case hd => exact rfl); (case F => assumption); (case X => assumption); (case T => assumption); (case e => k_is))
  | (refine' nmG_B ?F ?X ?T ?e ?hv ?hn ?_ ?hk ?hx ?hg ?hb ?hd; (case hk => exact rfl); (case hx => exact rfl); (case hg => exact rfl); (case hb => exact rfl); (case hd => exact rfl); (case F => assumption); (case X => assumption); (case T => assumption); (case e => k_is); (case hv => rfl); (case hn => decide))))
local macro_rules | `(tactic| walk_at "exec For Tuple Call") => `(tactic| refine holdF ?_)
section
variable {prog : Program} {w : World} {p : Program} {loose : List Str} {mg mb : Str → Option Value} {mean : ExcName → Option Value}
theorem law_7 {s : Shared} {Q : Flow → Shared → Prop} {E : Value → Shared → Prop} {H : Heap} {L fa tdl : Addr} {nt : Nat} {m : Str → Option Value} {o3 o2 o1 : Obj} {p1 p2 p3 : Array Value} {r : RD} (X : (hd.heap_39 w.params).In H) (T : Top p loose mean mg mb H) (hl0 : 165 < L)
    (F : Fr H L s.heap m) (N : News H L s.heap (r.nw w.params (nwL L o3 o2 o1 p1 p2 p3))) (ok : r.ok w.params (nwL L o3 o2 o1 p1 p2 p3)) (hm : r.names m) (htm : toldO r tdl nt ∈ r.big) (hmt : m (Str.ofString "told") = some (.ref tdl)) (ho1 : ∃ v, o1.data = .cell v) (ho2 : ∃ v, o2.data = .cell v)
    (hQ : ∀ (s' : Shared) (m' : Str → Option Value) (o1' o2' : Obj), (∃ v, o1'.data = .cell v) → (∃ v, o2'.data = .cell v) → Fr H L s'.heap m' → News H L s'.heap (r.nw w.params (nwL L o3 o2' o1' p1 p2 p3)) → r.names m' → m' (Str.ofString "told") = some (.ref tdl) → Rest 0 s s' →
      wpAny (model prog w) (Ar 302 500) (execs (lawSt 11) (lawEnv L fa)) Q E s') :
    wpAny (model prog w) (Ar 302 500) (execs (lawSt 10) (lawEnv L fa)) Q E s := by
  show wpAny _ _ (execs (Stmt.For (Expr.Tuple _ _ _) (Expr.Call _ _ _ _) _ _ _ :: lawSt 11) (envOfC _ (Scope.mk _ _ _ _ _) _ _ _)) _ _ _
  unfold lawEnv at hQ
  generalize lawSt 11 = rest at hQ ⊢
  have F₀ := F
  rw [upd_self hm.numbers, upd_self hm.tree, upd_self hm.trees, upd_self hm.tokens, upd_self hmt] at F₀
  have TH := topRead_of T
  walk1
  refine wpAny_For ?_
  iterate 6 walk1
  have hme : ∀ a b c, toldO r tdl nt ∈ r.nw w.params (nwL L a b c p1 p2 p3) := fun a b c => .tail _ (.tail _ (List.mem_append_right _ htm))
  have hkey : ∀ a b, ∀ q ∈ r.nw w.params (nwL L o3 b a p1 p2 p3), ∃ q' ∈ r.nw w.params (nwL L o3 o2 o1 p1 p2 p3), q'.1 = q.1 := fun a b q hq => by
    have e : (r.nw w.params (nwL L o3 b a p1 p2 p3)).map (·.1) = (r.nw w.params (nwL L o3 o2 o1 p1 p2 p3)).map (·.1) := rfl
    have := List.mem_map_of_mem (f := (·.1)) hq
    rw [e] at this
    obtain ⟨q', hq', e'⟩ := List.mem_map.mp this
    exact ⟨q', hq', e'⟩
  have hzt : (told r.n).length ≤ 18 := by
    rw [(told_perm (n := r.n) rfl).length_eq]
    exact Nat.le_trans (List.length_filter_le _ _) (RD.plen ok)
  have hnd := bfs_nodup (n := r.n) rfl (nodup_trees ok.nd)
  refine enum_start F₀ N (N _ (hme _ _ _)).1 fun e it h₂ ob F₁ N₁ hob hei hlt hlt' hk₂ hen hin => ?_
  have offi : ∀ a b, ∀ q ∈ r.nw w.params (nwL L o3 b a p1 p2 p3), q.1 ≠ it := fun a b q hq => by
    obtain ⟨q', hq', e'⟩ := hkey a b q hq
    rw [← e']
    exact Nat.ne_of_lt (hlt q' hq')
  have offe : ∀ a b, ∀ q ∈ r.nw w.params (nwL L o3 b a p1 p2 p3), q.1 ≠ e := fun a b q hq => by
    obtain ⟨q', hq', e'⟩ := hkey a b q hq
    rw [← e']
    exact Nat.ne_of_lt (hlt' q' hq')
  have h1 := ok.offn (L + 1, o1) (.tail _ (.tail _ (.head _)))
  have h2 := ok.offn (L + 1 + 1, o2) (.tail _ (.head _))
  have b1 := fun q hq => (ok.off q hq).2.2 (L + 1, o1) (.tail _ (.tail _ (.head _)))
  have b2 := fun q hq => (ok.off q hq).2.2 (L + 1 + 1, o2) (.tail _ (.head _))
  have l32 : (L + 1 + 1 + 1 : Nat) ≠ L + 1 + 1 := Nat.ne_of_gt (Nat.lt_succ_self _)
  have l31 : (L + 1 + 1 + 1 : Nat) ≠ L + 1 := Nat.ne_of_gt (Nat.lt_succ_of_lt (Nat.lt_succ_self _))
  have l21 : (L + 1 + 1 : Nat) ≠ L + 1 := Nat.ne_of_gt (Nat.lt_succ_self _)
  have lt1 : ∀ c : Nat, c ≤ 165 → c ≠ L + 1 := fun c hc => Nat.ne_of_lt (Nat.lt_succ_of_lt (Nat.lt_of_le_of_lt hc hl0))
  have lt2 : ∀ c : Nat, c ≤ 165 → c ≠ L + 1 + 1 := fun c hc => Nat.ne_of_lt (Nat.lt_succ_of_lt (Nat.lt_succ_of_lt (Nat.lt_of_le_of_lt hc hl0)))
  clear F F₀
  refine wpAny_pyIter_enum (N₁ _ (.head _)).1 ?_
  refine for_any (fun k σ => ∃ i h tk m o1 o2 ob old, i ≤ (told r.n).length ∧ k = (told r.n).length - i ∧ σ = { s with heap := h, toks := tk } ∧ Fr H L h m ∧ r.names m ∧ m (Str.ofString "told") = some (.ref tdl) ∧ (∃ v, o1.data = .cell v) ∧ (∃ v, o2.data = .cell v) ∧
      News H L h ((e, enumO it (i : Nat) old) :: (it, ob) :: r.nw w.params (nwL L o3 o2 o1 p1 p2 p3)) ∧ LitIs ob tdl i) ?_ (told r.n).length ?_
  · clear N N₁ F₁ hm hmt ho1 ho2 m hob ob
    rintro k _ ⟨i, h, tk, m, o1', o2', ob, old, hi, rfl, rfl, F, hm, hmt, ⟨v1, ho1⟩, ⟨v2, ho2⟩, N, hob⟩
    have hll : h.IsList tdl ((told r.n).map Nd.val).toArray := ⟨_, (N _ (.tail _ (.tail _ (hme _ _ _)))).1, rfl, _, rfl⟩
    by_cases hin' : i < (told r.n).length
    · refine enum_step (v := ((told r.n)[i]).val) rfl F N hei (offe _ _) (offi _ _) hob hll (by rw [List.getElem?_toArray, List.getElem?_map, List.getElem?_eq_getElem hin']; rfl) fun h₁₁ ob₁₁ tk₁₁ tk₁₂ F₁₁ N₁₁ hob₁₁ => ?_
      rw [upd_self hm.numbers, upd_self hm.tree, upd_self hm.trees, upd_self hm.tokens, upd_self hmt] at F₁₁
      iterate 2 walk1
      rename_i h₁₂ F₁₂ N₁₂
      refine wpAny_assign_Name ?_
      refine storeX_C F₁₂ N₁₂ rfl (UpdF.tail (Ne.symm (fun q => offe o1' o2' (L + 1, o1') (.tail _ (.tail _ (.tail _ (.tail _ (.head _))))) q)) (UpdF.tail (Ne.symm (fun q => offi o1' o2' (L + 1, o1') (.tail _ (.tail _ (.tail _ (.tail _ (.head _))))) q)) (UpdF.tail (Ne.symm h1.1) (UpdF.tail (Ne.symm h1.2) (UpdF.tail l31 (UpdF.tail l21 (UpdF.head ?_))))))) ho1 fun h₁₃ o1n F₁₃ N₁₃ hc1 => ?_
      · intro q hq
        rcases List.mem_cons.mp hq with rfl | hq
        · exact lt1 106 (by decide)
        rcases List.mem_cons.mp hq with rfl | hq
        · exact lt1 99 (by decide)
        rcases List.mem_cons.mp hq with rfl | hq
        · exact lt1 165 (by decide)
        · exact b1 q hq
      clear F₁₂ N₁₂
      iterate 4 walk1
      walk1
      show wpAny _ _ _ _ _ _
      have hxm : (told r.n)[i] ∈ told r.n := List.getElem_mem hin'
      generalize hxe : (told r.n)[i] = x at *
      refine compF (h₀ := H) (L := L) (cl := ?clA) (fun v => v == x.val) rfl ?hclosA ?hcellA rfl ?hnamesA rfl rfl ?hsA ?_
      case hclosA => exact rfl
      case hcellA => decide
      case hnamesA => decide
      case hsA => exact fun _ => rfl
      have htd : toldO r tdl nt ∈ (e, enumO it (i + 1 : Nat) x.val) :: (it, ob₁₁) :: r.nw w.params (nwL L o3 o2' o1n p1 p2 p3) := .tail _ (.tail _ (hme _ _ _))
      have htr : (r.trl, listOf ((treesOf (pre r.n)).map Nd.val).toArray r.ntr) ∈ (e, enumO it (i + 1 : Nat) x.val) :: (it, ob₁₁) :: r.nw w.params (nwL L o3 o2' o1n p1 p2 p3) := .tail _ (.tail _ (.tail _ (.tail _ (List.mem_append_right _ ok.mtr))))
      have N₁₄ := news_dup N₁₃ htd
      clear N₁₃
      repeat' walk1
      rename_i h₁₅ F₁₅ N₁₅
      rw [pick_upto (Int.natCast_nonneg i), Int.toNat_natCast] at N₁₅
      have ok₁ : r.ok w.params (nwL L o3 o2' o1n p1 p2 p3) := ok_keys ok rfl
      have repT : ∀ {h' : Heap} {z : List (Addr × Obj)}, News H L h' z → (∀ q ∈ r.nw w.params (nwL L o3 o2' o1n p1 p2 p3), q ∈ z) → RepL w.params (hf h') (treesOf (pre r.n)) := fun Nz hz => repL_filter (rep_pre (RD.repn ok₁ Nz hz)) _
      have gone : h₁₅.get? (L + 1) = some o1n := (N₁₅ (L + 1, o1n) (.tail _ (.tail _ (.tail _ (.tail _ (.tail _ (.tail _ (.tail _ (.tail _ (.head _)))))))))).1
      have hRt := repT N₁₅ fun _ h => .tail _ (.tail _ (.tail _ (.tail _ h)))
      have hxr := repL_iff.mp hRt x ((told_mem rfl).mp hxm)
      unfold Hold
      refine ⟨_, (((told r.n).map Nd.val).take i).toArray, _, _, rfl, ⟨_, (N₁₅ _ (.head _)).1, rfl, _, rfl⟩, (by simp only [List.size_toArray, List.length_take, List.length_map]; omega), F₁₅, N₁₅, ?_, ?_⟩
      · intro C v s₅ m₅ hv F₅ hm₅
        rw [List.mem_toArray] at hv
        obtain ⟨y, hy, rfl⟩ := List.mem_map.mp (List.mem_of_mem_take hv)
        have hyr := repL_iff.mp hRt y ((told_mem rfl).mp hy)
        refine wpAny_tests_one ?_
        walk1
        refine nmG_L F₅ hm₅ ?_ rfl rfl
        refine nmG_C F₅ rfl gone hc1 ?_ rfl rfl
        refine is_here (hyr.here.keep F₅.keep) (hxr.here.keep F₅.keep) ?_
        exact wpAny_truthy_bool ⟨rfl, s₅.heap, s₅.toks, rfl, fun _ _ e => e⟩
      · intro D₁ n₁ h₁₆ tk₁₆ F₁₆ N₁₆ off₁₆ hk₁₆ hDn₁₆
        have eno : ((((told r.n).map Nd.val).take i).toArray.toList.filter fun v => v == x.val) = [] := by
          rw [← hxe]
          exact before_none (by rw [List.map_reverse]; exact (List.reverse_perm _).nodup_iff.mpr hnd) hin'
        rw [eno] at N₁₆
        clear F₁₅ N₁₅
        repeat' walk1
        show wpAny _ _ _ _ _ _
        rename_i l₁₇ h₁₇ F₁₇ N₁₇ lt₁₇
        have N₁₈ : News H L h₁₇ ((e, enumO it (i + 1 : Nat) x.val) :: (it, ob₁₁) :: r.nw w.params (nwL L o3 o2' o1n p1 p2 p3)) := news_sub N₁₇ fun q hq => .tail _ (.tail _ (.tail _ (.tail _ hq)))
        clear N₁₇
        refine compF (h₀ := H) (L := L) (cl := ?clB) (fun v => v == x.val) rfl ?hclosB ?hcellB rfl ?hnamesB rfl rfl ?hsB ?_
        case hclosB => exact rfl
        case hcellB => decide
        case hnamesB => decide
        case hsB => exact fun _ => rfl
        walk1
        have gone₂ : h₁₇.get? (L + 1) = some o1n := (N₁₈ (L + 1, o1n) (.tail _ (.tail _ (.tail _ (.tail _ (.tail _ (.tail _ (.head _)))))))).1
        have hRt₂ := repT N₁₈ fun _ h => .tail _ (.tail _ h)
        have hxr₂ := repL_iff.mp hRt₂ x ((told_mem rfl).mp hxm)
        have hztr : (treesOf (pre r.n)).length ≤ 18 := Nat.le_trans (List.length_filter_le _ _) (RD.plen ok)
        refine ⟨_, ((treesOf (pre r.n)).map Nd.val).toArray, _, _, rfl, ⟨_, (N₁₈ _ htr).1, rfl, _, rfl⟩, (by simp only [List.size_toArray, List.length_map]; omega), F₁₇, N₁₈, ?_, ?_⟩
        · intro C v s₅ m₅ hv F₅ hm₅
          obtain ⟨y, hy, rfl⟩ := mem_val hv
          have hyr := repL_iff.mp hRt₂ y hy
          refine wpAny_tests_one ?_
          walk1
          refine nmG_L F₅ hm₅ ?_ rfl rfl
          refine nmG_C F₅ rfl gone₂ hc1 ?_ rfl rfl
          refine is_here (hyr.here.keep F₅.keep) (hxr₂.here.keep F₅.keep) ?_
          exact wpAny_truthy_bool ⟨rfl, s₅.heap, s₅.toks, rfl, fun _ _ e => e⟩
        · intro D₂ n₂ h₁₈ tk₁₈ F₁₈ N₁₉ off₁₈ hk₁₈ hDn₁₈
          have esm : (((treesOf (pre r.n)).map Nd.val).filter fun v => v == x.val) ≠ [] := some_left ((told_mem rfl).mp hxm)
          replace N₁₉ : News H L h₁₈ ((D₂, listOf (((treesOf (pre r.n)).map Nd.val).filter fun v => v == x.val).toArray n₂) :: (e, enumO it (i + 1 : Nat) x.val) :: (it, ob₁₁) :: r.nw w.params (nwL L o3 o2' o1n p1 p2 p3)) := N₁₉
          generalize (((treesOf (pre r.n)).map Nd.val).filter fun v => v == x.val) = fl at N₁₉ esm
          clear F₁₇ N₁₈
          iterate 3 walk1
          rename_i l₁₉ h₁₉ F₁₉ N₂₀ lt₁₉
          refine PySem.SeqAt.eq_list_lengthsAt (items := fl.toArray) (items2 := #[]) ⟨_, (N₂₀ _ (.tail _ (.head _))).1, rfl, _, rfl⟩ ⟨_, (N₂₀ _ (.head _)).1, rfl, _, rfl⟩ (by
            cases fl with
            | nil => exact absurd rfl esm
            | cons => rfl) (by rw [cLine_is]; exact Nat.lt_of_le_of_lt (Nat.le_of_eq (rfl : _ = 500)) (by decide)) ?_
          have N₂₁ : News H L h₁₉ ((e, enumO it (i + 1 : Nat) x.val) :: (it, ob₁₁) :: r.nw w.params (nwL L o3 o2' o1n p1 p2 p3)) := news_sub N₂₀ fun q hq => .tail _ (.tail _ hq)
          clear N₂₀
          iterate 4 walk1
          refine wpAny_execs_nil ?_
          dsimp only
          refine law_7in (K := _) X T hl0 F₁₉ N₂₁ offe offi (fun a b => ok_keys ok rfl) ⟨rfl, rfl, rfl, rfl⟩ htm rfl rfl hin' (by rw [hxe]; exact hc1) ⟨_, ho2⟩ fun h' tk' m' o2'' hco F' N' hm' hmt' => ?_
          exact ⟨(told r.n).length - (i + 1), by omega, i + 1, h', _, m', o1n, o2'', ob₁₁, x.val, hin', rfl, rfl, F', hm', hmt', ⟨_, hc1⟩, hco, N', hob₁₁⟩
    · refine enum_end rfl F N hei (offi _ _) hob hll (by rw [List.getElem?_toArray, List.getElem?_map, List.getElem?_eq_none (by omega)]; rfl) fun h₁₁ F₁₁ N₁₁ => ?_
      dsimp only
      exact hQ _ m o1' o2' ⟨_, ho1⟩ ⟨_, ho2⟩ F₁₁ N₁₁ hm hmt (Rest.refl (s := s)).same
  · refine ⟨0, h₂, _, _, o1, o2, ob, .none, Nat.zero_le _, rfl, rfl, F₁, ⟨rfl, rfl, rfl, rfl⟩, rfl, ho1, ho2, N₁, hob⟩
end
end Mine
end

section
example : True ∧ True := by
  w_top off
  first | (walk1; done) | exact ⟨trivial, trivial⟩
open PySem PySem.W PySem.Calls PyProof.Rows
set_option maxRecDepth 100000
set_option maxHeartbeats 4000000
namespace Mine
local macro_rules | `(tactic| k_inst) => `(tactic| (refine' instOf_base ?F ?h1 ?h2; (case F => k_asm); (case h1 => assumption); (case h2 => assumption)))
local macro_rules | `(tactic| k_inst) => `(tactic| (refine' instOf_news ?N ?h1 ?h2; (case N => assumption); (case h1 => first | assumption | exact .tail _ (by assumption) | exact .tail _ (.tail _ (by assumption)) | exact .tail _ (.tail _ (.tail _ (by assumption)))); (case h2 => first | assumption | exact .tail _ (by assumption) | exact .tail _ (.tail _ (by assumption)) | exact .tail _ (.tail _ (.tail _ (by assumption))))))
local macro_rules | `(tactic| walk_at "call builtin:len") => `(tactic| ((with_reducible show wpAny _ _ (call (Value.builtin "len") [Value.ref _]) _ _ _); (refine' len_news ?N ?hm ?hz ?_; (case N => assumption); (case hm => first | exact .head _ | exact .tail _ (.head _) | exact .tail _ (.tail _ (.head _)) | exact .tail _ (.tail _ (.tail _ (.head _))) | exact .tail _ (.tail _ (.tail _ (.tail _ (.head _))))); (case hz => (simp; omega)); intro tLen tkLen)))
local macro_rules | `(tactic| walk_at "eval ListComp") => `(tactic| refine holdC ?_)
local macro_rules | `(tactic| walk_at "eval Name") => `(tactic| ((with_reducible show wpAny _ _ (eval (.Name _ _) (compEnvC _ _ _ _)) _ _ _); first
  | (refine' nmG_L ?F ?hv ?_ ?hk ?hx ?hd; (case hk => exact rfl); (case hx => exact rfl); (case hd => exact rfl); (case F => assumption); (case hv => assumption))
  | (refine' nmG_K ?F ?X ?T ?e ?_ ?hk ?hx ?hg ?hd; (case hk => exact rfl); (case hx => exact rfl); (case hg => exact rfl); (case hd => exact rfl); (case F => assumption); (case X => assumption); (case T => assumption); (case e => k_is))
  | (refine' nmG_B ?F ?X ?T ?e ?hv ?hn ?_ ?hk ?hx ?hg ?hb ?hd; (case hk => exact rfl); (case hx => exact rfl); (case hg => exact rfl); (case hb => exact rfl); (case hd => exact rfl); (case F => assumption); (case X => assumption); (case T => assumption); (case e => k_is); (case hv => rfl); (case hn => decide))))
section
variable {prog : Program} {w : World} {p : Program} {loose : List Str} {mg mb : Str → Option Value} {mean : ExcName → Option Value}
theorem law_8 {s : Shared} {Q : Flow → Shared → Prop} {E : Value → Shared → Prop} {H : Heap} {L fa tdl : Addr} {nt : Nat} {m : Str → Option Value} {o3 o2 o1 : Obj} {p1 p3 : Array Value} {r : RD} (X : (hd.heap_39 w.params).In H) (T : Top p loose mean mg mb H) (hC : CodeHd H 103 99) (hl0 : 165 < L) (hHL : H.objs.size ≤ L)
    (F : Fr H L s.heap m) (N : News H L s.heap (r.nw w.params (nwL L o3 o2 o1 p1 #[] p3))) (ok : r.ok w.params (nwL L o3 o2 o1 p1 #[] p3)) (hm : r.names m) (htm : toldO r tdl nt ∈ r.big) (hmt : m (Str.ofString "told") = some (.ref tdl))
    (hQ : ∀ (s' : Shared) (m' : Str → Option Value) (p2 : Array Value), Fr H L s'.heap m' → News H L s'.heap (r.nw w.params (nwL L o3 o2 o1 p1 p2 p3)) → r.names m' → m' (Str.ofString "told") = some (.ref tdl) → Rest 0 s s' → wpAny (model prog w) (Ar 302 500) (execs (lawSt 12) (lawEnv L fa)) Q E s') :
    wpAny (model prog w) (Ar 302 500) (execs (lawSt 11) (lawEnv L fa)) Q E s := by
  show wpAny _ _ (execs (Stmt.If (Expr.UnaryOp _ (Expr.Call _ _ _ _) _) _ _ _ :: lawSt 12) (envOfC _ (Scope.mk _ _ _ _ _) _ _ _)) _ _ _
  unfold lawEnv at hQ
  generalize lawSt 12 = rest at hQ ⊢
  have F₀ := F
  rw [upd_self hm.numbers, upd_self hm.tree, upd_self hm.trees, upd_self hm.tokens, upd_self hmt] at F₀
  clear F
  have TH := topRead_of T
  have hma : (r.a, instObj 142 r.dx) ∈ r.nw w.params (nwL L o3 o2 o1 p1 #[] p3) := .tail _ (.tail _ (List.mem_append_right _ ok.ma))
  have hmd : (r.dx, dictOf (treeEs w.params r.t1 r.t2 r.t3 (.str (Str.ofString "top") r.td) (.ref r.l)) 3) ∈ r.nw w.params (nwL L o3 o2 o1 p1 #[] p3) := .tail _ (.head _)
  iterate 8 walk1
  show wpAny _ _ _ _ _ _
  refine compFil (h₀ := H) (L := L) (cl := ?cla) rfl (Nat.le_of_ble_eq_true rfl) (Nat.le_of_ble_eq_true rfl) ?hclosa ?hcella rfl ?hnamesa rfl rfl ?hsa ?_
  case hclosa => exact rfl
  case hcella => decide
  case hnamesa => decide
  case hsa => exact fun _ => rfl
  iterate 8 walk1
  have hnT : H.get? 99 = none := (N (99, tabObj #[]) (.tail _ (.tail _ (.tail _ (.tail _ (.tail _ (.tail _ (.head _)))))))).2.2
  have h99 := ok.offn (99, tabObj #[]) (.tail _ (.tail _ (.tail _ (.tail _ (.head _)))))
  have o99 := fun q hq => (ok.off q hq).2.2 (99, tabObj #[]) (.tail _ (.tail _ (.tail _ (.tail _ (.head _)))))
  have hRn : Rep w.params (fun b o => s.heap.get? b = some o ∧ b ≠ 99) r.n := RD.repG ok ⟨(N _ (.head _)).1, Ne.symm h99.1⟩ ⟨(N _ (.tail _ (.head _))).1, Ne.symm h99.2⟩ fun b ob hb => ⟨(N _ (.tail _ (.tail _ (List.mem_append_right _ hb)))).1, o99 _ hb⟩
  refine find_data_call (H := H) (n := r.n) (x := Str.ofString "p") X T F₀.keep (Nat.le_trans hHL (Nat.le_of_lt F₀.ns.lt)) hnT (N (99, tabObj #[]) (.tail _ (.tail _ (.tail _ (.tail _ (.tail _ (.tail _ (.head _)))))))).1 hC ?j1 ?j2 ?j3 rfl hRn (Nat.le_trans (RD.size ok) (by decide)) (nodup_trees ok.nd) ?_
  case j1 => exact rfl
  case j2 => exact Nat.le_of_ble_eq_true rfl
  case j3 => exact Nat.le_of_ble_eq_true rfl
  intro h₂ fp f it fl nn h₃ tk₃ hgr pred hk₃ hff hit hfl hfi hli hitn
  obtain ⟨hgk, p2, hgt⟩ := hgr
  dsimp only at hgk hgt
  have n1L : (L + 1 + 1 + 1 : Nat) ≠ 99 := Nat.ne_of_gt (Nat.lt_of_lt_of_le (Nat.lt_trans (by decide : 99 < 165) hl0) (Nat.le_add_right L 3))
  have n2L : (L + 1 + 1 : Nat) ≠ 99 := Nat.ne_of_gt (Nat.lt_of_lt_of_le (Nat.lt_trans (by decide : 99 < 165) hl0) (Nat.le_add_right L 2))
  have n3L : (L + 1 : Nat) ≠ 99 := Nat.ne_of_gt (Nat.lt_of_lt_of_le (Nat.lt_trans (by decide : 99 < 165) hl0) (Nat.le_add_right L 1))
  have n4L : (99 : Nat) ≠ L := Nat.ne_of_lt (Nat.lt_trans (by decide : 99 < 165) hl0)
  have F₂ := fr_ext F₀ hnT n4L hgk
  have N₂ : News H L h₂ (r.nw w.params (nwL L o3 o2 o1 p1 p2 p3)) := news_at (own := [_, _, _, _, _, _]) N (by
    intro q hq
    simp only [List.mem_cons, List.not_mem_nil, or_false] at hq
    rcases hq with rfl | rfl | rfl | rfl | rfl | rfl
    · exact Ne.symm h99.1
    · exact Ne.symm h99.2
    · exact n1L
    · exact n2L
    · exact n3L
    · exact (by decide : (106 : Nat) ≠ 99)) (by
    intro q hq
    rcases List.mem_cons.mp hq with rfl | hq
    · exact (by decide : (165 : Nat) ≠ 99)
    · exact o99 q hq) hgk hgt
  have ok₂ := ok_keys (news' := nwL L o3 o2 o1 p1 p2 p3) ok rfl
  have hRn₂ := RD.repn ok₂ N₂ fun _ h => h
  have F₃ := fr_keep F₂ hk₃
  have N₃ := news_keep N₂ hk₃
  have hzt : (told r.n).length ≤ 18 := by
    rw [(told_perm (n := r.n) rfl).length_eq]
    exact Nat.le_trans (List.length_filter_le _ _) (RD.plen ok)
  refine ⟨f, it, fl, fp, ((told r.n).map Nd.val).toArray, nn, h₂, _, _, _, rfl, hfi, hli, hitn, filPred_told pred hRn₂ rfl (Nat.le_trans (RD.size ok) (by decide)), hk₃, hff, hit, hfl, (by simp only [List.size_toArray, List.length_map]; omega), fr_none F₂ hitn, fr_new F₂ hitn, F₃, N₃, (fun q hq => ne_live (N₂ q hq).1 hitn), ?_⟩
  intro D nD h₄ tk₄ F₄ N₄ off₄
  rw [filt_told (pz := fun t => t.name == Str.ofString "p") hRn₂ rfl] at N₄
  have hRt : RepL w.params (hf h₄) (told r.n) := repL_iff.mpr fun k hk => repL_iff.mp (repL_filter (rep_pre (RD.repn ok₂ N₄ fun _ h => .tail _ h)) Nd.isTree) k ((told_mem rfl).mp hk)
  have hmtd := N₄ _ (.tail _ (.tail _ (.tail _ (List.mem_append_right _ htm))))
  clear N F₀ N₂ F₂ N₃ F₃ hma hmd
  walk1
  show wpAny _ _ _ _ _ _
  refine compF (h₀ := H) (L := L) (cl := ?clb) (fun v => (fun t : Nd => t.name == Str.ofString "p") (ndOf (told r.n) v)) rfl ?hclosb ?hcellb rfl ?hnamesb rfl rfl ?hsb ?_
  case hclosb => exact rfl
  case hcellb => decide
  case hnamesb => decide
  case hsb => exact fun _ => rfl
  walk1
  refine ⟨tdl, ((told r.n).map Nd.val).toArray, _, _, rfl, ⟨_, hmtd.1, rfl, _, rfl⟩, (by simp only [List.size_toArray, List.length_map]; omega), F₄, N₄, ?_, ?_⟩
  · intro C v s₅ m₅ hv F₅ hm₅
    obtain ⟨y, hy, rfl⟩ := mem_val hv
    have hyr := repL_iff.mp hRt y hy
    rw [ndOf_val hRt hy]
    have X₅ := X.keeps F₄.keep
    have T₅ := TH.keeps F₄.keep
    refine wpAny_tests_one ?_
    cases y with
    | tok ta ty tv => exact absurd (List.mem_filter.mp ((told_mem rfl).mp hy)).2 Bool.false_ne_true
    | tree ta tdx tl td tks =>
      obtain ⟨⟨w1, w2, w3, w4, hy1, hy2⟩, _, _⟩ := hyr
      clear hmtd
      repeat' walk1
      exact ⟨s₅.heap, _, rfl, fun _ _ e => e⟩
  · intro D₃ n₃ h₆ tk₆ F₆ N₆ off₆ hk₆ hDn₆
    rw [filt_nd hRt fun t => t.name == Str.ofString "p"] at N₆
    iterate 2 walk1
    have hRt6 : RepL w.params (hf h₆) ((told r.n).filter fun t => t.name == Str.ofString "p") := repL_filter (repL_iff.mpr fun k hk => repL_iff.mp (repL_filter (rep_pre (RD.repn ok₂ N₆ fun _ h => .tail _ (.tail _ h))) Nd.isTree) k ((told_mem rfl).mp hk)) _
    have hlen : (((told r.n).filter fun t => t.name == Str.ofString "p").map Nd.val).length ≤ 18 := by
      rw [List.length_map]
      exact Nat.le_trans (List.length_filter_le _ _) hzt
    refine same_call (X.keeps F₆.keep) (TH.keeps F₆.keep) rfl (Nat.le_of_ble_eq_true rfl) (Nat.le_of_ble_eq_true rfl) (N₆ _ (.tail _ (.head _))).1 (N₆ _ (.head _)).1 (Nat.le_trans hlen (by decide)) (Nat.le_trans hlen (by decide)) (here_all hRt6) (here_all hRt6) fun h₇ tk₇ hk₇ => ?_
    have F₇ := fr_keep F₆ hk₇
    have N₇ := news_keep N₆ hk₇
    rw [beq_self_eq_true]
    clear F₆ N₆ F₄ N₄ hmtd
    repeat' walk1
    dsimp only
    exact hQ _ _ p2 F₇ (fun p hp => N₇ p (.tail _ (.tail _ hp))) ⟨rfl, rfl, rfl, rfl⟩ rfl (Rest.refl (s := s)).same
end
end Mine
end

section
example : True ∧ True := by
  w_top off
  first | (walk1; done) | exact ⟨trivial, trivial⟩
open PySem PySem.W PySem.Calls PyProof.Rows
set_option maxRecDepth 100000
set_option maxHeartbeats 4000000
namespace Mine
local macro_rules | `(tactic| k_inst) => `(tactic| (refine' instOf_base ?F ?h1 ?h2; (case F => k_asm); (case h1 => assumption); (case h2 => assumption)))
local macro_rules | `(tactic| k_inst) => `(tactic| (refine' instOf_news ?N ?h1 ?h2; (case N => assumption); (case h1 => first | assumption | exact .tail _ (by assumption) | exact .tail _ (.tail _ (by assumption)) | exact .tail _ (.tail _ (.tail _ (by assumption)))); (case h2 => first | assumption | exact .tail _ (by assumption) | exact .tail _ (.tail _ (by assumption)) | exact .tail _ (.tail _ (.tail _ (by assumption))))))
local macro_rules | `(tactic| walk_at "call builtin:len") => `(tactic| ((with_reducible show wpAny _ _ (call (Value.builtin "len") [Value.ref _]) _ _ _); (refine' len_news ?N ?hm ?hz ?_; (case N => assumption); (case hm => first | exact .head _ | exact .tail _ (.head _) | exact .tail _ (.tail _ (.head _)) | exact .tail _ (.tail _ (.tail _ (.head _))) | exact .tail _ (.tail _ (.tail _ (.tail _ (.head _))))); (case hz => (simp; omega)); intro tLen tkLen)))
local macro_rules | `(tactic| walk_at "eval ListComp") => `(tactic| refine holdC ?_)
local macro_rules | `(tactic| walk_at "eval Name") => `(tactic| ((with_reducible show wpAny _ _ (eval (.Name _ _) (compEnvC _ _ _ _)) _ _ _); first
  | (refine' nmG_L ?F ?hv ?_ ?hk ?hx ?hd; (case hk => exact rfl); (case hx => exact rfl); (case hd => exact rfl); (case F => assumption); (case hv => assumption))
  | (refine' nmG_K ?F ?X ?T ?e ?_ ?hk ?hx ?hg ?hd; (case hk => exact rfl); (case hx => exact rfl); (case hg => exact rfl); (case hd => exact rfl); (case F => assumption); (case X => assumption); (case T => assumption); (case e => k_is))
  | (refine' nmG_B ?F ?X ?T ?e ?hv ?hn ?_ ?hk ?hx ?hg ?hb ?hd; (case hk => exact rfl); (case hx => exact rfl); (case hg => exact rfl); (case hb => exact rfl); (case hd => exact rfl); (case F => assumption); (case X => assumption); (case T => assumption); (case e => k_is); (case hv => rfl); (case hn => decide))))
section
variable {prog : Program} {w : World} {p : Program} {loose : List Str} {mg mb : Str → Option Value} {mean : ExcName → Option Value}
theorem law_9 {s : Shared} {Q : Flow → Shared → Prop} {E : Value → Shared → Prop} {H : Heap} {L fa tdl : Addr} {nt : Nat} {m : Str → Option Value} {o3 o2 o1 : Obj} {p1 p2 : Array Value} {col : Int} {c0 : Addr} {r : RD} (X : (hd.heap_39 w.params).In H) (T : Top p loose mean mg mb H) (hC : CodeHd H 167 165) (hl0 : 165 < L) 
    (F : Fr H L s.heap m) (N : News H L s.heap (r.nw w.params (nwL L o3 o2 o1 p1 p2 #[rawInt 107, rawInt col, .ref c0]))) (ok : r.ok w.params (nwL L o3 o2 o1 p1 p2 #[rawInt 107, rawInt col, .ref c0])) (hm : r.names m) (htm : toldO r tdl nt ∈ r.big) (hmt : m (Str.ofString "told") = some (.ref tdl))
    (hQ : ∀ (s' : Shared) (m' : Str → Option Value) (p3 : Array Value), Fr H L s'.heap m' → News H L s'.heap (r.nw w.params (nwL L o3 o2 o1 p1 p2 p3)) → r.names m' → m' (Str.ofString "told") = some (.ref tdl) → Rest 0 s s' → wpAny (model prog w) (Ar 302 500) (execs (lawSt 13) (lawEnv L fa)) Q E s') :
    wpAny (model prog w) (Ar 302 500) (execs (lawSt 12) (lawEnv L fa)) Q E s := by
  show wpAny _ _ (execs (Stmt.If (Expr.UnaryOp _ (Expr.Call _ _ _ _) _) _ _ _ :: lawSt 13) (envOfC _ (Scope.mk _ _ _ _ _) _ _ _)) _ _ _
  unfold lawEnv at hQ
  generalize lawSt 13 = rest at hQ ⊢
  have F₀ := F
  rw [upd_self hm.numbers, upd_self hm.tree, upd_self hm.trees, upd_self hm.tokens, upd_self hmt] at F₀
  clear F
  have TH := topRead_of T
  have hma : (r.a, instObj 142 r.dx) ∈ r.nw w.params (nwL L o3 o2 o1 p1 p2 #[rawInt 107, rawInt col, .ref c0]) := .tail _ (.tail _ (List.mem_append_right _ ok.ma))
  have hmd : (r.dx, dictOf (treeEs w.params r.t1 r.t2 r.t3 (.str (Str.ofString "top") r.td) (.ref r.l)) 3) ∈ r.nw w.params (nwL L o3 o2 o1 p1 p2 #[rawInt 107, rawInt col, .ref c0]) := .tail _ (.head _)
  iterate 8 walk1
  show wpAny _ _ _ _ _ _
  refine compFil (h₀ := H) (L := L) (cl := ?cla) rfl (Nat.le_of_ble_eq_true rfl) (Nat.le_of_ble_eq_true rfl) ?hclosa ?hcella rfl ?hnamesa rfl rfl ?hsa ?_
  case hclosa => exact rfl
  case hcella => decide
  case hnamesa => decide
  case hsa => exact fun _ => rfl
  iterate 5 walk1
  refine kla_eval rfl ?_
  have h165 := ok.offn (165, tabObj #[rawInt 107, rawInt col, .ref c0]) (.tail _ (.tail _ (.tail _ (.tail _ (.tail _ (.head _))))))
  refine kla_nest F₀ N T hC rfl (UpdF.tail (Ne.symm h165.1) (UpdF.tail (Ne.symm h165.2) (UpdF.tail ?n1 (UpdF.tail ?n2 (UpdF.tail ?n3 (UpdF.tail ?n4 (UpdF.tail ?n5 (UpdF.head ?n6)))))))) ?t1 ?t2 rfl ?_
  case n1 => exact Nat.ne_of_gt (Nat.lt_of_lt_of_le hl0 (Nat.le_add_right L 3))
  case n2 => exact Nat.ne_of_gt (Nat.lt_of_lt_of_le hl0 (Nat.le_add_right L 2))
  case n3 => exact Nat.ne_of_gt (Nat.lt_of_lt_of_le hl0 (Nat.le_add_right L 1))
  case n4 => exact (by decide : (106 : Nat) ≠ 165)
  case n5 => exact (by decide : (99 : Nat) ≠ 165)
  case n6 => exact fun q hq => (ok.off q hq).2.2 (165, tabObj #[rawInt 107, rawInt col, .ref c0]) (.tail _ (.tail _ (.tail _ (.tail _ (.tail _ (.head _))))))
  case t1 => simp [TriplesOk, rawInt]
  case t2 => simp [codeAmong, rawInt]
  intro fp c' oc vs' t' ctv h₂ tk₂ F₂ N₂ d1 d2 l1 l2
  have X₂ := X.keeps F₂.keep
  have T₂ := TH.keeps F₂.keep
  have pred : PredT prog w h₂ fp (fun t => decide (1 < t.kids.length)) := by
    refine ⟨⟨_, _, (N₂ _ (.head _)).1, rfl⟩, fun n hn hnz hRn A₁ s₁ Q₁ E₁ hh₁ hd₁ hu₁ hk₁ hq => ?_⟩
    cases n with
    | tok => cases hn
    | tree ta tdx tl td tks =>
    obtain ⟨⟨w1, w2, w3, w4, hy1, hy2⟩, ⟨ntl, hy3⟩, _⟩ := hRn
    have y1 := hk₁ _ _ hy1
    have y2 := hk₁ _ _ hy2
    have y3 := hk₁ _ _ hy3
    refine wpAny_call (to_ArC 950 9500 hh₁ hd₁ hu₁ ?_)
    refine lam_enter [(Str.ofString "each", .ref ta)] (T₂.nolimit.keeps hk₁) (hk₁ _ _ (N₂ _ (.head _)).1) (hk₁ _ _ (N₂ _ (.tail _ (.head _))).1) d1 d2 (by show 950 < 1000; decide) rfl (locs rfl) ?_ rfl rfl rfl (by decide)
    intro L₃ h₃ tk₃ hL₃ F₃
    have X₃ := X₂.keeps hk₁
    have T₃ := T₂.keeps hk₁
    have hlz := length_le_sizeL tks
    have hsz : tks.length ≤ 1000 := by simp [Nd.size] at hnz; omega
    clear F₂ N₂ X₂ T₂ hk₁ N F₀ hma hmd hQ
    repeat' walk1
    refine Calls.call_len_list (items := (tks.map Nd.val).toArray) ⟨_, F₃.keep _ _ y3, rfl, _, rfl⟩ (by have := sizeLine_big; simp; omega) ?_
    repeat' walk1
    have e1 : decide ((1 : Int) < (((tks.map Nd.val).toArray.size : Nat) : Int)) = decide (1 < (Nd.tree ta tdx tl td tks).kids.length) := by
      simp only [Nd.kids, List.size_toArray, List.length_map]
      exact decide_eq_decide.mpr (by omega)
    rw [e1]
    exact hq _ _ F₃.keep
  iterate 2 walk1
  obtain ⟨of, p3, N₂'⟩ : ∃ (of : Obj) (p3 : Array Value), News H L h₂ ((fp, of) :: (c', oc) :: r.nw w.params (nwL L o3 o2 o1 p1 p2 p3)) := ⟨_, _, N₂⟩
  clear N₂
  have N₂ : News H L h₂ (r.nw w.params (nwL L o3 o2 o1 p1 p2 p3)) := fun q hq => N₂' q (.tail _ (.tail _ hq))
  clear N₂'
  have ok₂ := ok_keys (news' := nwL L o3 o2 o1 p1 p2 p3) ok rfl
  have hRn₂ := RD.repn ok₂ N₂ fun _ h => h
  refine find_pred_call X₂ T₂ pred.1 ?j1 ?j2 ?j3 (n := r.n) rfl hRn₂ (Nat.le_trans (RD.size ok) (by decide)) (nodup_trees ok.nd) ?_
  case j1 => exact rfl
  case j2 => exact Nat.le_of_ble_eq_true rfl
  case j3 => exact Nat.le_of_ble_eq_true rfl
  intro f it fl nn h₃ tk₃ hk₃ hff hit hfl hfi hli hitn
  have F₃ := fr_keep F₂ hk₃
  have N₃ := news_keep N₂ hk₃
  have hzt : (told r.n).length ≤ 18 := by
    rw [(told_perm (n := r.n) rfl).length_eq]
    exact Nat.le_trans (List.length_filter_le _ _) (RD.plen ok)
  refine ⟨f, it, fl, fp, ((told r.n).map Nd.val).toArray, nn, h₂, _, _, _, rfl, hfi, hli, hitn, filPred_told pred hRn₂ rfl (Nat.le_trans (RD.size ok) (by decide)), hk₃, hff, hit, hfl, (by simp only [List.size_toArray, List.length_map]; omega), fr_none F₂ hitn, fr_new F₂ hitn, F₃, N₃, (fun q hq => ne_live (N₂ q hq).1 hitn), ?_⟩
  intro D nD h₄ tk₄ F₄ N₄ off₄
  rw [filt_told (pz := fun t => decide (1 < t.kids.length)) hRn₂ rfl] at N₄
  have hRt : RepL w.params (hf h₄) (told r.n) := repL_iff.mpr fun k hk => repL_iff.mp (repL_filter (rep_pre (RD.repn ok₂ N₄ fun _ h => .tail _ h)) Nd.isTree) k ((told_mem rfl).mp hk)
  have hmtd := N₄ _ (.tail _ (.tail _ (.tail _ (List.mem_append_right _ htm))))
  clear N F₀ N₂ F₂ N₃ F₃ hma hmd
  walk1
  show wpAny _ _ _ _ _ _
  refine compF (h₀ := H) (L := L) (cl := ?clb) (fun v => (fun t : Nd => decide (1 < t.kids.length)) (ndOf (told r.n) v)) rfl ?hclosb ?hcellb rfl ?hnamesb rfl rfl ?hsb ?_
  case hclosb => exact rfl
  case hcellb => decide
  case hnamesb => decide
  case hsb => exact fun _ => rfl
  walk1
  refine ⟨tdl, ((told r.n).map Nd.val).toArray, _, _, rfl, ⟨_, hmtd.1, rfl, _, rfl⟩, (by simp only [List.size_toArray, List.length_map]; omega), F₄, N₄, ?_, ?_⟩
  · intro C v s₅ m₅ hv F₅ hm₅
    obtain ⟨y, hy, rfl⟩ := mem_val hv
    have hyr := repL_iff.mp hRt y hy
    rw [ndOf_val hRt hy]
    have X₅ := X.keeps F₄.keep
    have T₅ := TH.keeps F₄.keep
    refine wpAny_tests_one ?_
    cases y with
    | tok ta ty tv => exact absurd (List.mem_filter.mp ((told_mem rfl).mp hy)).2 Bool.false_ne_true
    | tree ta tdx tl td tks =>
      obtain ⟨⟨w1, w2, w3, w4, hy1, hy2⟩, ⟨ntl, hy3⟩, _⟩ := hyr
      have hsy := pre_size r.n _ (List.mem_filter.mp ((told_mem (n := r.n) rfl).mp hy)).1
      have hsy2 := ok.sz
      have hlz := length_le_sizeL tks
      have hsz : tks.length ≤ 1000 := by simp only [Nd.size] at hsy; omega
      clear hmtd
      repeat' walk1
      refine Calls.call_len_list (items := (tks.map Nd.val).toArray) ⟨_, F₅.keep _ _ hy3, rfl, _, rfl⟩ (by have := sizeLine_big; simp; omega) ?_
      repeat' walk1
      · simp only [Nd.kids, List.size_toArray, List.length_map]
        exact decide_eq_decide.mpr (by omega)
      · exact ⟨s₅.heap, _, rfl, fun _ _ e => e⟩
  · intro D₃ n₃ h₆ tk₆ F₆ N₆ off₆ hk₆ hDn₆
    rw [filt_nd hRt fun t => decide (1 < t.kids.length)] at N₆
    iterate 2 walk1
    have hRt6 : RepL w.params (hf h₆) ((told r.n).filter fun t => decide (1 < t.kids.length)) := repL_filter (repL_iff.mpr fun k hk => repL_iff.mp (repL_filter (rep_pre (RD.repn ok₂ N₆ fun _ h => .tail _ (.tail _ h))) Nd.isTree) k ((told_mem rfl).mp hk)) _
    have hlen : (((told r.n).filter fun t => decide (1 < t.kids.length)).map Nd.val).length ≤ 18 := by
      rw [List.length_map]
      exact Nat.le_trans (List.length_filter_le _ _) hzt
    refine same_call (X.keeps F₆.keep) (TH.keeps F₆.keep) rfl (Nat.le_of_ble_eq_true rfl) (Nat.le_of_ble_eq_true rfl) (N₆ _ (.tail _ (.head _))).1 (N₆ _ (.head _)).1 (Nat.le_trans hlen (by decide)) (Nat.le_trans hlen (by decide)) (here_all hRt6) (here_all hRt6) fun h₇ tk₇ hk₇ => ?_
    have F₇ := fr_keep F₆ hk₇
    have N₇ := news_keep N₆ hk₇
    rw [beq_self_eq_true]
    clear F₆ N₆ F₄ N₄ hmtd
    repeat' walk1
    dsimp only
    exact hQ _ _ p3 F₇ (fun p hp => N₇ p (.tail _ (.tail _ hp))) ⟨rfl, rfl, rfl, rfl⟩ rfl (Rest.refl (s := s)).same
end
end Mine
end

section
example : True ∧ True := by
  w_top off
  first | (walk1; done) | exact ⟨trivial, trivial⟩
open PySem PySem.W PySem.Calls PyProof.Rows
set_option maxRecDepth 100000
set_option maxHeartbeats 4000000
namespace Mine
mutual
/-- the same skeleton: tokens beside tokens, trees beside trees -/
def sameS : Sh → Sh → Prop
  | .tok .., .tok .. => True
  | .tree _ ks, .tree _ ks' => sameL ks ks'
  | _, _ => False
def sameL : List Sh → List Sh → Prop
  | [], [] => True
  | a :: r, b :: t => sameS a b ∧ sameL r t
  | _, _ => False
end
mutual
theorem sameS_refl : ∀ a : Sh, sameS a a
  | .tok .. => trivial
  | .tree _ ks => sameL_refl ks
theorem sameL_refl : ∀ a : List Sh, sameL a a
  | [] => trivial
  | a :: r => ⟨sameS_refl a, sameL_refl r⟩
end
mutual
theorem same_alike : ∀ n1 n2 : Nd, sameS n1.sh n2.sh → alike n1 n2
  | .tok .., .tok .., _ => trivial
  | .tok .., .tree .., h => h.elim
  | .tree .., .tok .., h => h.elim
  | .tree _ _ _ _ ks, .tree _ _ _ _ ks', h => fun _ => same_alikeL ks ks' h
theorem same_alikeL : ∀ n1 n2 : List Nd, sameL (shL n1) (shL n2) → alikeL n1 n2
  | [], [], _ => trivial
  | [], _ :: _, h => h.elim
  | _ :: _, [], h => h.elim
  | a :: r, b :: t, h => ⟨same_alike a b h.1, same_alikeL r t h.2⟩
end
theorem sameL_length : ∀ {a b : List Sh}, sameL a b → a.length = b.length
  | [], [], _ => rfl
  | [], _ :: _, h => h.elim
  | _ :: _, [], h => h.elim
  | _ :: r, _ :: t, h => by rw [List.length_cons, List.length_cons, sameL_length h.2]
theorem sameL_append : ∀ {a b c d : List Sh}, sameL a b → sameL c d → sameL (a ++ c) (b ++ d)
  | [], [], _, _, _, h => h
  | [], _ :: _, _, _, h, _ => h.elim
  | _ :: _, [], _, _, h, _ => h.elim
  | _ :: r, _ :: t, _, _, h, k => ⟨h.1, sameL_append h.2 k⟩
theorem sameL_take : ∀ (k : Nat) {a b : List Sh}, sameL a b → sameL (a.take k) (b.take k)
  | 0, _, _, _ => by rw [List.take_zero, List.take_zero]; trivial
  | _ + 1, [], [], _ => trivial
  | _ + 1, [], _ :: _, h => h.elim
  | _ + 1, _ :: _, [], h => h.elim
  | k + 1, _ :: _, _ :: _, h => ⟨h.1, sameL_take k h.2⟩
theorem sameL_drop : ∀ (k : Nat) {a b : List Sh}, sameL a b → sameL (a.drop k) (b.drop k)
  | 0, _, _, h => h
  | _ + 1, [], [], _ => trivial
  | _ + 1, [], _ :: _, h => h.elim
  | _ + 1, _ :: _, [], h => h.elim
  | k + 1, _ :: _, _ :: _, h => sameL_drop k h.2
theorem sameStep (odd odd' : Int) (i : Nat) (n : Int) {S S' : List Sh × Nat × Nat} (h : sameL S.1 S'.1) (h2 : S.2 = S'.2) : sameL (bStep odd i n S).1 (bStep odd' i n S').1 ∧ (bStep odd i n S).2 = (bStep odd' i n S').2 := by
  unfold bStep
  by_cases hn : n.fmod 3 = 0
  · rw [if_pos hn, if_pos hn]
    exact ⟨sameL_append h ⟨trivial, trivial⟩, by rw [h2]⟩
  · rw [if_neg hn, if_neg hn, sameL_length h]
    exact ⟨sameL_append (sameL_take _ h) ⟨sameL_drop _ h, trivial⟩, by rw [h2]⟩
theorem sameRun (odd odd' : Int) : ∀ (ns : List Int) (i : Nat) {S S' : List Sh × Nat × Nat}, sameL S.1 S'.1 → S.2 = S'.2 → sameL (bRun odd i ns S).1 (bRun odd' i ns S').1 ∧ (bRun odd i ns S).2 = (bRun odd' i ns S').2
  | [], _, _, _, h, h2 => ⟨h, h2⟩
  | n :: r, i, _, _, h, h2 => let q := sameStep odd odd' i n h h2; sameRun odd odd' r (i + 1) q.1 q.2
theorem sameEnd (odd odd' : Int) (ns : List Int) : sameL (bEnd odd ns).1 (bEnd odd' ns).1 ∧ (bEnd odd ns).2 = (bEnd odd' ns).2 := sameRun odd odd' ns 0 (sameL_refl []) rfl
mutual
def cntS (q : Str → Int → Nat) (qt : Str → Nat) : Sh → Nat
  | .tok ty v => q ty v
  | .tree d ks => qt d + cntL q qt ks
def cntL (q : Str → Int → Nat) (qt : Str → Nat) : List Sh → Nat
  | [] => 0
  | a :: r => cntS q qt a + cntL q qt r
end
theorem cntL_append (q : Str → Int → Nat) (qt : Str → Nat) : ∀ a b : List Sh, cntL q qt (a ++ b) = cntL q qt a + cntL q qt b
  | [], b => by simp [cntL]
  | x :: r, b => by simp [cntL, cntL_append q qt r b]; omega
theorem cntL_split (q : Str → Int → Nat) (qt : Str → Nat) (k : Nat) (a : List Sh) : cntL q qt (a.take k) + cntL q qt (a.drop k) = cntL q qt a := by
  rw [← cntL_append, List.take_append_drop]
/-- a count that grows with the first token by a, with the first tree by b -/
theorem cntRun {q : Str → Int → Nat} {qt : Str → Nat} {odd : Int} {a b : Nat} (hT : ∀ (i : Nat) n t, i < 99 → cntS q qt (bTok odd i n t) = if t = 0 then a else 0) (hN : ∀ n t, n.fmod 3 ≠ 0 → qt (bName odd n t) = if t = 0 then b else 0) :
    ∀ (ns : List Int) (i : Nat) (S : List Sh × Nat × Nat), i + ns.length ≤ 99 → cntL q qt S.1 = (if S.2.1 = 0 then 0 else a) + (if S.2.2 = 0 then 0 else b) →
      cntL q qt (bRun odd i ns S).1 = (if (bRun odd i ns S).2.1 = 0 then 0 else a) + (if (bRun odd i ns S).2.2 = 0 then 0 else b)
  | [], _, _, _, h => h
  | n :: r, i, S, hi, h => by
    simp only [List.length_cons] at hi
    refine cntRun hT hN r (i + 1) _ (by omega) ?_
    unfold bStep
    by_cases hn : n.fmod 3 = 0
    · rw [if_pos hn]
      simp only [cntL_append, cntL, hT i n S.2.1 (by omega), h]
      by_cases h0 : S.2.1 = 0 <;> simp [h0] <;> omega
    · rw [if_neg hn]
      simp only [cntL_append, cntL, cntS, hN n S.2.2 hn]
      have := cntL_split q qt (bCut n S.1.length) S.1
      by_cases h0 : S.2.2 = 0 <;> simp [h0] at h ⊢ <;> omega
/-- how many tokens, how many trees -/
theorem cntTok (odd : Int) : ∀ (ns : List Int) (i : Nat) (S : List Sh × Nat × Nat), cntL (fun _ _ => 1) (fun _ => 0) S.1 = S.2.1 → cntL (fun _ _ => 0) (fun _ => 1) S.1 = S.2.2 →
      cntL (fun _ _ => 1) (fun _ => 0) (bRun odd i ns S).1 = (bRun odd i ns S).2.1 ∧ cntL (fun _ _ => 0) (fun _ => 1) (bRun odd i ns S).1 = (bRun odd i ns S).2.2
  | [], _, _, h, h2 => ⟨h, h2⟩
  | n :: r, i, S, h, h2 => by
    refine cntTok odd r (i + 1) _ ?_ ?_
    · unfold bStep
      by_cases hn : n.fmod 3 = 0
      · rw [if_pos hn]
        simp only [cntL_append, cntL, bTok, cntS, h]
      · rw [if_neg hn]
        simp only [cntL_append, cntL, cntS]
        have := cntL_split (fun _ _ => 1) (fun _ => 0) (bCut n S.1.length) S.1
        omega
    · unfold bStep
      by_cases hn : n.fmod 3 = 0
      · rw [if_pos hn]
        simp [cntL_append, cntL, bTok, cntS, h2]
      · rw [if_neg hn]
        simp only [cntL_append, cntL, cntS]
        have := cntL_split (fun _ _ => 0) (fun _ => 1) (bCut n S.1.length) S.1
        omega
theorem stepMono (odd : Int) (i : Nat) (n : Int) (S : List Sh × Nat × Nat) : S.2.1 ≤ (bStep odd i n S).2.1 ∧ S.2.2 ≤ (bStep odd i n S).2.2 := by
  unfold bStep
  split <;> simp
theorem runMono (odd : Int) : ∀ (ns : List Int) (i : Nat) (S : List Sh × Nat × Nat), S.2.1 ≤ (bRun odd i ns S).2.1 ∧ S.2.2 ≤ (bRun odd i ns S).2.2
  | [], _, _ => ⟨Nat.le_refl _, Nat.le_refl _⟩
  | n :: r, i, S => by
    have h1 := stepMono odd i n S
    have h2 := runMono odd r (i + 1) (bStep odd i n S)
    exact ⟨Nat.le_trans h1.1 h2.1, Nat.le_trans h1.2 h2.2⟩
/-- no token: 2 and 3 build what 0 builds -/
theorem runNoTok {odd : Int} (ho : odd ≠ 4) : ∀ (ns : List Int) (i : Nat) (S : List Sh × Nat × Nat), (bRun odd i ns S).2.1 = 0 → bRun odd i ns S = bRun 0 i ns S
  | [], _, _, _ => rfl
  | n :: r, i, S, h => by
    have h2 := (runMono odd r (i + 1) (bStep odd i n S)).1
    have h' : (bRun odd (i + 1) r (bStep odd i n S)).2.1 = 0 := h
    have hn : n.fmod 3 ≠ 0 := fun hn => by
      have : (bStep odd i n S).2.1 = S.2.1 + 1 := by unfold bStep; rw [if_pos hn]
      omega
    have e : bStep odd i n S = bStep 0 i n S := by
      unfold bStep
      rw [if_neg hn, if_neg hn]
      simp [bName, ho]
    show bRun odd (i + 1) r (bStep odd i n S) = bRun 0 (i + 1) r (bStep 0 i n S)
    rw [runNoTok ho r (i + 1) _ h', e]
/-- no tree: 4 builds what 0 builds -/
theorem runNoTree : ∀ (ns : List Int) (i : Nat) (S : List Sh × Nat × Nat), (bRun 4 i ns S).2.2 = 0 → bRun 4 i ns S = bRun 0 i ns S
  | [], _, _, _ => rfl
  | n :: r, i, S, h => by
    have h2 := (runMono 4 r (i + 1) (bStep 4 i n S)).2
    have h' : (bRun 4 (i + 1) r (bStep 4 i n S)).2.2 = 0 := h
    have hn : n.fmod 3 = 0 := Classical.byContradiction fun hn => by
      have : (bStep 4 i n S).2.2 = S.2.2 + 1 := by unfold bStep; rw [if_neg hn]
      omega
    have e : bStep 4 i n S = bStep 0 i n S := by
      unfold bStep
      rw [if_pos hn, if_pos hn]
      simp [bTok]
    show bRun 4 (i + 1) r (bStep 4 i n S) = bRun 0 (i + 1) r (bStep 0 i n S)
    rw [runNoTree r (i + 1) _ h', e]
theorem bEnd_one (ns : List Int) : bEnd 1 ns = bEnd 0 ns := by
  have : ∀ (ns : List Int) (i : Nat) (S : List Sh × Nat × Nat), bRun 1 i ns S = bRun 0 i ns S := by
    intro ns
    induction ns with
    | nil => intro i S; rfl
    | cons n r ih =>
      intro i S
      show bRun 1 (i + 1) r (bStep 1 i n S) = bRun 0 (i + 1) r (bStep 0 i n S)
      have e : bStep 1 i n S = bStep 0 i n S := by
        unfold bStep
        simp [bTok, bName]
      rw [ih, e]
  exact this ns 0 _
theorem builtS_ne (odd : Int) (h : odd ≠ 1) (ns : List Int) : builtS odd ns = .tree (Str.ofString "top") (bEnd odd ns).1 := by
  unfold builtS
  rw [if_neg h, List.append_nil]
/-- 1: one child more -/
theorem built_one (ns : List Int) : builtS 0 ns ≠ builtS 1 ns := by
  rw [builtS_ne 0 (by decide)]
  unfold builtS
  rw [if_pos rfl, bEnd_one]
  intro q
  injection q with _ q
  have := congrArg List.length q
  simp at this
theorem cnt_zero {q : Str → Int → Nat} {qt : Str → Nat} {odd : Int} {a b : Nat} (hT : ∀ (i : Nat) n t, i < 99 → cntS q qt (bTok odd i n t) = if t = 0 then a else 0) (hN : ∀ n t, n.fmod 3 ≠ 0 → qt (bName odd n t) = if t = 0 then b else 0) {ns : List Int} (h : ns.length ≤ 16) :
    cntL q qt (bEnd odd ns).1 = (if (bEnd odd ns).2.1 = 0 then 0 else a) + (if (bEnd odd ns).2.2 = 0 then 0 else b) := cntRun hT hN ns 0 _ (by omega) rfl
theorem built_odd {odd : Int} {a b : Nat} (q : Str → Int → Nat) (qt : Str → Nat) (h1 : odd ≠ 1) (hT : ∀ (i : Nat) n t, i < 99 → cntS q qt (bTok odd i n t) = if t = 0 then a else 0) (hN : ∀ n t, n.fmod 3 ≠ 0 → qt (bName odd n t) = if t = 0 then b else 0)
    (hT0 : ∀ (i : Nat) n t, i < 99 → cntS q qt (bTok 0 i n t) = 0) (hN0 : ∀ n t, n.fmod 3 ≠ 0 → qt (bName 0 n t) = 0) {ns : List Int} (h : ns.length ≤ 16) (e : builtS 0 ns = builtS odd ns) :
    (if (bEnd 0 ns).2.1 = 0 then 0 else a) + (if (bEnd 0 ns).2.2 = 0 then 0 else b) = 0 := by
  rw [builtS_ne 0 (by decide), builtS_ne odd h1] at e
  injection e with _ e
  have c1 := cnt_zero hT hN h
  have c0 := cnt_zero (a := 0) (b := 0) (fun i n t hi => by rw [hT0 i n t hi]; simp) (fun n t hn => by rw [hN0 n t hn]; simp) h
  rw [e, c1, (sameEnd odd 0 ns).2] at c0
  simpa using c0
theorem built_two {ns : List Int} (h : ns.length ≤ 16) : builtS 0 ns = builtS 2 ns ↔ (bEnd 0 ns).2.1 = 0 := by
  constructor
  · intro e
    have := built_odd (odd := 2) (a := 1) (b := 0) (fun _ v => if v = 99 then 1 else 0) (fun _ => 0) (by decide) (fun i n t hi => ?_) (fun n t hn => by simp) (fun i n t hi => ?_) (fun n t hn => rfl) h e
    · by_cases h0 : (bEnd 0 ns).2.1 = 0
      · exact h0
      · simp [h0] at this
    · by_cases ht : t = 0
      · simp [bTok, cntS, ht]
      · simp [bTok, cntS, ht]; omega
    · simp [bTok, cntS]; omega
  · intro e
    rw [builtS_ne 0 (by decide), builtS_ne 2 (by decide)]
    have e2 : bEnd 2 ns = bEnd 0 ns := runNoTok (by decide) ns 0 _ (by have := (sameEnd 2 0 ns).2; show (bEnd 2 ns).2.1 = 0; rw [this]; exact e)
    rw [e2]
theorem built_three {ns : List Int} (h : ns.length ≤ 16) : builtS 0 ns = builtS 3 ns ↔ (bEnd 0 ns).2.1 = 0 := by
  have hXZ : Str.ofString "X" ≠ Str.ofString "Z" := by decide
  have hYZ : Str.ofString "Y" ≠ Str.ofString "Z" := by decide
  constructor
  · intro e
    have := built_odd (odd := 3) (a := 1) (b := 0) (fun ty _ => if ty = Str.ofString "Z" then 1 else 0) (fun _ => 0) (by decide) (fun i n t hi => ?_) (fun n t hn => by simp) (fun i n t hi => ?_) (fun n t hn => rfl) h e
    · by_cases h0 : (bEnd 0 ns).2.1 = 0
      · exact h0
      · simp [h0] at this
    · by_cases ht : t = 0
      · simp [bTok, cntS, ht]
      · by_cases hx : (n.fdiv 3).fmod 2 = 0 <;> simp [bTok, cntS, ht, hx, hXZ, hYZ]
    · by_cases hx : (n.fdiv 3).fmod 2 = 0 <;> simp [bTok, cntS, hx, hXZ, hYZ]
  · intro e
    rw [builtS_ne 0 (by decide), builtS_ne 3 (by decide)]
    have e2 : bEnd 3 ns = bEnd 0 ns := runNoTok (by decide) ns 0 _ (by have := (sameEnd 3 0 ns).2; show (bEnd 3 ns).2.1 = 0; rw [this]; exact e)
    rw [e2]
theorem built_four {ns : List Int} (h : ns.length ≤ 16) : builtS 0 ns = builtS 4 ns ↔ (bEnd 0 ns).2.2 = 0 := by
  have hpz : Str.ofString "p" ≠ Str.ofString "z" := by decide
  have hqz : Str.ofString "q" ≠ Str.ofString "z" := by decide
  constructor
  · intro e
    have := built_odd (odd := 4) (a := 0) (b := 1) (fun _ _ => 0) (fun d => if d = Str.ofString "z" then 1 else 0) (by decide) (fun i n t hi => by simp [bTok, cntS]) (fun n t hn => ?_) (fun i n t hi => by simp [bTok, cntS]) (fun n t hn => ?_) h e
    · by_cases h0 : (bEnd 0 ns).2.2 = 0
      · exact h0
      · simp [h0] at this
    · by_cases ht : t = 0
      · simp [bName, ht]
      · by_cases hx : n.fmod 3 = 1 <;> simp [bName, ht, hx, hpz, hqz]
    · by_cases hx : n.fmod 3 = 1 <;> simp [bName, hx, hpz, hqz]
  · intro e
    rw [builtS_ne 0 (by decide), builtS_ne 4 (by decide)]
    have e2 : bEnd 4 ns = bEnd 0 ns := runNoTree ns 0 _ (by have := (sameEnd 4 0 ns).2; show (bEnd 4 ns).2.2 = 0; rw [this]; exact e)
    rw [e2]
mutual
theorem toks_cnt : ∀ n : Nd, (toksOf (pre n)).length = cntS (fun _ _ => 1) (fun _ => 0) n.sh ∧ (treesOf (pre n)).length = cntS (fun _ _ => 0) (fun _ => 1) n.sh
  | .tok .. => ⟨rfl, rfl⟩
  | .tree a dx l d ks => by
    have h := toks_cntL ks
    have e1 : toksOf (pre (.tree a dx l d ks)) = toksOf (preL ks) := rfl
    have e2 : treesOf (pre (.tree a dx l d ks)) = .tree a dx l d ks :: treesOf (preL ks) := rfl
    rw [e1, e2, List.length_cons, h.1, h.2]
    simp only [Nd.sh, cntS]
    omega
theorem toks_cntL : ∀ ns : List Nd, (toksOf (preL ns)).length = cntL (fun _ _ => 1) (fun _ => 0) (shL ns) ∧ (treesOf (preL ns)).length = cntL (fun _ _ => 0) (fun _ => 1) (shL ns)
  | [] => ⟨rfl, rfl⟩
  | k :: r => by
    have h1 := toks_cnt k
    have h2 := toks_cntL r
    have e1 : toksOf (preL (k :: r)) = toksOf (pre k) ++ toksOf (preL r) := List.filter_append ..
    have e2 : treesOf (preL (k :: r)) = treesOf (pre k) ++ treesOf (preL r) := List.filter_append ..
    rw [e1, e2, List.length_append, List.length_append, h1.1, h1.2, h2.1, h2.2]
    exact ⟨rfl, rfl⟩
end
theorem built_counts {n : Nd} {ns : List Int} (h : n.sh = builtS 0 ns) : (toksOf (pre n)).length = (bEnd 0 ns).2.1 ∧ (treesOf (pre n)).length = 1 + (bEnd 0 ns).2.2 := by
  have c := toks_cnt n
  have t := cntTok 0 ns 0 ([], 0, 0) rfl rfl
  rw [h, builtS_ne 0 (by decide)] at c
  simp only [cntS] at c
  have e : bEnd 0 ns = bRun 0 0 ns ([], 0, 0) := rfl
  rw [e] at c ⊢
  omega
end Mine
end

section
example : True ∧ True := by
  w_top off
  first | (walk1; done) | exact ⟨trivial, trivial⟩
open PySem PySem.W PySem.Calls PyProof.Rows
set_option maxRecDepth 100000
set_option maxHeartbeats 4000000
namespace Mine
local macro_rules | `(tactic| k_inst) => `(tactic| (refine' instOf_base ?F ?h1 ?h2; (case F => k_asm); (case h1 => assumption); (case h2 => assumption)))
local macro_rules | `(tactic| k_inst) => `(tactic| (refine' instOf_news ?N ?h1 ?h2; (case N => assumption); (case h1 => first | assumption | exact .tail _ (by assumption) | exact .tail _ (.tail _ (by assumption)) | exact .tail _ (.tail _ (.tail _ (by assumption)))); (case h2 => first | assumption | exact .tail _ (by assumption) | exact .tail _ (.tail _ (by assumption)) | exact .tail _ (.tail _ (.tail _ (by assumption))))))
local macro_rules | `(tactic| walk_at "call builtin:len") => `(tactic| ((with_reducible show wpAny _ _ (call (Value.builtin "len") [Value.ref _]) _ _ _); (refine' len_news ?N ?hm ?hz ?_; (case N => assumption); (case hm => first | exact .head _ | exact .tail _ (.head _) | exact .tail _ (.tail _ (.head _)) | exact .tail _ (.tail _ (.tail _ (.head _))) | exact .tail _ (.tail _ (.tail _ (.tail _ (.head _))))); (case hz => (simp; omega)); intro tLen tkLen)))
local macro_rules | `(tactic| walk_at "eval ListComp") => `(tactic| refine holdC ?_)
local macro_rules | `(tactic| walk_at "eval Name") => `(tactic| ((with_reducible show wpAny _ _ (eval (.Name _ _) (compEnvC _ _ _ _)) _ _ _); first
  | (refine' nmG_L ?F ?hv ?_ ?hk ?hx ?hd; (case hk => exact rfl); (case hx => exact rfl); (case hd => exact rfl); (case F => assumption); (case hv => assumption))
  | (refine' nmG_K ?F ?X ?T ?e ?_ ?hk ?hx ?hg ?hd; (case hk => exact rfl); (case hx => exact rfl); (case hg => exact rfl); (case hd => exact rfl); (case F => assumption); (case X => assumption); (case T => assumption); (case e => k_is))
  | (refine' nmG_B ?F ?X ?T ?e ?hv ?hn ?_ ?hk ?hx ?hg ?hb ?hd; (case hk => exact rfl); (case hx => exact rfl); (case hg => exact rfl); (case hb => exact rfl); (case hd => exact rfl); (case F => assumption); (case X => assumption); (case T => assumption); (case e => k_is); (case hv => rfl); (case hn => decide))))
abbrev RD.adds (r : RD) (es : List (Addr × Obj)) : RD := { r with big := es ++ r.big }
theorem RD.ok_adds {r : RD} {P : Params} {news es : List (Addr × Obj)} (o : r.ok P news) (h : ∀ e ∈ es, ∀ q ∈ r.nw P news, q.1 ≠ e.1) : (r.adds es).ok P news := by
  have m : ∀ {q}, q ∈ r.big → q ∈ es ++ r.big := fun hq => List.mem_append_right _ hq
  refine ⟨o.rep.mono fun _ _ h => m h, m o.ma, m o.mn, m o.mtr, m o.mto, o.ld, fun p hp => ?_, o.offn, o.sh, o.nd, o.sz, o.hints, o.hlen⟩
  rcases List.mem_append.mp hp with hp | hp
  · exact ⟨Ne.symm (h p hp _ (.head _)), Ne.symm (h p hp _ (.tail _ (.head _))), fun q hq => Ne.symm (h p hp q (.tail _ (.tail _ (List.mem_append_left _ hq))))⟩
  · exact o.off p hp
theorem nw_adds {r : RD} {P : Params} {news es : List (Addr × Obj)} {h₀ h : Heap} {L : Addr} (N : News h₀ L h (r.nw P news)) (Ne : ∀ e ∈ es, h.get? e.1 = some e.2 ∧ e.1 ≠ L ∧ h₀.get? e.1 = none) : News h₀ L h ((r.adds es).nw P news) := by
  intro p hp
  simp only [List.mem_cons, List.mem_append] at hp
  rcases hp with h | h | h | h | h
  · exact N p (h ▸ .head _)
  · exact N p (h ▸ .tail _ (.head _))
  · exact N p (.tail _ (.tail _ (List.mem_append_left _ h)))
  · exact Ne p h
  · exact N p (.tail _ (.tail _ (List.mem_append_right _ h)))
section
variable {prog : Program} {w : World} {p : Program} {loose : List Str} {mg mb : Str → Option Value} {mean : ExcName → Option Value}
/-- _law_built in the law: another tree stands -/
theorem built_law {A : Around} {s : Shared} {Q E : Value → Shared → Prop} {H : Heap} {L : Addr} {m : Str → Option Value} {news : List (Addr × Obj)} {r : RD} {odd : Int} {todd : Tok} (X : (hd.heap_39 w.params).In H) (T : TopRead p loose mg mb H)
    (F : Fr H L s.heap m) (N : News H L s.heap (r.nw w.params news)) (ok : r.ok w.params news) (hodd : 0 ≤ odd ∧ odd ≤ 4) (hh : A.handled = none) (hd : A.depth ≤ 400) (hu : A.units ≤ 2000)
    (hQ : ∀ h' tk n' es, Keep s.heap h' → n'.isTree = true → Rep w.params (fun b o => (b, o) ∈ es) n' → n'.sh = builtS odd r.ns → n'.size ≤ 18 → Fr H L h' m → News H L h' ((r.adds es).nw w.params news) → (r.adds es).ok w.params news → Q n'.val { s with heap := h', toks := tk }) :
    wpAny (model prog w) A (call (.ref 153) [.ref r.nl, .int odd todd]) Q E s := by
  refine built_call (X.keeps F.keep) (T.keeps F.keep) (N _ (.tail _ (.tail _ (List.mem_append_right _ ok.mn)))).1 ok.hints ok.hlen hodd hh hd hu ?_
  intro a dx l ks big h₁ tk₁ t1 t2 t3 td nL hk₁ ga gdx gl na ndx nol had hal hdl hbig hR hsh hnd hsz
  have F₁ := fr_keep F hk₁
  have N₁ := news_keep N hk₁
  have hfr : ∀ e ∈ (l, listOf (ks.map Nd.val).toArray nL) :: (dx, dictOf (treeEs w.params t1 t2 t3 (.str (Str.ofString "top") td) (.ref l)) 3) :: (a, instObj 142 dx) :: big, h₁.get? e.1 = some e.2 ∧ s.heap.get? e.1 = none := by
    intro e he
    simp only [List.mem_cons] at he
    rcases he with rfl | rfl | rfl | he
    · exact ⟨gl, nol⟩
    · exact ⟨gdx, ndx⟩
    · exact ⟨ga, na⟩
    · exact ⟨(hbig e he).1, (hbig e he).2.1⟩
  refine hQ h₁ tk₁ (.tree a dx l (Str.ofString "top") ks) _ hk₁ rfl ⟨⟨t1, t2, t3, td, .tail _ (.tail _ (.head _)), .tail _ (.head _)⟩, ⟨nL, .head _⟩, hR.mono fun b o h => .tail _ (.tail _ (.tail _ h))⟩ hsh (by simp [Nd.size]; omega) F₁
    (nw_adds N₁ fun e he => ⟨(hfr e he).1, fr_new F (hfr e he).2, fr_none F (hfr e he).2⟩) (RD.ok_adds ok fun e he q hq => ne_live (N q hq).1 (hfr e he).2)
/-- a further tree of the law -/
structure Ot (P : Params) (r : RD) (n' : Nd) (odd : Int) : Prop where
  tree : n'.isTree = true
  rep : Rep P (fun b o => (b, o) ∈ r.big) n'
  sh : n'.sh = builtS odd r.ns
  size : n'.size ≤ 18
theorem Ot.adds {P : Params} {r : RD} {n' : Nd} {odd : Int} (o : Ot P r n' odd) (es : List (Addr × Obj)) : Ot P (r.adds es) n' odd := ⟨o.tree, o.rep.mono fun _ _ h => List.mem_append_right _ h, o.sh, o.size⟩
theorem Ot.repn {P : Params} {r : RD} {n' : Nd} {odd : Int} (o : Ot P r n' odd) {h₀ h : Heap} {L : Addr} {news news' : List (Addr × Obj)} (N : News h₀ L h news') (hs : ∀ q ∈ r.nw P news, q ∈ news') : Rep P (hf h) n' :=
  o.rep.mono fun _ _ hm => (N _ (hs _ (.tail _ (.tail _ (List.mem_append_right _ hm))))).1
theorem law_10 {s : Shared} {Q : Flow → Shared → Prop} {E : Value → Shared → Prop} {H : Heap} {L fa : Addr} {m : Str → Option Value} {news : List (Addr × Obj)} {r : RD} (X : (hd.heap_39 w.params).In H) (T : Top p loose mean mg mb H)
    (F : Fr H L s.heap m) (N : News H L s.heap (r.nw w.params news)) (ok : r.ok w.params news) (hm : r.names m)
    (hQ : ∀ (s' : Shared) (m' : Str → Option Value) (es es₂ : List (Addr × Obj)) (no lo : Nd), Fr H L s'.heap m' → News H L s'.heap (((r.adds es).adds es₂).nw w.params news) → ((r.adds es).adds es₂).ok w.params news → ((r.adds es).adds es₂).names m' → Ot w.params ((r.adds es).adds es₂) no 0 → Ot w.params ((r.adds es).adds es₂) lo 1 →
      m' (Str.ofString "other") = some no.val → m' (Str.ofString "longer") = some lo.val → Rest 0 s s' → wpAny (model prog w) (Ar 302 500) (execs (lawSt 15) (lawEnv L fa)) Q E s') :
    wpAny (model prog w) (Ar 302 500) (execs (lawSt 13) (lawEnv L fa)) Q E s := by
  show wpAny _ _ (execs (Stmt.Assign _ (Expr.Call _ _ _ _) _ :: Stmt.Assign _ (Expr.Call _ _ _ _) _ :: lawSt 15) (envOfC _ (Scope.mk _ _ _ _ _) _ _ _)) _ _ _
  unfold lawEnv at hQ
  generalize lawSt 15 = rest at hQ ⊢
  have F₀ := F
  rw [upd_self hm.numbers, upd_self hm.tree, upd_self hm.trees, upd_self hm.tokens] at F₀
  clear F
  have TH := topRead_of T
  iterate 11 walk1
  refine built_law X TH F₀ N ok (by decide) rfl (Nat.le_of_ble_eq_true rfl) (Nat.le_of_ble_eq_true rfl) ?_
  intro h₁ tk₁ no es _ ht1 hr1 hs1 hz1 F₁ N₁ ok₁
  clear F₀ N
  iterate 13 walk1
  rename_i h₂ F₂ N₂
  refine built_law (r := r.adds es) X TH F₂ N₂ ok₁ (by decide) rfl (Nat.le_of_ble_eq_true rfl) (Nat.le_of_ble_eq_true rfl) ?_
  intro h₃ tk₃ lo es₂ _ ht2 hr2 hs2 hz2 F₃ N₃ ok₃
  clear F₂ N₂
  walk1
  rename Fr _ _ _ _ => F₄
  rename News _ _ _ _ => N₄
  exact hQ _ _ es es₂ no lo F₄ N₄ ok₃ ⟨rfl, rfl, rfl, rfl⟩ (Ot.adds (r := r.adds es) ⟨ht1, hr1.mono fun _ _ h => List.mem_append_left _ h, hs1, hz1⟩ es₂) ⟨ht2, hr2.mono fun _ _ h => List.mem_append_left _ h, hs2, hz2⟩ rfl rfl (Rest.refl (s := s)).same
end
end Mine
end

section
example : True ∧ True := by
  w_top off
  first | (walk1; done) | exact ⟨trivial, trivial⟩
open PySem PySem.W PySem.Calls PyProof.Rows
set_option maxRecDepth 100000
set_option maxHeartbeats 4000000
namespace Mine
local macro_rules | `(tactic| k_inst) => `(tactic| (refine' instOf_base ?F ?h1 ?h2; (case F => k_asm); (case h1 => assumption); (case h2 => assumption)))
local macro_rules | `(tactic| k_inst) => `(tactic| (refine' instOf_news ?N ?h1 ?h2; (case N => assumption); (case h1 => first | assumption | exact .tail _ (by assumption) | exact .tail _ (.tail _ (by assumption)) | exact .tail _ (.tail _ (.tail _ (by assumption)))); (case h2 => first | assumption | exact .tail _ (by assumption) | exact .tail _ (.tail _ (by assumption)) | exact .tail _ (.tail _ (.tail _ (by assumption))))))
local macro_rules | `(tactic| walk_at "call builtin:len") => `(tactic| ((with_reducible show wpAny _ _ (call (Value.builtin "len") [Value.ref _]) _ _ _); (refine' len_news ?N ?hm ?hz ?_; (case N => assumption); (case hm => first | exact .head _ | exact .tail _ (.head _) | exact .tail _ (.tail _ (.head _)) | exact .tail _ (.tail _ (.tail _ (.head _))) | exact .tail _ (.tail _ (.tail _ (.tail _ (.head _))))); (case hz => (simp; omega)); intro tLen tkLen)))
local macro_rules | `(tactic| walk_at "eval ListComp") => `(tactic| refine holdC ?_)
local macro_rules | `(tactic| walk_at "eval Name") => `(tactic| ((with_reducible show wpAny _ _ (eval (.Name _ _) (compEnvC _ _ _ _)) _ _ _); first
  | (refine' nmG_L ?F ?hv ?_ ?hk ?hx ?hd; (case hk => exact rfl); (case hx => exact rfl); (case hd => exact rfl); (case F => assumption); (case hv => assumption))
  | (refine' nmG_K ?F ?X ?T ?e ?_ ?hk ?hx ?hg ?hd; (case hk => exact rfl); (case hx => exact rfl); (case hg => exact rfl); (case hd => exact rfl); (case F => assumption); (case X => assumption); (case T => assumption); (case e => k_is))
  | (refine' nmG_B ?F ?X ?T ?e ?hv ?hn ?_ ?hk ?hx ?hg ?hb ?hd; (case hk => exact rfl); (case hx => exact rfl); (case hg => exact rfl); (case hb => exact rfl); (case hd => exact rfl); (case F => assumption); (case X => assumption); (case T => assumption); (case e => k_is); (case hv => rfl); (case hn => decide))))
theorem holdP {M : Model} {A : Around} {E : Value → Shared → Prop} {s : Shared} {op : CmpOp} {a b : Value} {Q : Value → Shared → Prop} (h : Hold (wpAny M A (compareOp op a b) Q E s)) : wpAny M A (compareOp op a b) Q E s := h
local macro_rules | `(tactic| walk_at "compareOp Eq ref ref") => `(tactic| refine holdP ?_)
local macro_rules | `(tactic| walk_at "compareOp NotEq ref ref") => `(tactic| refine holdP ?_)
section
variable {prog : Program} {w : World} {p : Program} {loose : List Str} {mg mb : Str → Option Value} {mean : ExcName → Option Value}
theorem eqN {A : Around} {s : Shared} {Q E : Value → Shared → Prop} {h₀ : Heap} {L : Addr} {m : Str → Option Value} {n1 n2 : Nd} {b : Bool} (F : Fr h₀ L s.heap m) (X : (hd.heap_39 w.params).In h₀) (T : TopRead p loose mg mb h₀) (ha : alike n1 n2) (hk : n1.height ≤ 20) (hz : n1.size ≤ 1000)
    (hr1 : Rep w.params (hf s.heap) n1) (hr2 : Rep w.params (hf s.heap) n2) (hh : A.handled = none) (hd : A.depth ≤ 500) (hu : A.units ≤ 3000) (hb : shB n1.sh n2.sh = b) (hQ : ∀ h' tk, Keep s.heap h' → Q (.bool b) { s with heap := h', toks := tk }) :
    wpAny (model prog w) A (compareOp .Eq n1.val n2.val) Q E s :=
  cmp_ofEq (eq_nodes 20 n1 n2 ha hk (Nat.le_refl _) hz F X T hr1 hr2 hh (by omega) (by omega) fun h' tk hk' => hb ▸ hQ h' tk hk')
theorem neN' {A : Around} {s : Shared} {Q E : Value → Shared → Prop} {h₀ : Heap} {L : Addr} {m : Str → Option Value} {n1 n2 : Nd} {b : Bool} (F : Fr h₀ L s.heap m) (X : (hd.heap_39 w.params).In h₀) (T : TopRead p loose mg mb h₀) (ht1 : n1.isTree = true) (ht2 : n2.isTree = true) (ha : alike n1 n2) (hk : n1.height ≤ 20) (hz : n1.size ≤ 1000)
    (hr1 : Rep w.params (hf s.heap) n1) (hr2 : Rep w.params (hf s.heap) n2) (hh : A.handled = none) (hd : A.depth ≤ 500) (hu : A.units ≤ 3000) (hb : shB n1.sh n2.sh = b) (hQ : ∀ h' tk, Keep s.heap h' → Q (.bool (!b)) { s with heap := h', toks := tk }) :
    wpAny (model prog w) A (compareOp .NotEq n1.val n2.val) Q E s := by
  refine cmp_ofNotEq (ne_trees F X T ht1 ht2 ha hk hz hr1 hr2 hh hd hu fun h' tk hk' => ?_)
  rw [hb]
  exact hQ h' tk hk'
theorem alike_built {n1 n2 : Nd} {o1 o2 : Int} {ns : List Int} (h1 : n1.sh = builtS o1 ns) (h2 : n2.sh = builtS o2 ns) : alike n1 n2 := by
  by_cases hs : sameS n1.sh n2.sh
  · exact same_alike n1 n2 hs
  · cases n1 with
    | tok => simp [Nd.sh, builtS] at h1
    | tree a dx l d ks =>
      cases n2 with
      | tok => simp [Nd.sh, builtS] at h2
      | tree a' dx' l' d' ks' =>
        intro hl
        simp only [Nd.sh, builtS] at h1 h2
        injection h1 with _ h1
        injection h2 with _ h2
        have e := sameEnd o1 o2 ns
        have l1 := congrArg List.length h1
        have l2 := congrArg List.length h2
        rw [shL_map, List.length_map, List.length_append] at l1
        rw [shL_map, List.length_map, List.length_append] at l2
        have le := sameL_length e.1
        refine same_alikeL ks ks' ?_
        rw [h1, h2]
        refine sameL_append e.1 ?_
        by_cases c1 : o1 = 1
        · by_cases c2 : o2 = 1
          · rw [if_pos c1, if_pos c2]
            exact ⟨trivial, trivial⟩
          · rw [if_pos c1] at l1
            rw [if_neg c2] at l2
            simp only [List.length_cons, List.length_nil] at l1 l2
            omega
        · by_cases c2 : o2 = 1
          · rw [if_neg c1] at l1
            rw [if_pos c2] at l2
            simp only [List.length_cons, List.length_nil] at l1 l2
            omega
          · rw [if_neg c1, if_neg c2]
            trivial
theorem law_11 {s : Shared} {Q : Flow → Shared → Prop} {E : Value → Shared → Prop} {H : Heap} {L fa : Addr} {m : Str → Option Value} {news : List (Addr × Obj)} {r : RD} {no lo : Nd} (X : (hd.heap_39 w.params).In H) (T : Top p loose mean mg mb H)
    (F : Fr H L s.heap m) (N : News H L s.heap (r.nw w.params news)) (ok : r.ok w.params news) (hm : r.names m) (oo : Ot w.params r no 0) (ol : Ot w.params r lo 1) (hmo : m (Str.ofString "other") = some no.val) (hml : m (Str.ofString "longer") = some lo.val)
    (hQ : ∀ (s' : Shared) (m' : Str → Option Value), Fr H L s'.heap m' → News H L s'.heap (r.nw w.params news) → r.names m' → m' (Str.ofString "other") = some no.val → m' (Str.ofString "longer") = some lo.val → Rest 0 s s' → wpAny (model prog w) (Ar 302 500) (execs (lawSt 16) (lawEnv L fa)) Q E s') :
    wpAny (model prog w) (Ar 302 500) (execs (lawSt 15) (lawEnv L fa)) Q E s := by
  show wpAny _ _ (execs (Stmt.If (Expr.BoolOp _ _ _) _ _ _ :: lawSt 16) (envOfC _ (Scope.mk _ _ _ _ _) _ _ _)) _ _ _
  unfold lawEnv at hQ
  generalize lawSt 16 = rest at hQ ⊢
  have F₀ := F
  rw [upd_self hm.numbers, upd_self hm.tree, upd_self hm.trees, upd_self hm.tokens, upd_self hmo, upd_self hml] at F₀
  clear F
  have TH := topRead_of T
  have hma : (r.a, instObj 142 r.dx) ∈ r.nw w.params news := .tail _ (.tail _ (List.mem_append_right _ ok.ma))
  have hmd : (r.dx, dictOf (treeEs w.params r.t1 r.t2 r.t3 (.str (Str.ofString "top") r.td) (.ref r.l)) 3) ∈ r.nw w.params news := .tail _ (.head _)
  have nT : r.n.isTree = true := rfl
  have nH := RD.height ok
  have nZ : r.n.size ≤ 1000 := Nat.le_trans (RD.size ok) (by decide)
  have eo : shB r.n.sh no.sh = true := shB_iff.mpr (ok.sh.trans oo.sh.symm)
  have el : shB r.n.sh lo.sh = false := by
    rw [Bool.eq_false_iff]
    intro q
    exact built_one r.ns (ok.sh.symm.trans ((shB_iff.mp q).trans ol.sh))
  have ao : alike r.n no := alike_built ok.sh oo.sh
  have al : alike r.n lo := alike_built ok.sh ol.sh
  repeat' walk1
  show wpAny _ _ _ _ _ _
  refine eqN (n1 := r.n) F₀ X TH ao nH nZ (RD.repn ok N fun _ h => h) (oo.repn N fun _ h => h) rfl (Nat.le_of_ble_eq_true rfl) (Nat.le_of_ble_eq_true rfl) eo fun h₁ tk₁ hk₁ => ?_
  have F₁ := fr_keep F₀ hk₁
  have N₁ := news_keep N hk₁
  clear F₀ N
  repeat' walk1
  show wpAny _ _ _ _ _ _
  refine neN' (n1 := r.n) F₁ X TH nT oo.tree ao nH nZ (RD.repn ok N₁ fun _ h => h) (oo.repn N₁ fun _ h => h) rfl (Nat.le_of_ble_eq_true rfl) (Nat.le_of_ble_eq_true rfl) eo fun h₂ tk₂ hk₂ => ?_
  have F₂ := fr_keep F₁ hk₂
  have N₂ := news_keep N₁ hk₂
  clear F₁ N₁
  repeat' walk1
  show wpAny _ _ _ _ _ _
  refine eqN (n1 := r.n) F₂ X TH al nH nZ (RD.repn ok N₂ fun _ h => h) (ol.repn N₂ fun _ h => h) rfl (Nat.le_of_ble_eq_true rfl) (Nat.le_of_ble_eq_true rfl) el fun h₃ tk₃ hk₃ => ?_
  have F₃ := fr_keep F₂ hk₃
  have N₃ := news_keep N₂ hk₃
  clear F₂ N₂
  repeat' walk1
  show wpAny _ _ _ _ _ _
  refine neN' (n1 := r.n) F₃ X TH nT ol.tree al nH nZ (RD.repn ok N₃ fun _ h => h) (ol.repn N₃ fun _ h => h) rfl (Nat.le_of_ble_eq_true rfl) (Nat.le_of_ble_eq_true rfl) el fun h₄ tk₄ hk₄ => ?_
  have F₄ := fr_keep F₃ hk₄
  have N₄ := news_keep N₃ hk₄
  clear F₃ N₃
  repeat' walk1
  refine mkTree (X.keeps F₄.keep) (TH.keeps F₄.keep) rfl (Nat.le_of_ble_eq_true rfl) (Nat.le_of_ble_eq_true rfl) fun dx u1 u2 u3 h₅ tk₅ hdx hk₅ ha1 ha2 => ?_
  dsimp only at hk₅
  have F₅ := fr_keep F₄ hk₅
  have N₅ := news_keep N₄ hk₅
  have hR₅ := RD.repn ok N₅ fun _ h => h
  obtain ⟨_, hl₅, hks₅⟩ := id hR₅
  have aq : alike r.n (.tree (dx + 1) dx r.l (Str.ofString "q") r.ks) := fun _ => same_alikeL r.ks r.ks (sameL_refl _)
  have eq' : shB r.n.sh (Nd.tree (dx + 1) dx r.l (Str.ofString "q") r.ks).sh = false := by
    rw [Bool.eq_false_iff]
    intro q
    have := shB_iff.mp q
    simp only [Nd.sh] at this
    injection this with h _
    exact absurd h (by decide)
  clear F₄ N₄
  repeat' walk1
  show wpAny _ _ _ _ _ _
  refine eqN (n1 := r.n) (n2 := .tree (dx + 1) dx r.l (Str.ofString "q") r.ks) F₅ X TH aq nH nZ hR₅ ⟨⟨u1, u2, u3, _, ha1, ha2⟩, hl₅, hks₅⟩ rfl (Nat.le_of_ble_eq_true rfl) (Nat.le_of_ble_eq_true rfl) eq' fun h₆ tk₆ hk₆ => ?_
  have F₆ := fr_keep F₅ hk₆
  have N₆ := news_keep N₅ hk₆
  clear F₅ N₅
  repeat' walk1
  dsimp only
  exact hQ _ _ F₆ N₆ ⟨rfl, rfl, rfl, rfl⟩ rfl rfl (Rest.refl (s := s)).same
end
end Mine
end

section
example : True ∧ True := by
  w_top off
  first | (walk1; done) | exact ⟨trivial, trivial⟩
open PySem PySem.W PySem.Calls PyProof.Rows
set_option maxRecDepth 100000
set_option maxHeartbeats 4000000
namespace Mine
local macro_rules | `(tactic| k_inst) => `(tactic| (refine' instOf_base ?F ?h1 ?h2; (case F => k_asm); (case h1 => assumption); (case h2 => assumption)))
local macro_rules | `(tactic| k_inst) => `(tactic| (refine' instOf_news ?N ?h1 ?h2; (case N => assumption); (case h1 => first | assumption | exact .tail _ (by assumption) | exact .tail _ (.tail _ (by assumption)) | exact .tail _ (.tail _ (.tail _ (by assumption)))); (case h2 => first | assumption | exact .tail _ (by assumption) | exact .tail _ (.tail _ (by assumption)) | exact .tail _ (.tail _ (.tail _ (by assumption))))))
local macro_rules | `(tactic| walk_at "call builtin:len") => `(tactic| ((with_reducible show wpAny _ _ (call (Value.builtin "len") [Value.ref _]) _ _ _); (refine' len_news ?N ?hm ?hz ?_; (case N => assumption); (case hm => first | exact .head _ | exact .tail _ (.head _) | exact .tail _ (.tail _ (.head _)) | exact .tail _ (.tail _ (.tail _ (.head _))) | exact .tail _ (.tail _ (.tail _ (.tail _ (.head _))))); (case hz => (simp; omega)); intro tLen tkLen)))
local macro_rules | `(tactic| walk_at "eval ListComp") => `(tactic| refine holdC ?_)
local macro_rules | `(tactic| walk_at "eval Name") => `(tactic| ((with_reducible show wpAny _ _ (eval (.Name _ _) (compEnvC _ _ _ _)) _ _ _); first
  | (refine' nmG_L ?F ?hv ?_ ?hk ?hx ?hd; (case hk => exact rfl); (case hx => exact rfl); (case hd => exact rfl); (case F => assumption); (case hv => assumption))
  | (refine' nmG_K ?F ?X ?T ?e ?_ ?hk ?hx ?hg ?hd; (case hk => exact rfl); (case hx => exact rfl); (case hg => exact rfl); (case hd => exact rfl); (case F => assumption); (case X => assumption); (case T => assumption); (case e => k_is))
  | (refine' nmG_B ?F ?X ?T ?e ?hv ?hn ?_ ?hk ?hx ?hg ?hb ?hd; (case hk => exact rfl); (case hx => exact rfl); (case hg => exact rfl); (case hb => exact rfl); (case hd => exact rfl); (case F => assumption); (case X => assumption); (case T => assumption); (case e => k_is); (case hv => rfl); (case hn => decide))))
local macro_rules | `(tactic| walk_at "compareOp Eq ref ref") => `(tactic| refine holdP ?_)
local macro_rules | `(tactic| walk_at "compareOp NotEq ref ref") => `(tactic| refine holdP ?_)
section
variable {prog : Program} {w : World} {p : Program} {loose : List Str} {mg mb : Str → Option Value} {mean : ExcName → Option Value}
theorem law_12 {s : Shared} {Q : Flow → Shared → Prop} {E : Value → Shared → Prop} {H : Heap} {L fa : Addr} {m : Str → Option Value} {news : List (Addr × Obj)} {r : RD} {no lo : Nd} (X : (hd.heap_39 w.params).In H) (T : Top p loose mean mg mb H)
    (F : Fr H L s.heap m) (N : News H L s.heap (r.nw w.params news)) (ok : r.ok w.params news) (hm : r.names m) (oo : Ot w.params r no 0) (ol : Ot w.params r lo 1) (hmo : m (Str.ofString "other") = some no.val) (hml : m (Str.ofString "longer") = some lo.val)
    (hQ : ∀ (s' : Shared) (m' : Str → Option Value), Fr H L s'.heap m' → News H L s'.heap (r.nw w.params news) → r.names m' → m' (Str.ofString "other") = some no.val → Rest 0 s s' → wpAny (model prog w) (Ar 302 500) (execs (lawSt 17) (lawEnv L fa)) Q E s') :
    wpAny (model prog w) (Ar 302 500) (execs (lawSt 16) (lawEnv L fa)) Q E s := by
  show wpAny _ _ (execs (Stmt.If (Expr.BoolOp _ _ _) _ _ _ :: lawSt 17) (envOfC _ (Scope.mk _ _ _ _ _) _ _ _)) _ _ _
  unfold lawEnv at hQ
  generalize lawSt 17 = rest at hQ ⊢
  have F₀ := F
  rw [upd_self hm.numbers, upd_self hm.tree, upd_self hm.trees, upd_self hm.tokens, upd_self hmo, upd_self hml] at F₀
  clear F
  have TH := topRead_of T
  have hsn := RD.size ok
  have hso := oo.size
  have hsl := ol.size
  have hgn := height_size r.n
  have hgo := height_size no
  have ssn : sameS r.n.sh no.sh := by rw [ok.sh, oo.sh]; exact sameS_refl _
  have ano : alike r.n no := alike_built ok.sh oo.sh
  have aon : alike no r.n := alike_built oo.sh ok.sh
  have aoo : alike no no := alike_built oo.sh oo.sh
  have anl : alike r.n lo := alike_built ok.sh ol.sh
  have sno : r.n.sh = no.sh := ok.sh.trans oo.sh.symm
  repeat' walk1
  rename_i l1 h1a F1a N1a lt1
  refine mkTree (X.keeps F1a.keep) (TH.keeps F1a.keep) rfl (Nat.le_of_ble_eq_true rfl) (Nat.le_of_ble_eq_true rfl) fun d1 u11 u12 u13 h1 tk1 hd1 hk1 ga1 gd1 => ?_
  dsimp only at hd1 hk1
  have nd1 : h1a.get? d1 = none := fresh_of (Nat.le_of_eq hd1.symm)
  have ne1 : h1a.get? (d1 + 1) = none := fresh_of (by rw [hd1]; exact Nat.le_succ _)
  have F1 := fr_keep F1a hk1
  have N1 := news_cons F1 (news_cons F1 (news_keep N1a hk1) gd1 (fr_none F1a nd1) (fr_new F1a nd1)) ga1 (fr_none F1a ne1) (fr_new F1a ne1)
  clear F1a N1a
  repeat' walk1
  rename_i l2 h2a F2a N2a lt2
  refine mkTree (X.keeps F2a.keep) (TH.keeps F2a.keep) rfl (Nat.le_of_ble_eq_true rfl) (Nat.le_of_ble_eq_true rfl) fun d2 u21 u22 u23 h2 tk2 hd2 hk2 ga2 gd2 => ?_
  dsimp only at hd2 hk2
  have nd2 : h2a.get? d2 = none := fresh_of (Nat.le_of_eq hd2.symm)
  have ne2 : h2a.get? (d2 + 1) = none := fresh_of (by rw [hd2]; exact Nat.le_succ _)
  have F2 := fr_keep F2a hk2
  have N2 := news_cons F2 (news_cons F2 (news_keep N2a hk2) gd2 (fr_none F2a nd2) (fr_new F2a nd2)) ga2 (fr_none F2a ne2) (fr_new F2a ne2)
  clear F2a N2a
  have hz1 : (Nd.tree (d1 + 1) d1 l1 (Str.ofString "top") [r.n, no]).size ≤ 1000 := by simp only [Nd.size, sizeL]; simp only [Nd.size] at hsn; omega
  have hg1 : (Nd.tree (d1 + 1) d1 l1 (Str.ofString "top") [r.n, no]).height ≤ 20 := by
    show 1 + max r.n.height (max no.height 0) ≤ 20
    omega
  have e1 : shB (Nd.tree (d1 + 1) d1 l1 (Str.ofString "top") [r.n, no]).sh (Nd.tree (d2 + 1) d2 l2 (Str.ofString "top") [no, r.n]).sh = true := by
    refine shB_iff.mpr ?_
    show Sh.tree _ [r.n.sh, no.sh] = Sh.tree _ [no.sh, r.n.sh]
    rw [sno]
  repeat' walk1
  show wpAny _ _ _ _ _ _
  refine eqN (n1 := .tree (d1 + 1) d1 l1 (Str.ofString "top") [r.n, no]) (n2 := .tree (d2 + 1) d2 l2 (Str.ofString "top") [no, r.n]) F2 X TH (fun _ => ⟨ano, aon, trivial⟩) hg1 hz1 ⟨⟨u11, u12, u13, _, (N2 _ (.tail _ (.tail _ (.tail _ (.head _))))).1, (N2 _ (.tail _ (.tail _ (.tail _ (.tail _ (.head _)))))).1⟩, ⟨_, (N2 _ (.tail _ (.tail _ (.tail _ (.tail _ (.tail _ (.head _))))))).1⟩, RD.repn ok N2 (fun _ h => (.tail _ (.tail _ (.tail _ (.tail _ (.tail _ (.tail _ h))))))), oo.repn N2 (fun _ h => (.tail _ (.tail _ (.tail _ (.tail _ (.tail _ (.tail _ h))))))), trivial⟩ ⟨⟨u21, u22, u23, _, (N2 _ (.head _)).1, (N2 _ (.tail _ (.head _))).1⟩, ⟨_, (N2 _ (.tail _ (.tail _ (.head _)))).1⟩, oo.repn N2 (fun _ h => (.tail _ (.tail _ (.tail _ (.tail _ (.tail _ (.tail _ h))))))), RD.repn ok N2 (fun _ h => (.tail _ (.tail _ (.tail _ (.tail _ (.tail _ (.tail _ h))))))), trivial⟩ rfl (Nat.le_of_ble_eq_true rfl) (Nat.le_of_ble_eq_true rfl) e1 fun h₅ tk₅ hk₅ => ?_
  have F₅ := fr_keep F2 hk₅
  have N₅ : News H L h₅ (r.nw w.params news) := fun q hq => news_keep N2 hk₅ q (.tail _ (.tail _ (.tail _ (.tail _ (.tail _ (.tail _ hq))))))
  clear F2 N2
  repeat' walk1
  rename_i l3 h3a F3a N3a lt3
  refine mkTree (X.keeps F3a.keep) (TH.keeps F3a.keep) rfl (Nat.le_of_ble_eq_true rfl) (Nat.le_of_ble_eq_true rfl) fun d3 u31 u32 u33 h3 tk3 hd3 hk3 ga3 gd3 => ?_
  dsimp only at hd3 hk3
  have nd3 : h3a.get? d3 = none := fresh_of (Nat.le_of_eq hd3.symm)
  have ne3 : h3a.get? (d3 + 1) = none := fresh_of (by rw [hd3]; exact Nat.le_succ _)
  have F3 := fr_keep F3a hk3
  have N3 := news_cons F3 (news_cons F3 (news_keep N3a hk3) gd3 (fr_none F3a nd3) (fr_new F3a nd3)) ga3 (fr_none F3a ne3) (fr_new F3a ne3)
  clear F3a N3a
  repeat' walk1
  rename_i l4 h4a F4a N4a lt4
  refine mkTree (X.keeps F4a.keep) (TH.keeps F4a.keep) rfl (Nat.le_of_ble_eq_true rfl) (Nat.le_of_ble_eq_true rfl) fun d4 u41 u42 u43 h4 tk4 hd4 hk4 ga4 gd4 => ?_
  dsimp only at hd4 hk4
  have nd4 : h4a.get? d4 = none := fresh_of (Nat.le_of_eq hd4.symm)
  have ne4 : h4a.get? (d4 + 1) = none := fresh_of (by rw [hd4]; exact Nat.le_succ _)
  have F4 := fr_keep F4a hk4
  have N4 := news_cons F4 (news_cons F4 (news_keep N4a hk4) gd4 (fr_none F4a nd4) (fr_new F4a nd4)) ga4 (fr_none F4a ne4) (fr_new F4a ne4)
  clear F4a N4a
  have hz3 : (Nd.tree (d3 + 1) d3 l3 (Str.ofString "top") [no, r.n]).size ≤ 1000 := by simp only [Nd.size, sizeL]; simp only [Nd.size] at hsn; omega
  have hg3 : (Nd.tree (d3 + 1) d3 l3 (Str.ofString "top") [no, r.n]).height ≤ 20 := by
    show 1 + max no.height (max r.n.height 0) ≤ 20
    omega
  have e3 : shB (Nd.tree (d3 + 1) d3 l3 (Str.ofString "top") [no, r.n]).sh (Nd.tree (d4 + 1) d4 l4 (Str.ofString "top") [no, lo]).sh = false := by
    rw [Bool.eq_false_iff]
    intro q
    have q' : Sh.tree (Str.ofString "top") [no.sh, r.n.sh] = Sh.tree (Str.ofString "top") [no.sh, lo.sh] := shB_iff.mp q
    injection q' with _ q'
    injection q' with _ q'
    injection q' with q' _
    exact built_one r.ns (ok.sh.symm.trans (q'.trans ol.sh))
  repeat' walk1
  show wpAny _ _ _ _ _ _
  refine eqN (n1 := .tree (d3 + 1) d3 l3 (Str.ofString "top") [no, r.n]) (n2 := .tree (d4 + 1) d4 l4 (Str.ofString "top") [no, lo]) F4 X TH (fun _ => ⟨aoo, anl, trivial⟩) hg3 hz3 ⟨⟨u31, u32, u33, _, (N4 _ (.tail _ (.tail _ (.tail _ (.head _))))).1, (N4 _ (.tail _ (.tail _ (.tail _ (.tail _ (.head _)))))).1⟩, ⟨_, (N4 _ (.tail _ (.tail _ (.tail _ (.tail _ (.tail _ (.head _))))))).1⟩, oo.repn N4 (fun _ h => (.tail _ (.tail _ (.tail _ (.tail _ (.tail _ (.tail _ h))))))), RD.repn ok N4 (fun _ h => (.tail _ (.tail _ (.tail _ (.tail _ (.tail _ (.tail _ h))))))), trivial⟩ ⟨⟨u41, u42, u43, _, (N4 _ (.head _)).1, (N4 _ (.tail _ (.head _))).1⟩, ⟨_, (N4 _ (.tail _ (.tail _ (.head _)))).1⟩, oo.repn N4 (fun _ h => (.tail _ (.tail _ (.tail _ (.tail _ (.tail _ (.tail _ h))))))), ol.repn N4 (fun _ h => (.tail _ (.tail _ (.tail _ (.tail _ (.tail _ (.tail _ h))))))), trivial⟩ rfl (Nat.le_of_ble_eq_true rfl) (Nat.le_of_ble_eq_true rfl) e3 fun h₆ tk₆ hk₆ => ?_
  have F₆ := fr_keep F4 hk₆
  have N₆ : News H L h₆ (r.nw w.params news) := fun q hq => news_keep N4 hk₆ q (.tail _ (.tail _ (.tail _ (.tail _ (.tail _ (.tail _ hq))))))
  clear F4 N4
  repeat' walk1
  dsimp only
  exact hQ _ _ F₆ N₆ ⟨rfl, rfl, rfl, rfl⟩ rfl (Rest.refl (s := s)).same
end
end Mine
end

section
example : True ∧ True := by
  w_top off
  first | (walk1; done) | exact ⟨trivial, trivial⟩
open PySem PySem.W PySem.Calls PyProof.Rows
set_option maxRecDepth 100000
set_option maxHeartbeats 4000000
namespace Mine
local macro_rules | `(tactic| k_inst) => `(tactic| (refine' instOf_base ?F ?h1 ?h2; (case F => k_asm); (case h1 => assumption); (case h2 => assumption)))
local macro_rules | `(tactic| k_inst) => `(tactic| (refine' instOf_news ?N ?h1 ?h2; (case N => assumption); (case h1 => first | assumption | exact .tail _ (by assumption) | exact .tail _ (.tail _ (by assumption)) | exact .tail _ (.tail _ (.tail _ (by assumption)))); (case h2 => first | assumption | exact .tail _ (by assumption) | exact .tail _ (.tail _ (by assumption)) | exact .tail _ (.tail _ (.tail _ (by assumption))))))
local macro_rules | `(tactic| walk_at "call builtin:len") => `(tactic| ((with_reducible show wpAny _ _ (call (Value.builtin "len") [Value.ref _]) _ _ _); (refine' len_news ?N ?hm ?hz ?_; (case N => assumption); (case hm => first | exact .head _ | exact .tail _ (.head _) | exact .tail _ (.tail _ (.head _)) | exact .tail _ (.tail _ (.tail _ (.head _))) | exact .tail _ (.tail _ (.tail _ (.tail _ (.head _))))); (case hz => (simp; omega)); intro tLen tkLen)))
local macro_rules | `(tactic| walk_at "eval ListComp") => `(tactic| refine holdC ?_)
local macro_rules | `(tactic| walk_at "eval Name") => `(tactic| ((with_reducible show wpAny _ _ (eval (.Name _ _) (compEnvC _ _ _ _)) _ _ _); first
  | (refine' nmG_L ?F ?hv ?_ ?hk ?hx ?hd; (case hk => exact rfl); (case hx => exact rfl); (case hd => exact rfl); (case F => assumption); (case hv => assumption))
  | (refine' nmG_K ?F ?X ?T ?e ?_ ?hk ?hx ?hg ?hd; (case hk => exact rfl); (case hx => exact rfl); (case hg => exact rfl); (case hd => exact rfl); (case F => assumption); (case X => assumption); (case T => assumption); (case e => k_is))
  | (refine' nmG_B ?F ?X ?T ?e ?hv ?hn ?_ ?hk ?hx ?hg ?hb ?hd; (case hk => exact rfl); (case hx => exact rfl); (case hg => exact rfl); (case hb => exact rfl); (case hd => exact rfl); (case F => assumption); (case X => assumption); (case T => assumption); (case e => k_is); (case hv => rfl); (case hn => decide))))
local macro_rules | `(tactic| walk_at "compareOp Eq ref ref") => `(tactic| refine holdP ?_)
local macro_rules | `(tactic| walk_at "compareOp NotEq ref ref") => `(tactic| refine holdP ?_)
theorem nw_drop {r : RD} {es : List (Addr × Obj)} {P : Params} {news : List (Addr × Obj)} {h₀ h : Heap} {L : Addr} (N : News h₀ L h ((r.adds es).nw P news)) : News h₀ L h (r.nw P news) := fun q hq => N q (by
  rcases List.mem_cons.mp hq with hq | hq
  · exact hq ▸ .head _
  rcases List.mem_cons.mp hq with hq | hq
  · exact hq ▸ .tail _ (.head _)
  rcases List.mem_append.mp hq with hq | hq
  · exact .tail _ (.tail _ (List.mem_append_left _ hq))
  · exact .tail _ (.tail _ (List.mem_append_right _ (List.mem_append_right _ hq))))
noncomputable def lawIn2 : List Stmt := stForBody ((lawSt 17).headD default)
section
variable {prog : Program} {w : World} {p : Program} {loose : List Str} {mg mb : Str → Option Value} {mean : ExcName → Option Value}
theorem eq_nil {A : Around} {s : Shared} {Q E : Value → Shared → Prop} {l b : Addr} {items : Array Value} (hl : s.heap.IsList l items) (hb : s.heap.IsList b #[]) (hu : A.units ≤ 3000) (h : Q (.bool (decide (items.size = 0))) s) : wpAny (model prog w) A (compareOp .Eq (.ref l) (.ref b)) Q E s := by
  have hu' : A.units < cLine := by rw [cLine_is]; omega
  by_cases hy : items.size = 0
  · refine PySem.SeqAt.eq_listAt (items := items) (items2 := #[]) (e := fun _ => true) hl hb (by simp [hy]) hu' (fun j h1 h2 => absurd h2 (by simp)) ?_
    rw [hy]
    rw [hy] at h
    exact h
  · refine PySem.SeqAt.eq_list_lengthsAt (items := items) (items2 := #[]) hl hb (by simpa using hy) hu' ?_
    rw [decide_eq_false hy] at h
    exact h
theorem law_13in {s : Shared} {K : Flow → Shared → Prop} {H : Heap} {L fa : Addr} {m : Str → Option Value} {news xs : List (Addr × Obj)} {r : RD} {no : Nd} {odd : Int} {todd : Tok} {b : Bool} (X : (hd.heap_39 w.params).In H) (T : Top p loose mean mg mb H)
    (F : Fr H L s.heap m) (N : News H L s.heap (xs ++ r.nw w.params news)) (ok : r.ok w.params news) (hm : r.names m) (hmo : m (Str.ofString "other") = some no.val) (hm1 : m (Str.ofString "odd") = some (.int odd todd)) (hm2 : m (Str.ofString "same") = some (.bool b)) (hodd : 0 ≤ odd ∧ odd ≤ 4) (hb : shB r.n.sh (builtS odd r.ns) = b)
    (hK : ∀ h' tk m', Fr H L h' m' → News H L h' (xs ++ r.nw w.params news) → r.names m' → m' (Str.ofString "other") = some no.val → K .next { s with heap := h', toks := tk }) :
    wpAny (model prog w) (Ar 302 500) (execs lawIn2 (lawEnv L fa)) K (fun _ _ => False) s := by
  show wpAny _ _ (execs (Stmt.If (Expr.BoolOp _ _ _) _ _ _ :: []) (envOfC _ (Scope.mk _ _ _ _ _) _ _ _)) _ _ _
  have F₀ := F
  rw [upd_self hm.numbers, upd_self hm.tree, upd_self hm.trees, upd_self hm.tokens, upd_self hmo, upd_self hm1, upd_self hm2] at F₀
  clear F
  have TH := topRead_of T
  have nH := RD.height ok
  have nZ : r.n.size ≤ 1000 := Nat.le_trans (RD.size ok) (by decide)
  have Nr : News H L s.heap (r.nw w.params news) := fun q hq => N q (List.mem_append_right _ hq)
  have Nx : News H L s.heap xs := fun q hq => N q (List.mem_append_left _ hq)
  clear N
  iterate 15 walk1
  refine built_law X TH F₀ Nr ok hodd rfl (Nat.le_of_ble_eq_true rfl) (Nat.le_of_ble_eq_true rfl) ?_
  intro h₁ tk₁ n' es hk₁ ht1 hr1 hs1 hz1 F₁ N₁ ok₁
  have hb1 : shB r.n.sh n'.sh = b := by rw [hs1]; exact hb
  have al1 : alike r.n n' := alike_built ok.sh hs1
  refine eqN (n1 := r.n) (n2 := n') F₁ X TH al1 nH nZ (RD.repn ok (nw_drop N₁) fun _ h => h) (hr1.mono fun x o h => (N₁ _ (.tail _ (.tail _ (List.mem_append_right _ (List.mem_append_left _ h))))).1) rfl (Nat.le_of_ble_eq_true rfl) (Nat.le_of_ble_eq_true rfl) hb1 fun h₂ tk₂ hk₂ => ?_
  have F₂ := fr_keep F₁ hk₂
  have N₂ := nw_drop (news_keep N₁ hk₂)
  have Nx₂ := news_keep (news_keep Nx hk₁) hk₂
  clear F₀ F₁ N₁ Nr Nx hk₁ hk₂
  repeat' walk1
  · rename_i hbad
    exfalso
    cases b <;> simp at hbad
  refine built_law X TH F₂ N₂ ok hodd rfl (Nat.le_of_ble_eq_true rfl) (Nat.le_of_ble_eq_true rfl) ?_
  intro h₃ tk₃ n₂ es₂ hk₃ ht2 hr2 hs2 hz2 F₃ N₃ ok₃
  have hb2 : shB n₂.sh r.n.sh = b := by
    rw [hs2, ← hb]
    unfold shB
    exact (by
      by_cases q : r.n.sh = builtS odd r.ns
      · simp [q]
      · simp [q, Ne.symm q])
  have al2 : alike n₂ r.n := alike_built hs2 ok.sh
  have Nx₃ := news_keep Nx₂ hk₃
  clear F₂ N₂ Nx₂
  repeat' walk1
  show wpAny _ _ _ _ _ _
  refine eqN (n1 := n₂) (n2 := r.n) F₃ X TH al2 (Nat.le_trans (height_size n₂) (by omega)) (by omega) (hr2.mono fun x o h => (N₃ _ (.tail _ (.tail _ (List.mem_append_right _ (List.mem_append_left _ h))))).1) (RD.repn ok (nw_drop N₃) fun _ h => h) rfl (Nat.le_of_ble_eq_true rfl) (Nat.le_of_ble_eq_true rfl) hb2 fun h₄ tk₄ hk₄ => ?_
  have F₄ := fr_keep F₃ hk₄
  have N₄ : News H L h₄ (xs ++ r.nw w.params news) := fun q hq => by
    rcases List.mem_append.mp hq with hq | hq
    · exact news_keep Nx₃ hk₄ q hq
    · exact nw_drop (news_keep N₃ hk₄) q hq
  clear F₃ N₃ Nx₃
  repeat' walk1
  exact hK _ _ _ F₄ N₄ ⟨rfl, rfl, rfl, rfl⟩ rfl
end
end Mine
end

section
example : True ∧ True := by
  w_top off
  first | (walk1; done) | exact ⟨trivial, trivial⟩
open PySem PySem.W PySem.Calls PyProof.Rows
set_option maxRecDepth 100000
set_option maxHeartbeats 4000000
namespace Mine
local macro_rules | `(tactic| k_inst) => `(tactic| (refine' instOf_base ?F ?h1 ?h2; (case F => k_asm); (case h1 => assumption); (case h2 => assumption)))
local macro_rules | `(tactic| k_inst) => `(tactic| (refine' instOf_news ?N ?h1 ?h2; (case N => assumption); (case h1 => first | assumption | exact .tail _ (by assumption) | exact .tail _ (.tail _ (by assumption)) | exact .tail _ (.tail _ (.tail _ (by assumption)))); (case h2 => first | assumption | exact .tail _ (by assumption) | exact .tail _ (.tail _ (by assumption)) | exact .tail _ (.tail _ (.tail _ (by assumption))))))
local macro_rules | `(tactic| walk_at "call builtin:len") => `(tactic| ((with_reducible show wpAny _ _ (call (Value.builtin "len") [Value.ref _]) _ _ _); (refine' len_news ?N ?hm ?hz ?_; (case N => assumption); (case hm => first | exact .head _ | exact .tail _ (.head _) | exact .tail _ (.tail _ (.head _)) | exact .tail _ (.tail _ (.tail _ (.head _))) | exact .tail _ (.tail _ (.tail _ (.tail _ (.head _))))); (case hz => (simp; omega)); intro tLen tkLen)))
local macro_rules | `(tactic| walk_at "eval ListComp") => `(tactic| refine holdC ?_)
local macro_rules | `(tactic| walk_at "eval Name") => `(tactic| ((with_reducible show wpAny _ _ (eval (.Name _ _) (compEnvC _ _ _ _)) _ _ _); first
  | (refine' nmG_L ?F ?hv ?_ ?hk ?hx ?hd; (case hk => exact rfl); (case hx => exact rfl); (case hd => exact rfl); (case F => assumption); (case hv => assumption))
  | (refine' nmG_K ?F ?X ?T ?e ?_ ?hk ?hx ?hg ?hd; (case hk => exact rfl); (case hx => exact rfl); (case hg => exact rfl); (case hd => exact rfl); (case F => assumption); (case X => assumption); (case T => assumption); (case e => k_is))
  | (refine' nmG_B ?F ?X ?T ?e ?hv ?hn ?_ ?hk ?hx ?hg ?hb ?hd; (case hk => exact rfl); (case hx => exact rfl); (case hg => exact rfl); (case hb => exact rfl); (case hd => exact rfl); (case F => assumption); (case X => assumption); (case T => assumption); (case e => k_is); (case hv => rfl); (case hn => decide))))
local macro_rules | `(tactic| walk_at "compareOp Eq ref ref") => `(tactic| refine holdP ?_)
local macro_rules | `(tactic| walk_at "compareOp NotEq ref ref") => `(tactic| refine holdP ?_)
section
variable {prog : Program} {w : World} {p : Program} {loose : List Str} {mg mb : Str → Option Value} {mean : ExcName → Option Value}
theorem law_13 {s : Shared} {Q : Flow → Shared → Prop} {E : Value → Shared → Prop} {H : Heap} {L fa : Addr} {m : Str → Option Value} {news : List (Addr × Obj)} {r : RD} {no : Nd} (X : (hd.heap_39 w.params).In H) (T : Top p loose mean mg mb H)
    (F : Fr H L s.heap m) (N : News H L s.heap (r.nw w.params news)) (ok : r.ok w.params news) (hm : r.names m) (hmo : m (Str.ofString "other") = some no.val)
    (hQ : ∀ (s' : Shared) (m' : Str → Option Value), Fr H L s'.heap m' → News H L s'.heap (r.nw w.params news) → r.names m' → m' (Str.ofString "other") = some no.val → Rest 0 s s' → wpAny (model prog w) (Ar 302 500) (execs (lawSt 18) (lawEnv L fa)) Q E s') :
    wpAny (model prog w) (Ar 302 500) (execs (lawSt 17) (lawEnv L fa)) Q E s := by
  show wpAny _ _ (execs (Stmt.For _ _ _ _ _ :: lawSt 18) (envOfC _ (Scope.mk _ _ _ _ _) _ _ _)) _ _ _
  unfold lawEnv at hQ
  generalize lawSt 18 = rest at hQ ⊢
  have F₀ := F
  rw [upd_self hm.numbers, upd_self hm.tree, upd_self hm.trees, upd_self hm.tokens, upd_self hmo] at F₀
  clear F
  have TH := topRead_of T
  have hzt : (toksOf (pre r.n)).length ≤ 18 := Nat.le_trans (List.length_filter_le _ _) (RD.plen ok)
  have hztr : (treesOf (pre r.n)).length ≤ 18 := Nat.le_trans (List.length_filter_le _ _) (RD.plen ok)
  walk1
  refine wpAny_For ?_
  have N₁ := news_dup (news_dup N (.tail _ (.tail _ (List.mem_append_right _ ok.mtr)))) (.tail _ (.tail _ (.tail _ (List.mem_append_right _ ok.mto))))
  clear N
  repeat' walk1
  show wpAny _ _ _ _ _ _
  rename_i e1 h₁ F₁ N₂ lt₁
  refine eq_nil ⟨_, (N₂ _ (.tail _ (.head _))).1, rfl, _, rfl⟩ ⟨_, (N₂ _ (.head _)).1, rfl, _, rfl⟩ (Nat.le_of_ble_eq_true rfl) ?_
  repeat' walk1
  show wpAny _ _ _ _ _ _
  rename_i t2 _ lt₂ e2 h₃ F₃ N₃ lt₃
  refine eq_nil ⟨_, (N₃ _ (.tail _ (.tail _ (.tail _ (.head _))))).1, rfl, _, rfl⟩ ⟨_, (N₃ _ (.head _)).1, rfl, _, rfl⟩ (Nat.le_of_ble_eq_true rfl) ?_
  repeat' walk1
  rename_i t3 h₄ F₄ N₄ lt₄
  refine len_news N₄ (.tail _ (.tail _ (.tail _ (.tail _ (.tail _ (.head _)))))) (by simp only [List.size_toArray, List.length_map]; omega) fun tl tkl => ?_
  repeat' walk1
  rename_i t4 _ lt₅ al h₅ F₅ N₅ lt₆
  obtain ⟨c1, c2⟩ := built_counts ok.sh
  have tab : ∃ k2 k3 k4 : Tok, News H L h₅ ([(al, listOf #[.ref t2, .ref t3, .ref t4] 0), (t4, tupO [.int 4 k4, .bool (decide ((bEnd 0 r.ns).2.2 = 0))]), (t3, tupO [.int 3 k3, .bool (decide ((bEnd 0 r.ns).2.1 = 0))]), (t2, tupO [.int 2 k2, .bool (decide ((bEnd 0 r.ns).2.1 = 0))])] ++ r.nw w.params news) := by
    have b1 : decide (((toksOf (pre r.n)).map Nd.val).toArray.size = 0) = decide ((bEnd 0 r.ns).2.1 = 0) := by
      rw [List.size_toArray, List.length_map, c1]
    have b2 : (((((treesOf (pre r.n)).map Nd.val).toArray.size : Nat) : Int) == 1) = decide ((bEnd 0 r.ns).2.2 = 0) := by
      rw [List.size_toArray, List.length_map, c2]
      by_cases q : (bEnd 0 r.ns).2.2 = 0
      · simp [q]
      · simp [q]
        omega
    rw [b1, b2] at N₅
    refine ⟨s.toks, s.toks + 1, s.toks + 1 + 1, fun q hq => N₅ q ?_⟩
    rcases List.mem_cons.mp hq with h | hq
    · exact h ▸ .head _
    rcases List.mem_cons.mp hq with h | hq
    · exact h ▸ .tail _ (.head _)
    rcases List.mem_cons.mp hq with h | hq
    · exact h ▸ .tail _ (.tail _ (.head _))
    rcases List.mem_cons.mp hq with h | hq
    · exact h ▸ .tail _ (.tail _ (.tail _ (.tail _ (.head _))))
    · exact .tail _ (.tail _ (.tail _ (.tail _ (.tail _ (.tail _ (.tail _ (.tail _ hq)))))))
  obtain ⟨k2, k3, k4, N₆⟩ := tab
  clear N₅
  have shD : ∀ {a b : Sh} {c : Prop} [Decidable c], (a = b ↔ c) → shB a b = decide c := fun {a b c} _ h => by
    by_cases q : c
    · rw [decide_eq_true q]
      exact shB_iff.mpr (h.mpr q)
    · rw [decide_eq_false q, Bool.eq_false_iff]
      exact fun z => q (h.mp (shB_iff.mp z))
  have hal : ∀ {h' : Heap} {q : List (Addr × Obj)}, News H L h' (q ++ ([(al, listOf #[.ref t2, .ref t3, .ref t4] 0), (t4, tupO [.int 4 k4, .bool (decide ((bEnd 0 r.ns).2.2 = 0))]), (t3, tupO [.int 3 k3, .bool (decide ((bEnd 0 r.ns).2.1 = 0))]), (t2, tupO [.int 2 k2, .bool (decide ((bEnd 0 r.ns).2.1 = 0))])] ++ r.nw w.params news)) → h'.IsList al #[.ref t2, .ref t3, .ref t4] := fun Nq => ⟨_, (Nq _ (List.mem_append_right _ (.head _))).1, rfl, _, rfl⟩
  have tab : ∀ i, i < 3 → ∃ t odd tok b, (#[Value.ref t2, .ref t3, .ref t4] : Array Value)[i]? = some (.ref t) ∧ (t, tupO [.int odd tok, .bool b]) ∈ ([(al, listOf #[.ref t2, .ref t3, .ref t4] 0), (t4, tupO [.int 4 k4, .bool (decide ((bEnd 0 r.ns).2.2 = 0))]), (t3, tupO [.int 3 k3, .bool (decide ((bEnd 0 r.ns).2.1 = 0))]), (t2, tupO [.int 2 k2, .bool (decide ((bEnd 0 r.ns).2.1 = 0))])] ++ r.nw w.params news) ∧ (0 ≤ odd ∧ odd ≤ 4) ∧ shB r.n.sh (builtS odd r.ns) = b := by
    intro i hi
    rcases i with _ | _ | _ | i
    · exact ⟨t2, 2, k2, _, rfl, .tail _ (.tail _ (.tail _ (.head _))), by decide, by rw [ok.sh]; exact shD (built_two ok.hlen)⟩
    · exact ⟨t3, 3, k3, _, rfl, .tail _ (.tail _ (.head _)), by decide, by rw [ok.sh]; exact shD (built_three ok.hlen)⟩
    · exact ⟨t4, 4, k4, _, rfl, .tail _ (.head _), by decide, by rw [ok.sh]; exact shD (built_four ok.hlen)⟩
    · omega
  generalize hxs : ([(al, listOf #[.ref t2, .ref t3, .ref t4] 0), (t4, tupO [.int 4 k4, .bool (decide ((bEnd 0 r.ns).2.2 = 0))]), (t3, tupO [.int 3 k3, .bool (decide ((bEnd 0 r.ns).2.1 = 0))]), (t2, tupO [.int 2 k2, .bool (decide ((bEnd 0 r.ns).2.1 = 0))])] : List (Addr × Obj)) = xs at *
  refine iter_lit F₅ N₆ (hal (q := []) N₆) fun it h₆ ob F₆ N₇ hob hit hitn => ?_
  have offi : ∀ q ∈ xs ++ r.nw w.params news, q.1 ≠ it := fun q hq => Nat.ne_of_lt (hit q hq)
  refine for_any (fun k σ => ∃ i h tk m ob, i ≤ 3 ∧ k = 3 - i ∧ σ = { s with heap := h, toks := tk } ∧ Fr H L h m ∧ r.names m ∧ m (Str.ofString "other") = some no.val ∧ News H L h ((it, ob) :: (xs ++ r.nw w.params news)) ∧ LitIs ob al i) ?_ 3 ?_
  · rintro k _ ⟨i, h, tk, m, ob, hi, rfl, rfl, F, hm, hmo, N, hob⟩
    have hll := hal (q := [(it, ob)]) N
    by_cases hin : i < 3
    · obtain ⟨t, odd, tok, b, hx, htm, hodd, hb⟩ := tab i hin
      refine next_lit F N offi hob hll hx fun h₈ ob₈ F₈ N₈ hob₈ => ?_
      have hti : h₈.IsTuple t #[.int odd tok, .bool b] := ⟨_, (N₈ _ (.tail _ htm)).1, rfl, _, rfl⟩
      refine wpAny_letOwnedTupleGo_listiter (I := it) (l := al) (i := i + 1) ⟨_, (N₈ _ (.head _)).1, hob₈.1, hob₈.2⟩ ?_
      rw [upd_self hm.numbers, upd_self hm.tree, upd_self hm.trees, upd_self hm.tokens, upd_self hmo] at F₈
      refine wpAny_assign_Tuple rfl hti rfl rfl fun h₉ hx₉ => ?_
      have hk₉ : Keep h₈ h₉ := fun b o e => hx₉ b o (Nat.ne_of_lt (Heap.lt_size e)) e
      have F₉ := fr_keep F₈ hk₉
      have N₉ := news_keep N₈ hk₉
      show wpAny _ _ (do holding [_] (assign (.Name _ _) _ (.int odd tok)); do holding [] (assign (.Name _ _) _ (.bool b)); pure ()) _ _ _
      refine wpAny_bind (wpAny_holding ?_)
      clear F₈ N₈ N F
      iterate 2 walk1
      refine wpAny_bind (wpAny_holding ?_)
      iterate 2 walk1
      refine wpAny_pure ?_
      rename Fr _ _ _ _ => F₁₁
      rename News _ _ _ _ => N₁₁
      refine law_13in (odd := odd) (todd := tok) (b := b) (xs := (it, ob₈) :: xs) X T F₁₁ N₁₁ ok ⟨rfl, rfl, rfl, rfl⟩ rfl rfl rfl hodd hb fun h' tk' m' F' N' hm' hmo' => ?_
      exact ⟨3 - (i + 1), by omega, i + 1, h', tk', m', ob₈, hin, rfl, rfl, F', hm', hmo', N', hob₈⟩
    · have hi3 : i = 3 := by omega
      subst hi3
      refine next_lit_end rfl F N offi hob hll rfl fun h₈ F₈ N₈ => ?_
      dsimp only
      exact hQ _ m F₈ (fun q hq => N₈ q (List.mem_append_right _ hq)) hm hmo (Rest.refl (s := s)).same
  · exact ⟨0, h₆, _, _, ob, Nat.zero_le _, rfl, rfl, F₆, ⟨rfl, rfl, rfl, rfl⟩, rfl, N₇, hob⟩
end
end Mine
end

section
example : True ∧ True := by
  w_top off
  first | (walk1; done) | exact ⟨trivial, trivial⟩
open PySem PySem.W PySem.Calls PyProof.Rows
set_option maxRecDepth 100000
set_option maxHeartbeats 4000000
namespace Mine
local macro_rules | `(tactic| k_inst) => `(tactic| (refine' instOf_base ?F ?h1 ?h2; (case F => k_asm); (case h1 => assumption); (case h2 => assumption)))
local macro_rules | `(tactic| k_inst) => `(tactic| (refine' instOf_news ?N ?h1 ?h2; (case N => assumption); (case h1 => first | assumption | exact .tail _ (by assumption) | exact .tail _ (.tail _ (by assumption)) | exact .tail _ (.tail _ (.tail _ (by assumption)))); (case h2 => first | assumption | exact .tail _ (by assumption) | exact .tail _ (.tail _ (by assumption)) | exact .tail _ (.tail _ (.tail _ (by assumption))))))
local macro_rules | `(tactic| walk_at "call builtin:len") => `(tactic| ((with_reducible show wpAny _ _ (call (Value.builtin "len") [Value.ref _]) _ _ _); (refine' len_news ?N ?hm ?hz ?_; (case N => assumption); (case hm => first | exact .head _ | exact .tail _ (.head _) | exact .tail _ (.tail _ (.head _)) | exact .tail _ (.tail _ (.tail _ (.head _))) | exact .tail _ (.tail _ (.tail _ (.tail _ (.head _))))); (case hz => (simp; omega)); intro tLen tkLen)))
local macro_rules | `(tactic| walk_at "eval ListComp") => `(tactic| refine holdC ?_)
local macro_rules | `(tactic| walk_at "eval Name") => `(tactic| ((with_reducible show wpAny _ _ (eval (.Name _ _) (compEnvC _ _ _ _)) _ _ _); first
  | (refine' nmG_L ?F ?hv ?_ ?hk ?hx ?hd; (case hk => exact rfl); (case hx => exact rfl); (case hd => exact rfl); (case F => assumption); (case hv => assumption))
  | (refine' nmG_K ?F ?X ?T ?e ?_ ?hk ?hx ?hg ?hd; (case hk => exact rfl); (case hx => exact rfl); (case hg => exact rfl); (case hd => exact rfl); (case F => assumption); (case X => assumption); (case T => assumption); (case e => k_is))
  | (refine' nmG_B ?F ?X ?T ?e ?hv ?hn ?_ ?hk ?hx ?hg ?hb ?hd; (case hk => exact rfl); (case hx => exact rfl); (case hg => exact rfl); (case hb => exact rfl); (case hd => exact rfl); (case F => assumption); (case X => assumption); (case T => assumption); (case e => k_is); (case hv => rfl); (case hn => decide))))
local macro_rules | `(tactic| k_inst) => `(tactic| (refine' instOf_news ?N ?h1 ?h2; (case N => assumption); (case h1 => first | exact .head _ | exact .tail _ (.head _) | assumption | exact .tail _ (by assumption) | exact .tail _ (.tail _ (by assumption)) | exact .tail _ (.tail _ (.tail _ (by assumption)))); (case h2 => first | exact .head _ | exact .tail _ (.head _) | assumption | exact .tail _ (by assumption) | exact .tail _ (.tail _ (by assumption)) | exact .tail _ (.tail _ (.tail _ (by assumption))))))
local macro_rules | `(tactic| walk_at "compareOp Eq ref ref") => `(tactic| refine holdP ?_)
local macro_rules | `(tactic| walk_at "compareOp NotEq ref ref") => `(tactic| refine holdP ?_)
local macro_rules | `(tactic| walk_at "compareOp Is ref ref") => `(tactic| refine holdP ?_)
section
variable {prog : Program} {w : World} {p : Program} {loose : List Str} {mg mb : Str → Option Value} {mean : ExcName → Option Value}
theorem law_14 {s : Shared} {Q : Flow → Shared → Prop} {E : Value → Shared → Prop} {H : Heap} {L fa : Addr} {m : Str → Option Value} {news : List (Addr × Obj)} {r : RD} {no : Nd} (X : (hd.heap_39 w.params).In H) (T : Top p loose mean mg mb H)
    (F : Fr H L s.heap m) (N : News H L s.heap (r.nw w.params news)) (ok : r.ok w.params news) (hm : r.names m) (hmo : m (Str.ofString "other") = some no.val)
    (hQ : ∀ (s' : Shared) (m' : Str → Option Value), Fr H L s'.heap m' → News H L s'.heap (r.nw w.params news) → r.names m' → m' (Str.ofString "other") = some no.val → Rest 0 s s' → wpAny (model prog w) (Ar 302 500) (execs (lawSt 20) (lawEnv L fa)) Q E s') :
    wpAny (model prog w) (Ar 302 500) (execs (lawSt 18) (lawEnv L fa)) Q E s := by
  show wpAny _ _ (execs (Stmt.Assign _ (Expr.Call _ _ _ _) _ :: Stmt.If (Expr.BoolOp _ _ _) _ _ _ :: lawSt 20) (envOfC _ (Scope.mk _ _ _ _ _) _ _ _)) _ _ _
  unfold lawEnv at hQ
  generalize lawSt 20 = rest at hQ ⊢
  have F₀ := F
  rw [upd_self hm.numbers, upd_self hm.tree, upd_self hm.trees, upd_self hm.tokens, upd_self hmo] at F₀
  clear F
  have TH := topRead_of T
  have hma : (r.a, instObj 142 r.dx) ∈ r.nw w.params news := .tail _ (.tail _ (List.mem_append_right _ ok.ma))
  have hmd : (r.dx, dictOf (treeEs w.params r.t1 r.t2 r.t3 (.str (Str.ofString "top") r.td) (.ref r.l)) 3) ∈ r.nw w.params news := .tail _ (.head _)
  repeat' walk1
  refine copy_call (X.keeps F₀.keep) (TH.keeps F₀.keep) (N _ hma).1 (N _ hmd).1 rfl (Nat.le_of_ble_eq_true rfl) (Nat.le_of_ble_eq_true rfl) fun dx u1 u2 u3 h₁ tk₁ hk₁ nd1 nd2 ga gd => ?_
  have F₁ := fr_keep F₀ hk₁
  have N₁ := news_cons F₁ (news_cons F₁ (news_keep N hk₁) gd (fr_none F₀ nd1) (fr_new F₀ nd1)) ga (fr_none F₀ nd2) (fr_new F₀ nd2)
  have hne : dx + 1 ≠ r.a := fun q => by
    have := (N _ hma).1
    rw [← q, nd2] at this
    cases this
  clear F₀ N
  repeat' walk1
  show wpAny _ _ _ _ _ _
  rename_i h₂ F₂ N₂
  have hR₂ := RD.repn ok N₂ fun _ h => .tail _ (.tail _ h)
  refine is_here ⟨_, _, rfl, (N₂ _ (.head _)).1, by simp [instObj]⟩ hR₂.here ?_
  have ef : ((Value.ref (dx + 1) : Value) == Value.ref r.a) = false := by
    rw [Bool.eq_false_iff]
    intro q
    have := eq_of_beq q
    injection this with this
    exact hne this
  rw [ef]
  repeat' walk1
  show wpAny _ _ _ _ _ _
  have hz : (Nd.tree (dx + 1) dx r.l (Str.ofString "top") r.ks).size ≤ 1000 := Nat.le_trans (RD.size ok) (by decide)
  have hg : (Nd.tree (dx + 1) dx r.l (Str.ofString "top") r.ks).height ≤ 20 := RD.height ok
  obtain ⟨_, hl₂, hks₂⟩ := id hR₂
  refine eqN (n1 := .tree (dx + 1) dx r.l (Str.ofString "top") r.ks) (n2 := r.n) F₂ X TH (fun _ => same_alikeL r.ks r.ks (sameL_refl _)) hg hz ⟨⟨u1, u2, u3, _, (N₂ _ (.head _)).1, (N₂ _ (.tail _ (.head _))).1⟩, hl₂, hks₂⟩ hR₂ rfl (Nat.le_of_ble_eq_true rfl) (Nat.le_of_ble_eq_true rfl) (shB_iff.mpr rfl) fun h₃ tk₃ hk₃ => ?_
  have F₃ := fr_keep F₂ hk₃
  have N₃ := news_keep N₂ hk₃
  clear F₂ N₂
  repeat' walk1
  have hR₃ := RD.repn ok N₃ fun _ h => .tail _ (.tail _ h)
  obtain ⟨_, _, hks₃⟩ := hR₃
  have hl17 : (r.ks.map Nd.val).length ≤ 17 := by
    rw [List.length_map]
    exact Nat.le_trans (length_le_sizeL _) ok.sz
  refine same_call (v1 := r.ks.map Nd.val) (v2 := r.ks.map Nd.val) (X.keeps F₃.keep) (TH.keeps F₃.keep) rfl (Nat.le_of_ble_eq_true rfl) (Nat.le_of_ble_eq_true rfl) (N₃ _ (.tail _ (.tail _ (.head _)))).1 (N₃ _ (.tail _ (.tail _ (.head _)))).1 (Nat.le_trans hl17 (by decide)) (Nat.le_trans hl17 (by decide)) (here_all hks₃) (here_all hks₃) fun h₄ tk₄ hk₄ => ?_
  have F₄ := fr_keep F₃ hk₄
  have N₄ := news_keep N₃ hk₄
  rw [beq_self_eq_true]
  clear F₃ N₃
  repeat' walk1
  dsimp only
  exact hQ _ _ F₄ (fun q hq => N₄ q (.tail _ (.tail _ hq))) ⟨rfl, rfl, rfl, rfl⟩ rfl (Rest.refl (s := s)).same
end
end Mine
end

section
example : True ∧ True := by
  w_top off
  first | (walk1; done) | exact ⟨trivial, trivial⟩
open PySem PySem.W PySem.Calls PyProof.Rows
set_option maxRecDepth 100000
set_option maxHeartbeats 4000000
namespace Mine
section
variable {prog : Program} {w : World} {A : Around} {E : Value → Shared → Prop} {s : Shared} {env : Env} {iter iter2 : Expr} {x y : Str} {px py py' pos : Pos} {scope : Scope} {cl : List (Str × Addr)} {h₀ : Heap} {L : Addr}
/-- what is new beside a heap -/
theorem compFlatA {z : Str} {pz spos : Pos} {Q : Flow → Shared → Prop} (g : Value → List Value) (hh : A.handled = none) (hsw : swapsWith (.ListComp (.Name y py') [⟨.Name x px, iter, [], 0⟩, ⟨.Name y py, iter2, [], 0⟩] scope pos) (some (.Name z pz)) spos.line env = pure true) (hclos : closureFor scope env = pure cl) (hcell : ∀ y ∈ scope.names, y.2 ≠ .cell) (hkind : scope.kind = .function)
    (hnames : ∀ y ∈ scope.names, y.2 = .local → scope.names.lookup y.1 = some .local) (hx : scope.names.lookup x = some .local) (hy : scope.names.lookup y = some .local) (hd : (y == ("__debug__" : Str)) = false)
    (hs : ∀ x, foldedSetIterable iter env x = pure x) (hs2 : ∀ (cenv : Env) x, foldedSetIterable iter2 cenv x = pure x) (hyl : env.kindOf z = some .local) (hp : (env.scope.kind == .class || (env.scope.kind == .module && env.locals != env.globals)) = false) (hL : env.locals = L)
    (h : wpAny (model prog w) A (eval iter env) (fun xv s₁ => Hold (∃ ax items m₁ news₁, xv = .ref ax ∧ s₁.heap.IsList ax items ∧ (items.toList.flatMap g).length ≤ 100000 ∧ Fr h₀ L s₁.heap m₁ ∧ News h₀ L s₁.heap news₁ ∧
      (∀ C v s₃ m₃, v ∈ items → Fr s₁.heap C s₃.heap m₃ → m₃ x = some v → s₃.gens = s₁.gens → s₃.drawn = s₁.drawn → s₃.os = s₁.os →
        wpAny (model prog w) A (eval iter2 (compEnvC scope cl C env)) (fun x2 s₄ => ∃ l2, x2 = .ref l2 ∧ s₄.heap.IsList l2 (g v).toArray ∧ Beside s₁.heap s₃.heap l2 ∧ Keeps s₃ s₄) (fun _ _ => False) s₃) ∧
      (∀ D n h' tk, Fr h₀ L h' (fun q => if q = z then some (.ref D) else m₁ q) → News h₀ L h' ((D, listOf (items.toList.flatMap g).toArray n) :: news₁) → (∀ q ∈ news₁, q.1 ≠ D) → s₁.heap.get? D = none → Q .next { s₁ with heap := h', toks := tk }))) E s) :
    wpAny (model prog w) A (exec (.Assign [.Name z pz] (.ListComp (.Name y py') [⟨.Name x px, iter, [], 0⟩, ⟨.Name y py, iter2, [], 0⟩] scope pos) spos) env) Q E s := by
  subst hL
  rw [exec_Assign_Name_used _ _ _ _ hsw]
  refine wpAny_bind (wpAny_standAt (wpAny_bind ?_))
  show wpAny _ A (do let _ ← comprehension (.ListComp (.Name y py') [⟨.Name x px, iter, [], 0⟩, ⟨.Name y py, iter2, [], 0⟩] scope pos) scope env _ (newList []) false (eval iter env) (some (assign (.Name z pz) env))) _ _ s
  refine wpAny_bind (wpAny_mono (wpAny_comprehension_free (use := some (assign (.Name z pz) env)) (Q := fun _ s' => Q .next s') rfl hs hclos hkind hnames (wpAny_mono h (fun xv s₁ h₁ => ?_) fun _ _ e => e)) (fun _ s' hq => wpAny_pure (wpAny_pure hq)) fun _ _ e => e)
  obtain ⟨ax, items, m₁, news₁, rfl, hl, hlen, F, N, hin, hQ⟩ := h₁
  obtain ⟨ol, hol, hol'⟩ := id hl
  refine wpAny_pyIter_list hl ?_
  refine wpAny_newObj_type (wpAny_newFunctionEnv hcell (by intro y hy; simp at hy) (fun h₁ hns₁ hsb₁ => ?_) hkind)
  dsimp only at hns₁ hsb₁ ⊢
  obtain ⟨H0, g0, d0, k0, os0⟩ := s₁
  dsimp only at *
  generalize hH1 : H0.push { cls := .type "list_iterator", data := .fields #[.ref ax, .int 0 0] } = H1 at hns₁ hsb₁ ⊢
  generalize hH2 : H1.push { cls := .type "list", dict := none, data := .seq ([] : List Value).toArray } = H2 at hns₁ hsb₁ ⊢
  have hI' : H1.objs.size = H0.objs.size + 1 := by rw [← hH1, Heap.size_push]
  have hC' : H2.objs.size = H1.objs.size + 1 := by rw [← hH2, Heap.size_push]
  generalize hI : H0.objs.size = I at *
  generalize hD : H1.objs.size = D at *
  generalize hC : H2.objs.size = C at *
  have hID : I ≠ D := by omega
  have hIC : I ≠ C := by omega
  have hDC : D ≠ C := by omega
  have hIn : H0.get? I = none := fresh_of (by omega)
  have hDn : H0.get? D = none := fresh_of (by omega)
  have hCn : H0.get? C = none := fresh_of (by omega)
  have haxI : ax ≠ I := fun e => by rw [e, hIn] at hol; cases hol
  have old : Keep H0 h₁ := fun b o e => hsb₁.extBut b o (fun q => by rw [q, hCn] at e; cases e) (Heap.get?_push_of_some _ (by rw [← hH2, ← hH1]; exact Heap.get?_push_of_some _ (Heap.get?_push_of_some _ e)))
  have hacc : h₁.get? D = some (listOf ([] : List Value).toArray 0) := hsb₁.extBut _ _ hDC (Heap.get?_push_of_some _ (by rw [← hH2, ← hD]; exact Heap.get?_push_size _ rfl))
  have hit : h₁.IsListIter I ax 0 := ⟨_, hsb₁.extBut _ _ hIC (Heap.get?_push_of_some _ (by rw [← hH2]; exact Heap.get?_push_of_some _ (by rw [← hH1, ← hI]; exact Heap.get?_push_size _ rfl))), rfl, rfl⟩
  have loop : ∀ {cenv : Env} (_ : cenv = compEnvC scope cl C env) (R : Result → Shared → Prop), (∀ h' tk m' n, h'.Ns C m' → h'.get? D = some (listOf (items.toList.flatMap g).toArray n) → Keep H0 h' → R (.ok .next) ⟨h', g0, d0, tk, os0⟩) →
      codeAny (model prog w) A (.compLoop (.ListComp (.Name y py') [⟨.Name x px, iter, [], 0⟩, ⟨.Name y py, iter2, [], 0⟩] scope pos) 0 (.ref I) (.ref D) cenv) R ⟨h₁, g0, d0, k0 + ([] : List (Str × Value)).length, os0⟩ := by
    intro cenv hce R hR
    have hcl : cenv.locals = C := by rw [hce]; rfl
    have hkx : cenv.kindOf x = some .local := by rw [hce]; exact lookup_relabel_local hx
    have hky : cenv.kindOf y = some .local := by rw [hce]; exact lookup_relabel_local hy
    have hks : cenv.scope.kind = .function := by rw [hce]; exact hkind
    have hpp : (cenv.scope.kind == .class || (cenv.scope.kind == .module && cenv.locals != cenv.globals)) = false := by rw [hks]; rfl
    refine loop_0 (fun k τ => ∃ i h' tk m' n, τ = ⟨h', g0, d0, tk, os0⟩ ∧ k = items.size - i ∧ i ≤ items.size ∧ h'.IsListIter I ax i ∧ h'.Ns C m' ∧ h'.get? D = some (listOf ((items.toList.take i).flatMap g).toArray n) ∧ Keep H0 h') (hs2 _) ?_ items.size
      ⟨0, h₁, _, _, 0, rfl, rfl, Nat.zero_le _, hit, hns₁, by simpa using hacc, old⟩
    rintro k τ ⟨i, h', tk, m', n, rfl, rfl, hi, hit', hn', hD', hk'⟩
    have hl' : h'.IsList ax items := hl.at fun o e => hk' _ _ e
    cases hv : items[i]? with
    | none =>
      have hsz : items.toList.length ≤ i := by simpa using hv
      refine wpAny_pyNext_list_end hh hit' hl' hv fun h₂ he₂ => ?_
      rw [List.take_of_length_le hsz] at hD'
      exact hR h₂ tk m' n (hn'.extBut he₂ (Ne.symm hIC)) (he₂ _ _ (Ne.symm hID) hD') fun b o e => he₂ b o (fun q => by rw [q, hIn] at e; cases e) (hk' b o e)
    | some v =>
      have hlt : i < items.size := (Array.getElem?_eq_some_iff.mp hv).1
      have hmem : v ∈ items := by obtain ⟨h1, rfl⟩ := Array.getElem?_eq_some_iff.mp hv; exact Array.getElem_mem h1
      have hvl : items.toList[i]? = some v := by simpa using hv
      refine wpAny_pyNext_list_item hit' hl' hv fun h₂ hit₂ hs₂ => ?_
      refine wpAny_assign_Name (wpAny_storeName_local hkx (by rw [hcl]; exact hn'.sameBut hs₂ (Ne.symm hIC)) (fun h₃ hn₃ hs₃ => ?_) hpp)
      rw [hcl] at hn₃ hs₃
      have k3 : Keep H0 h₃ := fun b o e => hs₃.extBut b o (fun q => by rw [q, hCn] at e; cases e) (hs₂.extBut b o (fun q => by rw [q, hIn] at e; cases e) (hk' b o e))
      have F₃ : Fr H0 C h₃ (fun z => if z = x then some v else m' z) := ⟨hn₃, k3, by omega⟩
      have hD₃ : h₃.get? D = some (listOf ((items.toList.take i).flatMap g).toArray n) := hs₃.extBut _ _ hDC (hs₂.extBut _ _ (Ne.symm hID) hD')
      have hit₃ : h₃.IsListIter I ax (i + 1) := hit₂.at fun o e => hs₃.extBut _ _ hIC e
      rw [hce]
      refine wpAny_mono (hin C v _ _ hmem F₃ (by simp) rfl rfl rfl) (fun x2 s₄ h₄ => ?_) fun _ _ x => x
      obtain ⟨l2, rfl, hl2, hbs, h₄, tk₄, rfl, hk₄⟩ := h₄
      dsimp only at hl2 hbs hk₄ ⊢
      have hl2D : l2 ≠ D := hbs.ne hDn hD₃
      have hl2C : l2 ≠ C := by obtain ⟨o, _, _, ho, _⟩ := hn₃; exact hbs.ne hCn ho
      have hl2I : l2 ≠ I := by obtain ⟨o, ho, _⟩ := hit₃; exact hbs.ne hIn ho
      refine wpAny_pyIter_list hl2 ?_
      dsimp only
      generalize hH5 : h₄.push { cls := .type "list_iterator", data := .fields #[.ref l2, .int 0 0] } = H5
      generalize hJ : h₄.objs.size = J
      have hJn : h₄.get? J = none := fresh_of (by omega)
      have k5 : Keep h₄ H5 := fun b o e => hH5 ▸ Heap.get?_push_of_some _ e
      have hit5 : H5.IsListIter J l2 0 := ⟨_, by rw [← hH5, ← hJ]; exact Heap.get?_push_size _ rfl, rfl, rfl⟩
      have hl25 : H5.IsList l2 (g v).toArray := hl2.at fun o e => k5 _ _ e
      have hDJ : D ≠ J := fun q => by have := hk₄ _ _ hD₃; rw [q, hJn] at this; cases this
      have hCJ : C ≠ J := fun q => by obtain ⟨o, _, _, ho, _⟩ := hn₃; have := hk₄ _ _ ho; rw [q, hJn] at this; cases this
      have hIJ : I ≠ J := fun q => by obtain ⟨o, ho, _⟩ := hit₃; have := hk₄ _ _ ho; rw [q, hJn] at this; cases this
      have hl2J : l2 ≠ J := fun q => by obtain ⟨o, ho, _⟩ := hl2; rw [q, hJn] at ho; cases ho
      have h0J : ∀ b o, H0.get? b = some o → b ≠ J := fun b o e q => by have := hk₄ _ _ (k3 _ _ e); rw [q, hJn] at this; cases this
      rw [← hce]
      have inner : ∀ (R : Result → Shared → Prop), (∀ h' tk m' n', h'.Ns C m' → h'.IsListIter I ax (i + 1) → h'.get? D = some (listOf ((items.toList.take (i + 1)).flatMap g).toArray n') → Keep H0 h' → R (.ok .next) ⟨h', g0, d0, tk, os0⟩) →
          codeAny (model prog w) A (.compLoop (.ListComp (.Name y py') [⟨.Name x px, iter, [], 0⟩, ⟨.Name y py, iter2, [], 0⟩] scope pos) 1 (.ref J) (.ref D) cenv) R ⟨H5, g0, d0, tk₄, os0⟩ := by
        intro R hR
        refine loop_1 (fun k τ => ∃ j h' tk m' n, τ = ⟨h', g0, d0, tk, os0⟩ ∧ k = (g v).length - j ∧ j ≤ (g v).length ∧ h'.IsListIter J l2 j ∧ h'.IsList l2 (g v).toArray ∧ h'.IsListIter I ax (i + 1) ∧ h'.Ns C m' ∧
          h'.get? D = some (listOf ((items.toList.take i).flatMap g ++ (g v).take j).toArray n) ∧ Keep H0 h') ?_ (g v).length
          ⟨0, H5, _, _, n, rfl, rfl, Nat.zero_le _, hit5, hl25, hit₃.at fun o e => k5 _ _ (hk₄ _ _ e), hn₃.at' fun o e => k5 _ _ (hk₄ _ _ e), by simpa using k5 _ _ (hk₄ _ _ hD₃), fun b o e => k5 _ _ (hk₄ _ _ (k3 _ _ e))⟩
        rintro k τ ⟨j, h', tk, m', n, rfl, rfl, hj, hitJ, hl2', hitI, hn', hD', hk'⟩
        cases hu : (g v)[j]? with
        | none =>
          have hsz : (g v).length ≤ j := by simpa using hu
          refine wpAny_pyNext_list_end hh hitJ hl2' (by simpa using hu) fun h₆ he₆ => ?_
          refine hR h₆ tk m' n (hn'.extBut he₆ hCJ) (hitI.at fun o e => he₆ _ _ hIJ e) ?_ fun b o e => he₆ b o (h0J b o e) (hk' b o e)
          rw [List.take_of_length_le hsz] at hD'
          rw [List.take_add_one, hvl, List.flatMap_append]
          simpa using he₆ _ _ hDJ hD'
        | some u =>
          have hjlt : j < (g v).length := (List.getElem?_eq_some_iff.mp hu).1
          refine wpAny_pyNext_list_item hitJ hl2' (x := u) (by simpa using hu) fun h₆ hit₆ hs₆ => ?_
          refine wpAny_assign_Name (wpAny_storeName_local hky (by rw [hcl]; exact hn'.sameBut hs₆ hCJ) (fun h₇ hn₇ hs₇ => ?_) hpp)
          rw [hcl] at hn₇ hs₇
          refine wpAny_Name (wpAny_loadName_local hks hky (by rw [hcl]; exact hn₇) (v := u) (by simp) ?_) hd
          have hD7 : h₇.get? D = some (listOf ((items.toList.take i).flatMap g ++ (g v).take j).toArray n) := hs₇.extBut _ _ hDC (hs₆.extBut _ _ hDJ hD')
          refine wpAny_list_append_plain ⟨n, hD7⟩ (fun h₈ hpl hs₈ => ?_) (Nat.le_trans (?_ : _ ≤ 100000) (Nat.le_trans (by decide) sizeLine_big))
          · obtain ⟨ep', he⟩ := hpl
            refine ⟨(g v).length - (j + 1), by omega, j + 1, h₈, tk + 1, _, ep', rfl, rfl, hjlt, ?_, ?_, ?_, hn₇.sameBut hs₈ (Ne.symm hDC), ?_, ?_⟩
            · exact hit₆.at fun o e => hs₈.extBut _ _ (Ne.symm hDJ) (hs₇.extBut _ _ (Ne.symm hCJ) e)
            · exact hl2'.at fun o e => hs₈.extBut _ _ hl2D (hs₇.extBut _ _ hl2C (hs₆.extBut _ _ hl2J e))
            · exact hitI.at fun o e => hs₈.extBut _ _ hID (hs₇.extBut _ _ hIC (hs₆.extBut _ _ hIJ e))
            · rw [List.take_add_one, hu, he, List.push_toArray]
              simp
            · exact fun b o e => hs₈.extBut _ _ (fun q => by rw [q, hDn] at e; cases e) (hs₇.extBut _ _ (fun q => by rw [q, hCn] at e; cases e) (hs₆.extBut _ _ (h0J b o e) (hk' b o e)))
          · have e1 : items.toList.flatMap g = (items.toList.take i).flatMap g ++ (g v ++ (items.toList.drop (i + 1)).flatMap g) := by
              have e3 : items.toList.drop i = v :: items.toList.drop (i + 1) := by
                rw [List.drop_eq_getElem_cons (by simpa using hlt)]
                congr 1
                have := List.getElem?_eq_getElem (l := items.toList) (i := i) (by simpa using hlt)
                rw [hvl] at this
                exact (Option.some.inj this).symm
              rw [← List.flatMap_cons, ← e3, ← List.flatMap_append, List.take_append_drop]
            have e2 := congrArg List.length e1
            simp only [List.length_append] at e2
            simp only [List.size_toArray, List.length_append, List.length_take]
            omega
      have fin : ∀ h' tk m' n', h'.Ns C m' → h'.IsListIter I ax (i + 1) → h'.get? D = some (listOf ((items.toList.take (i + 1)).flatMap g).toArray n') → Keep H0 h' →
          ∃ m, m < items.size - i ∧ ∃ i' h'' tk' m'' n'', (⟨h', g0, d0, tk, os0⟩ : Shared) = ⟨h'', g0, d0, tk', os0⟩ ∧ m = items.size - i' ∧ i' ≤ items.size ∧ h''.IsListIter I ax i' ∧ h''.Ns C m'' ∧ h''.get? D = some (listOf ((items.toList.take i').flatMap g).toArray n'') ∧ Keep H0 h'' :=
        fun h' tk m' n' a b c d => ⟨items.size - (i + 1), by omega, i + 1, h', tk, m', n', rfl, rfl, hlt, b, a, c, d⟩
      exact start_1 (inner _ fin) (wpAny_pyIter_listiter hit5 (inner _ fin))
  have loop' := loop (cenv := { scope := relabel scope env, locals := C, globals := env.globals, cells := cl, qual := env.qual, func := none, code := env.code, frame := env.frame, builtins := env.builtins }) rfl (compPost (model prog w) A E (some (assign (.Name z pz) env)) (fun _ s' => Q .next s') (.ref D) C) (fun h' tk m' n hn' hD' hk' => ?_)
  · exact codeAny_compStart_list loop' (wpAny_pyIter_listiter hit loop')
  · have hk2 : Keep H0 h' := fun b o e => hk' b o e
    have F1 := fr_keep F hk2
    have N1 := news_cons F1 (news_keep N hk2) hD' (fr_none F hDn) (fr_new F hDn)
    obtain ⟨oL, _, _, hoL, _⟩ := id F.ns
    have hLC : env.locals ≠ C := fun q => by rw [q, hCn] at hoL; cases hoL
    show wpAny _ A (assign (.Name z pz) env (.ref D)) _ _ _
    refine wpAny_assign_Name (wpAny_storeName_local hyl F1.ns (fun h₂ hn₂ hs₂ => ?_) hp)
    refine ⟨m', hn'.sameBut hs₂ (Ne.symm hLC), fun h₃ hs₃ => ?_⟩
    have F2 := F1.set hn₂ hs₂
    have N2 : News h₀ env.locals h₂ _ := N1.set hs₂
    have F3 := fr_ext F2 (fr_none F hCn) (Ne.symm hLC) hs₃.extBut
    have N3 := news_ext N2 (fun q hq e => by
      rcases List.mem_cons.mp hq with rfl | hq
      · exact hDC e
      · have := (N q hq).1
        rw [e, hCn] at this
        cases this) hs₃.extBut
    refine hQ D n h₃ _ F3 N3 (fun q hq e => ?_) hDn
    have := (N q hq).1
    rw [e, hDn] at this
    cases this
end
end Mine
end

section
example : True ∧ True := by
  w_top off
  first | (walk1; done) | exact ⟨trivial, trivial⟩
open PySem PySem.W PySem.Calls PyProof.Rows
set_option maxRecDepth 100000
set_option maxHeartbeats 4000000
namespace Mine
local macro_rules | `(tactic| k_inst) => `(tactic| (refine' instOf_base ?F ?h1 ?h2; (case F => k_asm); (case h1 => assumption); (case h2 => assumption)))
local macro_rules | `(tactic| k_inst) => `(tactic| (refine' instOf_news ?N ?h1 ?h2; (case N => assumption); (case h1 => first | assumption | exact .tail _ (by assumption) | exact .tail _ (.tail _ (by assumption)) | exact .tail _ (.tail _ (.tail _ (by assumption)))); (case h2 => first | assumption | exact .tail _ (by assumption) | exact .tail _ (.tail _ (by assumption)) | exact .tail _ (.tail _ (.tail _ (by assumption))))))
local macro_rules | `(tactic| walk_at "call builtin:len") => `(tactic| ((with_reducible show wpAny _ _ (call (Value.builtin "len") [Value.ref _]) _ _ _); (refine' len_news ?N ?hm ?hz ?_; (case N => assumption); (case hm => first | exact .head _ | exact .tail _ (.head _) | exact .tail _ (.tail _ (.head _)) | exact .tail _ (.tail _ (.tail _ (.head _))) | exact .tail _ (.tail _ (.tail _ (.tail _ (.head _))))); (case hz => (simp; omega)); intro tLen tkLen)))
local macro_rules | `(tactic| walk_at "eval ListComp") => `(tactic| refine holdC ?_)
local macro_rules | `(tactic| walk_at "eval Name") => `(tactic| ((with_reducible show wpAny _ _ (eval (.Name _ _) (compEnvC _ _ _ _)) _ _ _); first
  | (refine' nmG_L ?F ?hv ?_ ?hk ?hx ?hd; (case hk => exact rfl); (case hx => exact rfl); (case hd => exact rfl); (case F => assumption); (case hv => assumption))
  | (refine' nmG_K ?F ?X ?T ?e ?_ ?hk ?hx ?hg ?hd; (case hk => exact rfl); (case hx => exact rfl); (case hg => exact rfl); (case hd => exact rfl); (case F => assumption); (case X => assumption); (case T => assumption); (case e => k_is))
  | (refine' nmG_B ?F ?X ?T ?e ?hv ?hn ?_ ?hk ?hx ?hg ?hb ?hd; (case hk => exact rfl); (case hx => exact rfl); (case hg => exact rfl); (case hb => exact rfl); (case hd => exact rfl); (case F => assumption); (case X => assumption); (case T => assumption); (case e => k_is); (case hv => rfl); (case hn => decide))))
local macro_rules | `(tactic| k_inst) => `(tactic| (refine' instOf_news ?N ?h1 ?h2; (case N => assumption); (case h1 => first | exact .head _ | exact .tail _ (.head _) | assumption | exact .tail _ (by assumption) | exact .tail _ (.tail _ (by assumption)) | exact .tail _ (.tail _ (.tail _ (by assumption)))); (case h2 => first | exact .head _ | exact .tail _ (.head _) | assumption | exact .tail _ (by assumption) | exact .tail _ (.tail _ (by assumption)) | exact .tail _ (.tail _ (.tail _ (by assumption))))))
local macro_rules | `(tactic| walk_at "compareOp Is ref ref") => `(tactic| refine holdP ?_)
local macro_rules | `(tactic| walk_at "compareOp Eq ref ref") => `(tactic| refine holdP ?_)
local macro_rules | `(tactic| walk_at "compareOp NotEq ref ref") => `(tactic| refine holdP ?_)
structure RD.okE (r : RD) (P : Params) (news : List (Addr × Obj)) : Prop where
  rep : RepL P (fun b o => (b, o) ∈ r.big) r.ks
  ma : (r.a, instObj 142 r.dx) ∈ r.big
  ld : r.l ≠ r.dx
  off : ∀ p ∈ r.big, p.1 ≠ r.l ∧ p.1 ≠ r.dx ∧ ∀ q ∈ news, p.1 ≠ q.1
  offn : ∀ q ∈ news, q.1 ≠ r.l ∧ q.1 ≠ r.dx
  sz : sizeL r.ks ≤ 17
theorem RD.ok.toE {r : RD} {P : Params} {news : List (Addr × Obj)} (o : r.ok P news) : r.okE P news := ⟨o.rep, o.ma, o.ld, o.off, o.offn, o.sz⟩
theorem RD.repE {r : RD} {P : Params} {news news' : List (Addr × Obj)} {H h : Heap} {L : Addr} (o : r.okE P news) (N : News H L h news') (hs : ∀ p ∈ r.nw P news, p ∈ news') : RepL P (hf h) r.ks :=
  o.rep.mono fun b ob hm => (N _ (hs _ (.tail _ (.tail _ (List.mem_append_right _ hm))))).1
theorem exp1_val {P : Params} {h : Heap} {ks : List Nd} (hr : RepL P (hf h) ks) (xs : List Str) : (ks.map Nd.val).flatMap (fun v => (exp1 xs (ndOf ks v)).map Nd.val) = (expandL xs ks).map Nd.val := by
  have : ∀ q : List Nd, (∀ k ∈ q, k ∈ ks) → (q.map Nd.val).flatMap (fun v => (exp1 xs (ndOf ks v)).map Nd.val) = (expandL xs q).map Nd.val := by
    intro q hq
    induction q with
    | nil => rfl
    | cons k t ih =>
      rw [List.map_cons, List.flatMap_cons, ih fun x hx => hq x (.tail _ hx), ndOf_val hr (hq k (.head _))]
      show _ = (exp1 xs k ++ expandL xs t).map Nd.val
      rw [List.map_append]
  exact this ks fun _ h => h
theorem rep_expand {P : Params} {G : Facts} (xs : List Str) : ∀ {ks : List Nd}, RepL P G ks → RepL P G (expandL xs ks)
  | [], _ => trivial
  | k :: r, h => by
    have e : expandL xs (k :: r) = exp1 xs k ++ expandL xs r := rfl
    rw [e]
    refine repL_append.mpr ⟨?_, rep_expand xs h.2⟩
    unfold exp1
    split
    · cases k with
      | tok => exact trivial
      | tree a dx l d ks => exact h.1.2.2
    · exact ⟨h.1, trivial⟩
theorem size_expand (xs : List Str) : ∀ ks : List Nd, sizeL (expandL xs ks) ≤ sizeL ks
  | [] => Nat.le_refl _
  | k :: r => by
    have e : expandL xs (k :: r) = exp1 xs k ++ expandL xs r := rfl
    have ih := size_expand xs r
    rw [e, sizeL_append]
    have h2 : sizeL (exp1 xs k) ≤ k.size := by
      unfold exp1
      split
      · cases k with
        | tok => exact Nat.zero_le _
        | tree a dx l d ks => simp only [Nd.kids, Nd.size]; omega
      · simp only [sizeL]; omega
    simp only [sizeL]
    omega
theorem filt_any (xs : List Str) (ks : List Nd) : (ks.filter fun k => k.isTree && xs.contains k.name) = [] ↔ expAny xs ks = false := by
  rw [List.filter_eq_nil_iff]
  unfold expAny
  rw [List.any_eq_false]
section
variable {prog : Program} {w : World} {p : Program} {loose : List Str} {mg mb : Str → Option Value} {mean : ExcName → Option Value}
theorem ne_nil {A : Around} {s : Shared} {Q E : Value → Shared → Prop} {l b : Addr} {items : List Value} {n n2 : Nat} (hl : s.heap.get? l = some (listOf items.toArray n)) (hb : s.heap.get? b = some (listOf #[] n2)) (hu : A.units ≤ 3000) (h : Q (.bool (decide (items ≠ []))) s) : wpAny (model prog w) A (compareOp .NotEq (.ref l) (.ref b)) Q E s := by
  have hu' : A.units + 64 < cLine := by rw [cLine_is]; omega
  cases items with
  | nil =>
    exact ne_intsK (vs := []) (us := []) (ns := []) (ms := []) ⟨_, hl, rfl, _, rfl⟩ .nil ⟨_, hb, rfl, _, rfl⟩ .nil hu' h
  | cons x r =>
    refine cmp_ofNotEq (wpAny_richCompare_same_room ⟨_, hl, rfl⟩ ⟨_, hb, rfl⟩ F.slot_list_ne ?_ (by omega))
    refine wpAny_call (codeAny_call_builtin F.slot_list_ne.plain F.entry_list_ne (F.slot_list_ne.check _ _ _ _ _ _ _ _ ⟨_, hl, rfl⟩ (F.args_list_ne_2 _ _) ?_))
    obtain ⟨hp, g, d, tk, os⟩ := s
    have f3 := AutoSeq1.sub_list_list
    have hne : ((x :: r).toArray.size != (#[] : Array Value).size) = true := by simp
    wp_walk using wpAny_loadPart' hl, wpAny_loadPart' hb
    exact ⟨(fun x => nomatch x), by simpa using h⟩
end
section
variable {prog : Program} {w : World} {p : Program} {loose : List Str} {mg mb : Str → Option Value} {mean : ExcName → Option Value}
theorem law_exp {A : Around} {s : Shared} {Q E : Value → Shared → Prop} {H : Heap} {L D : Addr} {Do : Obj} {m : Str → Option Value} {news xs : List (Addr × Obj)} {r : RD} {vs : List Value} {ys : List Str} (X : (hd.heap_39 w.params).In H) (T : TopRead p loose mg mb H)
    (F : Fr H L s.heap m) (N : News H L s.heap ((D, Do) :: (xs ++ r.nw w.params news))) (ok : r.okE w.params news) (hxs : ∀ q ∈ xs, q.1 ≠ r.l) (hD : D ≠ r.l) (hvs : StrsAre vs ys) (hvv : (∃ v, vs = [v]) ∨ ∃ v v', vs = [v, v']) (hHL : H.objs.size ≤ L)
    (hh : A.handled = none) (hd : A.depth ≤ 450) (hu : A.units ≤ 2500)
    (hQ : ∀ h' tk nL', Fr H L h' m → News H L h' ((D, Do) :: (xs ++ ({ r with ks := expandL ys r.ks, nL := nL' } : RD).nw w.params news)) → ({ r with ks := expandL ys r.ks, nL := nL' } : RD).okE w.params news → Q (.bool (expAny ys r.ks)) { s with heap := h', toks := tk }) :
    wpAny (model prog w) A (call (.ref 118) (.ref r.a :: vs)) Q E s := by
  have sub : ∀ q ∈ r.nw w.params news, q ∈ (D, Do) :: (xs ++ r.nw w.params news) := fun q hq => .tail _ (List.mem_append_right _ hq)
  have nl := N _ (sub _ (.head _))
  have nd := N _ (sub _ (.tail _ (.head _)))
  have na := N _ (sub _ (.tail _ (.tail _ (List.mem_append_right _ ok.ma))))
  have oa := ok.off _ ok.ma
  refine expand_call X T F.keep nl.2.2 nl.1 na.1 nd.1 oa.1 (Ne.symm ok.ld) (ok.rep.mono fun b o hb => ⟨(N _ (sub _ (.tail _ (.tail _ (List.mem_append_right _ hb))))).1, (ok.off _ hb).1⟩) hvs hvv (Nat.le_trans ok.sz (by decide)) hh hd hu fun h' tk n' hk hl => ?_
  have F' := fr_ext F nl.2.2 nl.2.1 hk
  refine hQ h' tk n' F' (fun q hq => ?_) ⟨rep_expand ys ok.rep, ok.ma, ok.ld, ok.off, ok.offn, Nat.le_trans (size_expand ys r.ks) ok.sz⟩
  have old : ∀ q, q ∈ (D, Do) :: (xs ++ r.nw w.params news) → q.1 ≠ r.l → h'.get? q.1 = some q.2 ∧ q.1 ≠ L ∧ H.get? q.1 = none := fun q hq hne => ⟨hk _ _ hne (N q hq).1, (N q hq).2⟩
  rcases List.mem_cons.mp hq with rfl | hq
  · exact old _ (.head _) hD
  rcases List.mem_append.mp hq with hq | hq
  · exact old q (.tail _ (List.mem_append_left _ hq)) (hxs q hq)
  rcases List.mem_cons.mp hq with rfl | hq
  · exact ⟨hl, nl.2⟩
  rcases List.mem_cons.mp hq with rfl | hq
  · exact old _ (sub _ (.tail _ (.head _))) (Ne.symm ok.ld)
  rcases List.mem_append.mp hq with hq | hq
  · exact old q (sub q (.tail _ (.tail _ (List.mem_append_left _ hq)))) (ok.offn q hq).1
  · exact old q (sub q (.tail _ (.tail _ (List.mem_append_right _ hq)))) (ok.off q hq).1
end
end Mine
end

section
example : True ∧ True := by
  w_top off
  first | (walk1; done) | exact ⟨trivial, trivial⟩
open PySem PySem.W PySem.Calls PyProof.Rows
set_option maxRecDepth 100000
set_option maxHeartbeats 4000000
namespace Mine
local macro_rules | `(tactic| k_inst) => `(tactic| (refine' instOf_base ?F ?h1 ?h2; (case F => k_asm); (case h1 => assumption); (case h2 => assumption)))
local macro_rules | `(tactic| k_inst) => `(tactic| (refine' instOf_news ?N ?h1 ?h2; (case N => assumption); (case h1 => first | assumption | exact .tail _ (by assumption) | exact .tail _ (.tail _ (by assumption)) | exact .tail _ (.tail _ (.tail _ (by assumption)))); (case h2 => first | assumption | exact .tail _ (by assumption) | exact .tail _ (.tail _ (by assumption)) | exact .tail _ (.tail _ (.tail _ (by assumption))))))
local macro_rules | `(tactic| walk_at "call builtin:len") => `(tactic| ((with_reducible show wpAny _ _ (call (Value.builtin "len") [Value.ref _]) _ _ _); (refine' len_news ?N ?hm ?hz ?_; (case N => assumption); (case hm => first | exact .head _ | exact .tail _ (.head _) | exact .tail _ (.tail _ (.head _)) | exact .tail _ (.tail _ (.tail _ (.head _))) | exact .tail _ (.tail _ (.tail _ (.tail _ (.head _))))); (case hz => (simp; omega)); intro tLen tkLen)))
local macro_rules | `(tactic| walk_at "eval ListComp") => `(tactic| refine holdC ?_)
local macro_rules | `(tactic| walk_at "eval Name") => `(tactic| ((with_reducible show wpAny _ _ (eval (.Name _ _) (compEnvC _ _ _ _)) _ _ _); first
  | (refine' nmG_L ?F ?hv ?_ ?hk ?hx ?hd; (case hk => exact rfl); (case hx => exact rfl); (case hd => exact rfl); (case F => assumption); (case hv => assumption))
  | (refine' nmG_K ?F ?X ?T ?e ?_ ?hk ?hx ?hg ?hd; (case hk => exact rfl); (case hx => exact rfl); (case hg => exact rfl); (case hd => exact rfl); (case F => assumption); (case X => assumption); (case T => assumption); (case e => k_is))
  | (refine' nmG_B ?F ?X ?T ?e ?hv ?hn ?_ ?hk ?hx ?hg ?hb ?hd; (case hk => exact rfl); (case hx => exact rfl); (case hg => exact rfl); (case hb => exact rfl); (case hd => exact rfl); (case F => assumption); (case X => assumption); (case T => assumption); (case e => k_is); (case hv => rfl); (case hn => decide))))
local macro_rules | `(tactic| k_inst) => `(tactic| (refine' instOf_news ?N ?h1 ?h2; (case N => assumption); (case h1 => first | exact .head _ | exact .tail _ (.head _) | assumption | exact .tail _ (by assumption) | exact .tail _ (.tail _ (by assumption)) | exact .tail _ (.tail _ (.tail _ (by assumption)))); (case h2 => first | exact .head _ | exact .tail _ (.head _) | assumption | exact .tail _ (by assumption) | exact .tail _ (.tail _ (by assumption)) | exact .tail _ (.tail _ (.tail _ (by assumption))))))
local macro_rules | `(tactic| walk_at "compareOp Is ref ref") => `(tactic| refine holdP ?_)
local macro_rules | `(tactic| walk_at "compareOp Eq ref ref") => `(tactic| refine holdP ?_)
local macro_rules | `(tactic| walk_at "compareOp NotEq ref ref") => `(tactic| refine holdP ?_)
theorem eqAt_same {A : Around} {s : Shared} {x : Str} {t u : Tok} : PySem.SeqAt.EqAt A s (.str x t) (.str x u) true := by
  have := PySem.SeqAt.EqAt.str_str (A := A) (s := s) x t x u
  rwa [beq_self_eq_true] at this
noncomputable def lawIn3 : List Stmt := stForBody ((lawSt 20).headD default)
section
variable {prog : Program} {w : World} {p : Program} {loose : List Str} {mg mb : Str → Option Value} {mean : ExcName → Option Value}
theorem law_15in {s : Shared} {K : Flow → Shared → Prop} {H : Heap} {L fa na : Addr} {m : Str → Option Value} {o3 o2 o1 : Obj} {p1 p2 p3 : Array Value} {xs : List (Addr × Obj)} {r : RD} {no : Nd} {vs : List Value} {ys : List Str} {nn : Nat} (X : (hd.heap_39 w.params).In H) (T : Top p loose mean mg mb H) (hHLz : H.objs.size ≤ L)
    (F : Fr H L s.heap m) (N : News H L s.heap (xs ++ r.nw w.params (nwL L o3 o2 o1 p1 p2 p3))) (ok : r.okE w.params (nwL L o3 o2 o1 p1 p2 p3)) (hxs : ∀ q ∈ xs, q.1 ≠ r.l) (hm : m (Str.ofString "tree") = some (.ref r.a)) (hmo : m (Str.ofString "other") = some no.val)
    (hc3 : o3.data = .cell (some (.ref na))) (hna : (na, listOf vs.toArray nn) ∈ xs) (hvs : StrsAre vs ys) (hys : ys = [Str.ofString "p"] ∨ ys = [Str.ofString "q", Str.ofString "p"])
    (hK : ∀ h' tk m' nL', Fr H L h' m' → News H L h' (xs ++ ({ r with ks := expandL ys r.ks, nL := nL' } : RD).nw w.params (nwL L o3 o2 o1 p1 p2 p3)) → ({ r with ks := expandL ys r.ks, nL := nL' } : RD).okE w.params (nwL L o3 o2 o1 p1 p2 p3) → m' (Str.ofString "tree") = some (.ref r.a) → m' (Str.ofString "other") = some no.val → K .next { s with heap := h', toks := tk }) :
    wpAny (model prog w) (Ar 302 500) (execs lawIn3 (lawEnv L fa)) K (fun _ _ => False) s := by
  show wpAny _ _ (execs (Stmt.Assign _ (Expr.ListComp _ _ _ _) _ :: Stmt.Assign _ (Expr.Compare _ _ _ _) _ :: Stmt.Assign _ (Expr.IfExp _ _ _ _) _ :: Stmt.If (Expr.BoolOp _ _ _) _ _ _ :: []) (envOfC _ (Scope.mk _ _ _ _ _) _ _ _)) _ _ _
  have F₀ := F
  rw [upd_self hm, upd_self hmo] at F₀
  clear F
  have TH := topRead_of T
  have hzk : r.ks.length ≤ 17 := Nat.le_trans (length_le_sizeL _) ok.sz
  have hze := expandL_length ys r.ks
  have hze2 := ok.sz
  walk1
  refine compFlatA (h₀ := H) (L := L) (cl := ?cla) (fun v => (exp1 ys (ndOf r.ks v)).map Nd.val) rfl ?hswa ?hclosa ?hcella rfl ?hnamesa rfl rfl rfl ?hsa ?hs2a rfl rfl rfl ?_
  case hswa => exact rfl
  case hclosa => exact rfl
  case hcella => decide
  case hnamesa => decide
  case hsa => exact fun _ => rfl
  case hs2a => exact fun _ _ => rfl
  have hma : (r.a, instObj 142 r.dx) ∈ xs ++ r.nw w.params (nwL L o3 o2 o1 p1 p2 p3) := List.mem_append_right _ (.tail _ (.tail _ (List.mem_append_right _ ok.ma)))
  have hmd : (r.dx, dictOf (treeEs w.params r.t1 r.t2 r.t3 (.str (Str.ofString "top") r.td) (.ref r.l)) 3) ∈ xs ++ r.nw w.params (nwL L o3 o2 o1 p1 p2 p3) := List.mem_append_right _ (.tail _ (.head _))
  have hml : (r.l, listOf (r.ks.map Nd.val).toArray r.nL) ∈ xs ++ r.nw w.params (nwL L o3 o2 o1 p1 p2 p3) := List.mem_append_right _ (.head _)
  have hmc : (L + 1 + 1 + 1, o3) ∈ xs ++ r.nw w.params (nwL L o3 o2 o1 p1 p2 p3) := List.mem_append_right _ (.tail _ (.tail _ (.head _)))
  have hmn : (na, listOf vs.toArray nn) ∈ xs ++ r.nw w.params (nwL L o3 o2 o1 p1 p2 p3) := List.mem_append_left _ hna
  iterate 3 walk1
  have hR₀ := RD.repE ok N fun _ h => List.mem_append_right _ h
  unfold Hold
  refine ⟨r.l, (r.ks.map Nd.val).toArray, _, _, rfl, ⟨_, (N _ hml).1, rfl, _, rfl⟩, (by rw [List.toList_toArray, exp1_val hR₀, List.length_map]; omega), F₀, N, ?_, ?_⟩
  · intro C v s₃ m₃ hv F₃ hm₃ hg hdr hos
    obtain ⟨c, hc, rfl⟩ := mem_val hv
    have hcr := repL_iff.mp hR₀ c hc
    rw [ndOf_val hR₀ hc]
    have X₅ := X.keeps F₀.keep
    have T₅ := TH.keeps F₀.keep
    have gc3 := (N _ hmc).1
    have gna := (N _ hmn).1
    dsimp only at F₃ hg hdr hos ⊢
    obtain ⟨H3, g3, d3, k3, q3⟩ := s₃
    dsimp only at F₃ hg hdr hos ⊢
    subst hg hdr hos
    cases c with
    | tok ca cty cv =>
      obtain ⟨cdx, y1, y2, y3, y4, hy1, hy2⟩ := hcr
      clear N F₀
      have N₃ : News s.heap C H3 [] := fun q hq => nomatch hq
      have e1 : exp1 ys (Nd.tok ca cty cv) = [Nd.tok ca cty cv] := by simp [exp1, Nd.isTree]
      have hn3 : s.heap.get? H3.objs.size = none ∨ True := .inr trivial
      iterate 19 walk1
      refine wpAny_newList ?_
      refine ⟨_, rfl, ?_, .inr (fresh_of (Nat.le_refl _)), _, _, rfl, fun b o e => Heap.get?_push_of_some _ e⟩
      rw [e1]
      exact ⟨_, Heap.get?_push_size _ rfl, rfl, _, rfl⟩
    | tree ca cdx cl cd cks =>
      obtain ⟨⟨y1, y2, y3, y4, hy1, hy2⟩, ⟨ncl, hy3⟩, _⟩ := hcr
      clear N F₀
      have N₃ : News s.heap C H3 [] := fun q hq => nomatch hq
      have I : InstAt H3 ca (instObj 142 cdx) 142 (some (dictOf (treeEs w.params y1 y2 y3 (.str cd y4) (.ref cl)) 3)) := instOf_base F₃ hy1 hy2
      have X₆ := X₅.keeps F₃.keep
      iterate 11 walk1
      refine isi_call X₆ (fun M => I.type) (by k_is) (by intro e; cases e) ?_
      iterate 7 walk1
      rename Fr _ _ _ _ => F₆
      refine nmG_C F₆ rfl gc3 hc3 ?_ rfl rfl
      refine in_list_strs ⟨_, F₆.keep _ _ gna, rfl, _, rfl⟩ hvs ?_
      cases hin : ys.any (· == cd) with
      | true =>
        have hmem : cd ∈ ys := by simpa using hin
        have e1 : exp1 ys (Nd.tree ca cdx cl cd cks) = cks := by simp [exp1, Nd.isTree, Nd.name, hmem, Nd.kids]
        iterate 7 walk1
        rename Fr _ _ _ _ => F₇
        refine ⟨cl, rfl, ?_, .inl ⟨_, hy3⟩, _, _, rfl, fun _ _ e => e⟩
        rw [e1]
        exact ⟨_, F₇.keep _ _ hy3, rfl, _, rfl⟩
      | false =>
        have hmem : cd ∉ ys := fun hm => by
          simp at hin
          exact hin cd hm rfl
        have e1 : exp1 ys (Nd.tree ca cdx cl cd cks) = [Nd.tree ca cdx cl cd cks] := by simp [exp1, Nd.isTree, Nd.name, hmem]
        iterate 7 walk1
        refine wpAny_newList ?_
        refine ⟨_, rfl, ?_, .inr (fresh_of (Nat.le_refl _)), _, _, rfl, fun b o e => Heap.get?_push_of_some _ e⟩
        rw [e1]
        exact ⟨_, Heap.get?_push_size _ rfl, rfl, _, rfl⟩
  · intro D nD h₁ tk₁ F₁ N₁ off₁ hn₁
    rw [List.toList_toArray, exp1_val hR₀] at N₁
    replace off₁ : ∀ q ∈ xs ++ r.nw w.params (nwL L o3 o2 o1 p1 p2 p3), q.1 ≠ D := off₁
    have dD : ∀ {q}, q ∈ xs ++ r.nw w.params (nwL L o3 o2 o1 p1 p2 p3) → q ∈ (D, listOf ((expandL ys r.ks).map Nd.val).toArray nD) :: (xs ++ r.nw w.params (nwL L o3 o2 o1 p1 p2 p3)) := fun h => .tail _ h
    dsimp only
    iterate 4 walk1
    show wpAny _ _ _ _ _ _
    refine compF (h₀ := H) (L := L) (cl := ?clb) (fun v => (fun k : Nd => k.isTree && ys.contains k.name) (ndOf r.ks v)) rfl ?hclosb ?hcellb rfl ?hnamesb rfl rfl ?hsb ?_
    case hclosb => exact rfl
    case hcellb => decide
    case hnamesb => decide
    case hsb => exact fun _ => rfl
    iterate 3 walk1
    have hR₁ := RD.repE ok N₁ fun _ h => dD (List.mem_append_right _ h)
    unfold Hold
    refine ⟨r.l, (r.ks.map Nd.val).toArray, _, _, rfl, ⟨_, (N₁ _ (dD hml)).1, rfl, _, rfl⟩, (by simp only [List.size_toArray, List.length_map]; omega), F₁, N₁, ?_, ?_⟩
    · intro C v s₃ m₃ hv F₃ hm₃
      obtain ⟨c, hc, rfl⟩ := mem_val hv
      have hcr := repL_iff.mp hR₁ c hc
      rw [ndOf_val hR₁ hc]
      have X₅ := X.keeps F₁.keep
      have T₅ := TH.keeps F₁.keep
      have gc3 := (N₁ _ (dD hmc)).1
      have gna := (N₁ _ (dD hmn)).1
      dsimp only at F₃ ⊢
      refine wpAny_tests_one ?_
      cases c with
      | tok ca cty cv =>
        obtain ⟨cdx, y1, y2, y3, y4, hy1, hy2⟩ := hcr
        clear N₁ F₁
        have N₃ : News h₁ C s₃.heap [] := fun q hq => nomatch hq
        repeat' walk1
        exact ⟨s₃.heap, _, rfl, fun _ _ e => e⟩
      | tree ca cdx cl cd cks =>
        obtain ⟨⟨y1, y2, y3, y4, hy1, hy2⟩, ⟨ncl, hy3⟩, _⟩ := hcr
        clear N₁ F₁
        have N₃ : News h₁ C s₃.heap [] := fun q hq => nomatch hq
        have I : InstAt s₃.heap ca (instObj 142 cdx) 142 (some (dictOf (treeEs w.params y1 y2 y3 (.str cd y4) (.ref cl)) 3)) := instOf_base F₃ hy1 hy2
        have X₆ := X₅.keeps F₃.keep
        iterate 10 walk1
        refine isi_call X₆ (fun M => I.type) (by k_is) (by intro e; cases e) ?_
        iterate 7 walk1
        rename Fr _ _ _ _ => F₆
        refine nmG_C F₆ rfl gc3 hc3 ?_ rfl rfl
        refine in_list_strs ⟨_, F₆.keep _ _ gna, rfl, _, rfl⟩ hvs ?_
        cases hin : ys.any (· == cd) with
        | true =>
          have hmem : cd ∈ ys := by simpa using hin
          have e2 : ((Nd.tree ca cdx cl cd cks).isTree && ys.contains (Nd.tree ca cdx cl cd cks).name) = true := by simp [Nd.isTree, Nd.name, hmem]
          rw [e2]
          repeat' walk1
          exact ⟨s₃.heap, _, rfl, fun _ _ e => e⟩
        | false =>
          have hmem : cd ∉ ys := fun hm => by
            simp at hin
            exact hin cd hm rfl
          have e2 : ((Nd.tree ca cdx cl cd cks).isTree && ys.contains (Nd.tree ca cdx cl cd cks).name) = false := by simp [Nd.isTree, Nd.name, hmem]
          rw [e2]
          repeat' walk1
          exact ⟨s₃.heap, _, rfl, fun _ _ e => e⟩
    · intro D₂ n₂ h₂ tk₂ F₂ N₂ off₂ hk₂ hn₂
      rw [filt_nd hR₁ fun k => k.isTree && ys.contains k.name] at N₂
      replace off₂ : ∀ q ∈ (D, listOf ((expandL ys r.ks).map Nd.val).toArray nD) :: (xs ++ r.nw w.params (nwL L o3 o2 o1 p1 p2 p3)), q.1 ≠ D₂ := off₂
      clear N₁ F₁
      iterate 3 walk1
      rename_i l3 h₃ F₃ N₃ lt₃
      have hdec : decide (((r.ks.filter fun k => k.isTree && ys.contains k.name).map Nd.val) ≠ []) = expAny ys r.ks := by
        cases hE : expAny ys r.ks with
        | false =>
          have := (filt_any ys r.ks).mpr hE
          rw [this]
          rfl
        | true =>
          refine decide_eq_true fun q => ?_
          have := (filt_any ys r.ks).mp (List.map_eq_nil_iff.mp q)
          rw [hE] at this
          cases this
      refine ne_nil (N₃ _ (.tail _ (.head _))).1 (N₃ _ (.head _)).1 (Nat.le_of_ble_eq_true rfl) ?_
      rw [hdec]
      have N₄ : News H L h₃ ((D, listOf ((expandL ys r.ks).map Nd.val).toArray nD) :: (xs ++ r.nw w.params (nwL L o3 o2 o1 p1 p2 p3))) := fun q hq => N₃ q (.tail _ (.tail _ hq))
      clear N₃
      iterate 4 walk1
      rename_i h₄ F₄ N₅
      have hHl : H.get? r.l = none := (N₅ _ (dD hml)).2.2
      have hHL : r.l ≠ L := (N₅ _ (dD hml)).2.1
      have hoa := ok.off _ ok.ma
      obtain ⟨me, F₅, g1, g2, g3, g4⟩ : ∃ me, Fr H L h₄ me ∧ me (Str.ofString "tree") = some (.ref r.a) ∧ me (Str.ofString "other") = some no.val ∧ me (Str.ofString "due") = some (.ref D) ∧ me (Str.ofString "changed") = some (.bool (expAny ys r.ks)) := ⟨_, F₄, rfl, rfl, rfl, rfl⟩
      clear F₄
      have hDl : D ≠ r.l := Ne.symm (off₁ _ hml)
      refine wpAny_mono (E := fun _ _ => False) (Q := fun v s' => Hold (∃ h' tk' nL', v = .bool (expAny ys r.ks) ∧ s' = { s with heap := h', toks := tk' } ∧ Fr H L h' me ∧ News H L h' ((D, listOf ((expandL ys r.ks).map Nd.val).toArray nD) :: (xs ++ ({ r with ks := expandL ys r.ks, nL := nL' } : RD).nw w.params (nwL L o3 o2 o1 p1 p2 p3))) ∧
        ({ r with ks := expandL ys r.ks, nL := nL' } : RD).okE w.params (nwL L o3 o2 o1 p1 p2 p3))) ?_ (fun v s' hv => ?_) (fun _ _ x => x.elim)
      · have F₆ := F₅
        rw [upd_self g1, upd_self g2, upd_self g3, upd_self g4] at F₆
        have hmaD := dD hma
        have hmdD := dD hmd
        refine wpAny_IfExp ?_
        walk1
        refine nmH_C rfl (N₅ _ (dD hmc)).1 hc3 ?_ rfl rfl
        iterate 5 walk1
        rename_i l4 h₅ F₇ N₆ lt₇
        have N₇ : News H L h₅ ((D, listOf ((expandL ys r.ks).map Nd.val).toArray nD) :: (xs ++ r.nw w.params (nwL L o3 o2 o1 p1 p2 p3))) := fun q hq => N₆ q (.tail _ hq)
        have gl4 := (N₆ _ (.head _)).1
        have gna := (N₆ _ (.tail _ (dD hmn))).1
        clear N₆
        have hcl : (Ar 302 500).units < cLine := by rw [cLine_is]; exact Nat.lt_of_le_of_lt (Nat.le_of_eq (rfl : _ = 500)) (by decide)
        rcases hys with hys | hys
        · obtain ⟨t, rfl⟩ : ∃ t, vs = [.str (Str.ofString "p") t] := by
            rw [hys] at hvs
            cases hvs with
            | cons a b h => cases h; exact ⟨_, rfl⟩
          refine PySem.SeqAt.eq_listAt (e := fun _ => true) ⟨_, gna, rfl, _, rfl⟩ ⟨_, gl4, rfl, _, rfl⟩ rfl hcl (fun j h1 h2 => ?_) ?_
          · have hj : j = 0 := by simp at h1; omega
            subst hj
            exact eqAt_same
          · show wpAny _ _ (truthy (.bool true)) _ _ _
            iterate 10 walk1
            refine law_exp (ys := ys) (vs := [.str (Str.ofString "p") _]) X TH F₇ N₇ ok hxs hDl (by rw [hys]; exact .cons _ _ .nil) (.inl ⟨_, rfl⟩) hHLz rfl (Nat.le_of_ble_eq_true rfl) (Nat.le_of_ble_eq_true rfl) fun h' tk' nL' F' N' ok' => ?_
            unfold Hold
            exact ⟨h', tk', nL', rfl, rfl, by rw [upd_self g1, upd_self g2, upd_self g3, upd_self g4]; exact F', N', ok'⟩
        · obtain ⟨t, t', rfl⟩ : ∃ t t', vs = [.str (Str.ofString "q") t, .str (Str.ofString "p") t'] := by
            rw [hys] at hvs
            cases hvs with
            | cons a b h =>
              cases h with
              | cons a' b' h' => cases h'; exact ⟨_, _, rfl⟩
          refine PySem.SeqAt.eq_list_lengthsAt ⟨_, gna, rfl, _, rfl⟩ ⟨_, gl4, rfl, _, rfl⟩ rfl hcl ?_
          iterate 12 walk1
          refine law_exp (ys := ys) (vs := [.str (Str.ofString "q") _, .str (Str.ofString "p") _]) X TH F₇ N₇ ok hxs hDl (by rw [hys]; exact .cons _ _ (.cons _ _ .nil)) (.inr ⟨_, _, rfl⟩) hHLz rfl (Nat.le_of_ble_eq_true rfl) (Nat.le_of_ble_eq_true rfl) fun h' tk' nL' F' N' ok' => ?_
          unfold Hold
          exact ⟨h', tk', nL', rfl, rfl, by rw [upd_self g1, upd_self g2, upd_self g3, upd_self g4]; exact F', N', ok'⟩
      · obtain ⟨h₅, tk₅, nL', rfl, rfl, F₆, N₆, ok₆⟩ := hv
        have F₇ := F₆
        rw [upd_self g1, upd_self g2, upd_self g3, upd_self g4] at F₇
        have hmaE : (r.a, instObj 142 r.dx) ∈ (D, listOf ((expandL ys r.ks).map Nd.val).toArray nD) :: (xs ++ ({ r with ks := expandL ys r.ks, nL := nL' } : RD).nw w.params (nwL L o3 o2 o1 p1 p2 p3)) := .tail _ (List.mem_append_right _ (.tail _ (.tail _ (List.mem_append_right _ ok.ma))))
        have hmdE : (r.dx, dictOf (treeEs w.params r.t1 r.t2 r.t3 (.str (Str.ofString "top") r.td) (.ref r.l)) 3) ∈ (D, listOf ((expandL ys r.ks).map Nd.val).toArray nD) :: (xs ++ ({ r with ks := expandL ys r.ks, nL := nL' } : RD).nw w.params (nwL L o3 o2 o1 p1 p2 p3)) := .tail _ (List.mem_append_right _ (.tail _ (.head _)))
        clear F₅ F₆ N₅
        repeat' walk1
        · rename_i hbad
          exfalso
          cases hE : expAny ys r.ks <;> rw [hE] at hbad <;> simp at hbad
        rename Fr _ _ _ _ => F₈
        rename News _ _ _ _ => N₈
        have hR₈ : RepL w.params (hf _) (expandL ys r.ks) := RD.repE ok₆ N₈ fun _ h => .tail _ (List.mem_append_right _ h)
        have hlz : ((expandL ys r.ks).map Nd.val).length ≤ 17 := by
          rw [List.length_map]
          omega
        refine same_call (v1 := (expandL ys r.ks).map Nd.val) (v2 := (expandL ys r.ks).map Nd.val) (X.keeps F₈.keep) (TH.keeps F₈.keep) rfl (Nat.le_of_ble_eq_true rfl) (Nat.le_of_ble_eq_true rfl) (N₈ _ (.tail _ (List.mem_append_right _ (.head _)))).1 (N₈ _ (.head _)).1 (Nat.le_trans hlz (by decide)) (Nat.le_trans hlz (by decide)) (here_all hR₈) (here_all hR₈) fun h₉ tk₉ hk₉ => ?_
        have F₉ := fr_keep F₈ hk₉
        have N₉ := news_keep N₈ hk₉
        rw [beq_self_eq_true]
        clear F₈ N₈
        repeat' walk1
        exact hK _ _ _ nL' F₉ (fun q hq => N₉ q (.tail _ hq)) ok₆ rfl rfl
end
end Mine
end

section
example : True ∧ True := by
  w_top off
  first | (walk1; done) | exact ⟨trivial, trivial⟩
open PySem PySem.W PySem.Calls PyProof.Rows
set_option maxRecDepth 100000
set_option maxHeartbeats 4000000
namespace Mine
local macro_rules | `(tactic| k_inst) => `(tactic| (refine' instOf_base ?F ?h1 ?h2; (case F => k_asm); (case h1 => assumption); (case h2 => assumption)))
local macro_rules | `(tactic| k_inst) => `(tactic| (refine' instOf_news ?N ?h1 ?h2; (case N => assumption); (case h1 => first | assumption | exact .tail _ (by assumption) | exact .tail _ (.tail _ (by assumption)) | exact .tail _ (.tail _ (.tail _ (by assumption)))); (case h2 => first | assumption | exact .tail _ (by assumption) | exact .tail _ (.tail _ (by assumption)) | exact .tail _ (.tail _ (.tail _ (by assumption))))))
local macro_rules | `(tactic| walk_at "call builtin:len") => `(tactic| ((with_reducible show wpAny _ _ (call (Value.builtin "len") [Value.ref _]) _ _ _); (refine' len_news ?N ?hm ?hz ?_; (case N => assumption); (case hm => first | exact .head _ | exact .tail _ (.head _) | exact .tail _ (.tail _ (.head _)) | exact .tail _ (.tail _ (.tail _ (.head _))) | exact .tail _ (.tail _ (.tail _ (.tail _ (.head _))))); (case hz => (simp; omega)); intro tLen tkLen)))
local macro_rules | `(tactic| walk_at "eval ListComp") => `(tactic| refine holdC ?_)
local macro_rules | `(tactic| walk_at "eval Name") => `(tactic| ((with_reducible show wpAny _ _ (eval (.Name _ _) (compEnvC _ _ _ _)) _ _ _); first
  | (refine' nmG_L ?F ?hv ?_ ?hk ?hx ?hd; (case hk => exact rfl); (case hx => exact rfl); (case hd => exact rfl); (case F => assumption); (case hv => assumption))
  | (refine' nmG_K ?F ?X ?T ?e ?_ ?hk ?hx ?hg ?hd; (case hk => exact rfl); (case hx => exact rfl); (case hg => exact rfl); (case hd => exact rfl); (case F => assumption); (case X => assumption); (case T => assumption); (case e => k_is))
  | (refine' nmG_B ?F ?X ?T ?e ?hv ?hn ?_ ?hk ?hx ?hg ?hb ?hd; (case hk => exact rfl); (case hx => exact rfl); (case hg => exact rfl); (case hb => exact rfl); (case hd => exact rfl); (case F => assumption); (case X => assumption); (case T => assumption); (case e => k_is); (case hv => rfl); (case hn => decide))))
local macro_rules | `(tactic| k_inst) => `(tactic| (refine' instOf_news ?N ?h1 ?h2; (case N => assumption); (case h1 => first | exact .head _ | exact .tail _ (.head _) | assumption | exact .tail _ (by assumption) | exact .tail _ (.tail _ (by assumption)) | exact .tail _ (.tail _ (.tail _ (by assumption)))); (case h2 => first | exact .head _ | exact .tail _ (.head _) | assumption | exact .tail _ (by assumption) | exact .tail _ (.tail _ (by assumption)) | exact .tail _ (.tail _ (.tail _ (by assumption))))))
local macro_rules | `(tactic| walk_at "compareOp Is ref ref") => `(tactic| refine holdP ?_)
local macro_rules | `(tactic| walk_at "compareOp Eq ref ref") => `(tactic| refine holdP ?_)
local macro_rules | `(tactic| walk_at "compareOp NotEq ref ref") => `(tactic| refine holdP ?_)
theorem updF_app {d : Addr} {o : Obj} {r : List (Addr × Obj)} {g : Obj → List (Addr × Obj)} (U : UpdF d o r g) : ∀ xs : List (Addr × Obj), (∀ p ∈ xs, p.1 ≠ d) → UpdF d o (xs ++ r) (fun o' => xs ++ g o')
  | [], _ => U
  | _ :: t, h => .tail (h _ (.head _)) (updF_app U t fun p hp => h p (.tail _ hp))
section
variable {prog : Program} {w : World} {p : Program} {loose : List Str} {mg mb : Str → Option Value} {mean : ExcName → Option Value}
theorem law_15 {s : Shared} {Q : Flow → Shared → Prop} {E : Value → Shared → Prop} {H : Heap} {L fa : Addr} {m : Str → Option Value} {o3 o2 o1 : Obj} {p1 p2 p3 : Array Value} {r : RD} {no : Nd} (X : (hd.heap_39 w.params).In H) (T : Top p loose mean mg mb H) (hl0 : 165 < L) (hHLz : H.objs.size ≤ L)
    (F : Fr H L s.heap m) (N : News H L s.heap (r.nw w.params (nwL L o3 o2 o1 p1 p2 p3))) (ok : r.ok w.params (nwL L o3 o2 o1 p1 p2 p3)) (hm : r.names m) (hmo : m (Str.ofString "other") = some no.val) (ho3 : ∃ v, o3.data = .cell v)
    (hQ : ∀ (s' : Shared) (m' : Str → Option Value) (o3' : Obj) (ks' : List Nd) (nL' : Nat), Fr H L s'.heap m' → News H L s'.heap (({ r with ks := ks', nL := nL' } : RD).nw w.params (nwL L o3' o2 o1 p1 p2 p3)) → ({ r with ks := ks', nL := nL' } : RD).okE w.params (nwL L o3' o2 o1 p1 p2 p3) → m' (Str.ofString "tree") = some (.ref r.a) → m' (Str.ofString "other") = some no.val → Rest 0 s s' →
      wpAny (model prog w) (Ar 302 500) (execs (lawSt 21) (lawEnv L fa)) Q E s') :
    wpAny (model prog w) (Ar 302 500) (execs (lawSt 20) (lawEnv L fa)) Q E s := by
  show wpAny _ _ (execs (Stmt.For (Expr.Name _ _) (Expr.List _ _) _ _ _ :: lawSt 21) (envOfC _ (Scope.mk _ _ _ _ _) _ _ _)) _ _ _
  unfold lawEnv at hQ
  generalize lawSt 21 = rest at hQ ⊢
  have F₀ := F
  rw [upd_self hm.tree, upd_self hmo] at F₀
  have TH := topRead_of T
  walk1
  refine wpAny_For ?_
  clear F
  repeat' walk1
  rename_i l1 _ lt₁ l2 _ lt₂ al h₅ F₅ N₅ lt₃
  obtain ⟨t1, t2, t3, N₆⟩ : ∃ t1 t2 t3 : Tok, News H L h₅ ([(al, listOf #[.ref l1, .ref l2] 0), (l2, listOf #[.str (Str.ofString "q") t2, .str (Str.ofString "p") t3] 0), (l1, listOf #[.str (Str.ofString "p") t1] 0)] ++ r.nw w.params (nwL L o3 o2 o1 p1 p2 p3)) := ⟨_, _, _, N₅⟩
  clear N₅
  have hal : ∀ {h' : Heap} {q z : List (Addr × Obj)}, News H L h' (q ++ ([(al, listOf #[.ref l1, .ref l2] 0), (l2, listOf #[.str (Str.ofString "q") t2, .str (Str.ofString "p") t3] 0), (l1, listOf #[.str (Str.ofString "p") t1] 0)] ++ z)) → h'.IsList al #[.ref l1, .ref l2] := fun Nq => ⟨_, (Nq _ (List.mem_append_right _ (.head _))).1, rfl, _, rfl⟩
  have tab : ∀ i, i < 2 → ∃ na vs ys, (#[Value.ref l1, .ref l2] : Array Value)[i]? = some (.ref na) ∧ (na, listOf (List.toArray vs) 0) ∈ [(al, listOf #[.ref l1, .ref l2] 0), (l2, listOf #[.str (Str.ofString "q") t2, .str (Str.ofString "p") t3] 0), (l1, listOf #[.str (Str.ofString "p") t1] 0)] ∧ StrsAre vs ys ∧ (ys = [Str.ofString "p"] ∨ ys = [Str.ofString "q", Str.ofString "p"]) := by
    intro i hi
    rcases i with _ | _ | i
    · exact ⟨l1, [.str (Str.ofString "p") t1], _, rfl, .tail _ (.tail _ (.head _)), .cons _ _ .nil, .inl rfl⟩
    · exact ⟨l2, [.str (Str.ofString "q") t2, .str (Str.ofString "p") t3], _, rfl, .tail _ (.head _), .cons _ _ (.cons _ _ .nil), .inr rfl⟩
    · omega
  have hxl : ∀ q ∈ [(al, listOf #[.ref l1, .ref l2] 0), (l2, listOf #[.str (Str.ofString "q") t2, .str (Str.ofString "p") t3] 0), (l1, listOf #[.str (Str.ofString "p") t1] 0)], q.1 ≠ r.l ∧ q.1 ≠ L + 1 + 1 + 1 := by
    have e1 := lt₁.2.2
    have e2 := lt₂.2.2.2
    have e3 := lt₃.2.2.2.2
    have z1 : L + 1 + 1 + 1 < l1 := e1.1
    have z2 : L + 1 + 1 + 1 < l2 := e2.1
    have z3 : L + 1 + 1 + 1 < al := e3.1
    intro q hq
    rcases List.mem_cons.mp hq with rfl | hq
    · exact ⟨Nat.ne_of_gt lt₃.2.2.1, Nat.ne_of_gt z3⟩
    rcases List.mem_cons.mp hq with rfl | hq
    · exact ⟨Nat.ne_of_gt lt₂.2.1, Nat.ne_of_gt z2⟩
    rcases List.mem_cons.mp hq with rfl | hq
    · exact ⟨Nat.ne_of_gt lt₁.1, Nat.ne_of_gt z1⟩
    · cases hq
  generalize hxs : ([(al, listOf #[.ref l1, .ref l2] 0), (l2, listOf #[.str (Str.ofString "q") t2, .str (Str.ofString "p") t3] 0), (l1, listOf #[.str (Str.ofString "p") t1] 0)] : List (Addr × Obj)) = xs at *
  refine iter_lit F₅ N₆ (hal (q := []) N₆) fun it h₆ ob F₆ N₇ hob hit hitn => ?_
  have offi : ∀ o3' ks' nL', ∀ q ∈ xs ++ ({ r with ks := ks', nL := nL' } : RD).nw w.params (nwL L o3' o2 o1 p1 p2 p3), q.1 ≠ it := fun o3' ks' nL' q hq => by
    have e : (xs ++ ({ r with ks := ks', nL := nL' } : RD).nw w.params (nwL L o3' o2 o1 p1 p2 p3)).map (·.1) = (xs ++ r.nw w.params (nwL L o3 o2 o1 p1 p2 p3)).map (·.1) := by
      rw [List.map_append, List.map_append]
      rfl
    have := List.mem_map_of_mem (f := (·.1)) hq
    rw [e] at this
    obtain ⟨q', hq', e'⟩ := List.mem_map.mp this
    have e' : q'.1 = q.1 := e'
    rw [← e']
    exact Nat.ne_of_lt (hit q' hq')
  have hiL : it ≠ L + 1 + 1 + 1 := Ne.symm (offi o3 r.ks r.nL (L + 1 + 1 + 1, o3) (List.mem_append_right _ (.tail _ (.tail _ (.head _)))))
  have hil : it ≠ r.l := Ne.symm (offi o3 r.ks r.nL (r.l, _) (List.mem_append_right _ (.head _)))
  have lt1 : ∀ c : Nat, c ≤ 165 → c ≠ L + 1 + 1 + 1 := fun c hc => Nat.ne_of_lt (Nat.lt_succ_of_lt (Nat.lt_succ_of_lt (Nat.lt_succ_of_lt (Nat.lt_of_le_of_lt hc hl0))))
  have l32 : (L + 1 + 1 : Nat) ≠ L + 1 + 1 + 1 := Nat.ne_of_lt (Nat.lt_succ_self _)
  have l31 : (L + 1 : Nat) ≠ L + 1 + 1 + 1 := Nat.ne_of_lt (Nat.lt_succ_of_lt (Nat.lt_succ_self _))
  have h3 := ok.offn (L + 1 + 1 + 1, o3) (.head _)
  have b3 := fun q hq => (ok.off q hq).2.2 (L + 1 + 1 + 1, o3) (.head _)
  have okE := ok.toE
  refine for_any (fun k σ => ∃ i h tk m o3' ks' nL' ob, i ≤ 2 ∧ k = 2 - i ∧ σ = { s with heap := h, toks := tk } ∧ Fr H L h m ∧ (∃ v, o3'.data = .cell v) ∧ m (Str.ofString "tree") = some (.ref r.a) ∧ m (Str.ofString "other") = some no.val ∧ News H L h ((it, ob) :: (xs ++ ({ r with ks := ks', nL := nL' } : RD).nw w.params (nwL L o3' o2 o1 p1 p2 p3))) ∧ ({ r with ks := ks', nL := nL' } : RD).okE w.params (nwL L o3' o2 o1 p1 p2 p3) ∧ LitIs ob al i) ?_ 2 ?_
  · rintro k _ ⟨i, h, tk, m, o3', ks', nL', ob, hi, rfl, rfl, F, ⟨v3, ho3⟩, hm, hmo, N, okk, hob⟩
    have hll := hal (q := [(it, ob)]) N
    by_cases hin : i < 2
    · obtain ⟨na, vs, ys, hx, hna, hvs, hys⟩ := tab i hin
      refine next_lit F N (offi _ _ _) hob hll hx fun h₈ ob₈ F₈ N₈ hob₈ => ?_
      show wpAny _ _ (pure ()) _ _ _
      refine wpAny_pure ?_
      refine wpAny_assign_Name ?_
      refine storeX_C F₈ N₈ rfl (UpdF.tail hiL (updF_app (UpdF.tail (Ne.symm h3.1) (UpdF.tail (Ne.symm h3.2) (UpdF.head ?_))) xs fun q hq => (hxl q hq).2)) ho3 fun h₉ o3n F₉ N₉ hc3 => ?_
      · intro q hq
        rcases List.mem_cons.mp hq with rfl | hq
        · exact l32
        rcases List.mem_cons.mp hq with rfl | hq
        · exact l31
        rcases List.mem_cons.mp hq with rfl | hq
        · exact lt1 106 (by decide)
        rcases List.mem_cons.mp hq with rfl | hq
        · exact lt1 99 (by decide)
        rcases List.mem_cons.mp hq with rfl | hq
        · exact lt1 165 (by decide)
        · exact b3 q hq
      have okn : ({ r with ks := ks', nL := nL' } : RD).okE w.params (nwL L o3n o2 o1 p1 p2 p3) := by
        have key : ∀ q ∈ nwL L o3n o2 o1 p1 p2 p3, ∃ q' ∈ nwL L o3' o2 o1 p1 p2 p3, q'.1 = q.1 := fun q hq => by
          have e : (nwL L o3n o2 o1 p1 p2 p3).map (·.1) = (nwL L o3' o2 o1 p1 p2 p3).map (·.1) := rfl
          have := List.mem_map_of_mem (f := (·.1)) hq
          rw [e] at this
          obtain ⟨q', hq', e'⟩ := List.mem_map.mp this
          exact ⟨q', hq', e'⟩
        refine ⟨okk.rep, okk.ma, okk.ld, fun p hp => ⟨(okk.off p hp).1, (okk.off p hp).2.1, fun q hq => ?_⟩, fun q hq => ?_, okk.sz⟩
        · obtain ⟨q', hq', e'⟩ := key q hq
          exact e' ▸ (okk.off p hp).2.2 q' hq'
        · obtain ⟨q', hq', e'⟩ := key q hq
          exact e' ▸ okk.offn q' hq'
      clear F₈ N₈ N F
      refine law_15in (r := { r with ks := ks', nL := nL' }) (xs := (it, ob₈) :: xs) X T hHLz F₉ N₉ okn (fun q hq => ?_) hm hmo hc3 (.tail _ hna) hvs hys fun h' tk' m' nL₂ F' N' ok' hm' hmo' => ?_
      · rcases List.mem_cons.mp hq with rfl | hq
        · exact hil
        · exact (hxl q hq).1
      · exact ⟨2 - (i + 1), by omega, i + 1, h', tk', m', o3n, _, nL₂, ob₈, hin, rfl, rfl, F', ⟨_, hc3⟩, hm', hmo', N', ok', hob₈⟩
    · have hi2 : i = 2 := by omega
      subst hi2
      refine next_lit_end rfl F N (offi _ _ _) hob hll rfl fun h₈ F₈ N₈ => ?_
      dsimp only
      exact hQ _ m o3' ks' nL' F₈ (fun q hq => N₈ q (List.mem_append_right _ hq)) okk hm hmo (Rest.refl (s := s)).same
  · exact ⟨0, h₆, _, _, o3, r.ks, r.nL, ob, Nat.zero_le _, rfl, rfl, F₆, ho3, rfl, rfl, N₇, okE, hob⟩
end
end Mine
end

section
example : True ∧ True := by
  w_top off
  first | (walk1; done) | exact ⟨trivial, trivial⟩
open PySem PySem.W PySem.Calls PyProof.Rows
set_option maxRecDepth 100000
set_option maxHeartbeats 4000000
namespace Mine
local macro_rules | `(tactic| k_inst) => `(tactic| (refine' instOf_base ?F ?h1 ?h2; (case F => k_asm); (case h1 => assumption); (case h2 => assumption)))
local macro_rules | `(tactic| k_inst) => `(tactic| (refine' instOf_news ?N ?h1 ?h2; (case N => assumption); (case h1 => first | assumption | exact .tail _ (by assumption) | exact .tail _ (.tail _ (by assumption)) | exact .tail _ (.tail _ (.tail _ (by assumption)))); (case h2 => first | assumption | exact .tail _ (by assumption) | exact .tail _ (.tail _ (by assumption)) | exact .tail _ (.tail _ (.tail _ (by assumption))))))
local macro_rules | `(tactic| walk_at "call builtin:len") => `(tactic| ((with_reducible show wpAny _ _ (call (Value.builtin "len") [Value.ref _]) _ _ _); (refine' len_news ?N ?hm ?hz ?_; (case N => assumption); (case hm => first | exact .head _ | exact .tail _ (.head _) | exact .tail _ (.tail _ (.head _)) | exact .tail _ (.tail _ (.tail _ (.head _))) | exact .tail _ (.tail _ (.tail _ (.tail _ (.head _))))); (case hz => (simp; omega)); intro tLen tkLen)))
local macro_rules | `(tactic| walk_at "eval ListComp") => `(tactic| refine holdC ?_)
local macro_rules | `(tactic| walk_at "eval Name") => `(tactic| ((with_reducible show wpAny _ _ (eval (.Name _ _) (compEnvC _ _ _ _)) _ _ _); first
  | (refine' nmG_L ?F ?hv ?_ ?hk ?hx ?hd; (case hk => exact rfl); (case hx => exact rfl); (case hd => exact rfl); (case F => assumption); (case hv => assumption))
  | (refine' nmG_K ?F ?X ?T ?e ?_ ?hk ?hx ?hg ?hd; (case hk => exact rfl); (case hx => exact rfl); (case hg => exact rfl); (case hd => exact rfl); (case F => assumption); (case X => assumption); (case T => assumption); (case e => k_is))
  | (refine' nmG_B ?F ?X ?T ?e ?hv ?hn ?_ ?hk ?hx ?hg ?hb ?hd; (case hk => exact rfl); (case hx => exact rfl); (case hg => exact rfl); (case hb => exact rfl); (case hd => exact rfl); (case F => assumption); (case X => assumption); (case T => assumption); (case e => k_is); (case hv => rfl); (case hn => decide))))
local macro_rules | `(tactic| k_inst) => `(tactic| (refine' instOf_news ?N ?h1 ?h2; (case N => assumption); (case h1 => first | exact .head _ | exact .tail _ (.head _) | assumption | exact .tail _ (by assumption) | exact .tail _ (.tail _ (by assumption)) | exact .tail _ (.tail _ (.tail _ (by assumption)))); (case h2 => first | exact .head _ | exact .tail _ (.head _) | assumption | exact .tail _ (by assumption) | exact .tail _ (.tail _ (by assumption)) | exact .tail _ (.tail _ (.tail _ (by assumption))))))
local macro_rules | `(tactic| walk_at "compareOp Is ref ref") => `(tactic| refine holdP ?_)
local macro_rules | `(tactic| walk_at "compareOp Eq ref ref") => `(tactic| refine holdP ?_)
local macro_rules | `(tactic| walk_at "compareOp NotEq ref ref") => `(tactic| refine holdP ?_)
section
variable {prog : Program} {w : World} {p : Program} {loose : List Str} {mg mb : Str → Option Value} {mean : ExcName → Option Value}
theorem law_16 {s : Shared} {Q : Flow → Shared → Prop} {E : Value → Shared → Prop} {H : Heap} {L fa : Addr} {m : Str → Option Value} {news : List (Addr × Obj)} {r : RD} {no : Nd} (X : (hd.heap_39 w.params).In H) (T : Top p loose mean mg mb H)
    (F : Fr H L s.heap m) (N : News H L s.heap (r.nw w.params news)) (ok : r.okE w.params news) (ht : m (Str.ofString "tree") = some (.ref r.a)) (hmo : m (Str.ofString "other") = some no.val) (hno : Rep w.params (fun b o => (b, o) ∈ r.big) no)
    (hQ : ∀ (s' : Shared) (m' : Str → Option Value), Fr H L s'.heap m' → News H L s'.heap news → Rest 0 s s' → Q (.ret (.bool true)) s') :
    wpAny (model prog w) (Ar 302 500) (execs (lawSt 21) (lawEnv L fa)) Q E s := by
  show wpAny _ _ (execs (Stmt.Expr _ _ :: Stmt.Return _ _ :: []) (envOfC _ (Scope.mk _ _ _ _ _) _ _ _)) _ _ _
  have F₀ := F
  rw [upd_self ht, upd_self hmo] at F₀
  clear F
  have TH := topRead_of T
  have hma : (r.a, instObj 142 r.dx) ∈ r.nw w.params news := .tail _ (.tail _ (List.mem_append_right _ ok.ma))
  have hmd : (r.dx, dictOf (treeEs w.params r.t1 r.t2 r.t3 (.str (Str.ofString "top") r.td) (.ref r.l)) 3) ∈ r.nw w.params news := .tail _ (.head _)
  repeat' walk1
  rename_i c h₁ F₁ N₁ lt₁
  have nl := N₁ _ (.tail _ (.head _))
  have nd := N₁ _ (.tail _ hmd)
  have na := N₁ _ (.tail _ hma)
  have oa := ok.off _ ok.ma
  have hcd : c ≠ r.dx := Nat.ne_of_gt lt₁.2.1
  refine set_call X TH F₁.keep na.2.2 nd.2.2 oa.2.1 na.1 nd.1 rfl (Nat.le_of_ble_eq_true rfl) (Nat.le_of_ble_eq_true rfl) fun u1 u2 u3 h₂ tk₂ nk hk₂ hd₂ => ?_
  have F₂ := fr_ext F₁ nd.2.2 nd.2.1 hk₂
  have N₂ : News H L h₂ ((c, listOf #[no.val] 0) :: (r.dx, dictOf (treeEs w.params u1 u2 u3 (.str (Str.ofString "new") s.toks) (.ref c)) nk) :: (news ++ r.big)) := by
    have old : ∀ q, q ∈ (c, listOf #[no.val] 0) :: r.nw w.params news → q.1 ≠ r.dx → h₂.get? q.1 = some q.2 ∧ q.1 ≠ L ∧ H.get? q.1 = none := fun q hq hne => ⟨hk₂ _ _ hne (N₁ q hq).1, (N₁ q hq).2⟩
    intro q hq
    rcases List.mem_cons.mp hq with rfl | hq
    · exact old _ (.head _) hcd
    rcases List.mem_cons.mp hq with rfl | hq
    · exact ⟨hd₂, nd.2⟩
    rcases List.mem_append.mp hq with hq | hq
    · exact old q (.tail _ (.tail _ (.tail _ (List.mem_append_left _ hq)))) (ok.offn q hq).2
    · exact old q (.tail _ (.tail _ (.tail _ (List.mem_append_right _ hq)))) (ok.off q hq).2.1
  have hma₂ : (r.a, instObj 142 r.dx) ∈ (c, listOf #[no.val] 0) :: (r.dx, dictOf (treeEs w.params u1 u2 u3 (.str (Str.ofString "new") s.toks) (.ref c)) nk) :: (news ++ r.big) := .tail _ (.tail _ (List.mem_append_right _ ok.ma))
  clear F₁ N₁ nl nd na hk₂ hd₂
  repeat' walk1
  rename Fr _ _ _ _ => F₃
  rename News _ _ _ _ => N₃
  have hno₃ : Rep w.params (hf _) no := hno.mono fun b o hm => (N₃ _ (.tail _ (.tail _ (.tail _ (List.mem_append_right _ hm))))).1
  have hh₃ : ∀ v ∈ [no.val], Here _ v := fun v hv => List.mem_singleton.mp hv ▸ hno₃.here
  refine same_call (v1 := [no.val]) (v2 := [no.val]) (X.keeps F₃.keep) (TH.keeps F₃.keep) rfl (Nat.le_of_ble_eq_true rfl) (Nat.le_of_ble_eq_true rfl) (N₃ _ (.tail _ (.head _))).1 (N₃ _ (.head _)).1 (Nat.le_of_ble_eq_true rfl) (Nat.le_of_ble_eq_true rfl) hh₃ hh₃ fun h₄ tk₄ hk₄ => ?_
  have F₄ := fr_keep F₃ hk₄
  have N₄ := news_keep N₃ hk₄
  rw [beq_self_eq_true]
  exact hQ _ _ F₄ (fun q hq => N₄ q (.tail _ (.tail _ (.tail _ (List.mem_append_left _ hq))))) (Rest.refl (s := s)).same
end
end Mine
end

section
example : True ∧ True := by
  w_top off
  first | (walk1; done) | exact ⟨trivial, trivial⟩
open PySem PySem.W PySem.Calls PyProof.Rows
set_option maxRecDepth 100000
set_option maxHeartbeats 4000000
namespace Mine
local macro_rules | `(tactic| k_inst) => `(tactic| (refine' instOf_base ?F ?h1 ?h2; (case F => k_asm); (case h1 => assumption); (case h2 => assumption)))
local macro_rules | `(tactic| k_inst) => `(tactic| (refine' instOf_news ?N ?h1 ?h2; (case N => assumption); (case h1 => first | assumption | exact .tail _ (by assumption) | exact .tail _ (.tail _ (by assumption)) | exact .tail _ (.tail _ (.tail _ (by assumption)))); (case h2 => first | assumption | exact .tail _ (by assumption) | exact .tail _ (.tail _ (by assumption)) | exact .tail _ (.tail _ (.tail _ (by assumption))))))
local macro_rules | `(tactic| walk_at "call builtin:len") => `(tactic| ((with_reducible show wpAny _ _ (call (Value.builtin "len") [Value.ref _]) _ _ _); (refine' len_news ?N ?hm ?hz ?_; (case N => assumption); (case hm => first | exact .head _ | exact .tail _ (.head _) | exact .tail _ (.tail _ (.head _)) | exact .tail _ (.tail _ (.tail _ (.head _))) | exact .tail _ (.tail _ (.tail _ (.tail _ (.head _))))); (case hz => (simp; omega)); intro tLen tkLen)))
local macro_rules | `(tactic| walk_at "eval ListComp") => `(tactic| refine holdC ?_)
local macro_rules | `(tactic| walk_at "eval Name") => `(tactic| ((with_reducible show wpAny _ _ (eval (.Name _ _) (compEnvC _ _ _ _)) _ _ _); first
  | (refine' nmG_L ?F ?hv ?_ ?hk ?hx ?hd; (case hk => exact rfl); (case hx => exact rfl); (case hd => exact rfl); (case F => assumption); (case hv => assumption))
  | (refine' nmG_K ?F ?X ?T ?e ?_ ?hk ?hx ?hg ?hd; (case hk => exact rfl); (case hx => exact rfl); (case hg => exact rfl); (case hd => exact rfl); (case F => assumption); (case X => assumption); (case T => assumption); (case e => k_is))
  | (refine' nmG_B ?F ?X ?T ?e ?hv ?hn ?_ ?hk ?hx ?hg ?hb ?hd; (case hk => exact rfl); (case hx => exact rfl); (case hg => exact rfl); (case hb => exact rfl); (case hd => exact rfl); (case F => assumption); (case X => assumption); (case T => assumption); (case e => k_is); (case hv => rfl); (case hn => decide))))
local macro_rules | `(tactic| k_inst) => `(tactic| (refine' instOf_news ?N ?h1 ?h2; (case N => assumption); (case h1 => first | exact .head _ | exact .tail _ (.head _) | assumption | exact .tail _ (by assumption) | exact .tail _ (.tail _ (by assumption)) | exact .tail _ (.tail _ (.tail _ (by assumption)))); (case h2 => first | exact .head _ | exact .tail _ (.head _) | assumption | exact .tail _ (by assumption) | exact .tail _ (.tail _ (by assumption)) | exact .tail _ (.tail _ (.tail _ (by assumption))))))
local macro_rules | `(tactic| walk_at "compareOp Is ref ref") => `(tactic| refine holdP ?_)
local macro_rules | `(tactic| walk_at "compareOp Eq ref ref") => `(tactic| refine holdP ?_)
local macro_rules | `(tactic| walk_at "compareOp NotEq ref ref") => `(tactic| refine holdP ?_)
section
variable {prog : Program} {w : World} {p : Program} {loose : List Str} {mg mb : Str → Option Value} {mean : ExcName → Option Value}
theorem law_all {s : Shared} {Q : Flow → Shared → Prop} {E : Value → Shared → Prop} {H : Heap} {L fa sc : Addr} {m : Str → Option Value} {o3 o2 o1 : Obj} {vs : List Value} {ns : List Int} (X : (hd.heap_39 w.params).In H) (T : Top p loose mean mg mb H) (hl0 : 165 < L) (hHL : H.objs.size ≤ L)
    (hC1 : CodeHd H 167 165) (hC2 : CodeHd H 110 106) (hC3 : CodeHd H 103 99) (ho3 : ∃ v, o3.data = .cell v) (ho2 : ∃ v, o2.data = .cell v) (ho1 : ∃ v, o1.data = .cell v)
    (F : Fr H L s.heap m) (N : News H L s.heap (nwL L o3 o2 o1 #[] #[] #[])) (hm : m (Str.ofString "script") = some (.ref sc)) (hl : H.IsList sc vs.toArray) (hi : IntsAre vs ns) (hlen : ns.length ≤ 63)
    (hQ : ∀ (s' : Shared) (m' : Str → Option Value) (o3 o2 o1 : Obj) (p1 p2 p3 : Array Value), Fr H L s'.heap m' → News H L s'.heap (nwL L o3 o2 o1 p1 p2 p3) → Rest 0 s s' → Q (.ret (.bool true)) s') :
    wpAny (model prog w) (Ar 302 500) (execs (lawSt 0) (lawEnv L fa)) Q E s := by
  refine law_1 X T F N hm hl hi hlen fun h1 tk1 m1 nl vs' ns' n' F1 N1 hnl hi' hlen' hm1 => ?_
  have R1 : Rest 0 s { s with heap := h1, toks := tk1 } := (Rest.refl (s := s)).same
  refine law_2 X T F1 N1 hnl hm1 hi' hlen' fun h2 tk2 m2 a dx l trl tol ks big t1 t2 t3 td nL ntr nto F2 N2 rep2 ma2 mn2 mtr2 mto2 ld2 off2 offn2 k1 k2 k3 k4 sh2 nd2 sz2 => ?_
  have R2 : Rest 0 s { s with heap := h2, toks := tk2 } := (Rest.refl (s := s)).same
  have ok : (RD.mk a dx l nl trl tol ks vs' ns' big t1 t2 t3 td nL n' ntr nto).ok w.params (nwL L o3 o2 o1 #[] #[] #[]) := ⟨rep2, ma2, mn2, mtr2, mto2, ld2, off2, offn2, sh2, nd2, sz2, hi', hlen'⟩
  have hn : (RD.mk a dx l nl trl tol ks vs' ns' big t1 t2 t3 td nL n' ntr nto).names m2 := ⟨k1, k2, k3, k4⟩
  replace N2 : News H L h2 ((RD.mk a dx l nl trl tol ks vs' ns' big t1 t2 t3 td nL n' ntr nto).nw w.params (nwL L o3 o2 o1 #[] #[] #[])) := N2
  clear rep2 ma2 mn2 mtr2 mto2 ld2 off2 offn2 k1 k2 k3 k4 sh2 nd2 sz2 F1 N1 R1 hm1 hnl hi' hlen' F N hm
  generalize RD.mk a dx l nl trl tol ks vs' ns' big t1 t2 t3 td nL n' ntr nto = r at *
  refine law_3 X T F2 N2 ok hn fun s3 m3 F3 N3 hn3 R3 => ?_
  refine law_4 X T hC1 hl0 F3 N3 ok hn3 fun s4 m4 col c' F4 N4 hn4 R4 => ?_
  have ok4 := ok_keys (news' := nwL L o3 o2 o1 #[] #[] #[rawInt 107, rawInt col, .ref c']) ok rfl
  refine law_5 X T hC2 hl0 hHL F4 N4 ok4 hn4 fun s5 m5 p1 F5 N5 hn5 R5 => ?_
  have ok5 := ok_keys (news' := nwL L o3 o2 o1 p1 #[] #[rawInt 107, rawInt col, .ref c']) ok rfl
  refine law_6 X T F5 N5 ok5 hn5 fun s6 m6 tdl nt dtd F6 N6 hn6 ht6 R6 => ?_
  have ok6 := RD.ok_add (e := (tdl, listOf ((told r.n).map Nd.val).toArray nt)) ok5 dtd
  have htm : toldO (r.add (tdl, listOf ((told r.n).map Nd.val).toArray nt)) tdl nt ∈ (r.add (tdl, listOf ((told r.n).map Nd.val).toArray nt)).big := .head _
  have hn6' : (r.add (tdl, listOf ((told r.n).map Nd.val).toArray nt)).names m6 := ⟨hn6.numbers, hn6.tree, hn6.trees, hn6.tokens⟩
  clear hn6
  generalize r.add (tdl, listOf ((told r.n).map Nd.val).toArray nt) = r at *
  refine law_7 X T hl0 F6 N6 ok6 hn6' htm ht6 ho1 ho2 fun s7 m7 o1' o2' ho1' ho2' F7 N7 hn7 ht7 R7 => ?_
  have ok7 := ok_keys (news' := nwL L o3 o2' o1' p1 #[] #[rawInt 107, rawInt col, .ref c']) ok6 rfl
  refine law_8 X T hC3 hl0 hHL F7 N7 ok7 hn7 htm ht7 fun s8 m8 p2 F8 N8 hn8 ht8 R8 => ?_
  have ok8 := ok_keys (news' := nwL L o3 o2' o1' p1 p2 #[rawInt 107, rawInt col, .ref c']) ok6 rfl
  refine law_9 X T hC1 hl0 F8 N8 ok8 hn8 htm ht8 fun s9 m9 p3 F9 N9 hn9 ht9 R9 => ?_
  have ok9 := ok_keys (news' := nwL L o3 o2' o1' p1 p2 p3) ok6 rfl
  refine law_10 X T F9 N9 ok9 hn9 fun s10 m10 es es₂ no lo F10 N10 ok10 hn10 oo ol ko kl R10 => ?_
  generalize (r.adds es).adds es₂ = r at *
  refine law_11 X T F10 N10 ok10 hn10 oo ol ko kl fun s11 m11 F11 N11 hn11 ko kl R11 => ?_
  refine law_12 X T F11 N11 ok10 hn11 oo ol ko kl fun s12 m12 F12 N12 hn12 ko R12 => ?_
  refine law_13 X T F12 N12 ok10 hn12 ko fun s13 m13 F13 N13 hn13 ko R13 => ?_
  refine law_14 X T F13 N13 ok10 hn13 ko fun s14 m14 F14 N14 hn14 ko R14 => ?_
  refine law_15 X T hl0 hHL F14 N14 ok10 hn14 ko ho3 fun s15 m15 o3' ks' nL' F15 N15 ok15 kt ko R15 => ?_
  refine law_16 X T F15 N15 ok15 kt ko oo.rep fun s16 m16 F16 N16 R16 => ?_
  exact hQ s16 m16 _ _ _ _ _ _ F16 N16 (R2.trans (R3.trans (R4.trans (R5.trans (R6.trans (R7.trans (R8.trans (R9.trans (R10.trans (R11.trans (R12.trans (R13.trans (R14.trans (R15.trans R16))))))))))))))
end
end Mine
end

section
example : True ∧ True := by
  w_top off
  first | (walk1; done) | exact ⟨trivial, trivial⟩
open PySem PySem.W PySem.Calls PyProof.Rows
set_option maxRecDepth 100000
set_option maxHeartbeats 8000000
namespace Mine
/-- what the law's call must leave, said over the ghost of the heap -/
theorem law_post {M : Model} {A : Around} {cd : Code} {s s₁ : Shared} {cw : ClaimW} {cl : Str → Option Addr} {mean : ExcName → Option Value} {args : List WData} {tabs : List (Addr × Addr)} (hT : TabsAt tabs s₁.heap)
    (hr : ∀ a x, cw.raises a x = false) (hp : cw.post args (.bool true) args = true)
    (h : codeAny M A cd (fun r s' => r = .ok (.ret (.bool true)) ∧ (∀ b o, (ghostOf s₁.heap tabs).get? b = some o → s'.heap.get? b = some o) ∧ GrownAll tabs s'.heap ∧ s'.os = s₁.os ∧ AllBare s'.gens) s) :
    codeAny M A cd (GoodWG cw cl mean args s₁) s :=
  codeAny_mono h fun r s' ⟨e, hk, hgr, hos, hg⟩ => by
    subst e
    have keep : ∀ b o, b ∉ tabs.map (·.2) → s₁.heap.get? b = some o → s'.heap.get? b = some o := fun b o hb e => hk b o (ghost_ne e hb)
    have grown : ∀ b o, b ∈ tabs.map (·.2) → s₁.heap.get? b = some o → isCodeTable s₁.heap b ∧ o = tabObj #[] ∧ ∃ ps, s'.heap.get? b = some (tabObj ps) := fun b o hb e => by
      obtain ⟨q, hq, rfl⟩ := List.mem_map.mp hb
      have e2 := (hT q hq).2
      rw [e] at e2
      exact ⟨((hT q hq).1.tab (hT q hq).2).isCodeTable, Option.some.inj e2, hgr.get q hq⟩
    refine ⟨.inl ⟨_, .bool true, [], rfl, hr _, .bool true, hp, fun _ => ⟨.nil, fun a ha => absurd ha List.not_mem_nil⟩⟩, ⟨fun b o e => ?_, fun b o e => ?_⟩, hos, hg⟩
    · by_cases hb : b ∈ tabs.map (·.2)
      · obtain ⟨ht, rfl, ps, hP⟩ := grown b o hb e
        exact .inr (.inl ⟨ht, rfl, #[], ps, rfl, by rw [Array.empty_append]; exact hP⟩)
      · exact .inl (keep b o hb e)
    · by_cases hb : b ∈ tabs.map (·.2)
      · obtain ⟨_, _, ps, hP⟩ := grown b o hb e
        exact ⟨_, hP⟩
      · exact ⟨o, keep b o hb e⟩
theorem law_holds : PySem.Challenge.rw_fc0127_01.Holds := by
  refine hd ?_
  k_fill
  intro w s₀ s₁ mg mb G Y fa o pm cd doc dV kV ho hd hcd hD hmg hg args vals as hpre hlay hrd hwl hlo
  have KX := km_in_of Y
  km_tabs Y
  have X := (Ground.X G).1
  have V := (Ground.X G).2
  refine Ground.open G ?_
  intro T B D TE TW
  try (refine guard_noD D (by decide +kernel) ?_; clear D)
  km_lay T hmg ho hd cd
  clear hmg
  wrow_args hpre hlay hrd hwl hlo
  refine enter_call ?_
  w_top on
  refine law_post hT9 (fun _ _ => rfl) ?_ ?_
  · wrow_post
  w_call any ho hd hcd hD T F
  clear hd
  kn_ghosts F T
  k_drop
  rename_i X' T' K' F C1 C2 N l0
  have hlen : ∀ k : Nat, ¬ ((63 : Nat) : Int) < (k : Int) → k ≤ 63 := fun k h => by omega
  rename IntsAre _ _ => hI
  refine to_Ar 302 500 rfl (Nat.le_of_ble_eq_true rfl) (Nat.le_of_ble_eq_true rfl) ?_
  refine law_all X' T' l0.2.2 F.above codeHd C1 C2 ⟨_, by assumption⟩ ⟨_, by assumption⟩ ⟨_, by assumption⟩ F N rfl lifted hI (hlen _ (by assumption)) ?_
  intro s' m' o3' o2' o1' p1 p2 p3 F2 N2 R2
  exact ⟨rfl, fun b o e => F2.keep b o e, ⟨⟨p1, (N2 _ (.tail _ (.tail _ (.tail _ (.head _))))).1⟩, ⟨p2, (N2 _ (.tail _ (.tail _ (.tail _ (.tail _ (.head _)))))).1⟩, ⟨p3, (N2 _ (.tail _ (.tail _ (.tail _ (.tail _ (.tail _ (.head _))))))).1⟩, trivial⟩, R2.os, R2.bare (AllBare.of_eq (by assumption))⟩
end Mine
end

theorem PySem.Challenge.cw_fc0127_01_holds : PySem.Challenge.rw_fc0127_01.Holds := by
  exact Mine.law_holds
