import PyProof.Rows.All
import Wide.All
import OpenK.AllK
import Wide.FinOn
import PySem.Challenge.RW_wu0001_01
open PySem PySem.W PyProof.Rows
set_option Elab.async false
set_option maxRecDepth 100000
set_option maxHeartbeats 8000000
namespace Mine
open_top hd for PySem.Challenge.rw_wu0001_01
theorem calm : True := by
  w_top off
  trivial
end Mine
local macro_rules | `(tactic| walk_at "MineNe") => `(tactic| (
  first
    | with_reducible assumption
    | exact Ne.symm (by with_reducible assumption)
    | (rename (@Ne Nat _ _) ∧ _ => hcc
       obtain ⟨_, _⟩ := hcc
       walk_at "MineNe")
    | (rename ((@Ne Nat _ _) ∧ _) ∧ _ => hcc
       obtain ⟨⟨_, _, _⟩, _⟩ := hcc
       walk_at "MineNe")))
local macro_rules | `(tactic| k_ne) => `(tactic| (
  refine neN ?_
  (try dsimp only)
  first
    | with_reducible assumption
    | exact Ne.symm (by with_reducible assumption)
    | exact Nat.ne_of_lt (by with_reducible assumption)
    | exact Nat.ne_of_gt (by with_reducible assumption)
    | ((repeat (rename (@Ne Nat _ _) ∧ _ => hcc; clear hcc))
       (repeat (rename ((@Ne Nat _ _) ∧ _) ∧ _ => hcc; clear hcc))
       omega)
    | walk_at "MineNe"
    | omega))

open PySem PySem.W PyProof.Rows PySem.Calls PySem.Spec
namespace Mine
abbrev LO : List PySem.Str := [PySem.Str.ofString "_quoted", PySem.Str.ofString "_paren_depth", PySem.Str.ofString "ONE_THIRD", PySem.Str.ofString "ONE_SIXTH", PySem.Str.ofString "TWO_THIRD", PySem.Str.ofString "_sre"]
abbrev arnd (dp un : Nat) (gd : Option (List Code)) (outer : List Env) : Around := { handled := none, depth := dp, frames := some outer, guards := gd, units := un }
abbrev Keeps (h h' : Heap) : Prop := ∀ b o, h.get? b = some o → h'.get? b = some o
abbrev NewIn (h h' : Heap) (tl : List (Addr × Obj)) : Prop := ∀ p ∈ tl, h'.get? p.1 = some p.2 ∧ h.get? p.1 = none

/-- a call of the def at f, from anywhere: every object stands, what it hands back is told -/
abbrev ClaimS (d : Nat) (f : Addr) (vs : List Value) (R : List (Addr × Obj) → Value → Prop) : Prop :=
  ∀ (w : World) (mean : ExcName → Option Value) (mg mb : PySem.Str → Option Value) (dp un : Nat) (gd : Option (List Code)) (outer : List Env) (base : Heap) (s : Shared) (Rq : Result → Shared → Prop),
    Below (arnd dp un gd outer) base outer s.heap → (hd.heap_39 w.params).In s.heap → Top hd.view_39 LO mean mg mb s.heap → dp + d < recursionLimit → un + 8 * d < cLine →
    (∀ v tl h' tk', Keeps s.heap h' → NewIn s.heap h' tl → R tl v → Rq (.ok (.ret v)) { s with heap := h', toks := tk' }) →
    codeAny (model PySem.Challenge.rw_wu0001_01.row.prog w) (arnd dp un gd outer) (.call (.ref f) ⟨vs, []⟩) Rq s

section
variable {prog : Program} {w : World} {A : Around} {s : Shared} {base : Heap} {outer : List Env} {K : Frag} {p : Program} {loose : List PySem.Str} {mean : ExcName → Option Value} {mg mb : PySem.Str → Option Value}
  {R : Result → Shared → Prop} {name qual : PySem.Str} {params : Arguments} {body : List Stmt} {scope : Scope} {dV kV doc pm cdv ct oc : Value} {an od : Option Addr} {osl : Array (Option Value)} {f : Addr} {args : Args} {binds : List (PySem.Str × Value)}
theorem enterS (_B : Below A base outer s.heap) (X : K.In s.heap) (T : Top p loose mean mg mb s.heap)
    (ho : K.lookup f = some ⟨oc, od, .func (fnOf name qual params body scope dV kV doc pm an cdv ct), osl⟩) (hcd : codeIn K cdv qual = true) (hroom : A.depth < recursionLimit)
    (hbind : BindsTo s (fnOf name qual params body scope dV kV doc pm an cdv ct) args binds) (hloc : ∀ y ∈ binds, scope.names.lookup y.1 = some .local)
    (h : ∀ L' h₁, Fr s.heap L' h₁ (fun y => binds.reverse.lookup y) → News s.heap L' h₁ [] →
      wpAny (model prog w) (A.deeper (envOf qual scope L' f cdv)) (execs body (envOf qual scope L' f cdv))
        (fun fl s' => R (.ok (.ret (match fl with | .ret v => v | _ => .none))) s')
        (fun e s' => wpAny (model prog w) (A.deeper (envOf qual scope L' f cdv)) (leaving (envOf qual scope L' f cdv) e) (fun _ s'' => R (.error e) s'') (fun e' s'' => R (.error e') s'') s')
        { s with heap := h₁, toks := s.toks + binds.length })
    (hco : scope.isCoroutine = false) (hgen : scope.isGenerator = false) (hk : scope.kind = .function)
    (hcell : ∀ x ∈ scope.names, x.2 ≠ .cell) : codeAny (model prog w) A (.call (.ref f) args) R s :=
  codeAny_call_def (fd := fnOf name qual params body scope dV kV doc pm an cdv ct) (body := body) (binds := binds) hroom (X _ _ ho) rfl T.nolimit (codeRec_of X hcd) rfl hbind hcell hloc
    (fun h₁ hns hk₁ => h _ h₁ ⟨hns, hk₁, Nat.le_refl _⟩ News.nil) hco hgen hk
theorem enterSC (_B : Below A base outer s.heap) (X : K.In s.heap) (T : Top p loose mean mg mb s.heap)
    (ho : K.lookup f = some ⟨oc, od, .func (fnOf name qual params body scope dV kV doc pm an cdv ct), osl⟩) (hcd : codeIn K cdv qual = true) (hroom : A.depth < recursionLimit)
    (hbind : BindsTo s (fnOf name qual params body scope dV kV doc pm an cdv ct) args binds) (hkind : (binds.all fun y => scope.names.lookup y.1 == some .local || scope.names.lookup y.1 == some .cell) = true)
    (hnd : ((cellsFrom 0 scope.names []).map (·.1)).Nodup)
    (h : ∀ L' h₁ tk cells, Fr s.heap L' h₁ (bindL (envOfC qual scope L' f cdv).kindOf binds fun _ => none) → News s.heap L' h₁ cells →
      CellsAre (bindC (envOfC qual scope L' f cdv).kindOf binds fun _ => none) (cellsFrom (L' + 1) scope.names []) cells →
      wpAny (model prog w) (A.deeper (envOfC qual scope L' f cdv)) (execs body (envOfC qual scope L' f cdv))
        (fun fl s' => R (.ok (.ret (match fl with | .ret v => v | _ => .none))) s')
        (fun e s' => wpAny (model prog w) (A.deeper (envOfC qual scope L' f cdv)) (leaving (envOfC qual scope L' f cdv) e) (fun _ s'' => R (.error e) s'') (fun e' s'' => R (.error e') s'') s')
        { s with heap := h₁, toks := tk })
    (hco : scope.isCoroutine = false) (hgen : scope.isGenerator = false) (hk : scope.kind = .function) : codeAny (model prog w) A (.call (.ref f) args) R s := by
  refine codeAny_call_function hroom (X _ _ ho) rfl hco hgen rfl (codeRec_of X hcd) (hbind _ _ _ _ ?_)
  refine wpAny_newFunctionEnv_cells hk (kindsX hkind _) fun env' he s' x => ?_
  subst he
  refine ⟨T.nolimit.keeps x.toInCall.keep, codeAny_func ?_⟩
  obtain ⟨h₁, tk, rfl, _⟩ := x.done
  obtain ⟨cells, NC, Y⟩ := Cl.news (h₀ := s.heap) (Nat.le_refl _) fun n c hm => ⟨x.cell n c (lookup_of_mem_nodup (cellsFrom_names scope.names 0 (s.heap.objs.size + 1) [] [] rfl ▸ hnd) hm), x.above n c hm⟩
  exact h s.heap.objs.size h₁ tk cells ⟨x.toInCall.ns, x.toInCall.keep, Nat.le_refl _⟩ NC Y
end
section
variable {w : World} {mean : ExcName → Option Value} {mg mb : PySem.Str → Option Value} {dp un : Nat} {gd : Option (List Code)} {cn : PySem.Str} {cs : Scope} {a : Addr} {ccd : Value} {cl : List (PySem.Str × Addr)} {outer : List Env} {A₀ : Around} {base h₀ : Heap} {L : Addr}
  {m : PySem.Str → Option Value} {s : Shared} {news : List (Addr × Obj)} {Q E : Value → Shared → Prop} {f : Addr} {vs : List Value} {R : List (Addr × Obj) → Value → Prop}
theorem useS {d : Nat} (C : ClaimS d f vs R) (B : Below A₀ base outer h₀) (F : Fr h₀ L s.heap m) (X : (hd.heap_39 w.params).In h₀) (N : News h₀ L s.heap news) (T : Top hd.view_39 LO mean mg mb h₀) (hk : cs.kind = .function)
    (hd : dp + d < recursionLimit) (hu : un + 8 * d < cLine)
    (ret : ∀ v tl h' tk', Fr h₀ L h' m → News h₀ L h' (tl ++ news) → (∀ p ∈ tl, ∀ q ∈ news, q.1 ≠ p.1) → R tl v → Q v { s with heap := h', toks := tk' }) :
    wpAny (model PySem.Challenge.rw_wu0001_01.row.prog w) (ktrTop dp un gd cn cs L a ccd cl outer) (call (.ref f) vs) Q E s := by
  refine wpAny_call ?_
  have B₁ := pushX (env := envX cn cs L a ccd cl) B F rfl hk
  refine C w mean mg mb dp un gd (envX cn cs L a ccd cl :: outer) base s _ ⟨rfl, B₁.stays, B₁.frames⟩ (X.keeps F.keep) (T.keeps F.keep) hd hu fun v tl h' tk' keep ht hR => ?_
  refine ret v tl h' tk' (F.grownK keep) (fun p hp => ?_) (fun p hp q hq e => ?_) hR
  · rcases List.mem_append.mp hp with hp | hp
    · obtain ⟨oL, _, _, hL, _⟩ := F.ns
      refine ⟨(ht p hp).1, fun e => ?_, ?_⟩
      · have := (ht p hp).2; rw [e, hL] at this; cases this
      · cases q : h₀.get? p.1 with
        | none => rfl
        | some o => have := (ht p hp).2; rw [F.keep _ _ q] at this; cases this
    · exact ⟨keep _ _ (N p hp).1, (N p hp).2⟩
  · have := (ht p hp).2; rw [← e, (N q hq).1] at this; cases this
end

end Mine

namespace Mine
def vF (m1 m2 hue : UInt64) : UInt64 :=
  let h := (Float64.divmod hue 4607182418800017408).2
  if (Float64.cmp h 4595172819793696085 == some .lt) = true then Float64.add m1 (Float64.mul (Float64.mul (Float64.sub m2 m1) h) 4618441417868443648)
  else if (Float64.cmp h 4602678819172646912 == some .lt) = true then m2
  else if (Float64.cmp h 4604180019048437077 == some .lt) = true then Float64.add m1 (Float64.mul (Float64.mul (Float64.sub m2 m1) (Float64.sub 4604180019048437077 h)) 4618441417868443648)
  else m1

section
open PySem.Flt
variable {prog : Program} {w : World} {A : Around} {E : Value → Shared → Prop} {s : Shared} {Q : Value → Shared → Prop} {x y z : UInt64} {t u v : Tok} {h₀ : Heap} {L : Addr} {m : PySem.Str → Option Value} {news : List (Addr × Obj)}
def max2 (x y : UInt64) : UInt64 := if (Float64.cmp x y == some .lt) = true then y else x
def min2 (x y : UInt64) : UInt64 := if (Float64.cmp y x == some .lt) = true then y else x
theorem max3_f (hh : A.handled = none) (F : Fr h₀ L s.heap m) (N : News h₀ L s.heap news)
    (h : ∀ h' tk k, Fr h₀ L h' m → News h₀ L h' news → Q (.float (max2 (max2 x y) z) k) { s with heap := h', toks := tk }) :
    wpAny (model prog w) A (call (.builtin "max") [.float x t, .float y u, .float z v]) Q E s := by
  have hT : (s.heap.push { cls := .type "tuple", data := .seq #[.float x t, .float y u, .float z v] }).IsTuple s.heap.objs.size #[.float x t, .float y u, .float z v] := ⟨_, Heap.get?_push_size _ rfl, rfl, 0, rfl⟩
  refine call_max_three (wpAny_pyIter_tuple hT ?_)
  have hsz : (s.heap.push { cls := .type "tuple", data := .seq #[.float x t, .float y u, .float z v] }).objs.size = s.heap.objs.size + 1 := Heap.size_push ..
  refine ⟨_, [_, s.heap.objs.size], [_], _, _, _, _, rfl, Walks.tuple (A := A.in1) hh _ s.heap.objs.size (by rw [hsz]; exact Nat.ne_of_lt (Nat.lt_succ_self _)) #[.float x t, .float y u, .float z v],
    ⟨⟨_, Heap.get?_push_size _ rfl, rfl, rfl⟩, hT.push _⟩, fun c hc => ?_, by simp, cmpOf_gt #[.float x t, .float y u, .float z v] (by simp [NumV.float]), fun r h' tk hP hk => ?_⟩
  · show c < ((s.heap.push _).push _).objs.size
    rw [Heap.size_push, hsz]
    rcases List.mem_cons.mp hc with rfl | hc
    · rw [hsz]; exact Nat.lt_succ_self _
    · rcases List.mem_cons.mp hc with rfl | hc
      · exact Nat.lt_succ_of_lt (Nat.lt_succ_self _)
      · cases hc
  · have hold : ∀ c o, s.heap.get? c = some o → h'.get? c = some o := fun c o e => by
      refine hk c o (fun hm => ?_) (Heap.get?_push_of_some _ (Heap.get?_push_of_some _ e))
      rcases List.mem_cons.mp hm with e1 | hm
      · have := Heap.lt_size e; rw [e1, hsz] at this; exact Nat.lt_irrefl _ (Nat.lt_of_succ_lt this)
      · cases hm
    have key := fun k => h h' tk k (F.grownK hold) (N.grown hold)
    have hv : ∃ k, r = .float (max2 (max2 x y) z) k := by
      have e0 : ∀ i j, (fun i j => ltV ((#[Value.float x t, .float y u, .float z v] : Array Value).getD j .none) ((#[Value.float x t, .float y u, .float z v] : Array Value).getD i .none)) i j = ltV ((#[Value.float x t, .float y u, .float z v] : Array Value).getD j .none) ((#[Value.float x t, .float y u, .float z v] : Array Value).getD i .none) := fun _ _ => rfl
      cases c1 : (Float64.cmp x y == some .lt) <;> cases c2 : (Float64.cmp (max2 x y) z == some .lt) <;>
        simp [max2, c1] at c2 <;> simp [argBest, ltV, c1, c2] at hP <;> subst hP <;> simp [max2, c1, c2]
    obtain ⟨k, rfl⟩ := hv
    exact key k
theorem min3_f (hh : A.handled = none) (F : Fr h₀ L s.heap m) (N : News h₀ L s.heap news)
    (h : ∀ h' tk k, Fr h₀ L h' m → News h₀ L h' news → Q (.float (min2 (min2 x y) z) k) { s with heap := h', toks := tk }) :
    wpAny (model prog w) A (call (.builtin "min") [.float x t, .float y u, .float z v]) Q E s := by
  have hT : (s.heap.push { cls := .type "tuple", data := .seq #[.float x t, .float y u, .float z v] }).IsTuple s.heap.objs.size #[.float x t, .float y u, .float z v] := ⟨_, Heap.get?_push_size _ rfl, rfl, 0, rfl⟩
  refine call_min_three (wpAny_pyIter_tuple hT ?_)
  have hsz : (s.heap.push { cls := .type "tuple", data := .seq #[.float x t, .float y u, .float z v] }).objs.size = s.heap.objs.size + 1 := Heap.size_push ..
  refine ⟨_, [_, s.heap.objs.size], [_], _, _, _, _, rfl, Walks.tuple (A := A.in1) hh _ s.heap.objs.size (by rw [hsz]; exact Nat.ne_of_lt (Nat.lt_succ_self _)) #[.float x t, .float y u, .float z v],
    ⟨⟨_, Heap.get?_push_size _ rfl, rfl, rfl⟩, hT.push _⟩, fun c hc => ?_, by simp, cmpOf_lt #[.float x t, .float y u, .float z v] (by simp [NumV.float]), fun r h' tk hP hk => ?_⟩
  · show c < ((s.heap.push _).push _).objs.size
    rw [Heap.size_push, hsz]
    rcases List.mem_cons.mp hc with rfl | hc
    · rw [hsz]; exact Nat.lt_succ_self _
    · rcases List.mem_cons.mp hc with rfl | hc
      · exact Nat.lt_succ_of_lt (Nat.lt_succ_self _)
      · cases hc
  · have hold : ∀ c o, s.heap.get? c = some o → h'.get? c = some o := fun c o e => by
      refine hk c o (fun hm => ?_) (Heap.get?_push_of_some _ (Heap.get?_push_of_some _ e))
      rcases List.mem_cons.mp hm with e1 | hm
      · have := Heap.lt_size e; rw [e1, hsz] at this; exact Nat.lt_irrefl _ (Nat.lt_of_succ_lt this)
      · cases hm
    have key := fun k => h h' tk k (F.grownK hold) (N.grown hold)
    have hv : ∃ k, r = .float (min2 (min2 x y) z) k := by
      cases c1 : (Float64.cmp y x == some .lt) <;> cases c2 : (Float64.cmp z (min2 x y) == some .lt) <;>
        simp [min2, c1] at c2 <;> simp [argBest, ltV, c1, c2] at hP <;> subst hP <;> simp [min2, c1, c2]
    obtain ⟨k, rfl⟩ := hv
    exact key k
end
theorem News.newIn {h₀ h' : Heap} {L : Addr} {tl : List (Addr × Obj)} (N : News h₀ L h' tl) : NewIn h₀ h' tl := fun p hp => ⟨(N p hp).1, (N p hp).2.2⟩
abbrev tupO (vs : List Value) : Obj := { cls := .type "tuple", data := .seq vs.toArray }

def hlsL (r g b : UInt64) : UInt64 := Float64.div (Float64.add (max2 (max2 r g) b) (min2 (min2 r g) b)) 4611686018427387904
def hlsH (r g b : UInt64) : UInt64 :=
  let M := max2 (max2 r g) b
  let d := Float64.sub M (min2 (min2 r g) b)
  let rc := Float64.div (Float64.sub M r) d
  let gc := Float64.div (Float64.sub M g) d
  let bc := Float64.div (Float64.sub M b) d
  let h := if (Float64.cmp r M == some .eq) = true then Float64.sub bc gc
    else if (Float64.cmp g M == some .eq) = true then Float64.sub (Float64.add 4611686018427387904 rc) bc
    else Float64.sub (Float64.add 4616189618054758400 gc) rc
  (Float64.divmod (Float64.div h 4618441417868443648) 4607182418800017408).2
/-- what the three divisors ask -/
def hlsOk (r g b : UInt64) : Prop :=
  ¬ Float64.isZero (Float64.sub (max2 (max2 r g) b) (min2 (min2 r g) b)) = true ∧ ¬ Float64.isZero (Float64.add (max2 (max2 r g) b) (min2 (min2 r g) b)) = true ∧
  ¬ Float64.isZero (Float64.sub (Float64.sub 4611686018427387904 (max2 (max2 r g) b)) (min2 (min2 r g) b)) = true ∧ ¬ (Float64.cmp (min2 (min2 r g) b) (max2 (max2 r g) b) == some .eq) = true
section
local macro_rules | `(tactic| walk_at "MineEnter") => `(tactic| (
  refine' enterS ?k1 ?k2 ?k3 ?k4 ?k5 ?k6 ?k7 ?k8 ?_ ?c2 ?c3 ?c4 ?c5
  (case k1 => assumption)
  (case k2 => assumption)
  (case k3 => assumption)
  (case k4 => k_is)
  (case k5 => k_is)
  (case k6 => ktr_room)
  (case k7 => exact BindsTo.of_eq rfl)
  (case k8 => exact locs rfl)
  (case c2 => exact rfl)
  (case c3 => exact rfl)
  (case c4 => exact rfl)
  (case c5 => decide)
  k_whole
  intro L' h' F' N'
  (try dsimp only)
  (try k_fold)))
theorem v_is (m1 m2 hue : UInt64) (t1 t2 t3 : Tok) : ClaimS 2 58 [.float m1 t1, .float m2 t2, .float hue t3] (fun tl v => ∃ t, tl = [] ∧ v = .float (vF m1 m2 hue) t) := by
  unfold ClaimS
  k_fill
  intros; rename_i hret
  k_dflt walk_at "MineEnter"
  k_steps
  all_goals (
    (try dsimp only)
    refine hret _ [] _ _ (Fr.keep (by assumption)) (fun _ h => nomatch h) ⟨_, rfl, congrArg (fun x => Value.float x _) ?_⟩
    simp only [vF]
    simp_all)
local macro_rules | `(tactic| walk_at "call builtin:max") => `(tactic| ((with_reducible show wpAny _ _ (call _ [Value.float _ _, Value.float _ _, Value.float _ _]) _ _ _); (rename News _ _ _ _ => N'); (rename Fr _ _ _ _ => F'); refine max3_f rfl F' N' ?_; clear N'; intro _ _ _ _ _))
local macro_rules | `(tactic| walk_at "call builtin:min") => `(tactic| ((with_reducible show wpAny _ _ (call _ [Value.float _ _, Value.float _ _, Value.float _ _]) _ _ _); (rename News _ _ _ _ => N'); (rename Fr _ _ _ _ => F'); refine min3_f rfl F' N' ?_; clear N'; intro _ _ _ _ _))
local macro_rules | `(tactic| walk_at "binaryOp Div float float") => `(tactic| (k_here; refine AutoFloatOps.truediv_1 (by with_reducible assumption) ?_; simp only [Made.post]))
theorem rgb_is (r g b : UInt64) (t1 t2 t3 : Tok) (ok : hlsOk r g b) : ClaimS 2 51 [.float r t1, .float g t2, .float b t3]
    (fun tl v => ∃ a k1 k2 k3 x1 x2 x3, v = .ref a ∧ tl = [(a, tupO [.float x1 k1, .float x2 k2, .float x3 k3])] ∧ x1 = hlsH r g b ∧ x2 = hlsL r g b) := by
  unfold ClaimS
  k_fill
  intros; rename_i hret
  obtain ⟨ok1, ok2, ok3, ok4⟩ := ok
  k_dflt walk_at "MineEnter"
  k_steps
  all_goals (
    (try dsimp only)
    refine hret _ [(_, _)] _ _ (Fr.keep (by assumption)) (News.newIn (by assumption)) ⟨_, _, _, _, _, _, _, rfl, rfl, ?_, rfl⟩
    simp only [hlsH]; first | rw [if_pos (by assumption)] | rw [if_neg (by simp only [*]; decide), if_pos (by assumption)] | rw [if_neg (by simp only [*]; decide), if_neg (by simp only [*]; decide)])
end
end Mine

namespace Mine
section
local macro_rules | `(tactic| walk_at "MineEnterC") => `(tactic| (
  refine' enterSC ?k1 ?k2 ?k3 ?k4 ?k5 ?k6 ?k7 ?k8 ?kD ?_ ?c2 ?c3 ?c4
  (case k1 => assumption)
  (case k2 => assumption)
  (case k3 => assumption)
  (case k4 => k_is)
  (case k5 => k_is)
  (case k6 => ktr_room)
  (case k7 => exact BindsTo.of_eq rfl)
  (case k8 => exact rfl)
  (case kD => decide +kernel)
  (case c2 => exact rfl)
  (case c3 => exact rfl)
  (case c4 => exact rfl)
  k_whole
  intro L' h' tk' cells' F' N' Y'
  k_cells Y'
  (try dsimp only)
  (try k_fold)))
local macro_rules | `(tactic| walk_at "call ref") => `(tactic| (
  k_here
  (with_reducible show wpAny _ _ (call (Value.ref 58) [Value.float _ _, Value.float _ _, Value.float _ _]) _ _ _)
  k_dflt (refine' useS (v_is _ _ _ _ _ _) ?k1 ?k2 ?k3 ?k4 ?k5 ?kK ?kd ?ku ?_)
  (case k1 => k_asm)
  (case k2 => k_asm)
  (case k3 => k_asm)
  (case k4 => k_asm)
  (case k5 => k_asm)
  (case kK => first | exact rfl | assumption)
  (case kd => ktr_room)
  (case ku => ktr_units)
  intro v9 tl9 h9 tk9 F9 N9 d9 e9
  (obtain ⟨t9, q9, r9⟩ := e9)
  subst q9 r9
  clear d9
  (simp only [List.nil_append] at N9)
  (try dsimp only)
  (try k_fold)))
local macro_rules | `(tactic| walk_at "call ref") => `(tactic| (
  k_here
  (with_reducible show wpAny _ _ (call (Value.ref 51) [Value.float _ _, Value.float _ _, Value.float _ _]) _ _ _)
  k_dflt (refine' useS (rgb_is _ _ _ _ _ _ ?ok) ?k1 ?k2 ?k3 ?k4 ?k5 ?kK ?kd ?ku ?_)
  (case ok => k_asm)
  (case k1 => k_asm)
  (case k2 => k_asm)
  (case k3 => k_asm)
  (case k4 => k_asm)
  (case k5 => k_asm)
  (case kK => first | exact rfl | assumption)
  (case kd => ktr_room)
  (case ku => ktr_units)
  intro v9 tl9 h9 tk9 F9 N9 d9 e9
  (obtain ⟨a9, k19, k29, k39, x19, x29, x39, q9, r9, u9, w9⟩ := e9)
  subst q9 r9 u9 w9
  (simp only [List.cons_append, List.nil_append] at N9)
  (simp only [List.forall_mem_cons, List.not_mem_nil, false_implies, implies_true, and_true] at d9)
  (try dsimp only)
  (try k_fold)))
abbrev hueF (p wh : Int) : UInt64 := Float64.ofFrac (decide (p < 0) != decide (wh < 0)) p.natAbs wh.natAbs
abbrev partF (p wh : Int) (low turn : UInt64) : UInt64 := vF low (Float64.add low 4602678819172646912) (Float64.add (hueF p wh) turn)
/-- what _law_told asks to come through, and what it then tells -/
def toldOk (p wh : Int) (low : UInt64) (r1 r2 : Int) : Bool :=
  let a := partF p wh low 4599676419421066581
  let b := partF p wh low 0
  let c := partF p wh low (Float64.neg 4599676419421066581)
  let M := max2 (max2 a b) c
  let m := min2 (min2 a b) c
  let X := Float64.add (Float64.mul (hlsH a b c) (Float64.ofInt wh)) 4602678819172646912
  let Y := Float64.add (Float64.mul (hlsL a b c) (Float64.ofInt 16)) 4602678819172646912
  !Float64.isInf (hueF p wh) && !Float64.isZero (Float64.sub M m) && !Float64.isZero (Float64.add M m) && !Float64.isZero (Float64.sub (Float64.sub 4611686018427387904 M) m) &&
    !(Float64.cmp m M == some .eq) && Float64.isFinite X && Float64.isFinite Y && decide ((Flt.toInt Float64.truncOf X).fmod wh = r1) && decide (Flt.toInt Float64.truncOf Y = r2)
theorem newIn1 {h₀ h' : Heap} {L : Addr} {p : Addr × Obj} {tl : List (Addr × Obj)} (N : News h₀ L h' (p :: tl)) : NewIn h₀ h' [p] := fun q hq => by
  rw [List.mem_singleton.mp hq]
  exact ⟨(N p (.head _)).1, (N p (.head _)).2.2⟩
theorem told_is (ac st wh : Int) (low : UInt64) (r1 r2 : Int) (t1 t2 t3 t4 : Tok) (hw1 : 2 ≤ wh) (hw2 : wh ≤ 8) (hp1 : -32 ≤ ac * st) (hp2 : ac * st ≤ 64) (ha1 : -4 ≤ ac) (ha2 : ac ≤ 8) (hs1 : 1 ≤ st) (hs2 : st ≤ 8)
    (hok : toldOk (ac * st) wh low r1 r2 = true) : ClaimS 4 77 [.int ac t1, .int st t2, .int wh t3, .float low t4]
    (fun tl v => ∃ a k1 k2, v = .ref a ∧ tl = [(a, listOf #[.int r1 k1, .int r2 k2] 0)]) := by
  simp only [toldOk, Bool.and_eq_true, Bool.not_eq_true', decide_eq_true_eq] at hok
  obtain ⟨⟨⟨⟨⟨⟨⟨⟨c1, c2⟩, c3⟩, c4⟩, c5⟩, c6⟩, c7⟩, c8⟩, c9⟩ := hok
  subst c8 c9
  have ok : hlsOk (partF (ac * st) wh low 4599676419421066581) (partF (ac * st) wh low 0) (partF (ac * st) wh low (Float64.neg 4599676419421066581)) :=
    ⟨by rw [c2]; decide, by rw [c3]; decide, by rw [c4]; decide, by rw [c5]; decide⟩
  unfold ClaimS
  k_fill
  intros; rename_i hret
  k_dflt walk_at "MineEnterC"
  k_steps
  (try dsimp only)
  refine hret _ [(_, _)] _ _ (Fr.keep (by assumption)) (newIn1 (by assumption)) ⟨_, _, _, rfl, rfl⟩
end
end Mine

namespace Mine
theorem slot_sub : Slot "re.Pattern" "sub" "re.Pattern.sub" :=
  .of (owner := "re.Pattern") (n := "sub") (by rw [typeLookup_type, builtinLookup_eq_fast]; kernel_rfl) (by decide +kernel) (by decide +kernel) (by decide +kernel)
    (by first | exact .inl (by decide +kernel) | exact .inr (by decide +kernel)) (by rw [isSubtype_type]; kernel_rfl)
theorem entry_sub : entryFor table "re.Pattern.sub" = some Builtin.«re.Pattern.sub» := entryFor_of_tree (by kernel_rfl)
theorem entry_loop : entryFor table "re.Pattern.sub.loop" = some Builtin.«re.Pattern.sub.loop» := entryFor_of_tree (by kernel_rfl)
theorem args_sub (a b c : Value) : argsOk "re.Pattern.sub" ⟨[a, b, c], []⟩ := by unfold argsOk; kernel_rfl
theorem type_sub : typeOf (.builtin "re.Pattern.sub") = pure (.type "method_descriptor") := by show builtinType _ = _; rw [builtinType_eq_fast]; kernel_rfl
theorem pat_ga : typeLookup (.type "re.Pattern") "__getattribute__" = pure (some (.builtin "object.__getattribute__")) := by rw [typeLookup_type, builtinLookup_eq_fast]; kernel_rfl
theorem pat_no : typeLookup (.type "re.Pattern") "__getattr__" = pure none := by rw [typeLookup_type, builtinLookup_eq_fast]; kernel_rfl
theorem pat_plain : PlainAttrs "re.Pattern" := ⟨⟨_, pat_ga, by decide +kernel⟩, pat_no⟩
end Mine

namespace Mine
open PySem.Builtin
theorem wp_forIn {β : Type} {M : Model} {A : Around} {E : Value → Shared → Prop} {s : Shared} {Q : β → Shared → Prop} (f : Nat → β → Sem (ForInStep β)) (b : Nat → β) : ∀ (k i : Nat),
    (∀ j, i ≤ j → j < i + k → ∀ R : ForInStep β → Shared → Prop, R (.yield (b (j + 1))) s → wpAny M A (f j (b j)) R E s) → Q (b (i + k)) s → wpAny M A (forIn (List.range' i k) (b i) f) Q E s
  | 0, _, _, q => wpAny_pure q
  | k + 1, i, h, q => by
    rw [List.range'_succ, List.forIn_cons]
    refine wpAny_bind (h i (Nat.le_refl _) (by omega) _ ?_)
    refine wp_forIn f b k (i + 1) (fun j h1 h2 => h j (by omega) (by omega)) ?_
    rw [show i + 1 + k = i + (k + 1) by omega]; exact q
theorem slot_join : Slot "bytes" "join" "bytes.join" :=
  .of (owner := "bytes") (n := "join") (by rw [typeLookup_type, builtinLookup_eq_fast]; kernel_rfl) (by decide +kernel) (by decide +kernel) (by decide +kernel)
    (by first | exact .inl (by decide +kernel) | exact .inr (by decide +kernel)) (by rw [isSubtype_type]; kernel_rfl)
theorem entry_join : entryFor table "bytes.join" = some Builtin.«bytes.join» := entryFor_of_tree (by kernel_rfl)
theorem args_join (a b : Value) : argsOk "bytes.join" ⟨[a, b], []⟩ := by unfold argsOk; kernel_rfl
theorem buffer_eq' {id : String} {full : Bool} {b : Array UInt8} {t : Tok} : Bytes.buffer? id (.bytes b t) full = pure (some b) := by
  unfold Bytes.buffer?
  rw [KBy.special_eq KBy.look_buffer, KBy.own_buffer, KBy.own_release]
  kernel_rfl
theorem take_eq {id : String} {b : Array UInt8} {t : Tok} : Bytes.takeBufferQuiet? id (.bytes b t) 0 = pure (some (b, none)) := by
  unfold Bytes.takeBufferQuiet? Bytes.takeBuffer?
  rw [KBy.special_eq KBy.look_buffer, KBy.own_buffer, buffer_eq']
  kernel_rfl
theorem match_one {β : Type} (X : Array Value) (f : Value → β) (g : Array Value → β) : X.size ≠ 1 → (match X with | #[x] => f x | x => g x) = g X := by
  intro h
  obtain ⟨l⟩ := X
  match l with
  | [] => rfl
  | [x] => exact absurd rfl h
  | x :: y :: r => rfl
theorem wpAny_of_same {α : Type} {M : Model} {A : Around} {E : Value → Shared → Prop} {s : Shared} {Q : α → Shared → Prop} {t t' : Sem α} (e : t = t') (h : wpAny M A t' Q E s) : wpAny M A t Q E s := e ▸ h
abbrev bytesV (vs : List (Array UInt8 × Tok)) : List Value := vs.map fun p => .bytes p.1 p.2
theorem sum_size : ∀ (l : List (Array UInt8)) (k : Nat), Array.foldl (fun a b => a + b.size) k l.toArray = k + (l.map (·.size)).sum
  | [], k => by simp
  | x :: r, k => by
    have := sum_size r (k + x.size)
    simp only [List.foldl_toArray', List.foldl_toArray, List.foldl_cons, List.map_cons, List.sum_cons] at *
    rw [this]; omega
theorem joined_eq (ps : List (Array UInt8)) : Bytes.joined #[] ps = ⟨(ps.map (·.toList)).flatten⟩ := by
  unfold Bytes.joined
  have key : ∀ (l : List (Array UInt8 × Nat)) (a : Array UInt8), l.foldl (fun out (p, i) => (if i > 0 then out ++ #[] else out) ++ p) a = a ++ ⟨((l.map (·.1)).map (·.toList)).flatten⟩ := by
    intro l
    induction l with
    | nil => intro a; simp
    | cons x r ih =>
      intro a
      obtain ⟨p, i⟩ := x
      rw [List.foldl_cons, ih]
      apply Array.ext'
      by_cases hi : i > 0 <;> simp [hi]
  rw [key]
  simp
theorem joined_size (ps : List (Array UInt8)) : (Bytes.joined #[] ps).size = (ps.map (·.size)).sum := by
  rw [joined_eq]
  simp [List.length_flatten, List.map_map, Function.comp_def]
theorem letGo_is {M : Model} {A : Around} {E : Value → Shared → Prop} {s : Shared} {Q : Unit → Shared → Prop} : ∀ (vs : List (Array UInt8 × Tok)) (keep : List Value), Q () s →
    wpAny M A (Bytes.joinLetGo (vs.map fun p => (Value.bytes p.1 p.2, (none : Option Value))) keep) Q E s
  | [], _, q => wpAny_pure q
  | p :: r, keep, q => by
    rw [List.map_cons]
    unfold Bytes.joinLetGo
    dsimp only
    refine wpAny_bind (wpAny_letGo ?_)
    exact letGo_is r keep q
theorem join_is {prog : Program} {w : World} {A : Around} {E : Value → Shared → Prop} {s : Shared} {Q : Value → Shared → Prop} {l : Addr} {t : Tok} {vs : List (Array UInt8 × Tok)}
    (hl : s.heap.IsList l (bytesV vs).toArray) (hne : vs.length ≠ 1)
    (h : ∀ tk k, Q (.bytes (Bytes.joined #[] (vs.map (·.1))) k) { s with toks := tk }) (hsz : (vs.map (·.1.size)).sum ≤ 1000) :
    wpAny (model prog w) A (call (.builtin "bytes.join") [.bytes #[] t, .ref l]) Q E s := by
  obtain ⟨o, ho, hc, n, hd⟩ := id hl
  refine wpAny_call_entry slot_join (typeIs_bytes s #[] t) entry_join ?_ (args_join _ _)
  unfold Builtin.«bytes.join» Bytes.joinM
  have hT : s.TypeIs (.ref l) "list" := ⟨o, ho, hc⟩
  show wpAny _ _ (Bytes.joinItems (.ref l) >>= _) _ _ _
  unfold Bytes.joinItems
  refine wpAny_bind (wpAny_bind (wpAny_typeOf hT ?_))
  refine wpAny_pure ?_
  refine wpAny_bind (wpAny_seqItems ho hd ?_)
  dsimp only
  rw [if_pos (by decide)]
  generalize hX : (bytesV vs).toArray = X at hl hd ⊢
  refine wpAny_of_same (match_one X _ _ (by rw [← hX]; simpa using hne)) ?_
  · subst hX
    rw [Std.Legacy.Range.forIn_eq_forIn_range']
    refine wpAny_bind ?_
    simp only [Std.Legacy.Range.size]
    rw [show (#[], []) = ((fun j => (((vs.take j).map (·.1)).toArray, (vs.take j).map fun p => (Value.bytes p.1 p.2, (none : Option Value)))) 0 : Array (Array UInt8) × List (Value × Option Value)) from rfl]
    refine wp_forIn _ (fun j => (((vs.take j).map (·.1)).toArray, (vs.take j).map fun p => (Value.bytes p.1 p.2, (none : Option Value)))) _ 0 (fun j _ hj R hR => ?_) ?_
    · have hj' : j < vs.length := by simp at hj; omega
      dsimp only
      refine wpAny_bind (wpAny_seqItems ho hd ?_)
      dsimp only
      have hno : ((vs.take j).map fun p => (Value.bytes p.1 p.2, (none : Option Value))).any (fun x => x.1.onHeap) = false := by
        rw [List.any_map]
        exact List.any_eq_false.mpr fun _ _ => by simp [Value.onHeap]
      rw [hno, show (Bytes.Kind.bytes == Bytes.Kind.bytearray) = false from by decide, Bool.or_self, if_neg Bool.false_ne_true]
      have hx : (bytesV vs).toArray.getD j Value.none = .bytes vs[j].1 vs[j].2 := by simp [Array.getD_eq_getD_getElem?, hj']
      rw [hx]
      refine wpAny_bind (wpAny_holding (wpAny_of_eq take_eq ?_))
      dsimp only
      refine wpAny_bind (wpAny_seqItems ho hd ?_)
      dsimp only
      rw [if_neg (by simp)]
      refine wpAny_pure ?_
      have e : vs.take (j + 1) = vs.take j ++ [vs[j]] := by rw [List.take_add_one, List.getElem?_eq_getElem hj']; rfl
      rw [e, List.map_append, List.map_append] at hR
      simpa only [List.map_cons, List.map_nil, List.push_toArray] using hR
    · have hn : 0 + ((bytesV vs).toArray.size - 0 + 1 - 1) / 1 = vs.length := by simp
      rw [hn, List.take_length]
      dsimp only
      refine wpAny_bind (wpAny_pure ?_)
      have hs0 : Array.foldl (fun x1 x2 => x1 + x2.size) ((#[] : Array UInt8).size * ((vs.map (·.1)).toArray.size - 1)) (vs.map (·.1)).toArray = (vs.map (·.1.size)).sum := by
        rw [sum_size]; simp [List.map_map, Function.comp_def]
      rw [hs0, KBy.tooLong_not (by omega)]
      rw [if_neg Bool.false_ne_true]
      have hsz2 : ¬ (Bytes.joined #[] (vs.map (·.1))).size > sizeLine := by rw [joined_size, sizeLine_eq, List.map_map]; simp only [Function.comp_def]; omega
      refine wpAny_bind ?_
      unfold Bytes.Kind.new mkBytes
      dsimp only
      rw [if_neg hsz2]
      refine wpAny_bind (wpAny_fresh ?_)
      refine wpAny_pure ?_
      refine wpAny_bind (wpAny_holding (wpAny_point ?_))
      refine wpAny_bind (letGo_is _ _ ?_)
      exact wpAny_pure ⟨_, rfl, h _ _⟩
end Mine

namespace Mine
open PySem.Builtin PySem.Builtin.Re
def qCode : Array Nat := #[14, 8, 1, 2, 4294967295, 1, 1, 34, 0, 16, 34, 28, 22, 0, 4294967295, 7, 11, 13, 7, 21, 16, 34, 16, 92, 0, 15, 8, 6, 16, 92, 2, 15, 2, 0, 1, 16, 34, 1]
def drive : Nat → Sre.M → Option Sre.M
  | 0, _ => none
  | n + 1, m => if (m.runFor 4).outcome.isSome then some (m.runFor 4) else drive n (m.runFor 4)
abbrev txt (data : Array UInt8) : Array Nat := data.map (·.toNat)
abbrev cutB (data : Array UInt8) (b e : Nat) : Array UInt8 := ((txt data).extract b e).map (·.toUInt8)
def subL (data : Array UInt8) : Nat → Nat → Nat → Bool → Option (List (Array UInt8))
  | 0, _, _, _ => none
  | n + 1, done, start, must =>
    match drive 200 (Sre.forSearch qCode (txt data) 0 start (txt data).size must) with
    | some m => (match m.outcome with
      | some .matched => (subL data n m.handed m.handed (m.handed == m.start)).map fun r => (if done < m.start then [cutB data done m.start] else []) ++ #[] :: r
      | some .failed => some (if done < (txt data).size then [cutB data done (txt data).size] else [])
      | _ => none)
    | none => none
section
variable {M : Model} {A : Around} {E : Value → Shared → Prop} {s : Shared}
theorem wp_drive : ∀ (n turns : Nat) (m m' : Sre.M) {Q : Sre.M → Shared → Prop}, drive n m = some m' → n ≤ turns → Q m' s → wpAny M A (reDrive turns m) Q E s
  | 0, _, _, _, _, e, _, _ => by cases e
  | n + 1, 0, _, _, _, _, h, _ => absurd h (by omega)
  | n + 1, t + 1, m, m', Q, e, h, q => by
    unfold drive at e
    unfold reDrive
    show wpAny M A (if (m.runFor 4).outcome.isSome = true then _ else _) Q E s
    split at e
    · rename_i hs
      rw [if_pos hs]
      cases e
      exact wpAny_pure q
    · rename_i hs
      rw [if_neg hs]
      exact wpAny_bind (wpAny_rule (wp_drive n t _ _ e (by omega) q))
theorem wp_rules (c : Nat → Bool) (f : Nat → String) {Q : PUnit → Shared → Prop} : ∀ l : List Nat, Q ⟨⟩ s → wpAny M A (forIn l PUnit.unit fun i _ => (if c i = true then (do rule (f i); pure (ForInStep.yield PUnit.unit)) else pure (ForInStep.yield PUnit.unit) : Sem (ForInStep PUnit))) Q E s
  | [], q => wpAny_pure q
  | i :: r, q => by
    rw [List.forIn_cons]
    refine wpAny_bind ?_
    by_cases h : c i = true
    · rw [if_pos h]; exact wpAny_bind (wpAny_rule (wpAny_pure (wp_rules c f r q)))
    · rw [if_neg h]; exact wpAny_pure (wp_rules c f r q)
theorem wp_toEnd {n : Nat} {m m' : Sre.M} {Q : Option Sre.M → Shared → Prop} (e : drive n m = some m') (hn : n ≤ 2 ^ 64)
    (q : (m'.outcome = some .matched → Q (some m') s) ∧ (m'.outcome = some .failed → Q none s) ∧ (m'.outcome = some .matched ∨ m'.outcome = some .failed)) : wpAny M A (reRunToEnd m) Q E s := by
  unfold reRunToEnd
  refine wpAny_bind (wp_drive n _ m m' e hn ?_)
  refine wpAny_bind ?_
  refine wp_rules (fun i => m'.seen.has i) (fun i => Sre.names.getD i "") _ ?_
  obtain ⟨q1, q2, q3⟩ := q
  rcases q3 with q3 | q3
  · rw [q3]; exact wpAny_pure (q1 q3)
  · rw [q3]; exact wpAny_pure (q2 q3)
end
def o36 : Obj := { cls := .type "re.Pattern", data := .fields #[.bytes #[34, 40, 63, 58, 91, 94, 34, 92, 92, 93, 124, 92, 92, 46, 41, 42, 43, 34] 285, .int 0 326, .int 0 0, .none, .none, .ref 35, .int 1 0] }
theorem o36_is (P : Params) : (hd.heap_39 P).lookup 36 = some o36 := by rfl
def its35 : Array Value := #[.int 14 0, .int 8 0, .int 1 0, .int 2 0, .int 4294967295 0, .int 1 0, .int 1 0, .int 34 0, .int 0 0, .int 16 0, .int 34 0, .int 28 0, .int 22 0, .int 0 0, .int 4294967295 0, .int 7 0, .int 11 0, .int 13 0, .int 7 0, .int 21 0, .int 16 0, .int 34 0, .int 16 0, .int 92 0, .int 0 0, .int 15 0, .int 8 0, .int 6 0, .int 16 0, .int 92 0, .int 2 0, .int 15 0, .int 2 0, .int 0 0, .int 1 0, .int 16 0, .int 34 0, .int 1 0]
def o35 : Obj := { cls := .type "tuple", data := .seq its35 }
theorem code_is : Array.map (fun x : Int => x.toNat) (Array.map reRawOf its35) = qCode := by decide +kernel
theorem o35_is (P : Params) : (hd.heap_39 P).lookup 35 = some o35 := by rfl
def tgt (data : Array UInt8) (t : Tok) : ReTarget := { pattern := .ref 36, string := .bytes data t, code := qCode, text := txt data, kind := 1, groups := 0, pos := 0, lim := (txt data).size }
section
variable {M : Model} {A : Around} {E : Value → Shared → Prop} {s : Shared} {data : Array UInt8} {t : Tok}
theorem notStand {v : Value} {Q : Unit → Shared → Prop} (q : Q () s) : wpAny M A (notAStandIn (.bytes data t)) Q E s := by
  exact wpAny_pure q
theorem wp_text {Q : Array Nat × Nat → Shared → Prop} (q : Q (txt data, 1) s) : wpAny M A (reTextOf (.bytes data t)) Q E s := by
  unfold reTextOf
  show wpAny M A ((notAStandIn (.bytes data t) >>= fun _ => pure none) >>= _) Q E s
  refine wpAny_bind (wpAny_bind (notStand (v := .none) ?_))
  refine wpAny_pure ?_
  dsimp only
  refine wpAny_bind (wpAny_of_eq KBy.quiet_eq ?_)
  exact wpAny_pure q
theorem wp_noColl {Q : Unit → Shared → Prop} (q : Q () s) : wpAny M A (reNoCollectionInside (.bytes data t) 1) Q E s := by
  unfold reNoCollectionInside
  rw [if_pos (by decide)]
  refine wpAny_bind (wpAny_of_eq KBy.isInstance_eq ?_)
  exact wpAny_pure q
theorem wp_whole {Q : ReTarget → Shared → Prop} (h36 : s.heap.get? 36 = some o36) (h35 : s.heap.get? 35 = some o35) (q : Q (tgt data t) s) : wpAny M A (reWholeTarget (.ref 36) (.bytes data t)) Q E s := by
  unfold reWholeTarget
  show wpAny M A ((load 36 >>= _) >>= _) Q E s
  refine wpAny_bind (wpAny_bind (wpAny_load h36 ?_))
  refine wpAny_pure ?_
  refine wpAny_bind (wp_text ?_)
  dsimp only
  rw [show reRawNat (Array.getD #[Value.bytes #[34, 40, 63, 58, 91, 94, 34, 92, 92, 93, 124, 92, 92, 46, 41, 42, 43, 34] 285, .int 0 326, .int 0 0, .none, .none, .ref 35, .int 1 0] 6 .none) = 1 from rfl]
  rw [if_neg (by decide), if_neg (by decide)]
  refine wpAny_bind (wp_noColl ?_)
  refine wpAny_bind ?_
  show wpAny M A (seqItems? (.ref 35) >>= _) _ _ _
  refine wpAny_bind (wpAny_seqItems (items := its35) h35 rfl ?_)
  refine wpAny_pure ?_
  show wpAny M A (pure { pattern := .ref 36, string := .bytes data t, code := Array.map (fun x : Int => x.toNat) (Array.map reRawOf its35), text := txt data, kind := 1, groups := 0, pos := 0, lim := (txt data).size }) Q E s
  rw [code_is]
  exact wpAny_pure q
theorem wp_lit {Q : Unit → Shared → Prop} (q : Q () s) : wpAny M A (reLiteralCannotBeTurned (.bytes data t)) Q E s := by
  unfold reLiteralCannotBeTurned
  show wpAny M A ((notAStandIn (.bytes data t) >>= fun _ => pure none) >>= _) Q E s
  refine wpAny_bind (wpAny_bind (notStand (v := .none) ?_))
  refine wpAny_pure ?_
  rw [if_pos (by decide)]
  refine wpAny_bind (wpAny_of_eq KBy.isInstance_eq ?_)
  exact wpAny_pure q
theorem wp_next {n start : Nat} {must : Bool} {m' : Sre.M} {Q : Option Sre.M → Shared → Prop} (e : drive n (Sre.forSearch qCode (txt data) 0 start (txt data).size must) = some m') (hn : n ≤ 2 ^ 64)
    (q : (m'.outcome = some .matched → Q (some m') s) ∧ (m'.outcome = some .failed → Q none s) ∧ (m'.outcome = some .matched ∨ m'.outcome = some .failed)) :
    wpAny M A (reNextFound (tgt data t) start must) Q E s := wp_toEnd e hn q
theorem wp_slice {b e : Nat} {Q : Value → Shared → Prop} (hz : data.size ≤ 1000) (q : Q (.bytes (cutB data b e) s.toks) { s with toks := s.toks + 1 }) : wpAny M A (reSlice (txt data) 1 b e) Q E s := by
  unfold reSlice mkBytes
  rw [if_neg (by decide), if_neg (by rw [sizeLine_eq]; simp; omega)]
  exact wpAny_bind (wpAny_fresh (wpAny_pure q))
end
abbrev lstB (vs : List (Array UInt8 × Tok)) (c : Nat) : Obj := { cls := .type "list", data := .seq (bytesV vs).toArray c }
theorem plain_loop : plainId "re.Pattern.sub.loop" = true := by decide +kernel
theorem lst_push (vs : List (Array UInt8 × Tok)) (c : Nat) (b : Array UInt8) (t : Tok) : Obj.mapSeq (·.push (.bytes b t)) (lstB vs c) = lstB (vs ++ [(b, t)]) (c + 1) := by
  unfold Obj.mapSeq lstB
  simp
section
variable {prog : Program} {w : World} {data : Array UInt8} {t t1 : Tok} {l : Addr}
theorem upd_self {h : Heap} {vs : List (Array UInt8 × Tok)} {c : Nat} {b : Array UInt8} {k : Tok} (hl : h.get? l = some (lstB vs c)) : (h.update l (Obj.mapSeq fun x => x.push (.bytes b k))).get? l = some (lstB (vs ++ [(b, k)]) (c + 1)) := by
  rw [← lst_push]; exact Heap.get?_update_self _ hl rfl
theorem upd_other {h : Heap} {f : Obj → Obj} {b : Addr} {o : Obj} (hb : b ≠ l) (e : h.get? b = some o) : (h.update l f).get? b = some o := (Heap.get?_update_other _ _ (Ne.symm hb)).trans e
theorem loop_is : ∀ (n : Nat) (A : Around) (done start : Nat) (must : Bool) (cnt : Int) (vs : List (Array UInt8 × Tok)) (c : Nat) (s : Shared) (rest : List (Array UInt8)) (R : Result → Shared → Prop),
    data.size ≤ 100 → n ≤ 100 → vs.length ≤ 1000 - 2 * n → (vs.map (·.1.size)).sum + (rest.map (·.size)).sum ≤ 1000 → s.heap.get? l = some (lstB vs c) → s.heap.get? 36 = some o36 → s.heap.get? 35 = some o35 → l ≠ 36 → l ≠ 35 →
    subL data n done start must = some rest → 2 ≤ vs.length + rest.length → (∀ h' tk k, (∀ b o, b ≠ l → s.heap.get? b = some o → h'.get? b = some o) → R (.ok (.ret (.bytes (Bytes.joined #[] (vs.map (·.1) ++ rest)) k))) { s with heap := h', toks := tk }) →
    codeAny (model prog w) A (.builtin "re.Pattern.sub.loop" ⟨[.ref 36, .bytes data t, .bytes #[] t1, rawInt 0, rawInt 0, rawInt cnt, rawInt done, rawInt start, .bool must, .ref l, .bool false], []⟩) R s
  | 0, _, _, _, _, _, _, _, _, _, _, _, _, _, _, _, _, _, _, _, e, _, _ => by cases e
  | n + 1, A, done, start, must, cnt, vs, c, s, rest, R, hz, hn, hv, hsum, hl, h36, h35, n36, n35, e, h2, hR => by
    unfold subL at e
    split at e
    case h_2 => cases e
    rename_i m hm
    refine codeAny_builtin entry_loop ?_
    rw [Around.under_plainId plain_loop _]
    unfold Builtin.«re.Pattern.sub.loop»
    show wpAny _ _ (reWholeTarget (.ref 36) (.bytes data t) >>= _) _ _ _
    refine wpAny_bind (wp_whole h36 h35 ?_)
    dsimp only
    rw [if_pos (by decide)]
    refine wpAny_bind (wp_lit ?_)
    rw [if_neg (by simp), Int.toNat_natCast]
    refine wpAny_bind (wp_next hm (by omega) ⟨fun ho => ?_, fun ho => ?_, ?_⟩)
    · rw [ho] at e
      dsimp only at e ⊢
      cases q : subL data n m.handed m.handed (m.handed == m.start) with
      | none => rw [q] at e; cases e
      | some rest' =>
        rw [q] at e
        have hrest : rest = (if done < m.start then [cutB data done m.start] else []) ++ #[] :: rest' := by simpa using e.symm
        clear e
        -- what stands behind the slice
        have tail : ∀ (vs' : List (Array UInt8 × Tok)) (c' : Nat) (h' : Heap) (tk : Nat), h'.get? l = some (lstB vs' c') → (∀ b o, b ≠ l → s.heap.get? b = some o → h'.get? b = some o) → vs'.length ≤ vs.length + 1 →
            vs'.map (·.1) = vs.map (·.1) ++ (if done < m.start then [cutB data done m.start] else []) →
            wpAny (model prog w) A.in1 (do
              let item ← pure (Value.bytes #[] t1)
              if (item != Value.none) = true then updateSeq l fun x => x.push item
              again (Code.builtin "re.Pattern.sub.loop" { pos := [Value.ref 36, Value.bytes data t, Value.bytes #[] t1, rawInt 0, rawInt 0, rawInt (cnt + 1), rawInt m.handed, rawInt m.handed, Value.bool (m.handed == m.start), Value.ref l, Value.bool false], kw := [] }))
              (fun fin s' => match fin with | .done f => R (.ok f) s' | .again c' => c'.quiet = true ∧ codeAny (model prog w) A c' R s') (fun e s' => R (.error e) s') { s with heap := h', toks := tk } := by
          intro vs' c' h' tk hl' hk hlen hmap
          refine wpAny_bind (wpAny_pure ?_)
          rw [if_pos (by simp)]
          refine wpAny_bind (wpAny_updateSeq hl' rfl ?_ (by rw [sizeLine_eq]; simp; omega) (by rw [sizeLine_eq]; simp; omega))
          refine wpAny_pure ⟨plainId_quiet plain_loop _, ?_⟩
          have hs' : (vs'.map (·.1.size)).sum = ((vs'.map (·.1)).map (·.size)).sum := by rw [List.map_map]; rfl
          have hs0 : (vs.map (·.1.size)).sum = ((vs.map (·.1)).map (·.size)).sum := by rw [List.map_map]; rfl
          refine loop_is n A m.handed m.handed _ _ (vs' ++ [(#[], t1)]) (c' + 1) _ rest' R hz (by omega) (by simp; omega) ?_ (upd_self hl') (upd_other (Ne.symm n36) (hk _ _ (Ne.symm n36) h36)) (upd_other (Ne.symm n35) (hk _ _ (Ne.symm n35) h35)) n36 n35 q ?_ ?_
          · rw [hrest, List.map_append, List.sum_append, hs0] at hsum
            rw [List.map_append, List.sum_append, hs', hmap]
            simp at hsum ⊢
            omega
          · have h3 : vs'.length = (vs.map (·.1)).length + (if done < m.start then [cutB data done m.start] else []).length := by rw [← List.length_append, ← hmap, List.length_map]
            rw [hrest] at h2
            simp at h2 h3 ⊢
            omega
          · intro h'' tk' k hk'
            have := hR h'' tk' k fun b o hb e => hk' b o hb (upd_other hb (hk b o hb e))
            rw [hrest] at this
            rw [List.map_append, hmap]
            simpa using this
        by_cases hd : done < m.start
        · rw [if_pos (by simpa using hd)]
          refine wpAny_bind (wp_slice (by omega) ?_)
          refine wpAny_bind (wpAny_updateSeq hl rfl ?_ (by rw [sizeLine_eq]; simp; omega) (by rw [sizeLine_eq]; simp; omega))
          rw [if_pos (by decide)]
          exact tail (vs ++ [(cutB data done m.start, s.toks)]) (c + 1) _ _ (upd_self hl) (fun b o hb e => upd_other hb e) (by simp) (by rw [if_pos hd]; simp [cutB])
        · rw [if_neg (by simpa using hd), if_pos (by decide)]
          exact tail vs c s.heap s.toks hl (fun b o _ e => e) (by omega) (by rw [if_neg hd]; simp)
    · rw [ho] at e
      dsimp only at e ⊢
      have hrest : rest = if done < (txt data).size then [cutB data done (txt data).size] else [] := by simpa using e.symm
      clear e
      have h0 : cutB data 0 0 = #[] := by simp [cutB]
      have hs0 : (vs.map (·.1.size)).sum = ((vs.map (·.1)).map (·.size)).sum := by rw [List.map_map]; rfl
      by_cases hd : done < (txt data).size
      · rw [if_pos (by simpa [tgt] using hd)]
        rw [if_pos hd] at hrest
        refine wpAny_bind (wp_slice (by omega) ?_)
        refine wpAny_bind (wpAny_updateSeq hl rfl ?_ (by rw [sizeLine_eq]; simp; omega) (by rw [sizeLine_eq]; simp; omega))
        refine wpAny_bind (wp_slice (by omega) ?_)
        have hl' := upd_self (k := s.toks) (b := cutB data done (txt data).size) hl
        refine wpAny_bind (wpAny_seqItems hl' rfl ?_)
        rw [if_neg (by simp), h0]
        refine wpAny_bind (join_is ⟨_, hl', rfl, _, rfl⟩ (by rw [hrest] at h2; simp at h2 ⊢; intro z; rw [z] at h2; simp at h2) (fun tk k => ?_) ?_)
        · rw [if_neg Bool.false_ne_true]
          refine wpAny_pure ?_
          have := hR (s.heap.update l (Obj.mapSeq fun x => x.push (.bytes (cutB data done (txt data).size) s.toks))) tk k fun b o hb e => upd_other hb e
          rw [hrest] at this
          rw [List.map_append]
          exact this
        · rw [hrest, hs0] at hsum
          have hs' : ((vs ++ [(cutB data done (txt data).size, s.toks)]).map (·.1.size)).sum = (((vs ++ [(cutB data done (txt data).size, s.toks)]).map (·.1)).map (·.size)).sum := by rw [List.map_map]; rfl
          rw [hs', List.map_append, List.map_append, List.sum_append]
          simpa using hsum
      · rw [if_neg (by simpa [tgt] using hd)]
        rw [if_neg hd] at hrest
        subst hrest
        refine wpAny_bind (wp_slice (by omega) ?_)
        refine wpAny_bind (wpAny_seqItems hl rfl ?_)
        have hne : vs ≠ [] := by intro z; rw [z] at h2; simp at h2
        rw [if_neg (by simpa using hne), h0]
        refine wpAny_bind (join_is ⟨_, hl, rfl, _, rfl⟩ (by simp at h2; omega) (fun tk k => ?_) (by simpa using hsum))
        rw [if_neg Bool.false_ne_true]
        refine wpAny_pure ?_
        have := hR _ tk k fun b o _ e => e
        rw [List.append_nil] at this
        exact this
    · split at e
      · exact .inl (by assumption)
      · exact .inr (by assumption)
      · cases e

theorem noCall_bytes : typeLookup (.type "bytes") "__call__" = pure none := by rw [typeLookup_type, builtinLookup_eq_fast]; kernel_rfl
/-- what _quoted.sub(b'', data) hands back -/
def subB (data : Array UInt8) : Option (List (Array UInt8)) := (subL data 30 0 0 false).bind fun r => if 2 ≤ r.length ∧ (r.map (·.size)).sum ≤ 1000 ∧ data.size ≤ 100 then some r else none
theorem sub_is {A : Around} {E : Value → Shared → Prop} {s : Shared} {Q : Value → Shared → Prop} {rest : List (Array UInt8)} (h36 : s.heap.get? 36 = some o36) (h35 : s.heap.get? 35 = some o35) (e : subB data = some rest)
    (h : ∀ h' tk k, Keeps s.heap h' → Q (.bytes (Bytes.joined #[] rest) k) { s with heap := h', toks := tk }) : wpAny (model prog w) A (call (.builtin "re.Pattern.sub") [.ref 36, .bytes #[] t1, .bytes data t]) Q E s := by
  unfold subB at e
  cases q : subL data 30 0 0 false with
  | none => rw [q] at e; cases e
  | some r =>
    rw [q, Option.bind_some] at e
    split at e
    case isFalse => cases e
    rename_i hc
    cases e
    obtain ⟨c1, c2, c3⟩ := hc
    have hT : s.TypeIs (.ref 36) "re.Pattern" := ⟨_, h36, rfl⟩
    refine wpAny_call (codeAny_call_builtin slot_sub.plain entry_sub (slot_sub.check _ _ _ _ _ _ _ _ hT (args_sub _ _ _) ?_))
    unfold Builtin.«re.Pattern.sub» reSubstitute
    show wpAny _ _ (reNamed "re.Pattern.sub" "sub" ["repl", "string", "count"] 2 [.bytes #[] t1, .bytes data t] [] >>= _) _ _ _
    refine wpAny_bind (wpAny_of_eq (show reNamed "re.Pattern.sub" "sub" ["repl", "string", "count"] 2 [.bytes #[] t1, .bytes data t] [] = pure [some (.bytes #[] t1), some (.bytes data t), none] from rfl) ?_)
    dsimp only
    refine wpAny_bind (wpAny_pure ?_)
    refine wpAny_bind (wpAny_of_eq (KBy.special_eq noCall_bytes) ?_)
    rw [if_neg (by decide)]
    show wpAny _ _ ((notAStandIn (.bytes #[] t1) >>= fun _ => pure none) >>= _) _ _ _
    refine wpAny_bind (wpAny_bind (notStand (v := .none) ?_))
    refine wpAny_pure ?_
    dsimp only
    refine wpAny_bind (wpAny_of_eq KBy.quiet_eq ?_)
    dsimp only
    refine wpAny_bind (wpAny_pure ?_)
    rw [if_neg (by decide), if_pos (by simp)]
    refine wpAny_bind (wpAny_pure ?_)
    dsimp only
    refine wpAny_bind (wpAny_holding (wp_whole h36 h35 ?_))
    rw [if_neg (by decide)]
    refine wpAny_bind (wpAny_newObj_type ?_)
    have n36 : s.heap.objs.size ≠ 36 := Ne.symm (Nat.ne_of_lt (Heap.lt_size h36))
    have n35 : s.heap.objs.size ≠ 35 := Ne.symm (Nat.ne_of_lt (Heap.lt_size h35))
    refine wpAny_pure ⟨plainId_quiet plain_loop _, ?_⟩
    refine loop_is 30 A 0 0 false 0 [] 0 _ rest _ c3 (by omega) (by simp) (by simpa using c2) (Heap.get?_push_size _ rfl) (Heap.get?_push_of_some _ h36) (Heap.get?_push_of_some _ h35) n36 n35 q (by simpa using c1) fun h' tk k hk => ?_
    exact h h' tk k fun b o e => hk b o (Nat.ne_of_lt (Heap.lt_size e)) (Heap.get?_push_of_some _ e)
end
end Mine

namespace Mine
section
variable {prog : Program} {w : World} {A : Around} {E : Value → Shared → Prop} {s : Shared} {h₀ : Heap} {L : Addr} {m : PySem.Str → Option Value} {news : List (Addr × Obj)} {P : Params} {data : Array UInt8} {t t1 : Tok}
theorem pat_meth {M : Model} {pl : Sem Bool} {Q : Value × List Value → Shared → Prop} (F : Fr h₀ L s.heap m) (X : (hd.heap_39 P).In h₀) (q : Q (.builtin "re.Pattern.sub", [.ref 36]) s) : wpAny M A (getMethod (.ref 36) (PySem.Str.ofString "sub") pl) Q E s := by
  have h := (X.keeps F.keep) _ _ (o36_is P)
  exact getMethod_builtin (T := "re.Pattern") ⟨_, h, rfl⟩ pat_plain slot_sub type_sub (fun a e => by cases e; exact ⟨_, h, rfl⟩) q
theorem sub_line {rest : List (Array UInt8)} {Q : Value → Shared → Prop} (F : Fr h₀ L s.heap m) (X : (hd.heap_39 P).In h₀) (N : News h₀ L s.heap news) (e : subB data = some rest)
    (h : ∀ h' tk k, Fr h₀ L h' m → News h₀ L h' news → Q (.bytes (Builtin.Bytes.joined #[] rest) k) { s with heap := h', toks := tk }) :
    wpAny (model prog w) A (call (.builtin "re.Pattern.sub") [.ref 36, .bytes #[] t1, .bytes data t]) Q E s :=
  sub_is ((X.keeps F.keep) _ _ (o36_is P)) ((X.keeps F.keep) _ _ (o35_is P)) e fun h' tk k hk => h h' tk k (F.grownK hk) (N.grown hk)
end
open PySem.Builtin.Bytes in
def cntB (b sub : Array UInt8) : Nat :=
  match (if (window b.size none none).2 - (window b.size none none).1 < (sub.size : Int) then none else some ((window b.size none none).1.toNat, (window b.size none none).2.toNat)) with
  | none => 0
  | some (lo, hi) => (occurrences b sub lo hi).length
theorem slot_bcount : Slot "bytes" "count" "bytes.count" :=
  .of (owner := "bytes") (n := "count") (by rw [typeLookup_type, builtinLookup_eq_fast]; kernel_rfl) (by decide +kernel) (by decide +kernel) (by decide +kernel)
    (by first | exact .inl (by decide +kernel) | exact .inr (by decide +kernel)) (by rw [isSubtype_type]; kernel_rfl)
theorem entry_bcount : entryFor table "bytes.count" = some Builtin.«bytes.count» := entryFor_of_tree (by kernel_rfl)
theorem args_bcount (a b : Value) : argsOk "bytes.count" ⟨[a, b], []⟩ := by unfold argsOk; kernel_rfl
theorem type_bcount : typeOf (.builtin "bytes.count") = pure (.type "method_descriptor") := by show builtinType _ = _; rw [builtinType_eq_fast]; kernel_rfl
theorem type_bjoin : typeOf (.builtin "bytes.join") = pure (.type "method_descriptor") := by show builtinType _ = _; rw [builtinType_eq_fast]; kernel_rfl
theorem bytes_ga : ∃ g, typeLookup (.type "bytes") "__getattribute__" = pure (some (.builtin g)) ∧ (Manifest.canonical g != "object.__getattribute__") = false :=
  ⟨"bytes.__getattribute__", by rw [typeLookup_type, builtinLookup_eq_fast]; kernel_rfl, by decide +kernel⟩
theorem bytes_no : typeLookup (.type "bytes") "__getattr__" = pure none := by rw [typeLookup_type, builtinLookup_eq_fast]; kernel_rfl
theorem bytes_plain : PlainAttrs "bytes" := ⟨bytes_ga, bytes_no⟩
section
variable {prog : Program} {w : World} {A : Around} {E : Value → Shared → Prop} {s : Shared} {b : Array UInt8} {t : Tok}
theorem bcount_meth {M : Model} {pl : Sem Bool} {Q : Value × List Value → Shared → Prop} (q : Q (.builtin "bytes.count", [.bytes b t]) s) : wpAny M A (getMethod (.bytes b t) (PySem.Str.ofString "count") pl) Q E s :=
  getMethod_builtin (T := "bytes") (typeIs_bytes s b t) bytes_plain slot_bcount type_bcount (fun a e => by cases e) q
theorem bjoin_meth {M : Model} {pl : Sem Bool} {Q : Value × List Value → Shared → Prop} (q : Q (.builtin "bytes.join", [.bytes b t]) s) : wpAny M A (getMethod (.bytes b t) (PySem.Str.ofString "join") pl) Q E s :=
  getMethod_builtin (T := "bytes") (typeIs_bytes s b t) bytes_plain slot_join type_bjoin (fun a e => by cases e) q
theorem bcount_is {sub : Array UInt8} {u : Tok} {Q : Value → Shared → Prop} (hs : sub.isEmpty = false) (q : Q (.int (cntB b sub) s.toks) { s with toks := s.toks + 1 }) :
    wpAny (model prog w) A (call (.builtin "bytes.count") [.bytes b t, .bytes sub u]) Q E s := by
  refine wpAny_call_entry slot_bcount (typeIs_bytes s b t) entry_bcount ?_ (args_bcount _ _)
  unfold Builtin.«bytes.count» Builtin.Bytes.countM Builtin.Bytes.searchArgs
  refine wpAny_bind ?_
  dsimp only
  refine wpAny_bind (wpAny_of_eq (show selfAndSome _ "count" 1 3 ⟨[.bytes b t, .bytes sub u], []⟩ = pure (.bytes b t, [.bytes sub u]) from rfl) ?_)
  dsimp only
  refine wpAny_bind (wpAny_of_eq (show Builtin.Bytes.bound? none = pure none from rfl) ?_)
  refine wpAny_bind (wpAny_of_eq (show Builtin.Bytes.bound? none = pure none from rfl) ?_)
  refine wpAny_bind (wpAny_of_eq KBy.buffer_eq ?_)
  dsimp only
  refine wpAny_bind (wpAny_pure ?_)
  refine wpAny_bind (wpAny_of_eq (show Builtin.Bytes.payload (.bytes b t) = pure b from rfl) ?_)
  unfold cntB at q
  refine wpAny_pure ?_
  dsimp only at q ⊢
  split
  · rename_i h
    rw [h] at q
    exact wpAny_bind (wpAny_mkInt (wpAny_pure ⟨_, rfl, q⟩))
  · rename_i lo hi h
    rw [h] at q
    rw [hs, if_neg Bool.false_ne_true]
    exact wpAny_bind (wpAny_mkInt (wpAny_pure ⟨_, rfl, q⟩))
end
section
local macro_rules | `(tactic| walk_at "MineEnter") => `(tactic| (
  refine' enterS ?k1 ?k2 ?k3 ?k4 ?k5 ?k6 ?k7 ?k8 ?_ ?c2 ?c3 ?c4 ?c5
  (case k1 => assumption)
  (case k2 => assumption)
  (case k3 => assumption)
  (case k4 => k_is)
  (case k5 => k_is)
  (case k6 => ktr_room)
  (case k7 => first | exact BindsTo.of_eq rfl | exact binds_K (by k_in) rfl (by k_is) rfl rfl rfl)
  (case k8 => exact locs rfl)
  (case c2 => exact rfl)
  (case c3 => exact rfl)
  (case c4 => exact rfl)
  (case c5 => decide)
  k_whole
  intro L' h' F' N'
  (try dsimp only)
  (try k_fold)))
local macro_rules | `(tactic| walk_at "getMethod ref") => `(tactic| (
  k_here
  k_dflt (refine' pat_meth ?k1 ?k2 ?_)
  (case k1 => k_asm)
  (case k2 => k_asm)
  k_whole))
local macro_rules | `(tactic| walk_at "getMethod bytes") => `(tactic| (
  k_here
  (with_reducible refine bcount_meth ?_)))
local macro_rules | `(tactic| walk_at "call builtin:bytes.count") => `(tactic| (
  k_here
  (refine bcount_is (by rfl) ?_)))
local macro_rules | `(tactic| walk_at "call builtin:re.Pattern.sub") => `(tactic| (
  k_here
  k_dflt (refine' sub_line ?k1 ?k2 ?k3 ?k4 ?_)
  (case k1 => k_asm)
  (case k2 => k_asm)
  (case k3 => k_asm)
  (case k4 => k_asm)
  k_whole
  intro h9 tk9 t9 F9 N9))
/-- the brackets of data that stand in no quoted text: the opening less the shutting ones -/
def pdF (data : Array UInt8) : Option Int := (subB data).map fun rest => (cntB (Builtin.Bytes.joined #[] rest) #[40] : Int) - cntB (Builtin.Bytes.joined #[] rest) #[41]
theorem pd_is (data : Array UInt8) (d r : Int) (t1 t2 : Tok) (e : pdF data = some r) : ClaimS 3 44 [.bytes data t1, .int d t2] (fun tl v => ∃ t, tl = [] ∧ v = .int (d + r) t) := by
  unfold pdF at e
  obtain ⟨rest, e1, e2⟩ := Option.map_eq_some_iff.mp e
  subst e2
  clear e
  unfold ClaimS
  k_fill
  intros; rename_i hret
  k_dflt walk_at "MineEnter"
  k_steps
  (try dsimp only)
  refine hret _ [] _ _ (Fr.keep (by assumption)) (fun _ h => nomatch h) ⟨_, rfl, congrArg (fun x => Value.int x _) ?_⟩
  omega
theorem pd0_is (data : Array UInt8) (r : Int) (t1 : Tok) (e : pdF data = some r) : ClaimS 3 44 [.bytes data t1] (fun tl v => ∃ t, tl = [] ∧ v = .int r t) := by
  unfold pdF at e
  obtain ⟨rest, e1, e2⟩ := Option.map_eq_some_iff.mp e
  subst e2
  clear e
  unfold ClaimS
  k_fill
  intros; rename_i hret
  k_dflt walk_at "MineEnter"
  k_steps
  (try dsimp only)
  refine hret _ [] _ _ (Fr.keep (by assumption)) (fun _ h => nomatch h) ⟨_, rfl, congrArg (fun x => Value.int x _) ?_⟩
  omega
def pieceB (x : PySem.Str) : Array UInt8 := if x = PySem.Str.ofString "a" then #[40, 34, 41, 34] else if x = PySem.Str.ofString "b" then #[34, 92, 92, 34, 41] else #[40, 34, 92, 34, 40, 34, 40]
def isSign (x : PySem.Str) : Prop := x = PySem.Str.ofString "a" ∨ x = PySem.Str.ofString "b" ∨ x = PySem.Str.ofString "c"
theorem piece_is (x : PySem.Str) (t : Tok) (hx : isSign x) : ClaimS 3 84 [.str x t] (fun tl v => ∃ t, tl = [] ∧ v = .bytes (pieceB x) t) := by
  rcases hx with rfl | rfl | rfl
  all_goals (
    unfold ClaimS
    k_fill
    intros; rename_i hret
    k_dflt walk_at "MineEnter"
    k_steps
    (try dsimp only)
    exact hret _ [] _ _ (Fr.keep (by assumption)) (fun _ h => nomatch h) ⟨_, rfl, rfl⟩)
end
end Mine

namespace Mine
def TurnEnd (h₀ : Heap) (L : Addr) (I : Addr) (oI : Obj) (J : (PySem.Str → Option Value) → List (Addr × Obj) → Prop) (s₁ : Shared) (f : Flow) (s₂ : Shared) : Prop :=
  f = .next ∧ ∃ h' tk m' news', s₂ = { s₁ with heap := h', toks := tk } ∧ Fr h₀ L h' m' ∧ News h₀ L h' ((I, oI) :: news') ∧ (∀ p ∈ news', p.1 ≠ I) ∧ J m' news'
theorem TurnEnd.intro {h₀ h' : Heap} {L I : Addr} {oI : Obj} {J : (PySem.Str → Option Value) → List (Addr × Obj) → Prop} {s₁ : Shared} {tk : Nat} {m' : PySem.Str → Option Value} (all news' : List (Addr × Obj))
    (F : Fr h₀ L h' m') (N : News h₀ L h' all) (hI : (I, oI) ∈ all) (sub : ∀ p ∈ news', p ∈ all) (off : ∀ p ∈ news', p.1 ≠ I) (hJ : J m' news') : TurnEnd h₀ L I oI J s₁ .next { s₁ with heap := h', toks := tk } :=
  ⟨rfl, h', tk, m', news', rfl, F, fun p hp => by
    rcases List.mem_cons.mp hp with rfl | hp
    · exact N _ hI
    · exact N _ (sub p hp), off, hJ⟩
section
variable {prog : Program} {w : World} {A : Around} {E : Value → Shared → Prop} {s : Shared} {env : Env} {h₀ : Heap} {target : Expr} {body : List Stmt} {Q : Flow → Shared → Prop}
theorem iterT_list {l : Addr} {vs : List Value} {nn : Nat} {m₀ : PySem.Str → Option Value} {news : List (Addr × Obj)} (J : Nat → (PySem.Str → Option Value) → List (Addr × Obj) → Prop)
    (hh : A.handled = none) (hl : ∀ i m nw, J i m nw → (l, W.listOf vs.toArray nn) ∈ nw) (F : Fr h₀ env.locals s.heap m₀) (N : News h₀ env.locals s.heap news) (h0 : J 0 m₀ news)
    (turn : ∀ i v m₁ news₁ (s₁ : Shared) I oI, vs[i]? = some v → J i m₁ news₁ → (∀ p ∈ news₁, p.1 ≠ I) → Fr h₀ env.locals s₁.heap m₁ → News h₀ env.locals s₁.heap ((I, oI) :: news₁) →
      wpAny (model prog w) A (assign target env v) (fun _ s₃ => wpAny (model prog w) A (execs body env) (TurnEnd h₀ env.locals I oI (J (i + 1)) s₁) E s₃) E s₁)
    (done : ∀ m' news' h' tk, J vs.length m' news' → Fr h₀ env.locals h' m' → News h₀ env.locals h' news' → Q .next { s with heap := h', toks := tk }) :
    wpAny (model prog w) A (pyIter (.ref l)) (fun it s₂ => LoopAtT prog w A h₀ env target body Q E it s₂) E s := by
  have hm0 := hl 0 m₀ news h0
  have hol := N.get hm0
  have hls : s.heap.IsList l vs.toArray := ⟨_, hol, rfl, _, rfl⟩
  have hne : l ≠ s.heap.objs.size := Nat.ne_of_lt (Heap.lt_size hol)
  refine wpAny_pyIter_list hls ?_
  have WW := Walks.list (prog := prog) (w := w) hh s.heap.objs.size l hne vs.toArray
  rw [List.size_toArray] at WW
  have hI0 := next_is_new F
  refine ⟨_, _, _, vs.length, _, _, m₀, news, J, rfl, WW, ?_, ?_, ?_, ⟨⟨_, Heap.get?_push_size _ rfl, rfl, rfl⟩, hls.at fun o e => Heap.get?_push_of_some _ e⟩, F.push _, (fun p hp => ⟨Heap.get?_push_of_some _ (N p hp).1, (N p hp).2⟩), (fun i s' v Q' st hQ' => letGo_listiter st.1 hQ'), h0, ?_, ?_⟩
  · intro hm
    rcases List.mem_cons.mp hm with e | hm
    · exact absurd F.ns.lt (e ▸ Nat.lt_irrefl _)
    · exact (N _ hm0).2.1 (List.mem_singleton.mp hm).symm
  · intro b hb
    rw [List.mem_singleton.mp hb]
    exact hI0
  · intro p hp hI
    exact absurd (Heap.lt_size (N p hp).1) ((List.mem_singleton.mp hI) ▸ Nat.lt_irrefl _)
  · intro i v m₁ news₁ s₁ own hi hP hJ hoff hsub hget hall hst F₁ N₁
    obtain ⟨⟨oI, hoI, _⟩, _⟩ := hst
    have hmem : (s.heap.objs.size, oI) ∈ own := hall _ (.head _) hI0 oI hoI
    have hl1 := hl i m₁ news₁ hJ
    refine wpAny_mono (turn i v m₁ news₁ s₁ s.heap.objs.size oI (by simpa using hP) hJ (fun p hp e => hoff p hp (by rw [e]; exact .head _)) F₁ (fun p hp => ?_)) (fun _ s₃ h₃ => wpAny_mono h₃ (fun f s₄ h₄ => ?_) fun _ _ e => e) fun _ _ e => e
    · rcases List.mem_cons.mp hp with rfl | hp
      · exact N₁ _ (List.mem_append_left _ hmem)
      · exact N₁ _ (List.mem_append_right _ hp)
    · obtain ⟨rfl, h', tk, m', news', rfl, F', N', off', hJ'⟩ := h₄
      refine ⟨rfl, h', tk, m', news', rfl, F', fun p hp => ?_, fun p hp hb => off' p hp (List.mem_singleton.mp hb), hJ'⟩
      rcases List.mem_append.mp hp with hp | hp
      · rcases List.mem_cons.mp (hsub p hp) with e | e
        · have : p.2 = oI := by have := hget p hp; rw [e, hoI] at this; exact (Option.some.inj this).symm
          have e2 : p = (s.heap.objs.size, oI) := Prod.ext e this
          rw [e2]; exact N' _ (.head _)
        · have e := List.mem_singleton.mp e
          have : p.2 = W.listOf vs.toArray nn := by
            have h1 := hget p hp
            have h2 := N₁.get (List.mem_append_right _ hl1)
            rw [e, h2] at h1; exact (Option.some.inj h1).symm
          have e2 : p = (l, W.listOf vs.toArray nn) := Prod.ext e this
          rw [e2]; exact N' _ (List.mem_cons_of_mem _ (hl _ _ _ hJ'))
      · exact N' _ (List.mem_cons_of_mem _ hp)
  · intro h' tk m' news' F' N' _ hJ
    exact done m' news' h' tk hJ F' N'
theorem iterT_range {r : Addr} {a b : Int} {t u v : Tok} {n : Nat} {m₀ : PySem.Str → Option Value} {news : List (Addr × Obj)} (J : Nat → (PySem.Str → Option Value) → List (Addr × Obj) → Prop)
    (hh : A.handled = none) (hr : IsRange s.heap r a b 1 t u v) (hn : (b - a).toNat = n) (hsm : Builtin.Range.small a b 1 = true) (F : Fr h₀ env.locals s.heap m₀) (N : News h₀ env.locals s.heap news) (h0 : J 0 m₀ news)
    (turn : ∀ i (k : Tok) m₁ news₁ (s₁ : Shared) I oI, i < n → J i m₁ news₁ → (∀ p ∈ news₁, p.1 ≠ I) → Fr h₀ env.locals s₁.heap m₁ → News h₀ env.locals s₁.heap ((I, oI) :: news₁) →
      wpAny (model prog w) A (assign target env (.int (a + i) k)) (fun _ s₃ => wpAny (model prog w) A (execs body env) (TurnEnd h₀ env.locals I oI (J (i + 1)) s₁) E s₃) E s₁)
    (done : ∀ m' news' h' tk, J n m' news' → Fr h₀ env.locals h' m' → News h₀ env.locals h' news' → Q .next { s with heap := h', toks := tk }) :
    wpAny (model prog w) A (pyIter (.ref r)) (fun it s₂ => LoopAtT prog w A h₀ env target body Q E it s₂) E s := by
  refine wpAny_pyIter_range hr hsm ?_
  have WW := Walks.range (prog := prog) (w := w) hh s.heap.objs.size a 1 n
  have hsz : Builtin.Range.rangeSize a b 1 = ((b - a).toNat : Int) := by rw [rangeSize_one]; split <;> omega
  have hI0 := next_is_new F
  refine ⟨_, _, _, n, _, _, m₀, news, J, rfl, WW, ?_, ?_, ?_, ?_, F.push _, (fun p hp => ⟨Heap.get?_push_of_some _ (N p hp).1, (N p hp).2⟩), (fun i s' v Q' st hQ' => ?_), h0, ?_, ?_⟩
  · intro hm
    exact absurd F.ns.lt (List.mem_singleton.mp hm ▸ Nat.lt_irrefl _)
  · intro b hb
    rw [List.mem_singleton.mp hb]
    exact hI0
  · intro p hp hI
    exact absurd (Heap.lt_size (N p hp).1) ((List.mem_singleton.mp hI) ▸ Nat.lt_irrefl _)
  · rw [hsz, hn]
    have e1 : (a + ((0 : Nat) : Int) * 1) = a := by simp
    have e2 : ((n : Int) - ((0 : Nat) : Int)) = n := by simp
    rw [e1, e2]
    exact Heap.get?_push_size _ rfl
  · have st' : s'.heap.get? s.heap.objs.size = some { cls := .type "range_iterator", data := .fields #[rawInt (a + (i : Nat) * 1), rawInt ((n : Int) - (i : Nat)), rawInt 1] } := st
    unfold letOwnedTupleGo
    cases target <;> first
      | exact wpAny_pure hQ'
      | (cases v <;> first
        | exact wpAny_pure hQ'
        | (refine wpAny_bind (wpAny_load st' ?_)
           dsimp only
           rw [if_neg (by decide)]
           exact wpAny_pure hQ')
        | (refine wpAny_bind (wpAny_load st' ?_)
           dsimp only
           rw [if_neg (by simp)]
           exact wpAny_pure hQ'))
  · intro i v m₁ news₁ s₁ own hi hP hJ hoff hsub hget hall hst F₁ N₁
    obtain ⟨k, rfl⟩ := hP
    obtain ⟨oI, hoI⟩ : ∃ oI, s₁.heap.get? s.heap.objs.size = some oI := ⟨_, hst⟩
    have hmem := hall _ (.head _) hI0 _ hoI
    have ea : a + (i : Int) * 1 = a + i := by simp
    rw [ea]
    refine wpAny_mono (turn i k m₁ news₁ s₁ s.heap.objs.size oI hi hJ (fun p hp e => hoff p hp (by rw [e]; exact .head _)) F₁ (fun p hp => ?_)) (fun _ s₃ h₃ => wpAny_mono h₃ (fun f s₄ h₄ => ?_) fun _ _ e => e) fun _ _ e => e
    · rcases List.mem_cons.mp hp with rfl | hp
      · exact N₁ _ (List.mem_append_left _ hmem)
      · exact N₁ _ (List.mem_append_right _ hp)
    · obtain ⟨rfl, h', tk, m', news', rfl, F', N', off', hJ'⟩ := h₄
      refine ⟨rfl, h', tk, m', news', rfl, F', fun p hp => ?_, fun p hp hb => off' p hp (List.mem_singleton.mp hb), hJ'⟩
      rcases List.mem_append.mp hp with hp | hp
      · have e := List.mem_singleton.mp (hsub p hp)
        have : p.2 = oI := by have := hget p hp; rw [e, hoI] at this; exact (Option.some.inj this).symm
        have e2 : p = (s.heap.objs.size, oI) := Prod.ext e this
        rw [e2]; exact N' _ (.head _)
      · exact N' _ (List.mem_cons_of_mem _ hp)
  · intro h' tk m' news' F' N' _ hJ
    exact done m' news' h' tk hJ F' N'
end
end Mine

namespace Mine
abbrev st (x : String) : PySem.Str := PySem.Str.ofString x
def MR (left : Value) (rows place grown text accounts rest at_ account : Option Value) : PySem.Str → Option Value := fun y =>
  if y = st "rows" then rows else if y = st "place" then place else if y = st "grown" then grown else if y = st "text" then text else if y = st "accounts" then accounts else if y = st "rest" then rest
  else if y = st "at" then at_ else if y = st "account" then account else if y = st "left" then some left else none
def deltaF (x : PySem.Str) : Int := if x = st "a" then 1 else if x = st "b" then -1 else 2
structure RowD where
  text : PySem.Str
  accs : List Int
  rest : PySem.Str
def rowDat (r : RowD) : Dat := .list [.str r.text, .list (r.accs.map .int), .str r.rest]
def growAt (row : RowD) (x : Nat) : List RowD :=
  if (0 + (x : Int) = 0) ∨ (Txt.item row.rest (0 + (x : Int)) != Txt.item row.rest (0 + (x : Int) - 1)) = true then
    [⟨row.text ++ Txt.item row.rest (0 + (x : Int)), row.accs ++ [row.accs.getLastD 0 + deltaF (Txt.item row.rest (0 + (x : Int)))], Txt.slice row.rest none (some (0 + (x : Int))) ++ Txt.slice row.rest (some (0 + (x : Int) + 1)) none⟩]
  else []
def grow (row : RowD) : List RowD := (List.range row.rest.length).flatMap (growAt row)
def rowsN (left : PySem.Str) : Nat → List RowD
  | 0 => [⟨st "", [0], left⟩]
  | n + 1 => (rowsN left n).flatMap grow
/-- the rows stand in the ledger as the list r -/
def RowsIn (nw : List (Addr × Obj)) (r : Addr) (vs : List Value) (n : Nat) (rows : List RowD) : Prop := (r, W.listOf vs.toArray n) ∈ nw ∧ DatAll nw vs (rows.map rowDat)
def J1 (left : PySem.Str) (t1 : Tok) (i : Nat) (m : PySem.Str → Option Value) (nw : List (Addr × Obj)) : Prop :=
  ∃ r vs n o2 o3 o4 o5 o6 o7 o8, m = MR (.str left t1) (some (.ref r)) o2 o3 o4 o5 o6 o7 o8 ∧ RowsIn nw r vs n (rowsN left i)
section
local macro_rules | `(tactic| walk_at "MineEnter") => `(tactic| (
  refine' enterS ?k1 ?k2 ?k3 ?k4 ?k5 ?k6 ?k7 ?k8 ?_ ?c2 ?c3 ?c4 ?c5
  (case k1 => assumption)
  (case k2 => assumption)
  (case k3 => assumption)
  (case k4 => k_is)
  (case k5 => k_is)
  (case k6 => ktr_room)
  (case k7 => first | exact BindsTo.of_eq rfl | exact binds_K (by k_in) rfl (by k_is) rfl rfl rfl)
  (case k8 => exact locs rfl)
  (case c2 => exact rfl)
  (case c3 => exact rfl)
  (case c4 => exact rfl)
  (case c5 => decide)
  k_whole
  intro L' h' F' N'
  (try dsimp only)
  (try k_fold)))
local macro_rules | `(tactic| walk_at "MineFor") => `(tactic| (
  k_here
  (with_reducible rename Fr _ _ _ _ => kF)
  (with_unfolding_all refine' For_invTF kF ?_ ?hs)
  (case hs => (intro _; with_unfolding_all rfl))
  (try k_fold)))
local macro_rules | `(tactic| walk_at "exec For Name Call cons nil") => `(tactic| walk_at "MineFor")
local macro_rules | `(tactic| walk_at "exec For Tuple Name cons nil") => `(tactic| walk_at "MineFor")
theorem map0 (r : Addr) (left : Value) : (fun y => if y = st "rows" then some (Value.ref r) else List.lookup y [(st "left", left)]) = MR left (some (.ref r)) none none none none none none none := by
  funext y
  unfold MR
  by_cases h1 : y = st "rows"
  · simp only [if_pos h1]
  · simp only [if_neg h1]
    by_cases h2 : y = st "left"
    · subst h2; rfl
    · rw [List.lookup_cons, show (y == st "left") = false from by simpa using h2]
      simp only [if_neg h2, List.lookup_nil]
      repeat' split
      all_goals rfl
theorem allLt_mem {d : Nat} (l : List (Addr × Obj)) (h : AllLt d l) : ∀ p ∈ l, @LT.lt Nat _ p.1 d := by
  induction l with
  | nil => exact fun _ hp => nomatch hp
  | cons q r ih =>
    intro p hp
    rcases List.mem_cons.mp hp with e | hp
    · rw [e]; exact h.1
    · exact ih h.2 p hp
def J2 (left : PySem.Str) (t1 : Tok) (r : Addr) (pl : Value) (g I : Addr) (oI : Obj) (base : List (Addr × Obj)) (rows : List RowD) (j : Nat) (m : PySem.Str → Option Value) (nw : List (Addr × Obj)) : Prop :=
  ∃ gs k tl o4 o5 o6 o7 o8, m = MR (.str left t1) (some (.ref r)) (some pl) (some (.ref g)) o4 o5 o6 o7 o8 ∧ nw = (g, W.listOf gs.toArray k) :: (I, oI) :: tl ∧ (∀ p ∈ tl, p.1 ≠ g) ∧ (∀ p ∈ tl, p.1 ≠ I) ∧ (∀ p ∈ base, p ∈ tl) ∧ DatAll tl gs (((rows.take j).flatMap grow).map rowDat)
def J3 (left : PySem.Str) (t1 : Tok) (r : Addr) (pl : Value) (g I I2 : Addr) (oI oI2 : Obj) (tx ac re : Value) (base : List (Addr × Obj)) (done : List RowD) (row : RowD) (j : Nat) (m : PySem.Str → Option Value) (nw : List (Addr × Obj)) : Prop :=
  ∃ gs k tl o7 o8, m = MR (.str left t1) (some (.ref r)) (some pl) (some (.ref g)) (some tx) (some ac) (some re) o7 o8 ∧ nw = (I2, oI2) :: (g, W.listOf gs.toArray k) :: (I, oI) :: tl ∧ (∀ p ∈ tl, p.1 ≠ g) ∧ (∀ p ∈ tl, p.1 ≠ I) ∧ (∀ p ∈ tl, p.1 ≠ I2) ∧ (∀ p ∈ base, p ∈ tl) ∧ DatAll tl gs ((done ++ (List.range j).flatMap (growAt row)).map rowDat)
theorem dat_of_ints {nw : List (Addr × Obj)} {as : List Value} {ns : List Int} (h : IntsAre as ns) : DatAll nw as (ns.map Dat.int) := by
  induction h with
  | nil => exact .nil
  | cons n t _ ih => exact .cons (.int _ _) ih
theorem turn3 {h₀ h' : Heap} {L I I2 I3 g r l D xx : Addr} {oI oI2 oI3 ox : Obj} {s₁ : Shared} {tk x k : Nat} {left T R : PySem.Str} {t1 ta tb : Tok} {pl tx ac re : Value} {base tl : List (Addr × Obj)} {done : List RowD} {row : RowD} {m : PySem.Str → Option Value} {o7 o8 : Option Value} {gs ws : List Value} {A : List Int}
    (F : Fr h₀ L h' m) (hm : m = MR (.str left t1) (some (.ref r)) (some pl) (some (.ref g)) (some tx) (some ac) (some re) o7 o8)
    (N : News h₀ L h' ((l, W.listOf #[.str T ta, .ref D, .str R tb] 0) :: (D, W.listOf ws.toArray 0) :: (xx, ox) :: (I3, oI3) :: (I2, oI2) :: (g, W.listOf (gs.toArray.push (.ref l)) (k + 1)) :: (I, oI) :: tl))
    (l1 : D < l ∧ xx < l ∧ I3 < l ∧ I2 < l ∧ g < l ∧ I < l ∧ AllLt l tl) (l2 : xx < D ∧ I3 < D ∧ I2 < D ∧ g < D ∧ I < D ∧ AllLt D tl) (hi : IntsAre ws A) (hg : ∀ p ∈ tl, p.1 ≠ g) (hI : ∀ p ∈ tl, p.1 ≠ I) (hI2 : ∀ p ∈ tl, p.1 ≠ I2)
    (off : ∀ p ∈ (I2, oI2) :: (g, W.listOf gs.toArray k) :: (I, oI) :: tl, p.1 ≠ I3) (hb : ∀ p ∈ base, p ∈ tl)
    (hgs : DatAll tl gs ((done ++ (List.range x).flatMap (growAt row)).map rowDat)) (hgr : growAt row x = [⟨T, A, R⟩]) :
    TurnEnd h₀ L I3 oI3 (J3 left t1 r pl g I I2 oI oI2 tx ac re base done row (x + 1)) s₁ .next { s₁ with heap := h', toks := tk } := by
  obtain ⟨a1, a2, a3, a4, a5, a6, a7⟩ := l1
  obtain ⟨c2, c3, c4, c5, c6, c7⟩ := l2
  have N2 : News h₀ L h' ((l, W.listOf #[.str T ta, .ref D, .str R tb] 0) :: (D, W.listOf ws.toArray 0) :: (xx, ox) :: (I3, oI3) :: (I2, oI2) :: (g, W.listOf (gs ++ [Value.ref l]).toArray (k + 1)) :: (I, oI) :: tl) := by
    rw [← List.push_toArray]; exact N
  refine TurnEnd.intro _ ((I2, oI2) :: (g, W.listOf (gs ++ [Value.ref l]).toArray (k + 1)) :: (I, oI) :: (l, W.listOf #[.str T ta, .ref D, .str R tb] 0) :: (D, W.listOf ws.toArray 0) :: tl) F N2 (.tail _ (.tail _ (.tail _ (.head _)))) ?_ ?_ ⟨gs ++ [Value.ref l], k + 1, (l, W.listOf #[.str T ta, .ref D, .str R tb] 0) :: (D, W.listOf ws.toArray 0) :: tl, o7, o8, hm, rfl, ?_, ?_, ?_, fun p hp => .tail _ (.tail _ (hb p hp)), ?_⟩
  · intro p hp
    simp only [List.mem_cons] at hp ⊢
    rcases hp with h | h | h | h | h | h <;> simp [h]
  · refine List.forall_mem_cons.mpr ⟨off (I2, oI2) (.head _), List.forall_mem_cons.mpr ⟨off (g, W.listOf gs.toArray k) (.tail _ (.head _)), List.forall_mem_cons.mpr ⟨off (I, oI) (.tail _ (.tail _ (.head _))), List.forall_mem_cons.mpr ⟨Nat.ne_of_gt a3, List.forall_mem_cons.mpr ⟨Nat.ne_of_gt c3, fun p hp => off p (.tail _ (.tail _ (.tail _ hp)))⟩⟩⟩⟩⟩
  · exact List.forall_mem_cons.mpr ⟨Nat.ne_of_gt a5, List.forall_mem_cons.mpr ⟨Nat.ne_of_gt c5, hg⟩⟩
  · exact List.forall_mem_cons.mpr ⟨Nat.ne_of_gt a6, List.forall_mem_cons.mpr ⟨Nat.ne_of_gt c6, hI⟩⟩
  · exact List.forall_mem_cons.mpr ⟨Nat.ne_of_gt a4, List.forall_mem_cons.mpr ⟨Nat.ne_of_gt c4, hI2⟩⟩
  · rw [List.range_succ, List.flatMap_append, List.flatMap_singleton, hgr, ← List.append_assoc, List.map_append]
    refine DatAll.append (DatAll.mono (fun p hp => .tail _ (.tail _ hp)) hgs) (.one ?_)
    exact .list (vs := [_, _, _]) (.head _) (.cons (.str _ _) (.cons (.list (.tail _ (.head _)) (dat_of_ints hi)) (.cons (.str _ _) .nil)))
theorem flat_len {α β : Type} (f : α → List β) (c : Nat) : ∀ l : List α, (∀ a ∈ l, (f a).length ≤ c) → (l.flatMap f).length ≤ c * l.length
  | [], _ => by simp
  | a :: l, h => by
    have h1 := h a (.head _)
    have h2 := flat_len f c l fun b hb => h b (.tail _ hb)
    rw [List.flatMap_cons, List.length_append, List.length_cons, Nat.mul_succ]
    omega
theorem growAt_len (row : RowD) (x : Nat) : (growAt row x).length ≤ 1 := by
  unfold growAt; split <;> simp
theorem grow_len (row : RowD) : (grow row).length ≤ row.rest.length := by
  have := flat_len (growAt row) 1 (List.range row.rest.length) fun _ _ => growAt_len _ _
  simpa [grow] using this
theorem size3 {tl : List (Addr × Obj)} {gs : List Value} {rows : List RowD} {row : RowD} {j x : Nat} (h : DatAll tl gs ((((rows.take j).flatMap grow) ++ (List.range x).flatMap (growAt row)).map rowDat)) (hr : ∀ q ∈ rows, q.rest.length ≤ 100) (hl : rows.length ≤ 1000) (hx : x ≤ 100) : gs.length ≤ 200000 := by
  have e := h.length
  rw [List.length_map, List.length_append] at e
  have a := flat_len grow 100 (rows.take j) fun q hq => Nat.le_trans (grow_len q) (hr q (List.mem_of_mem_take hq))
  have b := flat_len (growAt row) 1 (List.range x) fun _ _ => growAt_len _ _
  rw [List.length_range] at b
  rw [List.length_take] at a
  have : 100 * min j rows.length ≤ 100 * 1000 := Nat.mul_le_mul_left _ (Nat.le_trans (Nat.min_le_right _ _) hl)
  omega
local macro_rules | `(tactic| walk_at "MineMap") => `(tactic| (
  funext y
  unfold MR
  by_cases g1 : y = st "rows"
  focus (subst g1; rfl)
  by_cases g2 : y = st "place"
  focus (subst g2; rfl)
  by_cases g3 : y = st "grown"
  focus (subst g3; rfl)
  by_cases g4 : y = st "text"
  focus (subst g4; rfl)
  by_cases g5 : y = st "accounts"
  focus (subst g5; rfl)
  by_cases g6 : y = st "rest"
  focus (subst g6; rfl)
  by_cases g7 : y = st "at"
  focus (subst g7; rfl)
  by_cases g8 : y = st "account"
  focus (subst g8; rfl)
  simp only [g1, g2, g3, g4, g5, g6, g7, g8, if_false]))
theorem pd_piece {x : PySem.Str} (hx : isSign x) : pdF (pieceB x) = some (deltaF x) := by
  rcases hx with rfl | rfl | rfl <;> decide +kernel
theorem pdp_is (x : PySem.Str) (hx : isSign x) (d : Int) (t1 t2 : Tok) : ClaimS 3 44 [.bytes (pieceB x) t1, .int d t2] (fun tl v => ∃ t, tl = [] ∧ v = .int (d + deltaF x) t) := pd_is _ _ _ _ _ (pd_piece hx)
theorem ints_of {nw : List (Addr × Obj)} : ∀ {as : List Value} {ns : List Int}, DatAll nw as (ns.map Dat.int) → IntsAre as ns
  | [], [], _ => .nil
  | [], _ :: _, h => nomatch h
  | _ :: _, [], h => nomatch h
  | _ :: _, _ :: _, .cons h r => by cases h; exact .cons _ _ (ints_of r)
theorem last_item {prog : Program} {w : World} {A : Around} {E : Value → Shared → Prop} {s : Shared} {value slice : PySem.Expr} {l : Addr} {vs : List Value} {ns : List Int} {u : Tok} {Q : Value → Shared → Prop}
    (hl : s.heap.IsList l vs.toArray) (hi : IntsAre vs ns) (hne : ns ≠ []) (hz : ns.length ≤ 1000) (h : ∀ t, Q (.int (ns.getLastD 0) t) s)
    (hs : subscripted slice false (.ref l) (.int (-1) u) = operate [.ref l, .int (-1) u] (getItem (.ref l) (.int (-1) u)) := by with_unfolding_all rfl) (hg : ∀ r, letTemporaryGo value (.ref l) r = pure () := by intro _; with_unfolding_all rfl) :
    wpAny (model prog w) A (subscriptTail value slice (.ref l) (.int (-1) u)) Q E s := by
  have hlen := hi.length
  have hpos := List.length_pos_iff.mpr hne
  have hlt : ns.length - 1 < ns.length := by omega
  obtain ⟨t, hx⟩ := hi.get (ns.length - 1) ns[ns.length - 1] (by simp [hlt])
  have e : ns[ns.length - 1] = ns.getLastD 0 := by
    rw [List.getLastD_eq_getLast?, List.getLast?_eq_getElem?, List.getElem?_eq_getElem hlt]; rfl
  rw [e] at hx
  refine subscriptTail_builtin hl.typeIs slot_list_getitem.lookup (wpAny_getItem_list_neg hl (by decide) (by rw [List.size_toArray]; omega) (by decide) ?_ (h t)) hs hg
  have e2 : ((-1 : Int) + (vs.toArray.size : Int)).toNat = ns.length - 1 := by rw [List.size_toArray]; omega
  rw [e2]
  simpa using hx
local macro_rules | `(tactic| walk_at "subscriptTail") => `(tactic| (
  k_here
  (with_reducible show wpAny _ _ (subscriptTail _ _ (Value.ref _) (Value.int (-1) _)) _ _ _)
  k_dflt (refine' last_item ?a ?b ?c ?d ?_ ?e ?f)
  (case a => first | exact ⟨_, News.get (by assumption) (List.Mem.tail _ (List.Mem.tail _ (List.Mem.tail _ (List.Mem.tail _ (by assumption))))), rfl, _, rfl⟩)
  (case b => first | assumption)
  (case c => first | assumption)
  (case d => first | omega)
  (case e => with_unfolding_all rfl)
  (case f => (intro _; with_unfolding_all rfl))
  k_whole
  intro t9))
local macro_rules | `(tactic| walk_at "binaryOp Add ref ref") => `(tactic| (
  k_here
  (with_reducible show wpAny _ _ (binaryOp _ (Value.ref _) (Value.ref _)) _ _ _)
  k_dflt (refine' kmk_add_ints (ms := [_]) ?F ?N ?a ?b ?i ?j ?_ ?z)
  (case F => k_asm)
  (case N => k_asm)
  (case a => exact ⟨_, News.get (by assumption) (List.Mem.tail _ (List.Mem.tail _ (List.Mem.tail _ (List.Mem.tail _ (List.Mem.tail _ (by assumption)))))), rfl, _, rfl⟩)
  (case b => exact ⟨_, News.get (by assumption) (List.Mem.head _), rfl, _, rfl⟩)
  (case i => assumption)
  (case j => exact IntsAre.cons _ _ .nil)
  (case z => (simp only [sizeLine_eq, List.length_cons, List.length_nil]; omega))
  intro D' ws' h' F' N' l1 hI'
  (try k_lt l1)
  (try k_sweep)))
local macro_rules | `(tactic| walk_at "call builtin:list.append") => `(tactic| (
  k_here
  (with_reducible show wpAny _ _ (call (Value.builtin _) [Value.ref _, _]) _ _ _)
  k_dflt (refine' append_K ?k1 ?k2 ?k3 ?_ ?z)
  (case k1 => k_asm)
  (case k2 => k_asm)
  (case k3 => exact Upd.tail (by k_ne) (Upd.tail (by k_ne) (Upd.tail (by k_ne) (Upd.tail (by k_ne) (Upd.tail (by k_ne) (Upd.head (List.forall_mem_cons.mpr ⟨by k_ne, by assumption⟩)))))))
  (case z => (simp only [sizeLine_eq, List.size_toArray]; omega))
  k_whole
  intro h' F' N'
  (try k_sweep)))
local macro_rules | `(tactic| walk_at "MineUse") => `(tactic| (
  (case k1 => k_asm)
  (case k2 => k_asm)
  (case k3 => k_asm)
  (case k4 => k_asm)
  (case k5 => k_asm)
  (case kK => first | exact rfl | assumption)
  (case kd => ktr_room)
  (case ku => ktr_units)
  intro v9 tl9 h9 tk9 F9 N9 d9 e9
  (obtain ⟨t9, q9, r9⟩ := e9)
  subst q9 r9
  clear d9
  (simp only [List.nil_append] at N9)
  (try dsimp only)
  (try k_fold)))
local macro_rules | `(tactic| walk_at "call ref") => `(tactic| (
  k_here
  (with_reducible show wpAny _ _ (call (Value.ref 84) [Value.str _ _]) _ _ _)
  k_dflt (refine' useS (piece_is _ _ ?hp) ?k1 ?k2 ?k3 ?k4 ?k5 ?kK ?kd ?ku ?_)
  (case hp => with_reducible assumption)
  k_dflt walk_at "MineUse"))
local macro_rules | `(tactic| walk_at "call ref") => `(tactic| (
  k_here
  (with_reducible show wpAny _ _ (call (Value.ref 44) [Value.bytes (pieceB _) _, Value.int _ _]) _ _ _)
  k_dflt (refine' useS (pdp_is _ ?hp _ _ _) ?k1 ?k2 ?k3 ?k4 ?k5 ?kK ?kd ?ku ?_)
  (case hp => with_reducible assumption)
  k_dflt walk_at "MineUse"))
theorem rows_is (left : PySem.Str) (t1 : Tok) (hl : left.length ≤ 100) (hbd : PySem.Flt.Hid (∀ i, (rowsN left i).length ≤ 1000 ∧ ∀ row ∈ rowsN left i, row.text.length ≤ 100 ∧ row.rest.length ≤ 100 ∧ (∀ a : Nat, a < row.rest.length → isSign (Txt.item row.rest (0 + (a : Int)))) ∧ row.accs ≠ [] ∧ row.accs.length ≤ 100)) :
    ClaimS 10 91 [.str left t1] (fun tl v => ∃ r vs n, v = .ref r ∧ RowsIn tl r vs n (rowsN left left.length)) := by
  unfold ClaimS
  k_fill
  intros; rename_i hret
  k_dflt walk_at "MineEnter"
  k_steps
  refine iterT_range (J1 left t1) rfl (by assumption) (n := left.length) (by omega) (small_one (by omega) (by omega) (by omega) (by omega)) (by assumption) (by assumption) ?_ ?_ ?_
  · refine ⟨_, [_], _, none, none, none, none, none, none, none, map0 _ _, .head _, ?_⟩
    exact .cons (.list (vs := [_, _, _]) (.tail _ (.head _)) (.cons (.str _ _) (.cons (.list (vs := [_]) (.tail _ (.tail _ (.head _))) (.cons (.int _ _) .nil)) (.cons (.str _ _) .nil)))) .nil
  · intro i k m₁ news₁ s₁ I oI hi hJ off F1 N1
    obtain ⟨r, vs, n, o2, o3, o4, o5, o6, o7, o8, rfl, hr, hd⟩ := hJ
    k_steps
    rename_i g h8 l8 h9 F9 N9
    refine iterT_list (vs := vs) (nn := n) (J2 left t1 r (.int (0 + i) k) g I oI news₁ (rowsN left i)) rfl ?_ (by assumption) (by assumption) ?_ ?_ ?_
    · rintro j m nw ⟨gs, k, tl, o4, o5, o6, o7, o8, rfl, rfl, h1, h1', h2, h3⟩
      exact .tail _ (.tail _ (h2 _ hr))
    · refine ⟨[], _, _, o4, o5, o6, o7, o8, ?_, rfl, ?_, off, fun _ h => h, by simpa using DatAll.nil⟩
      · walk_at "MineMap"
      · intro p hp
        exact Nat.ne_of_lt (allLt_mem _ l8.2 p hp)
    · intro j v m₂ news₂ s₂ I2 oI2 hv hJ off2 F2 N2
      obtain ⟨gs, kk, tl, p4, p5, p6, p7, p8, rfl, rfl, hg, hgI, hb, hgs⟩ := hJ
      have n1 : @Ne Nat g I2 := off2 _ (.head _)
      have n2 : @Ne Nat I I2 := off2 _ (.tail _ (.head _))
      have hj : j < (rowsN left i).length := by
        have := DatAll.length hd
        rw [List.length_map] at this
        rw [← this]; exact (List.getElem?_eq_some_iff.mp hv).1
      obtain ⟨v', hv', hin⟩ := DatAll.get hd (k := j) (by simpa using hj)
      rw [hv] at hv'
      cases hv'
      rw [List.getElem_map] at hin
      have hrow := (hbd.out i).2 _ (List.getElem_mem hj)
      have hcat : PySem.Flt.Hid ((rowsN left i).take (j + 1) = (rowsN left i).take j ++ [(rowsN left i)[j]]) := .mk (List.take_succ_eq_append_getElem hj)
      generalize (rowsN left i)[j] = row at hin hrow hcat
      unfold rowDat at hin
      cases hin with
      | @list a ws nn _ ha hw =>
        cases hw with
        | @cons x1 _ _ _ hx1 hw =>
        cases hw with
        | @cons x2 _ _ _ hx2 hw =>
        cases hw with
        | @cons x3 _ _ _ hx3 hw =>
        cases hw
        cases hx1 with
        | str _ ta =>
        cases hx3 with
        | str _ tr =>
        cases hx2 with
        | @list b as nb _ hbm has =>
          have ha' := hb _ ha
          have hbm' := hb _ hbm
          obtain ⟨b1, b2, b3, b4, b6⟩ := hrow
          have b3' := PySem.Flt.Hid.mk b3
          clear b3
          have b5 := ints_of has
          have hla : s₂.heap.IsList a [Value.str row.text ta, Value.ref b, Value.str row.rest tr].toArray := ⟨_, N2.get (.tail _ (.tail _ (.tail _ ha'))), rfl, _, rfl⟩
          k_steps
          refine iterT_range (J3 left t1 r (.int (0 + i) k) g I I2 oI oI2 (.str row.text ta) (.ref b) (.str row.rest tr) tl (((rowsN left i).take j).flatMap grow) row) rfl (by assumption) (n := row.rest.length) (by omega) (small_one (by omega) (by omega) (by omega) (by omega)) (by assumption) (by assumption) ?_ ?_ ?_
          · refine ⟨gs, _, _, p7, p8, ?_, rfl, hg, hgI, fun p hp => off2 p (.tail _ (.tail _ hp)), fun _ h => h, by simpa using hgs⟩
            walk_at "MineMap"
          · intro x kx m₃ news₃ s₃ I3 oI3 hx hJ3 off3 F3 N3
            obtain ⟨gs3, k3, tl3, q7, q8, rfl, rfl, hg3, hgI3, hg23, hb3, hgs3⟩ := hJ3
            have hbm3 := hb3 _ hbm'
            have hsg := b3'.out x hx
            have hz3 : gs3.length ≤ 200000 := size3 hgs3 (fun q hq => ((hbd.out i).2 q hq).2.1) (hbd.out i).1 (by omega)
            have n3 : @Ne Nat I2 I3 := off3 _ (.head _)
            have n4 : @Ne Nat g I3 := off3 _ (.tail _ (.head _))
            have n5 : @Ne Nat I I3 := off3 _ (.tail _ (.tail _ (.head _)))
            have n6 : @Ne Nat I g := Nat.ne_of_lt l8.1
            have hlb : s₃.heap.IsList b as.toArray := ⟨_, N3.get (.tail _ (.tail _ (.tail _ (.tail _ hbm3)))), rfl, _, rfl⟩
            have off3' := PySem.Flt.Hid.mk off3
            clear off3
            k_steps
            · refine turn3 (by assumption) (by walk_at "MineMap") (by assumption) (by assumption) (by assumption) (by assumption) hg3 hgI3 hg23 off3'.out hb3 hgs3 (by unfold growAt; exact if_pos (.inl (by assumption)))
            · refine turn3 (by assumption) (by walk_at "MineMap") (by assumption) (by assumption) (by assumption) (by assumption) hg3 hgI3 hg23 off3'.out hb3 hgs3 (by unfold growAt; exact if_pos (.inr (by assumption)))
            · refine TurnEnd.intro _ _ (by assumption) (by assumption) (.head _) (fun _ h => .tail _ h) off3'.out ⟨gs3, k3, tl3, some (.int (0 + (x : Int)) kx), q8, ?_, rfl, hg3, hgI3, hg23, hb3, ?_⟩
              · walk_at "MineMap"
              · rw [List.range_succ, List.flatMap_append, List.flatMap_singleton, show growAt row x = [] from by unfold growAt; exact if_neg (fun h0 => by rename (_ != _) = false => hne0; rcases h0 with h0 | h0; (exact absurd h0 (by first | assumption | omega)); (rw [hne0] at h0; cases h0))]
                simpa using hgs3
          · intro m' nw h' tk hJ F' N'
            obtain ⟨gs3, k3, tl3, q7, q8, rfl, rfl, hg3, hgI3, hg23, hb3, hgs3⟩ := hJ
            k_steps
            refine TurnEnd.intro _ ((g, W.listOf gs3.toArray k3) :: (I, oI) :: tl3) (by assumption) (by assumption) (.head _) (fun _ h => .tail _ h) ?_ ⟨gs3, k3, tl3, some (.str row.text ta), some (.ref b), some (.str row.rest tr), q7, q8, rfl, rfl, hg3, hgI3, fun p hp => hb3 p (hb p hp), ?_⟩
            · exact List.forall_mem_cons.mpr ⟨n1, List.forall_mem_cons.mpr ⟨n2, hg23⟩⟩
            · rw [hcat.out, List.flatMap_append, List.flatMap_singleton]; exact hgs3
    · intro m' nw h' tk hJ F' N'
      obtain ⟨gs, kk, tl, p4, p5, p6, p7, p8, rfl, rfl, hg, hgI, hb, hgs⟩ := hJ
      k_steps
      refine TurnEnd.intro _ ((g, W.listOf gs.toArray kk) :: tl) (by assumption) (by assumption) (.tail _ (.head _)) ?_ ?_ ⟨g, gs, kk, some (.int (0 + (i : Int)) k), some (.ref g), p4, p5, p6, p7, p8, ?_, .head _, ?_⟩
      · intro p hp
        rcases List.mem_cons.mp hp with h | h <;> simp [h]
      · exact List.forall_mem_cons.mpr ⟨Nat.ne_of_gt l8.1, hgI⟩
      · walk_at "MineMap"
      · refine DatAll.mono (fun p hp => .tail _ hp) ?_
        have e : vs.length = (rowsN left i).length := by rw [DatAll.length hd, List.length_map]
        rw [e, List.take_length] at hgs
        exact hgs
  · intro m' nw h' tk hJ F' N'
    obtain ⟨r, vs, n, o2, o3, o4, o5, o6, o7, o8, rfl, hr, hd⟩ := hJ
    k_steps
    exact hret _ nw _ _ (Fr.keep (by assumption)) (News.newIn (by assumption)) ⟨r, vs, n, rfl, hr, hd⟩
end
end Mine

namespace Mine
theorem kc_ten {cm : PySem.Str → Option Value} {n₁ n₂ n₃ n₄ n₅ n₆ n₇ n₈ n₉ n₁₀ : PySem.Str} {c₁ c₂ c₃ c₄ c₅ c₆ c₇ c₈ c₉ c₁₀ : Addr} {cells : List (Addr × Obj)} (x : CellsAre cm [(n₁, c₁), (n₂, c₂), (n₃, c₃), (n₄, c₄), (n₅, c₅), (n₆, c₆), (n₇, c₇), (n₈, c₈), (n₉, c₉), (n₁₀, c₁₀)] cells) :
    ∃ o₁ o₂ o₃ o₄ o₅ o₆ o₇ o₈ o₉ o₁₀, cells = [(c₁, o₁), (c₂, o₂), (c₃, o₃), (c₄, o₄), (c₅, o₅), (c₆, o₆), (c₇, o₇), (c₈, o₈), (c₉, o₉), (c₁₀, o₁₀)] ∧ o₁.data = .cell (cm n₁) ∧ o₂.data = .cell (cm n₂) ∧ o₃.data = .cell (cm n₃) ∧ o₄.data = .cell (cm n₄) ∧ o₅.data = .cell (cm n₅) ∧ o₆.data = .cell (cm n₆) ∧ o₇.data = .cell (cm n₇) ∧ o₈.data = .cell (cm n₈) ∧ o₉.data = .cell (cm n₉) ∧ o₁₀.data = .cell (cm n₁₀) := by
  cases x with | cons h r =>
  cases r with | cons h' r =>
  obtain ⟨o₃, o₄, o₅, o₆, o₇, o₈, o₉, o₁₀, rfl, h₃, h₄, h₅, h₆, h₇, h₈, h₉, h₁₀⟩ := kc_eight r
  exact ⟨_, _, o₃, o₄, o₅, o₆, o₇, o₈, o₉, o₁₀, rfl, h, h', h₃, h₄, h₅, h₆, h₇, h₈, h₉, h₁₀⟩
section
local macro_rules | `(tactic| walk_at "MineEnter") => `(tactic| (
  refine' enterS ?k1 ?k2 ?k3 ?k4 ?k5 ?k6 ?k7 ?k8 ?_ ?c2 ?c3 ?c4 ?c5
  (case k1 => assumption)
  (case k2 => assumption)
  (case k3 => assumption)
  (case k4 => k_is)
  (case k5 => k_is)
  (case k6 => ktr_room)
  (case k7 => first | exact BindsTo.of_eq rfl | exact binds_K (by k_in) rfl (by k_is) rfl rfl rfl)
  (case k8 => exact locs rfl)
  (case c2 => exact rfl)
  (case c3 => exact rfl)
  (case c4 => exact rfl)
  (case c5 => decide)
  k_whole
  intro L' h' F' N'
  (try dsimp only)
  (try k_fold)))
theorem xfrm_is (v : Value) : ClaimS 2 72 [v] (fun tl r => tl = [] ∧ r = v) := by
  unfold ClaimS
  k_fill
  intros; rename_i hret
  k_dflt walk_at "MineEnter"
  k_steps
  (try dsimp only)
  exact hret _ [] _ _ (Fr.keep (by assumption)) (fun _ h => nomatch h) ⟨rfl, rfl⟩
theorem coll_is (x y : PySem.Str) (t1 t2 : Tok) : ClaimS 2 65 [.str x t1, .str y t2] (fun tl r => ∃ t, tl = [] ∧ r = .int (b2i (decide (y.cps.toList < x.cps.toList)) - b2i (decide (x.cps.toList < y.cps.toList))) t) := by
  unfold ClaimS
  k_fill
  intros; rename_i hret
  k_dflt walk_at "MineEnter"
  k_steps
  (try dsimp only)
  exact hret _ [] _ _ (Fr.keep (by assumption)) (fun _ h => nomatch h) ⟨_, rfl, rfl⟩
end
end Mine

namespace Mine
/-- the walk stops here -/
def Stop (p : Prop) : Prop := p
theorem Stop.mk {p : Prop} (h : Stop p) : p := h
theorem Stop.out {p : Prop} (h : p) : Stop p := h
section
variable {prog : Program} {w : World} {A : Around} {h₀ : Heap} {L : Addr} {m : PySem.Str → Option Value} {env : Env} {elt : Expr} {x : PySem.Str} {scope : Scope} {cl : List (PySem.Str × Addr)} {s : Shared} {S : List (Addr × Obj) → Prop} {P : Nat → Value → Prop} {Fin : List Value → List (Addr × Obj) → Prop} {news : List (Addr × Obj)}
theorem comp_rest {n : Nat} (J : Nat → List Value → List (Addr × Obj) → Prop) (h0 : J 0 [] news)
    (turn : ∀ i v ys nw I oI C oC D m₂ h tk (E' : Value → Shared → Prop), i < n → P i v → J i ys nw → LCg.NsObj oC m₂ → m₂ x = some v → Fr h₀ L h m → News h₀ L h ((I, oI) :: (C, oC) :: (D, LCg.lst ys) :: nw) → LCg.Off3 I C D nw → ((@Ne Nat I C) ∧ (@Ne Nat I D) ∧ (@Ne Nat C D)) →
      wpAny (model prog w) A (eval elt (compEnvC scope cl C env)) (LCg.CompEnd h₀ L m { s with heap := h, toks := tk } I oI C oC D (LCg.lst ys) S (fun y nw' => J (i + 1) (ys ++ [y]) nw')) E' { s with heap := h, toks := tk })
    (fin : ∀ ys nw, J n ys nw → Fin ys nw) : LCg.CompRest prog w A h₀ L m env elt x scope cl s S P Fin n 0 [] news := by
  have key : ∀ (j i : Nat) (ys : List Value) (nw : List (Addr × Obj)), i + j = n → J i ys nw → LCg.CompRest prog w A h₀ L m env elt x scope cl s S P Fin j i ys nw := by
    intro j
    induction j with
    | zero =>
      intro i ys nw hi hJ
      have e : i = n := by omega
      subst e
      exact LCg.CompRest.zero (fin ys nw hJ)
    | succ j ih =>
      intro i ys nw hi hJ
      refine LCg.CompRest.succ ?_
      intro v I oI C oC D m₂ h tk E' hv hC hx F N off ne
      refine wpAny_mono (turn i v ys nw I oI C oC D m₂ h tk E' (by omega) hv hJ hC hx F N off ne) (fun y s₂ hq => ?_) fun _ _ e => e
      obtain ⟨h', tk', nw', e, F', N', off', hS, hJ'⟩ := hq
      exact ⟨h', tk', nw', e, F', N', off', hS, ih (i + 1) _ _ (by omega) hJ'⟩
  exact key n 0 [] news (by omega) h0
theorem comp_ints {its : Array Value} {ns : List Int} (g : Int → Int) (hi : IntsAre its.toList ns)
    (turn : ∀ k t I oI C oC D m₂ ys h tk (E' : Value → Shared → Prop), k ∈ ns → LCg.NsObj oC m₂ → m₂ x = some (.int k t) → Fr h₀ L h m → News h₀ L h ((I, oI) :: (C, oC) :: (D, LCg.lst ys) :: news) → LCg.Off3 I C D news → ((@Ne Nat I C) ∧ (@Ne Nat I D) ∧ (@Ne Nat C D)) →
      wpAny (model prog w) A (eval elt (compEnvC scope cl C env)) (LCg.CompEnd h₀ L m { s with heap := h, toks := tk } I oI C oC D (LCg.lst ys) S (fun y nw' => nw' = news ∧ ∃ t, y = .int (g k) t)) E' { s with heap := h, toks := tk })
    (fin : ∀ ys, IntsAre ys (ns.map g) → Fin ys news) : LCg.CompRest prog w A h₀ L m env elt x scope cl s S (fun i v => its[i]? = some v) Fin its.size 0 [] news := by
  obtain ⟨vs⟩ := its
  exact kcf_list (vs := vs) g hi (fun k t I oI C oC D m₂ ys h tk E' a1 a2 a3 a4 a5 a6 a7 _ => turn k t I oI C oC D m₂ ys h tk E' a1 a2 a3 a4 a5 a6 a7) fin
end
theorem News.drop {h₀ h : Heap} {L : Addr} {a : Addr × Obj} {r : List (Addr × Obj)} (N : News h₀ L h (a :: r)) : News h₀ L h r := fun p hp => N p (.tail _ hp)
theorem News.skip {h₀ h : Heap} {L : Addr} {a b : Addr × Obj} {r : List (Addr × Obj)} (N : News h₀ L h (a :: b :: r)) : News h₀ L h (a :: r) := fun p hp => by
  rcases List.mem_cons.mp hp with rfl | hp
  · exact N _ (.head _)
  · exact N _ (.tail _ (.tail _ hp))
theorem sorted_S {prog : Program} {w : World} {A : Around} {E : Value → Shared → Prop} {s : Shared} {h₀ : Heap} {L : Addr} {m : PySem.Str → Option Value} {news : List (Addr × Obj)} {l : Addr} {vs : List Value} {ss : List PySem.Str} {Q : Value → Shared → Prop}
    (F : Fr h₀ L s.heap m) (N : News h₀ L s.heap news) (hl : s.heap.IsList l vs.toArray) (hS : StrsAre vs ss) (hw : PyData.layable0 (.list (ss.map .str)) = true) (h64 : vs.length < 64)
    (h : ∀ D h' vs' ss' e, Fr h₀ L h' m → News h₀ L h' ((D, listOf (List.toArray vs') e) :: news) → (∀ p ∈ news, p.1 < D) → StrsAre vs' ss' → ss'.length = ss.length → ss'.Perm ss → sortedS ss' = true → Q (.ref D) { s with heap := h' }) :
    wpAny (model prog w) A (call (.builtin "sorted") [.ref l]) Q E s :=
  sorted_N2_str F N hl hS hw h64 fun h' vs' ss' e F' N' _ S' _ e1 _ p s => h _ h' vs' ss' e F' N' (fun p hp => Nat.lt_succ_of_lt (Heap.lt_size (N p hp).1)) S' e1 p s
theorem join_room {ys : List PySem.Str} (h : (ys.map (·.length)).sum ≤ 1000) : (ys.map (·.length)).sum + ys.length * (PySem.Str.ofString "").length ≤ 16777216 := by
  have e : (PySem.Str.ofString "").length = 0 := by decide +kernel
  rw [e]; omega
/-- the objects xs stand apart from the addresses as -/
def Apart (as : List Addr) (xs : List (Addr × Obj)) : Prop := ∀ p ∈ xs, ∀ a ∈ as, a ≠ p.1
theorem Apart.nil {as : List Addr} : Apart as [] := fun _ h => nomatch h
theorem Apart.cons {as : List Addr} {p : Addr × Obj} {xs : List (Addr × Obj)} (h : ∀ a ∈ as, a ≠ p.1) (r : Apart as xs) : Apart as (p :: xs) := fun q hq => by
  rcases List.mem_cons.mp hq with rfl | hq
  · exact h
  · exact r q hq
def hueD (W ac : Int) : Dat := .list [.int ((ac * (1 + (W.fdiv 7).fmod 8)).fmod (2 + (W + 3).fmod 7)), .int (2 * W.fmod 4 + 4)]
/-- what the floats must answer -/
def HuesOk (W : Int) : Prop := Float64.isInf (hueF (W.fmod 4) 8) = false ∧ ∀ ac : Int, -4 ≤ ac → ac ≤ 8 →
  toldOk (ac * (1 + (W.fdiv 7).fmod 8)) (2 + (W + 3).fmod 7) (hueF (W.fmod 4) 8) ((ac * (1 + (W.fdiv 7).fmod 8)).fmod (2 + (W + 3).fmod 7)) (2 * W.fmod 4 + 4) = true
theorem prod_bounds (ac st : Int) (h1 : -4 ≤ ac) (h2 : ac ≤ 8) (h3 : 1 ≤ st) (h4 : st ≤ 8) : -32 ≤ ac * st ∧ ac * st ≤ 64 := by
  obtain rfl | rfl | rfl | rfl | rfl | rfl | rfl | rfl : st = 1 ∨ st = 2 ∨ st = 3 ∨ st = 4 ∨ st = 5 ∨ st = 6 ∨ st = 7 ∨ st = 8 := by omega
  all_goals omega
theorem strs_snoc {y : PySem.Str} {t : Tok} : ∀ {vs : List Value} {ss : List PySem.Str}, StrsAre vs ss → StrsAre (vs ++ [.str y t]) (ss ++ [y])
  | _, _, .nil => .cons _ _ .nil
  | _, _, .cons x u h => .cons x u (strs_snoc h)
theorem item_sign (n : Int) : isSign (Txt.item (PySem.Str.ofString "abc") (n.fmod 3)) := by
  have h1 := fmod_lo n (n := 3) (by decide)
  have h2 := fmod_hi n (n := 3) (by decide)
  generalize n.fmod 3 = z at h1 h2
  obtain rfl | rfl | rfl : z = 0 ∨ z = 1 ∨ z = 2 := by omega
  · exact .inl (by decide +kernel)
  · exact .inr (.inl (by decide +kernel))
  · exact .inr (.inr (by decide +kernel))
abbrev signs : List PySem.Str := [st "a", st "b", st "c"]
theorem sign_mem {x : PySem.Str} (h : isSign x) : x ∈ signs := by
  rcases h with rfl | rfl | rfl <;> simp [signs]
theorem four {ss : List PySem.Str} (hl : ss.length = 4) (h : ∀ x ∈ ss, isSign x) : ∃ a ∈ signs, ∃ b ∈ signs, ∃ c ∈ signs, ∃ d ∈ signs, ss = [a, b, c, d] := by
  match ss, hl with
  | [a, b, c, d], _ => exact ⟨a, sign_mem (h _ (by simp)), b, sign_mem (h _ (by simp)), c, sign_mem (h _ (by simp)), d, sign_mem (h _ (by simp)), rfl⟩
theorem lay_all : ∀ a ∈ signs, ∀ b ∈ signs, ∀ c ∈ signs, ∀ d ∈ signs, PyData.layable0 (.list ([a, b, c, d].map .str)) = true := by decide +kernel
theorem lay_four {ss : List PySem.Str} (hl : ss.length = 4) (h : ∀ x ∈ ss, isSign x) : PyData.layable0 (.list (ss.map .str)) = true := by
  obtain ⟨a, ha, b, hb, c, hc, d, hd, rfl⟩ := four hl h
  exact lay_all a ha b hb c hc d hd
/-- the lists of four signs in their order -/
def lefts : List (List PySem.Str) := (signs.flatMap fun a => signs.flatMap fun b => signs.flatMap fun c => signs.map fun d => [a, b, c, d]).filter sortedS
theorem lefts_all : ∀ a ∈ signs, ∀ b ∈ signs, ∀ c ∈ signs, ∀ d ∈ signs, sortedS [a, b, c, d] = true → [a, b, c, d] ∈ lefts := by decide +kernel
theorem left_room : ∀ ss ∈ lefts, (ss.map (·.length)).sum ≤ 1000 := by decide +kernel
theorem left_of {ss ss' : List PySem.Str} (hl : ss.length = 4) (h : ∀ x ∈ ss, isSign x) (hp : ss'.Perm ss) (hs : sortedS ss' = true) : ss' ∈ lefts := by
  obtain ⟨a, ha, b, hb, c, hc, d, hd, rfl⟩ := four (hp.length_eq.trans hl) fun x hx => h x (hp.mem_iff.mp hx)
  exact lefts_all a ha b hb c hc d hd hs
theorem CompEnd.grow {h₀ h' : Heap} {L I C D : Addr} {m : PySem.Str → Option Value} {s₁ : Shared} {oI oC oD : Obj} {S : List (Addr × Obj) → Prop} {rest : Value → List (Addr × Obj) → Prop} {y : Value} {tk : Nat} {q : Addr × Obj} {lit xs : List (Addr × Obj)}
    (F : Fr h₀ L h' m) (N : News h₀ L h' (q :: (I, oI) :: (C, oC) :: (D, oD) :: (lit ++ xs))) (d : ∀ p ∈ [q], ∀ r ∈ (I, oI) :: (C, oC) :: (D, oD) :: (lit ++ xs), r.1 ≠ p.1) (off : LCg.Off3 I C D (lit ++ xs)) (hS : S (lit ++ q :: xs)) (r : rest y (lit ++ q :: xs)) :
    LCg.CompEnd h₀ L m s₁ I oI C oC D oD S rest y { s₁ with heap := h', toks := tk } := by
  have d1 := d q (.head _)
  have om := off.mem
  refine LCg.CompEnd.intro F N _ (fun p hp => ?_) (LCg.Off3.of fun p hp => ?_) hS r
  · simp only [List.mem_cons, List.mem_append] at hp ⊢
    rcases hp with h | h | h | h | h | h <;> simp [h]
  · simp only [List.mem_cons, List.mem_append] at hp
    rcases hp with h | h | h
    · exact om p (List.mem_append_left _ h)
    · subst h
      exact ⟨fun e => d1 _ (.head _) e.symm, fun e => d1 _ (.tail _ (.head _)) e.symm, fun e => d1 _ (.tail _ (.tail _ (.head _))) e.symm⟩
    · exact om p (List.mem_append_right _ h)
abbrev rangeO (a b : Int) (t u v : Tok) : Obj := { cls := .type "range", data := .fields #[.int a t, .int b u, .int 1 v] }
theorem range2_K {prog : Program} {w : World} {A : Around} {E : Value → Shared → Prop} {s : Shared} {h₀ : Heap} {L : Addr} {m : PySem.Str → Option Value} {news : List (Addr × Obj)} {a b : Int} {t u : Tok} {Q : Value → Shared → Prop}
    (F : Fr h₀ L s.heap m) (N : News h₀ L s.heap news)
    (h : ∀ D h' v tk, Fr h₀ L h' m → News h₀ L h' ((D, rangeO a b t u v) :: news) → (∀ p ∈ news, p.1 < D) → Q (.ref D) { s with heap := h', toks := tk }) :
    wpAny (model prog w) A (call (.type "range") [.int a t, .int b u]) Q E s := by
  refine call_range_2 ?_
  refine h s.heap.objs.size _ s.toks _ (F.push _) (fun p hp => ?_) fun p hp => Heap.lt_size (N p hp).1
  rcases List.mem_cons.mp hp with rfl | hp
  · exact ⟨Heap.get?_push_size _ rfl, Nat.ne_of_gt F.ns.lt, next_is_new F⟩
  · exact ⟨Heap.get?_push_of_some _ (N p hp).1, (N p hp).2⟩
theorem ne_same {prog : Program} {w : World} {A : Around} {E : Value → Shared → Prop} {s : Shared} {h₀ : Heap} {L : Addr} {news : List (Addr × Obj)} {a b : Addr} {xs ys : List Value} {ka kb : Nat} {ds : List Dat} {Q : Value → Shared → Prop}
    (N : News h₀ L s.heap news) (ma : (a, W.listOf xs.toArray ka) ∈ news) (Da : DatAll news xs ds) (mb : (b, W.listOf ys.toArray kb) ∈ news) (Db : DatAll news ys ds) (ha : ∀ d ∈ ds, kqdOk 8 d = true) (hu : A.units + 64 < cLine) (h : Q (.bool false) s) :
    wpAny (model prog w) A (compareOp .NotEq (.ref a) (.ref b)) Q E s :=
  kqd_ne N ma rfl rfl Da (fun _ h => h) mb rfl rfl Db (fun _ h => h) ha ha hu (by simpa using h)
theorem eq_same {prog : Program} {w : World} {A : Around} {E : Value → Shared → Prop} {s : Shared} {h₀ : Heap} {L : Addr} {news : List (Addr × Obj)} {a b : Addr} {xs ys : List Value} {ka kb : Nat} {ds : List Dat} {Q : Value → Shared → Prop}
    (N : News h₀ L s.heap news) (ma : (a, W.listOf xs.toArray ka) ∈ news) (Da : DatAll news xs ds) (mb : (b, W.listOf ys.toArray kb) ∈ news) (Db : DatAll news ys ds) (ha : ∀ d ∈ ds, kqdOk 8 d = true) (hu : A.units + 64 < cLine) (h : Q (.bool true) s) :
    wpAny (model prog w) A (compareOp .Eq (.ref a) (.ref b)) Q E s :=
  kqd_eq N ma rfl rfl Da (fun _ h => h) mb rfl rfl Db (fun _ h => h) ha ha hu (by simpa using h)
theorem hueD_ok (W ac : Int) : kqdOk 8 (hueD W ac) = true := rfl
theorem News.rot {h₀ h : Heap} {L : Addr} {tl lit xs : List (Addr × Obj)} (N : News h₀ L h (tl ++ (lit ++ xs))) : News h₀ L h (lit ++ (xs ++ tl)) := fun p hp => N p (by
  simp only [List.mem_append] at hp ⊢
  rcases hp with h | h | h <;> simp [h])
theorem new_ne {q : Addr × Obj} {l : List (Addr × Obj)} (h : AllLt q.1 l) : ∀ p ∈ [q], ∀ r ∈ l, r.1 ≠ p.1 := fun p hp r hr => by
  rw [List.mem_singleton.mp hp]
  exact Nat.ne_of_lt (allLt_mem _ h r hr)
/-- what _law_rows asks of its rows -/
def RowsOk (left : PySem.Str) : Prop := left.length ≤ 100 ∧ ∀ i, (rowsN left i).length ≤ 1000 ∧ ∀ row ∈ rowsN left i, row.text.length ≤ 100 ∧ row.rest.length ≤ 100 ∧ (∀ a : Nat, a < row.rest.length → isSign (Txt.item row.rest (0 + (a : Int)))) ∧ row.accs ≠ [] ∧ row.accs.length ≤ 100
theorem Apart.more {as : List Addr} {xs tl lit : List (Addr × Obj)} (h : Apart as xs) (d : ∀ p ∈ tl, ∀ q ∈ lit, q.1 ≠ p.1) (m : ∀ a ∈ as, ∃ o, (a, o) ∈ lit) : Apart as (xs ++ tl) := fun p hp a ha => by
  rcases List.mem_append.mp hp with hp | hp
  · exact h p hp a ha
  · obtain ⟨o, ho⟩ := m a ha
    exact d p hp _ ho
theorem counts_all : ∀ ss ∈ lefts, (0 ≤ Txt.count (Txt.join (PySem.Str.ofString "") ss) (PySem.Str.ofString "a") ∧ Txt.count (Txt.join (PySem.Str.ofString "") ss) (PySem.Str.ofString "a") ≤ 4) ∧ (0 ≤ Txt.count (Txt.join (PySem.Str.ofString "") ss) (PySem.Str.ofString "b") ∧ Txt.count (Txt.join (PySem.Str.ofString "") ss) (PySem.Str.ofString "b") ≤ 4) ∧ (0 ≤ Txt.count (Txt.join (PySem.Str.ofString "") ss) (PySem.Str.ofString "c") ∧ Txt.count (Txt.join (PySem.Str.ofString "") ss) (PySem.Str.ofString "c") ≤ 4) ∧ Txt.count (Txt.join (PySem.Str.ofString "") ss) (PySem.Str.ofString "a") + 2 * Txt.count (Txt.join (PySem.Str.ofString "") ss) (PySem.Str.ofString "c") ≤ 8 := by decide +kernel
end Mine

namespace Mine
section
variable {prog : Program} {w : World} {A : Around} {E : Value → Shared → Prop} {s : Shared} {h₀ : Heap} {L : Addr} {m : PySem.Str → Option Value} {env : Env}
/-- what a comprehension over an ascii text asks -/
def SrcS (prog : Program) (w : World) (A : Around) (h₀ : Heap) (L : Addr) (m : PySem.Str → Option Value) (env : Env) (elt : Expr) (x : PySem.Str) (scope : Scope) (cl : List (PySem.Str × Addr)) (Fin : Shared → List Value → List (Addr × Obj) → Prop) (xv : Value) (s₁ : Shared) : Prop :=
  ∃ y t news, xv = .str y t ∧ Fr h₀ L s₁.heap m ∧ News h₀ L s₁.heap news ∧ y.cps.all (· < 128) = true ∧ y.cps.size ≤ sizeLine ∧
    ∀ s₂ : Shared, (∃ h, s₂ = { s₁ with heap := h }) → LCg.CompRest prog w A h₀ L m env elt x scope cl s₂ (fun _ => True) (SignAt y) (Fin s₂) y.cps.size 0 [] news
theorem SrcS.intro {elt : Expr} {x : PySem.Str} {scope : Scope} {cl : List (PySem.Str × Addr)} {Fin : Shared → List Value → List (Addr × Obj) → Prop} {y : PySem.Str} {t : Tok} {news : List (Addr × Obj)} {s₁ : Shared}
    (F : Fr h₀ L s₁.heap m) (N : News h₀ L s₁.heap news) (ha : y.cps.all (· < 128) = true) (hz : y.cps.size ≤ sizeLine)
    (h : ∀ g, LCg.CompRest prog w A h₀ L m env elt x scope cl { s₁ with heap := g } (fun _ => True) (SignAt y) (Fin { s₁ with heap := g }) y.cps.size 0 [] news) :
    SrcS prog w A h₀ L m env elt x scope cl Fin (.str y t) s₁ := ⟨y, t, news, rfl, F, N, ha, hz, fun _ ⟨g, e⟩ => e ▸ h g⟩
theorem ListComp_S {elt iter : Expr} {x : PySem.Str} {px : Pos} {scope : Scope} {cl : List (PySem.Str × Addr)} {pos : Pos} {Q : Value → Shared → Prop} (_F₀ : Fr h₀ L s.heap m) (hh : A.handled = none)
    (hclos : closureFor scope env = pure cl) (hcell : ∀ y ∈ scope.names, y.2 ≠ .cell) (hkind : scope.kind = .function)
    (hnames : ∀ y ∈ scope.names, y.2 = .local → scope.names.lookup y.1 = some .local) (hx : scope.names.lookup x = some .local)
    (h : wpAny (model prog w) A (eval iter env) (SrcS prog w A h₀ L m env elt x scope cl (fun s₂ => LCg.FinE h₀ L m s₂ Q)) E s)
    (hs : ∀ x, foldedSetIterable iter env x = pure x := by intro _; rfl) :
    wpAny (model prog w) A (eval (.ListComp elt [⟨.Name x px, iter, [], 0⟩] scope pos) env) Q E s := by
  rw [eval_ListComp]
  refine wpAny_comprehension_free (use := none) rfl hs hclos hkind hnames (wpAny_mono h (fun xv s₁ h₁ => ?_) fun _ _ e => e)
  obtain ⟨y, t, news, rfl, F, N, ha, hsz, R⟩ := h₁
  refine wpAny_pyIter_ascii ha ?_
  refine LCg.block_U (Walks.strAscii hh s₁.heap.objs.size y t) hsz (fun i h st => by obtain ⟨o, e, _⟩ := st; exact ⟨o, e⟩) (fun i h h' o nw st e e' _ _ _ => ?_) hcell hkind hx ⟨_, Heap.get?_push_size _ rfl, rfl, rfl⟩ (fun b hb => ?_)
    (F.keeps fun _ _ e => Heap.get?_push_of_some _ e) (N.grown fun _ _ e => Heap.get?_push_of_some _ e) (Nat.ne_of_lt F.ns.lt) (next_is_new F) (fun p hp => Nat.ne_of_lt (Heap.lt_size (N p hp).1)) trivial (R _ ⟨_, rfl⟩) ?_
  · obtain ⟨o', e1, r⟩ := st
    rw [e] at e1; cases e1
    exact ⟨o, e', r⟩
  · rw [List.mem_singleton.mp hb]
    show s₁.heap.objs.size < (s₁.heap.push _).objs.size
    rw [Heap.size_push]; exact Nat.lt_succ_self _
  · intro D C h tk m' ys news' F' N' o1 hn hC₀ hD₀ hCL hDL hCD offC fin
    refine ⟨m', hn, fun h'' hs'' => fin D h'' tk (F'.change hs'' hCL hC₀) (fun p hp => ?_) o1⟩
    refine ⟨hs''.extBut _ _ ?_ (N' p hp).1, (N' p hp).2⟩
    rcases List.mem_cons.mp hp with rfl | hp
    · exact Ne.symm hCD
    · exact offC p hp
theorem dat_last {value slice : PySem.Expr} {l : Addr} {vs : List Value} {n : Nat} {ds : List Dat} {nw : List (Addr × Obj)} {u : Tok} {Q : Value → Shared → Prop}
    (N : News h₀ L s.heap nw) (hm : (l, W.listOf vs.toArray n) ∈ nw) (hd : DatAll nw vs ds) (hne : ds ≠ []) (hz : ds.length ≤ 1000) (h : ∀ v, DatIn nw v (ds.getLast hne) → Q v s)
    (hs : subscripted slice false (.ref l) (.int (-1) u) = operate [.ref l, .int (-1) u] (getItem (.ref l) (.int (-1) u)) := by with_unfolding_all rfl) (hg : ∀ r, letTemporaryGo value (.ref l) r = pure () := by intro _; with_unfolding_all rfl) :
    wpAny (model prog w) A (subscriptTail value slice (.ref l) (.int (-1) u)) Q E s := by
  have hl : s.heap.IsList l vs.toArray := ⟨_, N.get hm, rfl, _, rfl⟩
  have hlen := hd.length
  have hpos := List.length_pos_iff.mpr hne
  have hlt : ds.length - 1 < ds.length := by omega
  obtain ⟨v, hx, hv⟩ := hd.get hlt
  rw [← List.getLast_eq_getElem hne] at hv
  refine subscriptTail_builtin hl.typeIs slot_list_getitem.lookup (wpAny_getItem_list_neg hl (by decide) (by rw [List.size_toArray]; omega) (by decide) ?_ (h v hv)) hs hg
  have e2 : ((-1 : Int) + (vs.toArray.size : Int)).toNat = ds.length - 1 := by rw [List.size_toArray]; omega
  rw [e2]
  simpa using hx
theorem dat_item {value slice : PySem.Expr} {l : Addr} {vs : List Value} {n : Nat} {ds : List Dat} {nw : List (Addr × Obj)} {k : Int} {u : Tok} {Q : Value → Shared → Prop}
    (N : News h₀ L s.heap nw) (hm : (l, W.listOf vs.toArray n) ∈ nw) (hd : DatAll nw vs ds) (h0 : 0 ≤ k) (hk : k.toNat < ds.length) (hz : ds.length ≤ 1000) (h : ∀ v, DatIn nw v (ds[k.toNat]'hk) → Q v s)
    (hs : subscripted slice false (.ref l) (.int k u) = operate [.ref l, .int k u] (getItem (.ref l) (.int k u)) := by with_unfolding_all rfl) (hg : ∀ r, letTemporaryGo value (.ref l) r = pure () := by intro _; with_unfolding_all rfl) :
    wpAny (model prog w) A (subscriptTail value slice (.ref l) (.int k u)) Q E s := by
  have hl : s.heap.IsList l vs.toArray := ⟨_, N.get hm, rfl, _, rfl⟩
  obtain ⟨v, hx, hv⟩ := hd.get hk
  exact subscriptTail_builtin hl.typeIs slot_list_getitem.lookup (wpAny_getItem_list hl h0 (by omega) (by simpa using hx) (h v hv)) hs hg
end
theorem bytes_snoc (bs : List (Array UInt8 × Tok)) (b : Array UInt8) (t : Tok) : bytesV bs ++ [.bytes b t] = bytesV (bs ++ [(b, t)]) := by
  rw [bytesV, bytesV, List.map_append]; rfl
def lastRow (left : PySem.Str) : RowD := ((rowsN left left.length).getLast?).getD ⟨st "", [], st ""⟩
def piecesOf (x : PySem.Str) : List (Array UInt8) := x.cps.toList.map fun c => pieceB ⟨#[c]⟩
/-- what the last row's text must answer -/
def LastOk (left : PySem.Str) : Prop := rowsN left left.length ≠ [] ∧ (lastRow left).text.cps.all (· < 128) = true ∧ (lastRow left).text.cps.size = 4 ∧ (∀ c ∈ (lastRow left).text.cps.toList, isSign ⟨#[c]⟩) ∧
  ((piecesOf (lastRow left).text).map (·.size)).sum ≤ 1000 ∧ pdF (Builtin.Bytes.joined #[] (piecesOf (lastRow left).text)) = some (Txt.count left (PySem.Str.ofString "a") - Txt.count left (PySem.Str.ofString "b") + 2 * Txt.count left (PySem.Str.ofString "c"))
theorem last_dat {left : PySem.Str} (h : rowsN left left.length ≠ []) (h' : (rowsN left left.length).map rowDat ≠ []) : ((rowsN left left.length).map rowDat).getLast h' = rowDat (lastRow left) := by
  rw [List.getLast_map, lastRow, List.getLast?_eq_some_getLast h, Option.getD_some]
end Mine

namespace Mine
/-- a sort's questions answered by a pure order -/
def ktRun {α : Type} (c : Nat → Nat → Option Bool) : KasT α → Option α
  | .ret a => some a
  | .ask i j k => match c i j with
    | none => none
    | some b => ktRun c (k b)
theorem ktRun_wp {α : Type} {cmp : Nat → Nat → (Bool → Shared → Prop) → Shared → Prop} {c : Nat → Nat → Option Bool} {s : Shared} (hc : ∀ i j b C, c i j = some b → C b s → cmp i j C s) :
    ∀ (t : KasT α) {a : α} {Q : α → Shared → Prop}, ktRun c t = some a → Q a s → t.kasWp cmp Q s
  | .ret a, _, _, h, q => by cases h; exact q
  | .ask i j k, a, Q, h, q => by
    unfold ktRun at h
    cases e : c i j with
    | none => rw [e] at h; cases h
    | some b =>
      rw [e] at h
      exact hc i j b _ e (ktRun_wp hc (k b) h q)
def pairD (p : Int × Int) : Dat := .tuple [.int p.1, .int p.2]
def pairLt (p q : Int × Int) : Bool := if p.1 == q.1 then (if p.2 == q.2 then false else decide (p.2 < q.2)) else decide (p.1 < q.1)
def pairC (ps : List (Int × Int)) (i j : Nat) : Option Bool := match ps[i]?, ps[j]? with
  | some p, some q => some (pairLt p q)
  | _, _ => none
def strC (ss : List PySem.Str) (i j : Nat) : Option Bool := match ss[i]?, ss[j]? with
  | some p, some q => some (decide (p.cps.toList < q.cps.toList))
  | _, _ => none
section
variable {prog : Program} {w : World} {A : Around} {E : Value → Shared → Prop} {s : Shared} {h₀ : Heap} {L : Addr} {m : PySem.Str → Option Value} {news : List (Addr × Obj)}
theorem pair_in {v : Value} {p : Int × Int} (h : DatIn news v (pairD p)) : ∃ a n t u, v = .ref a ∧ (a, ({ cls := .type "tuple", data := .seq #[.int p.1 t, .int p.2 u] n } : Obj)) ∈ news := by
  unfold pairD at h
  cases h with
  | @tuple a vs n ds hm hw =>
    cases hw with
    | cons h1 hw =>
    cases hw with
    | cons h2 hw =>
    cases hw
    cases h1
    cases h2
    exact ⟨a, n, _, _, rfl, hm⟩
theorem getD_of {vs : List Value} {i : Nat} {v : Value} (h : vs[i]? = some v) : vs.getD i Value.none = v := by
  rw [List.getD_eq_getElem?_getD, h]; rfl
theorem pair_ask {vs : List Value} {ps : List (Int × Int)} {i j : Nat} {b : Bool} {C : Bool → Shared → Prop} (N : News h₀ L s.heap news) (hd : DatAll news vs (ps.map pairD)) (e : pairC ps i j = some b) (h : C b s) :
    kas_ask prog w A (tuples' true) vs i j C s := by
  unfold pairC at e
  cases hp : ps[i]? with
  | none => rw [hp] at e; simp at e
  | some p =>
    cases hq : ps[j]? with
    | none => rw [hp, hq] at e; simp at e
    | some q =>
      rw [hp, hq] at e
      cases e
      have hi := (List.getElem?_eq_some_iff.mp hp).1
      have hj := (List.getElem?_eq_some_iff.mp hq).1
      obtain ⟨v, hv, dv⟩ := hd.get (k := i) (by rw [List.length_map]; exact hi)
      obtain ⟨u, hu, du⟩ := hd.get (k := j) (by rw [List.length_map]; exact hj)
      rw [List.getElem_map, (List.getElem?_eq_some_iff.mp hp).2] at dv
      rw [List.getElem_map, (List.getElem?_eq_some_iff.mp hq).2] at du
      obtain ⟨a, n, t1, t2, rfl, ma⟩ := pair_in dv
      obtain ⟨c, k, t3, t4, rfl, mc⟩ := pair_in du
      unfold kas_ask
      rw [getD_of hv, getD_of hu]
      refine kat_lt (N.get ma) rfl (N.get mc) rfl ?_
      show KatLex prog w A true false C [(Value.int p.1 t1, Value.int q.1 t3), (Value.int p.2 t2, Value.int q.2 t4)] 0 s
      unfold pairLt at h
      refine kat_cons (wpAny_eqBool_int ?_)
      cases e1 : (p.1 == q.1) with
      | true =>
        rw [e1, if_pos rfl] at h
        refine kat_yes (kat_cons (wpAny_eqBool_int ?_))
        cases e2 : (p.2 == q.2) with
        | true =>
          rw [e2, if_pos rfl] at h
          exact kat_yes (kat_nil h)
        | false =>
          rw [e2, if_neg Bool.false_ne_true] at h
          exact kat_no (kat_one _ _ (wpAny_lt_int (by exact h)))
      | false =>
        rw [e1, if_neg Bool.false_ne_true] at h
        exact kat_no (oneLt_int h)
theorem pair_tups : ∀ {vs : List Value} {ps : List (Int × Int)}, DatAll news vs (ps.map pairD) → News h₀ L s.heap news → ∃ fs : List Value, fs.length = ps.length ∧ (∀ v ∈ fs, ∃ n t, v = .int n t) ∧ KatTups s.heap vs fs
  | [], [], _, _ => ⟨[], rfl, fun _ h => (nomatch h), KatTups.nil⟩
  | [], _ :: _, h, _ => nomatch h
  | _ :: _, [], h, _ => nomatch h
  | v :: vs, p :: ps, .cons h r, N => by
    obtain ⟨fs, h1, h2, h3⟩ := pair_tups r N
    obtain ⟨a, n, t, u, rfl, hm⟩ := pair_in h
    exact ⟨.int p.1 t :: fs, by simp [h1], List.forall_mem_cons.mpr ⟨⟨_, _, rfl⟩, h2⟩, KatTups.cons (N.get hm) rfl rfl rfl h3⟩
theorem sorted_T {l : Addr} {vs : List Value} {n : Nat} {ps : List (Int × Int)} {p : Array Nat} {Q : Value → Shared → Prop} (F : Fr h₀ L s.heap m) (N : News h₀ L s.heap news) (hm : (l, W.listOf vs.toArray n) ∈ news) (hd : DatAll news vs (ps.map pairD))
    (h2 : 2 ≤ ps.length) (h64 : ps.length < 64) (hr : ktRun (pairC ps) (kas_sort ps.length) = some p)
    (h : ∀ D h' c, Fr h₀ L h' m → News h₀ L h' ((D, W.listOf (List.toArray (p.toList.map fun i => vs.getD i Value.none)) c) :: news) → (∀ q ∈ news, q.1 < D) → Q (.ref D) { s with heap := h' }) :
    wpAny (model prog w) A (call (.builtin "sorted") [.ref l]) Q E s := by
  have hlen : vs.length = ps.length := by rw [hd.length, List.length_map]
  refine kat_sorted F N ⟨_, N.get hm, rfl, _, rfl⟩ (by omega) (by omega) fun D e1 h' F' N' l1 => ?_
  have N2 : News h₀ L h' news := fun q hq => N' q (.tail _ hq)
  obtain ⟨fs, hf1, hf2, hf3⟩ := pair_tups (s := { s with heap := h' }) hd N2
  refine kat_kind (T := .type "int") hf3 (by omega) (fun v hv => ?_) (by decide) ?_
  · obtain ⟨n, t, rfl⟩ := hf2 v hv
    exact Looks.of_pure rfl
  · rw [hlen]
    show (kas_sort ps.length).kasWp (kas_ask prog w A.in1.in1 (tuples' true) vs) _ _
    refine ktRun_wp (c := pairC ps) (fun i j b C e q => pair_ask (s := { s with heap := h' }) N2 hd e q) _ hr ?_
    refine KasFin.intro F' N' (UpdF.head fun q hq => Nat.ne_of_lt (l1 q hq)) fun h'' c F'' N'' => ?_
    exact h D h'' c F'' N'' l1
end
end Mine

namespace Mine
def M2 (M0 : PySem.Str → Option Value) (o1 o2 : Option Value) : PySem.Str → Option Value := fun y => if y = st "order" then o2 else if y = st "rest" then o1 else M0 y
theorem m2_start {M0 : PySem.Str → Option Value} (h1 : M0 (st "order") = none) (h2 : M0 (st "rest") = none) : M0 = M2 M0 none none := by
  funext y
  unfold M2
  by_cases g1 : y = st "order"
  · rw [g1, h1, if_pos rfl]
  · rw [if_neg g1]
    by_cases g2 : y = st "rest"
    · rw [g2, h2, if_pos rfl]
    · rw [if_neg g2]
theorem m2_turn {M0 : PySem.Str → Option Value} {o1 o2 : Option Value} {a b : Value} : (fun z => if z = st "order" then some b else if z = st "rest" then some a else M2 M0 o1 o2 z) = M2 M0 (some a) (some b) := by
  funext y
  unfold M2
  by_cases g1 : y = st "order"
  · rw [if_pos g1, if_pos g1]
  · simp only [g1, if_false]
    by_cases g2 : y = st "rest"
    · simp only [g2, if_true]
    · simp only [g1, g2, if_false]
theorem named18 {h₀ h : Heap} {L : Addr} {a1 a2 a3 a4 a5 a6 a7 a8 a9 a10 a11 a12 a13 a14 a15 a16 a17 a18 : Addr} {o1 o2 o3 o4 o5 o6 o7 o8 o9 o10 o11 o12 o13 o14 o15 o16 o17 o18 : Obj} {us : List (Addr × Obj)}
    (N : News h₀ L h ((a1, o1) :: (a2, o2) :: (a3, o3) :: (a4, o4) :: (a5, o5) :: (a6, o6) :: (a7, o7) :: (a8, o8) :: (a9, o9) :: (a10, o10) :: (a11, o11) :: (a12, o12) :: (a13, o13) :: (a14, o14) :: (a15, o15) :: (a16, o16) :: (a17, o17) :: (a18, o18) :: us)) :
    ∃ sw hd oS oA oT oH oL, sw = a1 ∧ hd = a4 ∧ oS = o9 ∧ oA = o10 ∧ oT = o11 ∧ oH = o12 ∧ oL = o13 ∧ News h₀ L h ((sw, o1) :: (hd, o4) :: (a9, oS) :: (a10, oA) :: (a11, oT) :: (a12, oH) :: (a13, oL) :: us) := by
  refine ⟨_, _, _, _, _, _, _, rfl, rfl, rfl, rfl, rfl, rfl, rfl, fun p hp => N p ?_⟩
  simp only [List.mem_cons] at hp ⊢
  rcases hp with h | h | h | h | h | h | h | h <;> simp [h]
def J4 (M0 : PySem.Str → Option Value) (sw hd a9 a10 a11 a12 a13 : Addr) (ys3 : List Value) (oS oH oL : Obj) (us : List (Addr × Obj)) (swept : List PySem.Str) (i : Nat) (m : PySem.Str → Option Value) (nw : List (Addr × Obj)) : Prop :=
  ∃ ys k oA oT x y o1 o2, m = M2 M0 o1 o2 ∧ nw = (sw, W.listOf (List.toArray ys) k) :: (hd, LCg.lst ys3) :: (a9, oS) :: (a10, oA) :: (a11, oT) :: (a12, oH) :: (a13, oL) :: us ∧ oA.data = .cell x ∧ oT.data = .cell y ∧ StrsAre ys (swept.take i)
theorem J4.mem {M0 : PySem.Str → Option Value} {sw hd a9 a10 a11 a12 a13 : Addr} {ys3 : List Value} {oS oH oL : Obj} {us : List (Addr × Obj)} {swept : List PySem.Str} {i : Nat} {m : PySem.Str → Option Value} {nw : List (Addr × Obj)} {p : Addr × Obj}
    (h : J4 M0 sw hd a9 a10 a11 a12 a13 ys3 oS oH oL us swept i m nw) (hp : p ∈ us) : p ∈ nw := by
  obtain ⟨_, _, _, _, _, _, _, _, _, rfl, _⟩ := h
  simp [hp]
theorem apart6 {sw a9 a10 a11 a12 a13 x1 x2 x3 x4 x5 : Addr} {us : List (Addr × Obj)} (h1 : AllLt sw us) (h2 : Apart [x1, x2, x3, x4, x5, a13, a12, a11, a10, a9] us) : Apart [sw, a9, a10, a11, a12, a13] us := fun p hp a ha => by
  simp only [List.mem_cons, List.not_mem_nil, or_false] at ha
  rcases ha with rfl | rfl | rfl | rfl | rfl | rfl
  · exact fun e => Nat.ne_of_lt (allLt_mem us h1 p hp) e.symm
  all_goals exact h2 p hp _ (by simp only [List.mem_cons, true_or, or_true])
def accZ (x : PySem.Str) (k : Nat) : Int := Txt.count (Txt.slice x none (some (0 + (k : Int)))) (st "a") - Txt.count (Txt.slice x none (some (0 + (k : Int)))) (st "b") + 2 * Txt.count (Txt.slice x none (some (0 + (k : Int)))) (st "c")
def hueZ (W ac : Int) : Int := (ac * (1 + (W.fdiv 7).fmod 8)).fmod (2 + (W + 3).fmod 7)
def rowPairs (W : Int) (row : RowD) : List (Int × Int) := (List.range 4).map fun k : Nat => (-hueZ W (row.accs.getD (k + 1) 0), -(0 + (k : Int)))
def rowPerm (W : Int) (row : RowD) : Array Nat := (ktRun (pairC (rowPairs W row)) (kas_sort 4)).getD #[]
def sweepT (W : Int) (row : RowD) : PySem.Str := Txt.join (st "") ((rowPerm W row).toList.map fun i : Nat => Txt.item row.text (i : Int))
def sweptN (W : Int) (left : PySem.Str) : List PySem.Str := (rowsN left left.length).map (sweepT W)
end Mine

namespace Mine
section
variable {prog : Program} {w : World} {A : Around} {E : Value → Shared → Prop} {s : Shared} {h₀ : Heap} {L : Addr} {m : PySem.Str → Option Value} {env : Env}
theorem int_item {value slice : PySem.Expr} {l : Addr} {vs : List Value} {n : Nat} {ns : List Int} {nw : List (Addr × Obj)} {k z : Int} {u : Tok} {Q : Value → Shared → Prop}
    (N : News h₀ L s.heap nw) (hm : (l, W.listOf vs.toArray n) ∈ nw) (hi : IntsAre vs ns) (h0 : 0 ≤ k) (hk : ns[k.toNat]? = some z) (hz : ns.length ≤ 1000) (h : ∀ t, Q (.int z t) s)
    (hs : subscripted slice false (.ref l) (.int k u) = operate [.ref l, .int k u] (getItem (.ref l) (.int k u)) := by with_unfolding_all rfl) :
    wpAny (model prog w) A (subscriptTail value slice (.ref l) (.int k u)) Q E s := by
  have hl : s.heap.IsList l vs.toArray := ⟨_, N.get hm, rfl, _, rfl⟩
  obtain ⟨t, hx⟩ := hi.get k.toNat z hk
  have hlt := (List.getElem?_eq_some_iff.mp hk).1
  exact tail_any hl.typeIs slot_list_getitem.lookup (wpAny_getItem_list hl h0 (by omega) (by simpa using hx) (h t)) hs
theorem comp_restP {n : Nat} {elt : Expr} {x x₂ : PySem.Str} {scope : Scope} {cl : List (PySem.Str × Addr)} {S : List (Addr × Obj) → Prop} {P : Nat → Value → Prop} {Fin : List Value → List (Addr × Obj) → Prop} {news : List (Addr × Obj)} (J : Nat → List Value → Prop) (h0 : J 0 [])
    (src : ∀ i v, i < n → P i v → ∃ (t : Addr) (v₁ v₂ : Value) (nt : Nat), v = .ref t ∧ (t, ({ cls := .type "tuple", data := .seq #[v₁, v₂] nt } : Obj)) ∈ news ∧
      ∀ ys I oI C oC D m₂ h tk (E' : Value → Shared → Prop), J i ys → LCg.NsObj oC m₂ → m₂ x = some v₁ → m₂ x₂ = some v₂ → Fr h₀ L h m → News h₀ L h ((I, oI) :: (C, oC) :: (D, LCg.lst ys) :: news) → LCg.Off3 I C D news → ((@Ne Nat I C) ∧ (@Ne Nat I D) ∧ (@Ne Nat C D)) →
      wpAny (model prog w) A (eval elt (compEnvC scope cl C env)) (LCg.CompEnd h₀ L m { s with heap := h, toks := tk } I oI C oC D (LCg.lst ys) S (fun y nw' => nw' = news ∧ J (i + 1) (ys ++ [y]))) E' { s with heap := h, toks := tk })
    (fin : ∀ ys, J n ys → Fin ys news) : LCp.CompRestP prog w A h₀ L m env elt x x₂ scope cl s S P Fin n 0 [] news := by
  have key : ∀ (j i : Nat) (ys : List Value), i + j = n → J i ys → LCp.CompRestP prog w A h₀ L m env elt x x₂ scope cl s S P Fin j i ys news := by
    intro j
    induction j with
    | zero =>
      intro i ys hi hJ
      have e : i = n := by omega
      subst e
      exact LCp.CompRestP.zero (fin ys hJ)
    | succ j ih =>
      intro i ys hi hJ
      refine LCp.CompRestP.succ fun v hv => ?_
      obtain ⟨t, v₁, v₂, nt, rfl, hm, turn⟩ := src i v (by omega) hv
      refine ⟨t, _, v₁, v₂, nt, rfl, hm, rfl, rfl, fun I oI C oC D m₂ h tk E' hC hx hx2 F N off ne => ?_⟩
      refine wpAny_mono (turn ys I oI C oC D m₂ h tk E' hJ hC hx hx2 F N off ne) (fun y s₂ hq => ?_) fun _ _ e => e
      obtain ⟨h', tk', nw', e, F', N', off', hS, rfl, hJ'⟩ := hq
      exact ⟨h', tk', _, e, F', N', off', hS, ih (i + 1) _ (by omega) hJ'⟩
  exact key n 0 [] (by omega) h0
end
theorem hue_in {nw : List (Addr × Obj)} {v : Value} {W ac : Int} (h : DatIn nw v (hueD W ac)) : ∃ a n t u, v = .ref a ∧ (a, PySem.W.listOf [Value.int (hueZ W ac) t, Value.int (2 * W.fmod 4 + 4) u].toArray n) ∈ nw := by
  unfold hueD at h
  cases h with
  | @list a vs n ds hm hw =>
    cases hw with
    | cons h1 hw =>
    cases hw with
    | cons h2 hw =>
    cases hw
    cases h1
    cases h2
    exact ⟨a, n, _, _, rfl, hm⟩
theorem hue_at {W least : Int} {n : Nat} {k : Int} (h0 : 0 ≤ k) (hk : k.toNat < ((List.range n).map fun j : Nat => hueD W (least + (j : Int))).length) : ((List.range n).map fun j : Nat => hueD W (least + (j : Int)))[k.toNat] = hueD W (least + k) := by
  rw [List.getElem_map, List.getElem_range, Int.toNat_of_nonneg h0]
theorem mem11 {x1 x2 x3 x4 x5 x6 x7 x8 x9 x10 x11 : Addr × Obj} {us xs : List (Addr × Obj)} (h : ∀ p ∈ us, p ∈ xs) : ∀ q ∈ us, q ∈ x1 :: x2 :: x3 :: x4 :: x5 :: x6 :: x7 :: x8 :: x9 :: x10 :: x11 :: xs := fun q hq =>
  .tail _ (.tail _ (.tail _ (.tail _ (.tail _ (.tail _ (.tail _ (.tail _ (.tail _ (.tail _ (.tail _ (h q hq)))))))))))
theorem dat_itemU {prog : Program} {w : World} {A : Around} {E : Value → Shared → Prop} {s : Shared} {h₀ : Heap} {L : Addr} {value slice : PySem.Expr} {l : Addr} {vs : List Value} {n : Nat} {ds : List Dat} {us nw : List (Addr × Obj)} {k : Int} {u : Tok} {Q : Value → Shared → Prop}
    (N : News h₀ L s.heap nw) (hm : (l, W.listOf vs.toArray n) ∈ nw) (hd : DatAll us vs ds) (h0 : 0 ≤ k) (hk : k.toNat < ds.length) (hz : ds.length ≤ 1000) (h : ∀ v, DatIn us v (ds[k.toNat]'hk) → Q v s)
    (hs : subscripted slice false (.ref l) (.int k u) = operate [.ref l, .int k u] (getItem (.ref l) (.int k u)) := by with_unfolding_all rfl) (hg : ∀ r, letTemporaryGo value (.ref l) r = pure () := by intro _; with_unfolding_all rfl) :
    wpAny (model prog w) A (subscriptTail value slice (.ref l) (.int k u)) Q E s := by
  have hl : s.heap.IsList l vs.toArray := ⟨_, N.get hm, rfl, _, rfl⟩
  obtain ⟨v, hx, hv⟩ := hd.get hk
  exact subscriptTail_builtin hl.typeIs slot_list_getitem.lookup (wpAny_getItem_list hl h0 (by omega) (by simpa using hx) (h v hv)) hs hg
/-- what a row must answer -/
structure RowOk (left : PySem.Str) (W : Int) (row : RowD) : Prop where
  len : row.text.length = 4
  accs : row.accs = (List.range 5).map (accZ row.text)
  lo : ∀ k : Nat, k < 4 → 0 ≤ row.accs.getD (k + 1) 0 - -Txt.count left (PySem.Str.ofString "b") ∧ row.accs.getD (k + 1) 0 - -Txt.count left (PySem.Str.ofString "b") < Txt.count left (PySem.Str.ofString "a") + 2 * Txt.count left (PySem.Str.ofString "c") + 1 - -Txt.count left (PySem.Str.ofString "b")
  run : ktRun (pairC (rowPairs W row)) (kas_sort 4) = some (rowPerm W row)
  perm : (rowPerm W row).toList.length = 4 ∧ ∀ i ∈ (rowPerm W row).toList, i < 4
  room : (((rowPerm W row).toList.map fun i : Nat => Txt.item row.text (i : Int)).map (·.length)).sum ≤ 1000
theorem accs_get {row : RowD} {k : Nat} (h : row.accs = (List.range 5).map (accZ row.text)) (hk : k < 5) : row.accs[k]? = some (row.accs.getD k 0) := by
  have hl : row.accs.length = 5 := by rw [h, List.length_map, List.length_range]
  rw [List.getD_eq_getElem?_getD, List.getElem?_eq_getElem (by omega)]; rfl
theorem perm_get {W : Int} {row : RowD} {vs : List Value} {nw : List (Addr × Obj)} (hd : DatAll nw vs ((rowPairs W row).map pairD)) {p : List Nat} (hp : ∀ i ∈ p, i < 4) {i : Nat} {v : Value} (h : (List.toArray (p.map fun i => vs.getD i Value.none))[i]? = some v) :
    ∃ k a n t u, p[i]? = some k ∧ k < 4 ∧ v = .ref a ∧ (a, ({ cls := .type "tuple", data := .seq #[.int (-hueZ W (row.accs.getD (k + 1) 0)) t, .int (-(0 + (k : Int))) u] n } : Obj)) ∈ nw := by
  rw [List.getElem?_toArray, List.getElem?_map] at h
  cases e : p[i]? with
  | none => rw [e] at h; cases h
  | some k =>
    rw [e] at h
    have hk := hp k (List.mem_of_getElem? e)
    have hl : (rowPairs W row).length = 4 := by unfold rowPairs; rw [List.length_map, List.length_range]
    obtain ⟨v', hv', dv⟩ := hd.get (k := k) (by rw [List.length_map]; omega)
    have h' : vs.getD k Value.none = v := Option.some.inj h
    rw [getD_of hv'] at h'
    subst h'
    rw [List.getElem_map] at dv
    obtain ⟨a, n, t, u, rfl, hm⟩ := pair_in dv
    unfold rowPairs at hm
    rw [List.getElem_map, List.getElem_range] at hm
    exact ⟨k, a, n, t, u, rfl, hk, rfl, hm⟩
theorem mem9 {x1 x2 x3 x4 x5 x6 x7 x8 x9 : Addr × Obj} {xs : List (Addr × Obj)} : ∀ q ∈ xs, q ∈ x1 :: x2 :: x3 :: x4 :: x5 :: x6 :: x7 :: x8 :: x9 :: xs := fun q hq =>
  .tail _ (.tail _ (.tail _ (.tail _ (.tail _ (.tail _ (.tail _ (.tail _ (.tail _ hq))))))))
theorem drop2 {h₀ h : Heap} {L : Addr} {a b : Addr × Obj} {r : List (Addr × Obj)} (N : News h₀ L h (a :: b :: r)) : News h₀ L h (a :: r) := News.skip N
theorem shrink {h₀ h : Heap} {L : Addr} {a b x1 x2 x3 x4 x5 x6 x7 x8 : Addr × Obj} {us xs : List (Addr × Obj)} (N : News h₀ L h (a :: b :: x1 :: x2 :: x3 :: x4 :: x5 :: x6 :: x7 :: x8 :: xs)) (hu : ∀ p ∈ us, p ∈ xs) : News h₀ L h (a :: x1 :: x2 :: x3 :: x4 :: x5 :: x6 :: x7 :: x8 :: us) := fun p hp => N p (by
  simp only [List.mem_cons] at hp ⊢
  rcases hp with h | h | h | h | h | h | h | h | h | h <;> first | simp [h] | simp [hu p h])
theorem text_snoc {ys : List Value} {text : PySem.Str} {pm : List Nat} {i q : Nat} {t : Tok} (h : StrsAre ys ((pm.take i).map fun k : Nat => Txt.item text (k : Int))) (hq : pm[i]? = some q) : StrsAre (ys ++ [.str (Txt.item text (- -(0 + (q : Int)))) t]) ((pm.take (i + 1)).map fun k : Nat => Txt.item text (k : Int)) := by
  rw [List.take_add_one, hq, List.map_append, show - -(0 + (q : Int)) = q by omega]
  exact strs_snoc h
theorem Apart.ne {as : List Addr} {xs : List (Addr × Obj)} {a : Addr} (h : Apart as xs) (m : a ∈ as) : ∀ p ∈ xs, p.1 ≠ a := fun p hp => Ne.symm (h p hp a m)
theorem turn4 {h₀ h' : Heap} {L I sw hd a9 a10 a11 a12 a13 : Addr} {oI oS oA oT oA0 oT0 oH oL : Obj} {q : Addr × Obj} {M0 m : PySem.Str → Option Value} {o1 o2 x y : Option Value} {ys3 ys : List Value} {us : List (Addr × Obj)} {swept : List PySem.Str} {i k tk : Nat} {T : PySem.Str} {t : Tok} {s₁ : Shared}
    (F : Fr h₀ L h' m) (hm : m = M2 M0 o1 o2) (N : News h₀ L h' (q :: (I, oI) :: (sw, W.listOf ((List.toArray ys).push (.str T t)) (k + 1)) :: (hd, LCg.lst ys3) :: (a9, oS) :: (a10, oA) :: (a11, oT) :: (a12, oH) :: (a13, oL) :: us))
    (off : ∀ p ∈ (sw, W.listOf (List.toArray ys) k) :: (hd, LCg.lst ys3) :: (a9, oS) :: (a10, oA0) :: (a11, oT0) :: (a12, oH) :: (a13, oL) :: us, p.1 ≠ I) (hA : oA.data = .cell x) (hT : oT.data = .cell y) (hys : StrsAre ys (swept.take i)) (hs : swept[i]? = some T) :
    TurnEnd h₀ L I oI (J4 M0 sw hd a9 a10 a11 a12 a13 ys3 oS oH oL us swept (i + 1)) s₁ .next { s₁ with heap := h', toks := tk } := by
  rw [List.push_toArray] at N
  have N2 := News.drop N
  simp only [List.forall_mem_cons] at off
  obtain ⟨f1, f2, f3, f4, f5, f6, f7, f8⟩ := off
  refine TurnEnd.intro _ ((sw, W.listOf (List.toArray (ys ++ [.str T t])) (k + 1)) :: (hd, LCg.lst ys3) :: (a9, oS) :: (a10, oA) :: (a11, oT) :: (a12, oH) :: (a13, oL) :: us) F N2 (.head _) (fun p hp => .tail _ hp) ?_ ⟨ys ++ [.str T t], k + 1, oA, oT, x, y, o1, o2, hm, rfl, hA, hT, ?_⟩
  · simp only [List.forall_mem_cons]
    exact ⟨f1, f2, f3, f4, f5, f6, f7, f8⟩
  · rw [List.take_add_one, hs]
    exact strs_snoc hys
theorem pairs_len (W : Int) (row : RowD) : (rowPairs W row).length = 4 := by unfold rowPairs; rw [List.length_map, List.length_range]
theorem pairs_get {W : Int} {row : RowD} {j : Nat} (hj : j < 4) : (rowPairs W row)[j]? = some (-hueZ W (row.accs.getD (j + 1) 0), -(0 + (j : Int))) := by
  unfold rowPairs
  rw [List.getElem?_map, List.getElem?_range hj]; rfl
theorem pairs_snoc {W : Int} {row : RowD} {j : Nat} (hj : j < 4) : ((rowPairs W row).take (j + 1)).map pairD = ((rowPairs W row).take j).map pairD ++ [pairD (-hueZ W (row.accs.getD (j + 1) 0), -(0 + (j : Int)))] := by
  rw [List.take_add_one, pairs_get hj, List.map_append]; rfl
end Mine

namespace Mine
section
variable {prog : Program} {w : World} {A : Around} {E : Value → Shared → Prop} {s : Shared} {h₀ : Heap} {L a kS : Addr} {m : PySem.Str → Option Value} {news : List (Addr × Obj)} {vs : List Value}
theorem str_ask {ss : List PySem.Str} {i j : Nat} {b : Bool} {C : Bool → Shared → Prop} (hS : StrsAre vs ss) (e : strC ss i j = some b) (h : C b s) : kas_ask prog w A oneType' vs i j C s := by
  unfold strC at e
  cases hp : ss[i]? with
  | none => rw [hp] at e; simp at e
  | some p =>
    cases hq : ss[j]? with
    | none => rw [hp, hq] at e; simp at e
    | some q =>
      rw [hp, hq] at e
      cases e
      obtain ⟨t, hv⟩ := StrsAre.get hS i p hp
      obtain ⟨u, hu⟩ := StrsAre.get hS j q hq
      unfold kas_ask
      rw [getD_of hv, getD_of hu]
      exact kas_lt_str h
/-- the end of a sort by a key that is the item itself -/
theorem xs_end {ss : List PySem.Str} {p : Array Nat} {e e1 : Nat} {P : PySem.Fin → Shared → Prop} (hS : StrsAre vs ss) (h1 : 1 ≤ ss.length) (h64 : ss.length < 64) (hr : ktRun (strC ss) (kas_sort ss.length) = some p)
    (h : KatFin h₀ L m kS a vs e e1 (p.toList.map fun i => vs.getD i Value.none) (fun s3 => P (.done (.ret .none)) s3) s) :
    wpAny (model prog w) A (ksk_end a false vs.toArray e1 (.ref kS) (List.toArray vs)) P E s := by
  have hlen := StrsAre.len_eq hS
  by_cases h2 : 2 ≤ ss.length
  · refine kat_end (h₀ := h₀) (L := L) (m := m) (e := e) (b := false) rfl (by omega) (by omega) ?_
    refine kas_kind (T := .type "str") (by omega) (fun v hv => ?_) (by decide) (by decide) ?_
    · obtain ⟨x, t, rfl⟩ := StrsAre.all hS v hv
      exact Looks.of_pure rfl
    · rw [hlen]
      exact ktRun_wp (c := strC ss) (fun i j b C e q => str_ask hS e q) _ hr h
  · have hl1 : ss.length = 1 := by omega
    rw [hl1] at hr
    have hp : p = #[0] := by
      have : ktRun (strC ss) (kas_sort 1) = some #[0] := rfl
      rw [this] at hr
      exact (Option.some.inj hr).symm
    subst hp
    match vs, hlen with
    | [v], _ =>
      unfold ksk_end
      refine wpAny_bind (wpAny_pure ?_)
      refine wpAny_bind ?_
      show wpAny _ _ (pure ((), _)) _ _ _
      refine wpAny_pure ?_
      refine kat_tail (b := false) (out := [v]) ?_ (Nat.le_of_ble_eq_true rfl) (Nat.le_of_ble_eq_true rfl) rfl h
      show Array.map (fun x : Keyed => x.2) ((List.toArray [v]).zip (List.toArray [v])) = List.toArray [v]
      apply Array.toList_inj.mp
      rw [Array.toList_map, ksk_zip]
      rfl
    | [], h0 => exact absurd h0 (by simp only [List.length_nil]; omega)
    | _ :: _ :: _, h0 => exact absurd h0 (by simp only [List.length_cons]; omega)
theorem xs_rest {f : Value} {e1 : Nat} {P : PySem.Fin → Shared → Prop} (hk : s.heap.get? kS = some (seqObj "list" #[] 0)) (h64 : vs.length < 64)
    (h : KatKeys prog w A h₀ L m kS f (fun ks e s' => wpAny (model prog w) A (ksk_end a false vs.toArray e1 (.ref kS) (List.toArray ks)) P E s') vs [] 0 s) :
    wpAny (model prog w) A (ksk_rest a f false vs.toArray e1 (.ref kS)) P E s := by
  unfold ksk_rest
  refine wpAny_bind (wpAny_rule ?_)
  rw [List.forIn_toArray]
  refine wpAny_bind (wpAny_mono (kat_fold h64 (fun x ks e s' C hz hx => ?_) vs [] 0 s (by simp) hk h) (fun _ s' hd => ?_) fun _ _ x => x)
  · refine wpAny_bind (wpAny_attempt (wpAny_mono hx (fun k s'' hk => ?_) fun _ _ hF => hF.elim))
    obtain ⟨nw, g, F', N', U, c⟩ := hk
    obtain ⟨pre, post, e0, hg, x1, x2⟩ := U.split
    rw [e0] at N'
    have nk := N' (kS, seqObj "list" (List.toArray ks) e) (List.mem_append_right _ (.head _))
    have s1 := Heap.SameBut.update s''.heap kS (Obj.mapSeq (·.push k))
    have ea : (List.toArray ks).push k = List.toArray (ks ++ [k]) := List.push_toArray ..
    obtain ⟨c2, hc2⟩ : ∃ c2, (s''.heap.update kS (Obj.mapSeq (·.push k))).get? kS = some (seqObj "list" (List.toArray (ks ++ [k])) c2) := ⟨_, by rw [← ea]; exact get?_update_seq nk.1 (·.push k)⟩
    try dsimp only
    refine wpAny_bind (listUpdate_at nk.1 rfl ?_ (by rw [List.size_toArray, sizeLine_eq]; omega) (Nat.le_trans (Nat.le_of_eq (Array.size_push ..)) (by rw [List.size_toArray, sizeLine_eq]; omega)))
    exact wpAny_pure ⟨rfl, k, c2, hc2, c _ c2 (kas_fr F' s1 nk.2.1 nk.2.2) (by rw [hg]; exact news_set N' x1 x2 s1 hc2)⟩
  · obtain ⟨ks, e, hk', _, fin⟩ := hd
    try dsimp only
    exact wpAny_bind (listItems_at hk' rfl fin)
theorem xs_tree {f : Value} {n : Nat} {P : PySem.Fin → Shared → Prop} (F : Fr h₀ L s.heap m) (N : News h₀ L s.heap news) (ho : s.heap.get? a = some (seqObj "list" vs.toArray n)) (haL : a ≠ L) (ha0 : h₀.get? a = none) (hna : ∀ p ∈ news, p.1 ≠ a)
    (h64 : vs.length < 64)
    (h : ∀ kS e1 h', Fr h₀ L h' m → News h₀ L h' ((kS, seqObj "list" #[] 0) :: (a, seqObj "list" #[] e1) :: news) → a < kS → (∀ q ∈ news, q.1 < kS) →
      KatKeys prog w A h₀ L m kS f (fun ks e s' => wpAny (model prog w) A (ksk_end a false vs.toArray e1 (.ref kS) (List.toArray ks)) P E s') vs [] 0 { s with heap := h' }) :
    wpAny (model prog w) A (ksk_tree a f false) P E s := by
  have ha : a < s.heap.objs.size := Heap.lt_size ho
  have s1 := Heap.SameBut.update s.heap a (Obj.mapSeq fun _ => (#[] : Array Value))
  obtain ⟨e1, ho1⟩ : ∃ e1, (s.heap.update a (Obj.mapSeq fun _ => (#[] : Array Value))).get? a = some (seqObj "list" #[] e1) := ⟨_, get?_update_seq ho fun _ => #[]⟩
  have F1 := kas_fr F s1 haL ha0
  have N1 := kas_news N s1 hna
  have hkS : ((s.heap.update a (Obj.mapSeq fun _ => (#[] : Array Value))).push (seqObj "tuple" vs.toArray 0)).objs.size = s.heap.objs.size + 1 := by rw [Heap.size_push, Heap.size_update]
  have hLk : L < ((s.heap.update a (Obj.mapSeq fun _ => (#[] : Array Value))).push (seqObj "tuple" vs.toArray 0)).objs.size := (F1.push _).ns.lt
  unfold ksk_tree
  refine wpAny_bind (listItems_at ho rfl ?_)
  refine wpAny_bind (listUpdate_at ho rfl ?_ (by rw [List.size_toArray, sizeLine_eq]; omega) (Nat.zero_le _))
  refine wpAny_bind (seqEpoch_at ho1 rfl ?_)
  refine wpAny_bind (wpAny_newTuple ?_ (by show vs.length ≤ _; rw [sizeLine_eq]; omega))
  refine wpAny_bind (wpAny_newList ?_ (Nat.zero_le _))
  refine wpAny_holding ?_
  have K := h ((s.heap.update a (Obj.mapSeq fun _ => (#[] : Array Value))).push (seqObj "tuple" vs.toArray 0)).objs.size e1 (((s.heap.update a (Obj.mapSeq fun _ => (#[] : Array Value))).push (seqObj "tuple" vs.toArray 0)).push (seqObj "list" #[] 0)) ((F1.push _).push _) (fun p hp => by
    rcases List.mem_cons.mp hp with rfl | hp
    · exact ⟨Heap.get?_push_size _ rfl, Nat.ne_of_gt hLk, Heap.get?_none_of_le (Nat.le_trans F.above (Nat.le_of_lt hLk))⟩
    · rcases List.mem_cons.mp hp with rfl | hp
      · exact ⟨Heap.get?_push_of_some _ (Heap.get?_push_of_some _ ho1), haL, ha0⟩
      · exact ⟨Heap.get?_push_of_some _ (Heap.get?_push_of_some _ (N1 p hp).1), (N1 p hp).2⟩) (by rw [hkS]; exact Nat.lt_succ_of_lt ha) (fun q hq => by rw [hkS]; exact Nat.lt_succ_of_lt (Heap.lt_size (N q hq).1))
  exact xs_rest (s := { s with heap := ((s.heap.update a (Obj.mapSeq fun _ => (#[] : Array Value))).push (seqObj "tuple" vs.toArray 0)).push (seqObj "list" #[] 0) }) (Heap.get?_push_size _ rfl) h64 K
theorem xs_sorted {l q : Addr} {Q : Value → Shared → Prop} (F : Fr h₀ L s.heap m) (N : News h₀ L s.heap news) (hl : s.heap.IsList l vs.toArray) (h64 : vs.length < 64)
    (h : ∀ D kS e1 h', Fr h₀ L h' m → News h₀ L h' ((kS, seqObj "list" #[] 0) :: (D, seqObj "list" #[] e1) :: news) → D < kS → (∀ q ∈ news, q.1 < D) →
      KatKeys prog w A.in1.in1 h₀ L m kS (.ref q) (fun ks e s' => ∀ (P : PySem.Fin → Shared → Prop) (E' : Value → Shared → Prop), (∀ s4, Q (.ref D) s4 → P (.done (.ret .none)) s4) → wpAny (model prog w) A.in1.in1 (ksk_end D false vs.toArray e1 (.ref kS) (List.toArray ks)) P E' s') vs [] 0 { s with heap := h' }) :
    wpAny (model prog w) A (call (.builtin "sorted") [.ref l] [(PySem.Str.ofString "key", .ref q)]) Q E s := by
  refine call_function_entry_kw kind_sorted plain_sorted entry_sorted (ksk_s1 _ _) ?_
  unfold Builtin.«sorted»
  refine wpAny_bind (m := checkCount "sorted" 1 1 _) (wpAny_pure ?_)
  refine wpAny_bind (collect_list hl ?_ (by rw [sizeLine_eq]; omega))
  refine wpAny_bind (wpAny_newList ?_ (by rw [sizeLine_eq]; omega))
  have hsz : ((s.heap.push (seqObj "list" #[] 0)).update s.heap.objs.size (Obj.mapSeq (· ++ vs.toArray))).objs.size = s.heap.objs.size + 1 := by
    rw [Heap.size_update, Heap.size_push]
  have hoL : (((s.heap.push (seqObj "list" #[] 0)).update s.heap.objs.size (Obj.mapSeq (· ++ vs.toArray))).push (seqObj "list" vs.toArray 0)).get? (s.heap.objs.size + 1) = some (seqObj "list" vs.toArray 0) := by
    rw [← hsz]; exact Heap.get?_push_size _ rfl
  have keep : ∀ b o, s.heap.get? b = some o → (((s.heap.push (seqObj "list" #[] 0)).update s.heap.objs.size (Obj.mapSeq (· ++ vs.toArray))).push (seqObj "list" vs.toArray 0)).get? b = some o := fun b o e => by
    have hlt : b < s.heap.objs.size := Heap.lt_size e
    rw [Heap.get?_push_ne _ _ _ (by rw [hsz]; exact Nat.ne_of_lt (Nat.lt_succ_of_lt hlt)), Heap.get?_update_ne _ _ _ _ (Nat.ne_of_lt hlt), Heap.get?_push_ne _ _ _ (Nat.ne_of_lt hlt)]
    exact e
  have hL : L < s.heap.objs.size := F.ns.lt
  show wpAny _ _ _ _ _ { s with heap := ((s.heap.push (seqObj "list" #[] 0)).update s.heap.objs.size (Obj.mapSeq (· ++ vs.toArray))).push (seqObj "list" vs.toArray 0) }
  rw [hsz]
  refine wpAny_bind (wpAny_holding (wpAny_call_entry_kw slot_list_sort ⟨_, hoL, rfl⟩ entry_list_sort ?body (ksk_l1 _ _)))
  case body =>
    show wpAny (model prog w) A.in1.in1 (Builtin.«list.sort» ⟨[.ref (s.heap.objs.size + 1)], [(PySem.Str.ofString "key", .ref q)]⟩) _ _ _
    rw [ksk_t1]
    refine xs_tree (s := { s with heap := ((s.heap.push (seqObj "list" #[] 0)).update s.heap.objs.size (Obj.mapSeq (· ++ vs.toArray))).push (seqObj "list" vs.toArray 0) })
      (F.kept keep) (N.grown keep) hoL (Nat.ne_of_gt (Nat.lt_succ_of_lt hL)) (Heap.get?_none_of_le (Nat.le_trans F.above (Nat.le_succ_of_le (Nat.le_of_lt hL))))
      (fun p hp => Nat.ne_of_lt (Nat.lt_succ_of_lt (Heap.lt_size (N p hp).1))) h64 fun kS e1 h' F' N' l0 l1 => ?_
    refine kat_keys_mono (h _ kS e1 h' F' N' l0 fun q hq => Nat.lt_succ_of_lt (Heap.lt_size (N q hq).1)) fun ks e s' hl' hd => hd _ _ fun s4 hq => ⟨_, rfl, wpAny_pure ⟨_, rfl, hq⟩⟩
end
theorem strs_perm {vs : List Value} {ss : List PySem.Str} (hS : StrsAre vs ss) : ∀ p : List Nat, (∀ i ∈ p, i < ss.length) → StrsAre (p.map fun i => vs.getD i Value.none) (p.map fun i => ss.getD i (st ""))
  | [], _ => .nil
  | i :: p, h => by
    have hi := h i (.head _)
    obtain ⟨t, ht⟩ := StrsAre.get hS i ss[i] (List.getElem?_eq_getElem hi)
    have e : ss.getD i (st "") = ss[i] := by rw [List.getD_eq_getElem?_getD, List.getElem?_eq_getElem hi]; rfl
    rw [List.map_cons, List.map_cons, getD_of ht, e]
    exact .cons _ _ (strs_perm hS p fun j hj => h j (.tail _ hj))
section
variable {w : World} {mean : ExcName → Option Value} {mg mb : PySem.Str → Option Value} {dp un : Nat} {gd : Option (List Code)} {cn : PySem.Str} {cs : Scope} {a : Addr} {ccd : Value} {cl : List (PySem.Str × Addr)} {outer : List Env} {A₀ : Around} {base h₀ : Heap} {L : Addr}
  {m : PySem.Str → Option Value} {news : List (Addr × Obj)} {Q E : Value → Shared → Prop}
theorem keys_X {kS D : Addr} {oD : Obj} {Fin : List Value → Nat → Shared → Prop} (B : Below A₀ base outer h₀) (X : (hd.heap_39 w.params).In h₀) (T : Top hd.view_39 LO mean mg mb h₀) (hk : cs.kind = .function)
    (hd : dp + 2 < recursionLimit) (hu : un + 8 * 2 < cLine) (l0 : D < kS) (l1 : ∀ q ∈ news, q.1 < D) : ∀ (r ks : List Value) (e : Nat) (s : Shared), Fr h₀ L s.heap m → News h₀ L s.heap ((kS, seqObj "list" (List.toArray ks) e) :: (D, oD) :: news) →
      (∀ e' h' tk', Fr h₀ L h' m → News h₀ L h' ((kS, seqObj "list" (List.toArray (ks ++ r)) e') :: (D, oD) :: news) → Fin (ks ++ r) e' { s with heap := h', toks := tk' }) →
      KatKeys PySem.Challenge.rw_wu0001_01.row.prog w (ktrTop dp un gd cn cs L a ccd cl outer) h₀ L m kS (.ref 72) Fin r ks e s
  | [], ks, e, s, F, N, h => by
    have := h e s.heap s.toks F (by rw [List.append_nil]; exact N)
    rw [List.append_nil] at this
    exact KatKeys.nil this
  | v :: r, ks, e, s, F, N, h => by
    refine KatKeys.cons (useS (xfrm_is v) B F X N T hk hd hu fun v' tl h' tk' F' N' _ hR => ?_)
    obtain ⟨rfl, rfl⟩ := hR
    refine KatBack.intro F' N' (UpdF.head fun q hq => ?_) fun h2 c F2 N2 => ?_
    · rcases List.mem_cons.mp hq with rfl | hq
      · exact Nat.ne_of_lt l0
      · exact Nat.ne_of_lt (Nat.lt_trans (l1 q hq) l0)
    · refine keys_X B X T hk hd hu l0 l1 r (ks ++ [v']) c { s with heap := h2, toks := tk' } F2 N2 fun e' h3 tk3 F3 N3 => ?_
      rw [List.append_assoc] at N3 ⊢
      exact h e' h3 tk3 F3 N3
theorem sorted_X {l : Addr} {n : Nat} {s : Shared} {vs : List Value} {ss : List PySem.Str} {p : Array Nat} (B : Below A₀ base outer h₀) (F : Fr h₀ L s.heap m) (X : (hd.heap_39 w.params).In h₀) (N : News h₀ L s.heap news) (T : Top hd.view_39 LO mean mg mb h₀) (hk : cs.kind = .function)
    (hd : dp + 2 < recursionLimit) (hu : un + 8 * 4 < cLine) (hm : (l, W.listOf vs.toArray n) ∈ news) (hS : StrsAre vs ss) (h1 : 1 ≤ ss.length) (h64 : ss.length < 64) (hr : ktRun (strC ss) (kas_sort ss.length) = some p) (hp : ∀ i ∈ p.toList, i < ss.length)
    (h : ∀ D h' c tk' ts, StrsAre ts (p.toList.map fun i => ss.getD i (st "")) → Fr h₀ L h' m → News h₀ L h' ((D, W.listOf (List.toArray ts) c) :: news) → (∀ q ∈ news, q.1 < D) → Q (.ref D) { s with heap := h', toks := tk' }) :
    wpAny (model PySem.Challenge.rw_wu0001_01.row.prog w) (ktrTop dp un gd cn cs L a ccd cl outer) (call (.builtin "sorted") [.ref l] [(PySem.Str.ofString "key", .ref 72)]) Q E s := by
  have hlen := StrsAre.len_eq hS
  refine xs_sorted F N ⟨_, N.get hm, rfl, _, rfl⟩ (by omega) fun D kS e1 h' F' N' l0 l1 => ?_
  refine keys_X (un := un + 1 + 1) (oD := seqObj "list" #[] e1) B X T hk hd (by omega) l0 l1 vs [] 0 { s with heap := h' } F' N' fun e' h2 tk2 F2 N2 P E' hP => ?_
  rw [List.nil_append] at N2 ⊢
  refine xs_end (h₀ := h₀) (L := L) (m := m) (e := e') hS h1 h64 hr ?_
  refine KatFin.intro F2 N2 (UpdF.head fun q hq => ?_) fun h3 c3 F3 N3 => ?_
  · rcases List.mem_cons.mp hq with rfl | hq
    · exact Nat.ne_of_lt l0
    · exact Nat.ne_of_lt (Nat.lt_trans (l1 q hq) l0)
  · refine KasFin.intro F3 N3 (UpdF.tail (Nat.ne_of_gt l0) (UpdF.head fun q hq => Nat.ne_of_lt (l1 q hq))) fun h4 c4 F4 N4 => ?_
    exact hP _ (h D h4 c4 tk2 _ (strs_perm hS _ hp) F4 (News.drop N4) l1)
end
theorem str_item {prog : Program} {w : World} {A : Around} {E : Value → Shared → Prop} {s : Shared} {h₀ : Heap} {L : Addr} {value slice : PySem.Expr} {l : Addr} {vs : List Value} {n : Nat} {ss : List PySem.Str} {nw : List (Addr × Obj)} {k : Int} {y : PySem.Str} {u : Tok} {Q : Value → Shared → Prop}
    (N : News h₀ L s.heap nw) (hm : (l, W.listOf vs.toArray n) ∈ nw) (hi : StrsAre vs ss) (h0 : 0 ≤ k) (hk : ss[k.toNat]? = some y) (hz : ss.length ≤ 1000) (h : ∀ t, Q (.str y t) s)
    (hs : subscripted slice false (.ref l) (.int k u) = operate [.ref l, .int k u] (getItem (.ref l) (.int k u)) := by with_unfolding_all rfl) :
    wpAny (model prog w) A (subscriptTail value slice (.ref l) (.int k u)) Q E s := by
  have hl : s.heap.IsList l vs.toArray := ⟨_, N.get hm, rfl, _, rfl⟩
  obtain ⟨t, hx⟩ := StrsAre.get hi k.toNat y hk
  have hlt := (List.getElem?_eq_some_iff.mp hk).1
  exact tail_any hl.typeIs slot_list_getitem.lookup (wpAny_getItem_list hl h0 (by omega) (by simpa using hx) (h t)) hs
theorem getD_at {ss : List PySem.Str} {k : Nat} (h : k < ss.length) : ss[k]? = some (ss.getD k (st "")) := by
  rw [List.getD_eq_getElem?_getD, List.getElem?_eq_getElem h]; rfl
theorem ints_rep {ys : List Value} {i : Nat} {z : Int} {t : Tok} (h : IntsAre ys (List.replicate i (-1))) (e : z = -1) : IntsAre (ys ++ [.int z t]) (List.replicate (i + 1) (-1)) := by
  subst e
  rw [List.replicate_succ']
  exact ksk_snoc h
def sortPerm (W : Int) (left : PySem.Str) : Array Nat := (ktRun (strC (sweptN W left)) (kas_sort (sweptN W left).length)).getD #[]
def textsN (left : PySem.Str) : List PySem.Str := (rowsN left left.length).map (·.text)
def collZ (x y : PySem.Str) : Int := b2i (decide (y.cps.toList < x.cps.toList)) - b2i (decide (x.cps.toList < y.cps.toList))
/-- what the sort of the swept texts must answer -/
structure SortOk (left : PySem.Str) (W : Int) : Prop where
  run : ktRun (strC (sweptN W left)) (kas_sort (sweptN W left).length) = some (sortPerm W left)
  idx : ∀ i ∈ (sortPerm W left).toList, i < (sweptN W left).length
  out : ((sortPerm W left).toList.map fun i => (sweptN W left).getD i (st "")) = textsN left
/-- the rows' texts stand in their order -/
def TextsOk (left : PySem.Str) : Prop := 1 ≤ (textsN left).length ∧ (textsN left).length < 64 ∧ (∀ k, k + 1 < (textsN left).length → collZ ((textsN left).getD k (st "")) ((textsN left).getD (k + 1) (st "")) = -1) ∧ ∀ x ∈ textsN left, PyData.strOk x = true
theorem swept_len (W : Int) (left : PySem.Str) : (sweptN W left).length = (textsN left).length := by unfold sweptN textsN; rw [List.length_map, List.length_map]
end Mine

namespace Mine
section
variable {prog : Program} {w : World} {A : Around} {E : Value → Shared → Prop} {s : Shared} {h₀ : Heap} {L : Addr} {m : PySem.Str → Option Value} {env : Env}
/-- each item of vs is a list of three, its first the text of ss -/
def Rows3 (news : List (Addr × Obj)) (vs : List Value) (ss : List PySem.Str) : Prop := vs.length = ss.length ∧ ∀ (i : Nat) (v : Value), vs[i]? = some v → ∃ a y t v2 v3 k, v = .ref a ∧ (a, W.listOf #[.str y t, v2, v3] k) ∈ news ∧ ss[i]? = some y
def Src3 (h₀ : Heap) (L : Addr) (m : PySem.Str → Option Value) (Q : Value → Shared → Prop) (xv : Value) (s₁ : Shared) : Prop :=
  ∃ ax vs n ss news, xv = .ref ax ∧ Fr h₀ L s₁.heap m ∧ News h₀ L s₁.heap news ∧ (ax, W.listOf (List.toArray vs) n) ∈ news ∧ Rows3 news vs ss ∧ vs.length ≤ sizeLine ∧
    ∀ D h tk ys, Fr h₀ L h m → News h₀ L h ((D, LCg.lst ys) :: news) → LCg.Off1 D news → StrsAre ys ss → Q (.ref D) { s₁ with heap := h, toks := tk }
theorem off1_of {D : Addr} {news : List (Addr × Obj)} (h : ∀ p ∈ news, p.1 ≠ D) : LCg.Off1 D news := by
  induction news with
  | nil => trivial
  | cons p r ih => exact ⟨h p (.head _), ih fun q hq => h q (.tail _ hq)⟩
theorem ListComp_3 {iter : Expr} {x₁ x₂ x₃ : PySem.Str} {pe p1 p2 p3 tp : Pos} {kk} {scope : Scope} {cl : List (PySem.Str × Addr)} {pos : Pos} {Q : Value → Shared → Prop} (_F₀ : Fr h₀ L s.heap m) (hh : A.handled = none)
    (hclos : closureFor scope env = pure cl) (hcell : ∀ y ∈ scope.names, y.2 ≠ .cell) (hkind : scope.kind = .function)
    (hnames : ∀ y ∈ scope.names, y.2 = .local → scope.names.lookup y.1 = some .local) (hx1 : scope.names.lookup x₁ = some .local) (hx2 : scope.names.lookup x₂ = some .local) (hx3 : scope.names.lookup x₃ = some .local) (h12 : x₁ ≠ x₂) (h13 : x₁ ≠ x₃)
    (hdb : (x₁ == ("__debug__" : PySem.Str)) = false)
    (h : wpAny (model prog w) A (eval iter env) (Src3 h₀ L m Q) E s)
    (hs : ∀ x, foldedSetIterable iter env x = pure x := by intro _; rfl) :
    wpAny (model prog w) A (eval (.ListComp (.Name x₁ pe) [⟨.Tuple [.Name x₁ p1, .Name x₂ p2, .Name x₃ p3] kk tp, iter, [], 0⟩] scope pos) env) Q E s := by
  rw [eval_ListComp]
  refine wpAny_comprehension_free (use := none) rfl hs hclos hkind hnames (wpAny_mono h (fun xv s₁ h₁ => ?_) fun _ _ e => e)
  obtain ⟨ax, vs, n, ss, news, rfl, F, N, hax, ⟨hlen, hrow⟩, hsz, fin⟩ := h₁
  have hl : s₁.heap.IsList ax vs.toArray := ⟨_, N.get hax, rfl, _, rfl⟩
  have hlt : ax < s₁.heap.objs.size := Heap.lt_size (N.get hax)
  refine wpAny_pyIter_list hl ?_
  generalize hI : s₁.heap.objs.size = I at hlt ⊢
  have hLI : @LT.lt Nat _ L I := hI ▸ F.ns.lt
  have hI0 : h₀.get? I = none := hI ▸ next_is_new F
  have offI : ∀ p ∈ news, @LT.lt Nat _ p.1 I := fun p hp => hI ▸ Heap.lt_size (N p hp).1
  generalize hH1 : s₁.heap.push { cls := .type "list_iterator", data := .fields #[.ref ax, .int 0 0] } = H1
  have hz1 : H1.objs.size = I + 1 := by rw [← hH1, Heap.size_push, hI]
  have up1 : ∀ b o, s₁.heap.get? b = some o → H1.get? b = some o := fun b o e => hH1 ▸ Heap.get?_push_of_some _ e
  have hit1 : H1.IsListIter I ax 0 := ⟨_, by rw [← hH1, ← hI]; exact Heap.get?_push_size _ rfl, rfl, rfl⟩
  have F1 : Fr h₀ L H1 m := F.keeps up1
  have N1 : News h₀ L H1 news := N.grown up1
  refine wpAny_newObj_type (wpAny_newFunctionEnv hcell (by intro y hy; simp at hy) (fun h₁ hns₁ hsb₁ => ?_) hkind)
  dsimp only at hns₁ hsb₁ ⊢
  generalize hH2 : H1.push { cls := .type "list", dict := none, data := .seq ([] : List Value).toArray } = H2 at hns₁ hsb₁ ⊢
  have hD : H1.objs.size = I + 1 := hz1
  rw [hD]
  have hC : H2.objs.size = I + 2 := by rw [← hH2, Heap.size_push, hz1]
  rw [hC] at hns₁ hsb₁ ⊢
  have hDget : H2.get? (I + 1) = some (LCg.lst []) := by rw [← hH2, ← hz1]; exact Heap.get?_push_size _ rfl
  have up2 : ∀ b o, H1.get? b = some o → H2.get? b = some o := fun b o e => hH2 ▸ Heap.get?_push_of_some _ e
  have lt1 : ∀ b o, H1.get? b = some o → @LT.lt Nat _ b (I + 1) := fun b o e => hz1 ▸ Heap.lt_size e
  have old : ∀ b o, H1.get? b = some o → h₁.get? b = some o := fun b o e => hsb₁.extBut b o (Nat.ne_of_lt (Nat.lt_succ_of_lt (lt1 b o e))) (Heap.get?_push_of_some _ (up2 b o e))
  have fresh₀ : ∀ a : Addr, @LE.le Nat _ I a → h₀.get? a = none := fun a ha => by
    cases e : h₀.get? a with
    | none => rfl
    | some o' => exact absurd (Heap.lt_size (F.keep a o' e)) (by rw [hI]; exact Nat.not_lt.mpr ha)
  have hD0 : h₀.get? (I + 1) = none := fresh₀ _ (Nat.le_succ _)
  have hC0 : h₀.get? (I + 2) = none := fresh₀ _ (Nat.le_add_right _ _)
  have nLI : L ≠ I := Nat.ne_of_lt hLI
  have nLD : L ≠ I + 1 := Nat.ne_of_lt (Nat.lt_succ_of_lt hLI)
  have nLC : L ≠ I + 2 := Nat.ne_of_lt (Nat.lt_succ_of_lt (Nat.lt_succ_of_lt hLI))
  have nID : I ≠ I + 1 := Nat.ne_of_lt (Nat.lt_succ_self _)
  have nIC : I ≠ I + 2 := Nat.ne_of_lt (Nat.lt_succ_of_lt (Nat.lt_succ_self _))
  have nDC : I + 1 ≠ I + 2 := Nat.ne_of_lt (Nat.lt_succ_self _)
  have oI : ∀ p ∈ news, p.1 ≠ I := fun p hp => Nat.ne_of_lt (offI p hp)
  have oD : ∀ p ∈ news, p.1 ≠ I + 1 := fun p hp => Nat.ne_of_lt (Nat.lt_succ_of_lt (offI p hp))
  have oC : ∀ p ∈ news, p.1 ≠ I + 2 := fun p hp => Nat.ne_of_lt (Nat.lt_succ_of_lt (Nat.lt_succ_of_lt (offI p hp)))
  have W := Walks.list (prog := prog) (w := w) hh I ax (Nat.ne_of_lt hlt) vs.toArray
  rw [List.size_toArray] at W
  have loop : ∀ s₃ : Shared, s₃ = { s₁ with heap := h₁, toks := s₁.toks + ([] : List (PySem.Str × Value)).length } →
      codeAny (model prog w) A (.compLoop (.ListComp (.Name x₁ pe) [⟨.Tuple [.Name x₁ p1, .Name x₂ p2, .Name x₃ p3] kk tp, iter, [], 0⟩] scope pos) 0 (.ref I) (.ref (I + 1)) (compEnvC scope cl (I + 2) env))
        (compPost (model prog w) A E none Q (.ref (I + 1)) (I + 2)) s₃ := by
    rintro s₃ rfl
    refine LCp.codeAny_compLoop_pair
      (fun k s' => ∃ h' tk i ys m', s' = { s₁ with heap := h', toks := tk } ∧ i ≤ vs.length ∧ k = vs.length + 1 - i ∧ ys.length = i ∧ h'.IsListIter I ax i ∧ h'.Ns (I + 2) m' ∧ Fr h₀ L h' m ∧ News h₀ L h' ((I + 1, LCg.lst ys) :: news) ∧ StrsAre ys (ss.take i)) ?_ (vs.length + 1)
      ⟨h₁, _, 0, [], _, rfl, Nat.zero_le _, rfl, rfl, hit1.at fun o e => old _ _ e, hns₁, F1.keeps old, fun p hp => ?_, .nil⟩
    · rintro k s' ⟨h', tk, i, ys, m', rfl, hi, rfl, hyl, hit', hn', F', N', hst'⟩
      have hl' : h'.IsList ax vs.toArray := ⟨_, N'.get (.tail _ hax), rfl, _, rfl⟩
      have oN : ∀ p ∈ (I + 1, LCg.lst ys) :: news, p.1 ≠ I := fun p hp => by
        rcases List.mem_cons.mp hp with rfl | hp
        · exact Ne.symm nID
        · exact oI p hp
      by_cases hlti : i < vs.length
      · refine W.item i _ _ _ hlti ⟨hit', hl'⟩ fun v h₂ tk₂ hPv hst₂ hk₂ => ?_
        obtain ⟨a, y, t, v2, v3, k3, rfl, hma, hy⟩ := hrow i v (by simpa using hPv)
        have F₂ := LCg.fr_but F' hk₂ nLI hI0
        have N₂ := LCg.news_but N' hk₂ oN
        have hn₂ : h₂.Ns (I + 2) m' := hn'.at' fun o e => hk₂ _ o (by simpa using Ne.symm nIC) e
        obtain ⟨obI, heI, hoI⟩ : ∃ obI : Obj, h₂.get? I = some obI ∧ ∀ h : Heap, h.get? I = some obI → h.IsListIter I ax (i + 1) := by
          obtain ⟨o, e, c, d⟩ := hst₂.1
          exact ⟨o, e, fun h e' => ⟨o, e', c, d⟩⟩
        obtain ⟨obC, heC, hoC⟩ := LCg.ns_obj hn₂
        have N₃ : News h₀ L h₂ ((I, obI) :: (I + 2, obC) :: (I + 1, LCg.lst ys) :: news) := fun p hp => by
          rcases List.mem_cons.mp hp with rfl | hp
          · exact ⟨heI, Ne.symm nLI, hI0⟩
          · rcases List.mem_cons.mp hp with rfl | hp
            · exact ⟨heC, Ne.symm nLC, hC0⟩
            · exact N₂ p hp
        refine wpAny_letOwnedTupleGo_listiter hst₂.1 ?_
        refine kun_list F₂ N₃ (show Heap.IsList _ a #[.str y t, v2, v3] from ⟨_, N₃.get (.tail _ (.tail _ (.tail _ hma))), rfl, _, rfl⟩) hh rfl rfl fun h₅ F₅ N₅ => ?_
        have hn₅ : h₅.Ns (I + 2) m' := hoC.ns (N₅.get (.tail _ (.head _)))
        refine assignInOrder_cons (wpAny_assign_Name (wpAny_storeName_local (lookup_relabel_local hx1) hn₅ (fun h₆ hn₆ hs₆ => ?_) (by simp [compEnvC, relabel, hkind])))
        refine assignInOrder_cons (wpAny_assign_Name (wpAny_storeName_local (lookup_relabel_local hx2) hn₆ (fun h₇ hn₇ hs₇ => ?_) (by simp [compEnvC, relabel, hkind])))
        refine assignInOrder_cons (wpAny_assign_Name (wpAny_storeName_local (lookup_relabel_local hx3) hn₇ (fun h₈ hn₈ hs₈ => ?_) (by simp [compEnvC, relabel, hkind])))
        refine assignInOrder_nil ?_
        have keep8 : ∀ b o, b ≠ I + 2 → h₅.get? b = some o → h₈.get? b = some o := fun b o hb e => hs₈.extBut b o hb (hs₇.extBut b o hb (hs₆.extBut b o hb e))
        refine ldVarK (v := .str y t) hn₈ (by simp [h12, h13]) ?_ (by simp [compEnvC, relabel, hkind]) (lookup_relabel_local hx1) hdb
        have zD : h₈.get? (I + 1) = some (LCg.lst ys) := keep8 _ _ nDC (N₅.get (.tail _ (.tail _ (.head _))))
        refine append_at (hsz := by show ys.toArray.size ≤ sizeLine; rw [List.size_toArray, hyl]; omega) zD fun h₉ hs₉ hD₉ => ?_
        refine ⟨vs.length + 1 - (i + 1), by omega, h₉, _, i + 1, ys ++ [.str y t], _, rfl, hlti, rfl, by rw [List.length_append, List.length_singleton, hyl], hoI h₉ (hs₉.extBut _ _ nID (keep8 _ _ nIC (N₅.get (.head _)))),
          hn₈.sameBut hs₉ (Ne.symm nDC), ((((F₅.change hs₆ (Ne.symm nLC) hC0).change hs₇ (Ne.symm nLC) hC0).change hs₈ (Ne.symm nLC) hC0).change hs₉ (Ne.symm nLD) hD0), fun p hp => ?_, ?_⟩
        · rcases List.mem_cons.mp hp with rfl | hp
          · exact ⟨hD₉.trans (congrArg some (LCg.lst_snoc ys _)), Ne.symm nLD, hD0⟩
          · have z := N₅ p (.tail _ (.tail _ (.tail _ hp)))
            exact ⟨hs₉.extBut _ _ (oD p hp) (keep8 _ _ (oC p hp) z.1), z.2⟩
        · rw [List.take_add_one, hy]
          exact strs_snoc hst'
      · obtain rfl : i = vs.length := Nat.le_antisymm hi (Nat.not_lt.mp hlti)
        refine W.done _ _ _ ⟨hit', hl'⟩ fun h₂ tk₂ hk₂ => ?_
        have F₂ := LCg.fr_but F' hk₂ nLI hI0
        have N₂ := LCg.news_but N' hk₂ oN
        have hn₂ : h₂.Ns (I + 2) m' := hn'.at' fun o e => hk₂ _ o (by simpa using Ne.symm nIC) e
        refine ⟨m', hn₂, fun h'' hs'' => ?_⟩
        refine fin (I + 1) h'' tk₂ ys (F₂.change hs'' (Ne.symm nLC) hC0) (fun p hp => ?_) (off1_of oD) (by rw [List.take_of_length_le (by omega)] at hst'; exact hst')
        refine ⟨hs''.extBut _ _ ?_ (N₂ p hp).1, (N₂ p hp).2⟩
        rcases List.mem_cons.mp hp with rfl | hp
        · exact nDC
        · exact oC p hp
    · rcases List.mem_cons.mp hp with rfl | hp
      · exact ⟨hsb₁.extBut _ _ nDC (Heap.get?_push_of_some _ hDget), Ne.symm nLD, hD0⟩
      · exact ⟨old _ _ (N1 p hp).1, (N1 p hp).2⟩
  exact codeAny_compStart_list (loop _ rfl) (W.self 0 _ _ _ ⟨hit1.at fun o e => old _ _ e, ⟨_, old _ _ (N1.get hax), rfl, _, rfl⟩⟩ (loop _ rfl))
end
theorem flat_rep {t : Tok} (z : Int) : ∀ n : Nat, IntsAre (List.replicate n [Value.int z t]).flatten (List.replicate n z)
  | 0 => .nil
  | n + 1 => by
    rw [List.replicate_succ, List.replicate_succ, List.flatten_cons]
    exact .cons _ _ (flat_rep z n)
theorem rows3_of {us : List (Addr × Obj)} {vs : List Value} {rows : List RowD} (h : DatAll us vs (rows.map rowDat)) : Rows3 us vs (rows.map (·.text)) := by
  refine ⟨by rw [h.length, List.length_map, List.length_map], fun i v hv => ?_⟩
  have hi : i < rows.length := by
    have := (List.getElem?_eq_some_iff.mp hv).1
    rw [h.length, List.length_map] at this; exact this
  obtain ⟨v', hv', hin⟩ := h.get (k := i) (by simpa using hi)
  rw [hv] at hv'
  cases hv'
  rw [List.getElem_map] at hin
  rw [List.getElem?_map, List.getElem?_eq_getElem hi]
  generalize rows[i] = row at hin
  unfold rowDat at hin
  cases hin with
  | @list a ws nn _ ha hw =>
  cases hw with
  | @cons x1 _ _ _ hx1 hw =>
  cases hw with
  | @cons x2 _ _ _ hx2 hw =>
  cases hw with
  | @cons x3 _ _ _ hx3 hw =>
  cases hw
  cases hx1 with
  | str _ ta =>
  exact ⟨a, row.text, ta, x2, x3, nn, rfl, ha, rfl⟩
theorem Rows3.mono {us nw : List (Addr × Obj)} {vs : List Value} {ss : List PySem.Str} (h : Rows3 us vs ss) (hs : ∀ p ∈ us, p ∈ nw) : Rows3 nw vs ss :=
  ⟨h.1, fun i v hv => by
    obtain ⟨a, y, t, v2, v3, k, e, hm, hy⟩ := h.2 i v hv
    exact ⟨a, y, t, v2, v3, k, e, hs _ hm, hy⟩⟩
theorem dat_of_strs {nw : List (Addr × Obj)} {as : List Value} {ns : List PySem.Str} (h : StrsAre as ns) : DatAll nw as (ns.map Dat.str) := by
  induction h with
  | nil => exact .nil
  | cons n t _ ih => exact .cons (.str _ _) ih
theorem mem8 {x1 x2 x3 x4 x5 x6 x7 x8 : Addr × Obj} {xs : List (Addr × Obj)} : ∀ q ∈ xs, q ∈ x1 :: x2 :: x3 :: x4 :: x5 :: x6 :: x7 :: x8 :: xs := fun _ hq =>
  .tail _ (.tail _ (.tail _ (.tail _ (.tail _ (.tail _ (.tail _ (.tail _ hq)))))))
end Mine

namespace Mine
section
local macro_rules | `(tactic| walk_at "MineCells") => `(tactic| (
  (rename CellsAre _ _ _ => hY)
  (obtain ⟨_, _, _, _, _, _, _, _, _, _, hE, _, _, _, _, _, _, _, _, _, _⟩ := Mine.kc_ten hY)
  subst hE
  clear hY))
local macro_rules | `(tactic| walk_at "eval ListComp") => `(tactic| (
  k_here
  k_dflt (refine LCg.ListComp_U (F₀ := by k_asm) (by with_unfolding_all rfl) (by decide) (by rfl) (by decide) (by rfl) ?_)))
local macro_rules | `(tactic| walk_at "CompSrc") => `(tactic| (
  k_here
  (with_reducible show LCg.CompSrc _ _ _ _ _ _ _ _ _ _ _ _ _ _)
  refine Stop.mk ?_))
local macro_rules | `(tactic| walk_at "CompEnd") => `(tactic| (
  k_here
  (with_reducible show LCg.CompEnd _ _ _ _ _ _ _ _ _ _ _ _ _ _)
  refine Stop.mk ?_))
local macro_rules | `(tactic| walk_at "MineSorted") => `(tactic| skip)
local macro_rules | `(tactic| walk_at "call builtin:sorted") => `(tactic| (
  k_here
  (with_reducible show wpAny _ _ (call (Value.builtin _) (Value.ref _ :: _) _) _ _ _)
  refine Stop.mk ?_))
local macro_rules | `(tactic| walk_at "call builtin:sorted") => `(tactic| (
  k_here
  (with_reducible show wpAny _ _ (call (Value.builtin _) [Value.ref _]) _ _ _)
  (with_reducible rename StrsAre _ _ => hS9)
  k_dflt (refine' sorted_S ?k1 ?k2 (News.isList (by k_asm) (.head _)) hS9 (by assumption) (by omega) ?_)
  (case k1 => k_asm)
  (case k2 => k_asm)
  clear hS9
  k_whole
  intro D9 h9 vs9 ss9 e9 F9 N9 l1 S9 e1 p9 s9
  (try k_lt l1)
  (try k_sweep)
  (have hf9 := left_of (by assumption) (PySem.Flt.Hid.out (by assumption)) p9 s9)
  (have hm9 := left_room _ hf9)))
local macro_rules | `(tactic| walk_at "call builtin:str.join") => `(tactic| (
  k_here
  (with_reducible show wpAny _ _ (call (Value.builtin _) [Value.str _ _, Value.ref _]) _ _ _)
  (with_reducible rename StrsAre _ _ => hS9)
  k_dflt (refine' join_list (ys := _) ⟨_, News.get (by assumption) (List.Mem.head _), rfl, _, rfl⟩ hS9 ?k1 ?_)
  (case k1 => first | assumption | exact join_room (by omega))
  k_whole
  intro t9 k9))
local macro_rules | `(tactic| walk_at "call ref") => `(tactic| (
  k_here
  (with_reducible show wpAny _ _ (call (Value.ref 77) [Value.int _ _, Value.int _ _, Value.int _ _, Value.float _ _]) _ _ _)
  k_dflt (refine' useS (told_is _ _ _ _ _ _ _ _ _ _ ?w1 ?w2 ?p1 ?p2 ?a1 ?a2 ?s1 ?s2 ?ok) ?k1 ?k2 ?k3 ?k4 ?k5 ?kK ?kd ?ku ?_)
  (case ok => assumption)
  (case w1 => omega)
  (case w2 => omega)
  (case p1 => assumption)
  (case p2 => assumption)
  (case a1 => omega)
  (case a2 => omega)
  (case s1 => omega)
  (case s2 => omega)
  (case k1 => k_asm)
  (case k2 => k_asm)
  (case k3 => k_asm)
  (case k4 => k_asm)
  (case k5 => k_asm)
  (case kK => first | exact rfl | assumption)
  (case kd => ktr_room)
  (case ku => ktr_units)
  intro v9 tl9 h9 tk9 F9 N9 d9 e9
  (obtain ⟨a9, k19, k29, q9, r9⟩ := e9)
  subst q9 r9
  (simp only [List.cons_append, List.nil_append] at N9)
  (have dd9 := PySem.Flt.Hid.mk d9)
  clear d9
  (try dsimp only)
  (try k_fold)))
local macro_rules | `(tactic| walk_at "binaryOp Div int int") => `(tactic| (
  k_here
  refine AutoIntOps.truediv_1 (by assumption) (by omega) ?_
  simp only [Made.post]))
local macro_rules | `(tactic| walk_at "call type:range") => `(tactic| (
  k_here
  (with_reducible show wpAny _ _ (call (Value.type _) [Value.int _ _, Value.int _ _]) _ _ _)
  k_dflt (refine' range2_K ?k1 ?k2 ?_)
  (case k1 => k_asm)
  (case k2 => k_asm)
  k_whole
  intro D9 h9 v9 k9 F9 N9 l1
  (try k_lt l1)
  (try k_sweep)))
local macro_rules | `(tactic| k_all) => `(tactic| (
  (rename Apart _ _ => hap)
  exact Apart.ne hap (by simp only [List.mem_cons, true_or, or_true])))
local macro_rules | `(tactic| walk_at "compareOp NotEq ref ref") => `(tactic| (
  k_here
  (with_reducible show wpAny _ _ (compareOp _ (Value.ref _) (Value.ref _)) _ _ _)
  refine Stop.mk ?_))
local macro_rules | `(tactic| walk_at "compareOp Eq ref ref") => `(tactic| (
  k_here
  (with_reducible show wpAny _ _ (compareOp _ (Value.ref _) (Value.ref _)) _ _ _)
  refine Stop.mk ?_))
local macro_rules | `(tactic| walk_at "call ref") => `(tactic| (
  k_here
  (with_reducible show wpAny _ _ (call (Value.ref 91) _) _ _ _)
  refine Stop.mk ?_))
local macro_rules | `(tactic| walk_at "getMethod bytes") => `(tactic| (
  k_here
  refine bjoin_meth ?_))
local macro_rules | `(tactic| walk_at "eval ListComp") => `(tactic| (
  k_here
  (with_reducible show wpAny _ _ (eval (Expr.ListComp _ [⟨_, Expr.Subscript (Expr.Subscript _ _ _) _ _, _, _⟩] _ _) _) _ _ _)
  k_dflt (refine ListComp_S (_F₀ := by k_asm) (by rfl) (by with_unfolding_all rfl) (by decide) (by rfl) (by decide) (by rfl) ?_)))
local macro_rules | `(tactic| walk_at "subscriptTail") => `(tactic| (
  k_here
  (with_reducible show wpAny _ _ (subscriptTail _ _ (Value.ref _) (Value.int (-1) _)) _ _ _)
  refine Stop.mk ?_))
local macro_rules | `(tactic| walk_at "call ref") => `(tactic| (
  k_here
  (with_reducible show wpAny _ _ (call (Value.ref 84) [Value.str _ _]) _ _ _)
  k_dflt (refine' useS (piece_is _ _ ?hp) ?k1 ?k2 ?k3 ?k4 ?k5 ?kK ?kd ?ku ?_)
  (case hp => with_reducible assumption)
  (case k1 => k_asm)
  (case k2 => k_asm)
  (case k3 => k_asm)
  (case k4 => k_asm)
  (case k5 => k_asm)
  (case kK => first | exact rfl | assumption)
  (case kd => ktr_room)
  (case ku => ktr_units)
  intro v9 tl9 h9 tk9 F9 N9 d9 e9
  (obtain ⟨t9, q9, r9⟩ := e9)
  subst q9 r9
  clear d9
  (simp only [List.nil_append] at N9)
  (try dsimp only)
  (try k_fold)))
local macro_rules | `(tactic| walk_at "call ref") => `(tactic| (
  k_here
  (with_reducible show wpAny _ _ (call (Value.ref 44) [Value.bytes _ _]) _ _ _)
  k_dflt (refine' useS (pd0_is _ _ _ ?hp) ?k1 ?k2 ?k3 ?k4 ?k5 ?kK ?kd ?ku ?_)
  (case hp => with_reducible assumption)
  (case k1 => k_asm)
  (case k2 => k_asm)
  (case k3 => k_asm)
  (case k4 => k_asm)
  (case k5 => k_asm)
  (case kK => first | exact rfl | assumption)
  (case kd => ktr_room)
  (case ku => ktr_units)
  intro v9 tl9 h9 tk9 F9 N9 d9 e9
  (obtain ⟨t9, q9, r9⟩ := e9)
  subst q9 r9
  clear d9
  (simp only [List.nil_append] at N9)
  (try dsimp only)
  (try k_fold)))
local macro_rules | `(tactic| walk_at "call builtin:bytes.join") => `(tactic| (
  k_here
  (with_reducible show wpAny _ _ (call (Value.builtin _) [Value.bytes _ _, Value.ref _]) _ _ _)
  k_dflt (refine' join_is (vs := _) ⟨_, News.get (by assumption) (List.Mem.head _), rfl, _, rfl⟩ ?k1 ?_ ?k2)
  (case k1 => assumption)
  (case k2 => assumption)
  k_whole
  intro t9 k9))
local macro_rules | `(tactic| walk_at "MineFor") => `(tactic| (
  k_here
  (with_reducible rename Fr _ _ _ _ => kF)
  (with_unfolding_all refine' For_invTF kF ?_ ?hs)
  (case hs => (intro _; with_unfolding_all rfl))
  (try k_fold)))
local macro_rules | `(tactic| walk_at "exec For Tuple Name cons nil") => `(tactic| walk_at "MineFor")
local macro_rules | `(tactic| walk_at "subscriptTail") => `(tactic| (
  k_here
  (with_reducible show wpAny _ _ (subscriptTail _ (Expr.BinOp _ _ _ _) (Value.ref _) (Value.int _ _)) _ _ _)
  refine Stop.mk ?_))
local macro_rules | `(tactic| walk_at "subscriptTail") => `(tactic| (
  k_here
  (with_reducible show wpAny _ _ (subscriptTail (Expr.Subscript (Expr.Name (PySem.Str.ofString "hues") _) _ _) _ (Value.ref _) (Value.int _ _)) _ _ _)
  refine Stop.mk ?_))
local macro_rules | `(tactic| walk_at "eval ListComp") => `(tactic| (
  k_here
  (with_reducible show wpAny _ _ (eval (Expr.ListComp _ [⟨Expr.Tuple [_, _] _ _, _, _, _⟩] _ _) _) _ _ _)
  k_dflt (refine LCp.ListComp_P (F₀ := by k_asm) (by with_unfolding_all rfl) (by decide) (by rfl) (by decide) (by rfl) (by rfl) (by decide) ?_)))
local macro_rules | `(tactic| walk_at "SrcLP") => `(tactic| (
  k_here
  refine Stop.mk ?_))
local macro_rules | `(tactic| walk_at "call builtin:list.append") => `(tactic| (
  k_here
  (with_reducible show wpAny _ _ (call (Value.builtin _) [Value.ref _, _]) _ _ _)
  k_dflt (refine' append_K ?k1 ?k2 ?k3 ?_ ?z)
  (case k1 => k_asm)
  (case k2 => k_asm)
  (case k3 => k_upd)
  (case z => (simp only [sizeLine_eq, List.size_toArray]; omega))
  k_whole
  intro h' F' N'
  (try k_sweep)))
local macro_rules | `(tactic| walk_at "subscriptTail") => `(tactic| (
  k_here
  (with_reducible show wpAny _ _ (subscriptTail (Expr.Name (PySem.Str.ofString "turned") _) _ (Value.ref _) (Value.int _ _)) _ _ _)
  refine Stop.mk ?_))
local macro_rules | `(tactic| walk_at "call ref") => `(tactic| (
  k_here
  (with_reducible show wpAny _ _ (call (Value.ref 65) [Value.str _ _, Value.str _ _]) _ _ _)
  k_dflt (refine' useS (coll_is _ _ _ _) ?k1 ?k2 ?k3 ?k4 ?k5 ?kK ?kd ?ku ?_)
  (case k1 => k_asm)
  (case k2 => k_asm)
  (case k3 => k_asm)
  (case k4 => k_asm)
  (case k5 => k_asm)
  (case kK => first | exact rfl | assumption)
  (case kd => ktr_room)
  (case ku => ktr_units)
  intro v9 tl9 h9 tk9 F9 N9 d9 e9
  (obtain ⟨t9, q9, r9⟩ := e9)
  subst q9 r9
  clear d9
  (simp only [List.nil_append] at N9)
  (try dsimp only)
  (try k_fold)))
local macro_rules | `(tactic| walk_at "eval ListComp") => `(tactic| (
  k_here
  (with_reducible show wpAny _ _ (eval (Expr.ListComp (Expr.Name _ _) [⟨Expr.Tuple [_, _, _] _ _, _, _, _⟩] _ _) _) _ _ _)
  k_dflt (refine ListComp_3 (_F₀ := by k_asm) (by rfl) (by with_unfolding_all rfl) (by decide) (by rfl) (by decide) (by rfl) (by rfl) (by rfl) (by decide) (by decide) (by decide) ?_)))
theorem law_is (w : World) (mean : ExcName → Option Value) (mg mb : PySem.Str → Option Value) (dp un : Nat) (gd : Option (List Code)) (outer : List Env) (base : Heap) (s : Shared) (Rq : Result → Shared → Prop) (sc : Addr) (vs : List Value) (ns : List Int)
    (h1 : Below (arnd dp un gd outer) base outer s.heap) (h2 : (hd.heap_39 w.params).In s.heap) (h3 : Top hd.view_39 LO mean mg mb s.heap) (h4 : dp + 20 < recursionLimit) (h5 : un + 8 * 20 < cLine)
    (h6 : s.heap.IsList sc vs.toArray) (h7 : IntsAre vs ns) (h8 : ns.length ≤ 63) (hT : PySem.Flt.Hid (∀ W, HuesOk W)) (hR : PySem.Flt.Hid (∀ ss ∈ lefts, RowsOk (Txt.join (PySem.Str.ofString "") ss))) (hP : PySem.Flt.Hid (∀ ss ∈ lefts, LastOk (Txt.join (PySem.Str.ofString "") ss)))
    (hQ : PySem.Flt.Hid (∀ ss ∈ lefts, ∀ W : Int, ∀ row ∈ rowsN (Txt.join (PySem.Str.ofString "") ss) (Txt.join (PySem.Str.ofString "") ss).length, RowOk (Txt.join (PySem.Str.ofString "") ss) W row))
    (hG : PySem.Flt.Hid (∀ ss ∈ lefts, ∀ W : Int, SortOk (Txt.join (PySem.Str.ofString "") ss) W)) (hX : PySem.Flt.Hid (∀ ss ∈ lefts, TextsOk (Txt.join (PySem.Str.ofString "") ss)))
    (hret : ∀ L m h' tk', Fr s.heap L h' m → Rq (.ok (.ret (.bool true))) { s with heap := h', toks := tk' }) :
    codeAny (model PySem.Challenge.rw_wu0001_01.row.prog w) (arnd dp un gd outer) (.call (.ref 96) ⟨[.ref sc], []⟩) Rq s := by
  revert h1 h2 h3
  k_fill
  intros
  refine' enterSC ?k1 ?k2 ?k3 ?k4 ?k5 ?k6 ?k7 ?k8 ?kD ?_ ?c2 ?c3 ?c4
  (case k1 => assumption)
  (case k2 => assumption)
  (case k3 => assumption)
  (case k4 => k_is)
  (case k5 => k_is)
  (case k6 => ktr_room)
  (case k7 => exact BindsTo.of_eq rfl)
  (case k8 => exact rfl)
  (case kD => decide +kernel)
  (case c2 => exact rfl)
  (case c3 => exact rfl)
  (case c4 => exact rfl)
  k_whole
  intro L' h' tk' cells' F' N' Y'
  have hY := Mine.kc_ten Y'
  clear Y'
  obtain ⟨_, _, _, _, _, _, _, _, _, _, hE, _, _, _, _, _, _, _, _, _, _⟩ := hY
  subst hE
  (try dsimp only)
  (try k_fold)
  k_steps
  refine Stop.out ?_
  refine LCg.CompSrc.range (n := 4) (by rfl) (by k_asm) (by k_asm) (by assumption) (by decide) (by decide) (by decide) ?_
  intro g1
  refine comp_rest (fun i ys nw => nw = _ ∧ ∃ ss, StrsAre ys ss ∧ ss.length = i ∧ ∀ x ∈ ss, isSign x) ⟨rfl, [], .nil, rfl, fun _ h => nomatch h⟩ ?_ ?_
  · rintro i v ys nw I oI C oC D m₂ h tk E' hi ⟨t, rfl⟩ ⟨rfl, ss, hs1, hs2, hs3⟩ hC hx F N off ne
    have off' := PySem.Flt.Hid.mk off
    simp only [LCg.Off3, and_true] at off
    k_steps
    refine Stop.out ?_
    refine LCg.CompSrc.ledger (by rfl) (by k_asm) (by k_asm) (.head _) (Nat.le_trans (slicePick_size_le _ _ _ _) (by rw [List.size_toArray, sizeLine_eq, IntsAre.length (by assumption), List.length_take]; omega)) ?_
    intro g2
    refine comp_ints (fun x => x.fmod 3) (IntsAre.pick (by assumption) _ _ _) ?_ ?_
    · intro kk tt I2 oI2 C2 oC2 D2 m2 ys2 h2 tk2 E2 hk2 hC2 hx2 F2 N2 off2 ne2
      have off2' := PySem.Flt.Hid.mk off2
      simp only [LCg.Off3, and_true] at off2
      k_steps
      exact LCg.CompEnd.intro (by assumption) (by assumption) _ (fun _ h => h) off2'.out (.inr ⟨_, .head _, rfl, _, rfl⟩) ⟨rfl, _, rfl⟩
    · intro ys2 hys2 D2 h2 tk2 F2 N2 off2
      simp only [LCg.Off1, and_true] at off2
      k_steps
      exact LCg.CompEnd.intro (by assumption) (by assumption) _ (fun _ h => .tail _ (.tail _ h)) off'.out True.intro ⟨rfl, _, strs_snoc hs1, by simp [hs2], fun x hx => (List.mem_append.mp hx).elim (hs3 x) fun hx => by rw [List.mem_singleton.mp hx]; exact item_sign _⟩
  · rintro ys nw ⟨rfl, ss, hs1, hs2, hs3⟩ D2 h2 tk2 F2 N2 off2
    simp only [LCg.Off1, and_true] at off2
    have hlay := lay_four hs2 hs3
    have hlen : ys.length = ss.length := StrsAre.length hs1
    have hs3' := PySem.Flt.Hid.mk hs3
    clear hs3
    k_steps
    refine Stop.out ?_
    rename List.Perm _ _ => p9
    rename sortedS _ = true => s9
    rename _ ∈ lefts => hleft
    rename List PySem.Str => sl
    rename News _ _ _ _ => N9
    have N8 := News.drop (News.drop N9)
    clear p9 s9 hlay hlen hs3' N9
    refine LCg.CompSrc.ledger (its := _) (by rfl) (by k_asm) (by k_asm) (.tail _ (.head _)) (by rw [List.size_toArray, sizeLine_eq, IntsAre.length (by assumption), List.length_take]; omega) ?_
    intro g3
    refine comp_ints (fun x => x.fmod 56) (by assumption) ?_ ?_
    · intro kk tt I2 oI2 C2 oC2 D2 m2 ys2 h2 tk2 E2 hk2 hC2 hx2 F2 N2 off2 ne2
      have off2' := PySem.Flt.Hid.mk off2
      simp only [LCg.Off3, and_true] at off2
      k_steps
      exact LCg.CompEnd.intro (by assumption) (by assumption) _ (fun _ h => h) off2'.out (.inr ⟨_, .tail _ (.head _), rfl, _, rfl⟩) ⟨rfl, _, rfl⟩
    · intro ys2 hys2 D3 h5 tk3 F3 N4 off3
      simp only [LCg.Off1, and_true] at off3
      generalize List.map (fun x => x.fmod 56) (List.take 63 ns) = wl at hys2
      k_steps
      obtain ⟨hO1, hO2⟩ := hT.out wl.sum
      have hO2' := PySem.Flt.Hid.mk hO2
      clear hO2
      have hcnt := counts_all _ hleft
      obtain ⟨⟨q1, q2⟩, ⟨q3, q4⟩, ⟨q5, q6⟩, q7⟩ := hcnt
      have w1 := fmod_lo (wl.sum + 3) (n := 7) (by decide)
      have w2 := fmod_hi (wl.sum + 3) (n := 7) (by decide)
      have w3 := fmod_lo (wl.sum.fdiv 7) (n := 8) (by decide)
      have w4 := fmod_hi (wl.sum.fdiv 7) (n := 8) (by decide)
      have w5 := fmod_lo wl.sum (n := 4) (by decide)
      have w6 := fmod_hi wl.sum (n := 4) (by decide)
      refine Stop.out ?_
      refine LCg.CompSrc.range (by rfl) (by k_asm) (by k_asm) (show IsRange _ _ _ _ _ _ _ _ from News.get (by assumption) (.head _)) (small_one (by omega) (by omega) (by omega) (by omega)) (rangeSize_nat _ _) (by rw [sizeLine_eq]; omega) ?_
      intro g4
      refine comp_rest (fun i ys nw => ∃ xs, nw = _ ++ xs ∧ DatAll xs ys ((List.range i).map fun j : Nat => hueD wl.sum (-Txt.count (Txt.join (PySem.Str.ofString "") sl) (PySem.Str.ofString "b") + (j : Int))) ∧ Apart [L' + 1, L' + 1 + 1, L' + 1 + 1 + 1, L' + 1 + 1 + 1 + 1, L' + 1 + 1 + 1 + 1 + 1, L' + 1 + 1 + 1 + 1 + 1 + 1, L' + 1 + 1 + 1 + 1 + 1 + 1 + 1, L' + 1 + 1 + 1 + 1 + 1 + 1 + 1 + 1, L' + 1 + 1 + 1 + 1 + 1 + 1 + 1 + 1 + 1, L' + 1 + 1 + 1 + 1 + 1 + 1 + 1 + 1 + 1 + 1] xs) ⟨[], (List.append_nil _).symm, .nil, Apart.nil⟩ ?_ ?_
      · rintro i v ys3 nw I oI C oC D m₂ h tk E' hi ⟨t, rfl⟩ ⟨xs, rfl, hd, ha⟩ hC hx F N off ne
        simp only [List.cons_append, List.nil_append] at N off
        have z1 : -4 ≤ -Txt.count (Txt.join (PySem.Str.ofString "") sl) (PySem.Str.ofString "b") + (i : Int) := by (clear off ne; (repeat (rename (@Ne Nat _ _) ∧ _ => hcc; clear hcc)); omega)
        have z2 : -Txt.count (Txt.join (PySem.Str.ofString "") sl) (PySem.Str.ofString "b") + (i : Int) ≤ 8 := by (clear off ne; (repeat (rename (@Ne Nat _ _) ∧ _ => hcc; clear hcc)); omega)
        have off' := PySem.Flt.Hid.mk off
        simp only [LCg.Off3, and_true] at off
        have z3 := hO2'.out _ z1 z2
        obtain ⟨z4, z5⟩ := prod_bounds _ _ z1 z2 (show 1 ≤ 1 + (wl.sum.fdiv 7).fmod 8 by omega) (by omega)
        k_steps
        rename PySem.Flt.Hid _ => dd9
        have dq := dd9.out
        simp only [List.forall_mem_cons, List.not_mem_nil, false_implies, implies_true, and_true] at dq
        refine CompEnd.grow (lit := [_, _, _, _, _, _, _, _, _, _, _, _, _, _]) (by assumption) (by assumption) dd9.out off'.out True.intro ⟨_ :: xs, rfl, ?_, Apart.cons (fun a ha => ?_) ha⟩
        · rw [List.range_succ, List.map_append]
          exact DatAll.append (DatAll.mono (fun p hp => .tail _ hp) hd) (.one (.list (vs := [_, _]) (.head _) (.cons (.int _ _) (.cons (.int _ _) .nil))))
        · simp only [List.mem_cons, List.not_mem_nil, or_false] at ha
          rcases ha with rfl | rfl | rfl | rfl | rfl | rfl | rfl | rfl | rfl | rfl
          all_goals (obtain ⟨_, _, _, _, _, _, _, _, _, _, _, _, _, _, _, _, _, _⟩ := dq; assumption)
      · rintro ys3 nw ⟨xs, rfl, hd, ha⟩ D3 h2 tk2 F2 N2 off2
        simp only [List.cons_append, List.nil_append] at N2 off2
        simp only [LCg.Off1] at off2
        clear hO2'
        k_steps
        refine Stop.out ?_
        refine LCg.CompSrc.range (by rfl) (by k_asm) (by k_asm) (show IsRange _ _ _ _ _ _ _ _ from News.get (by assumption) (.tail _ (.head _))) (small_one (by omega) (by omega) (by omega) (by omega)) (rangeSize_nat _ _) (by rw [sizeLine_eq]; omega) ?_
        intro g5
        refine comp_rest (fun i ys nw => ∃ zs, nw = [_, _, _, _, _, _, _, _, _, _, _, _, _, _, _] ++ zs ∧ (∀ p ∈ xs, p ∈ zs) ∧ DatAll zs ys ((List.range i).map fun j : Nat => hueD wl.sum (-Txt.count (Txt.join (PySem.Str.ofString "") sl) (PySem.Str.ofString "b") + (j : Int))) ∧ Apart [L' + 1, L' + 1 + 1, L' + 1 + 1 + 1, L' + 1 + 1 + 1 + 1, L' + 1 + 1 + 1 + 1 + 1, L' + 1 + 1 + 1 + 1 + 1 + 1, L' + 1 + 1 + 1 + 1 + 1 + 1 + 1, L' + 1 + 1 + 1 + 1 + 1 + 1 + 1 + 1, L' + 1 + 1 + 1 + 1 + 1 + 1 + 1 + 1 + 1, L' + 1 + 1 + 1 + 1 + 1 + 1 + 1 + 1 + 1 + 1] zs) ⟨xs, rfl, fun _ h => h, .nil, ha⟩ ?_ ?_
        · rintro i v ys4 nw I oI C oC D m₂ h tk E' hi ⟨t, rfl⟩ ⟨zs, rfl, hz, hd4, ha4⟩ hC hx F N off ne
          have off' := PySem.Flt.Hid.mk off
          simp only [List.cons_append, List.nil_append] at N off
          simp only [LCg.Off3] at off
          k_steps
          rename _ ∧ _ => hl1
          refine CompEnd.grow (lit := [_, _, _, _, _, _, _, _, _, _, _, _, _, _, _]) (by assumption) (by assumption) ?d9 off'.out True.intro ⟨_ :: zs, rfl, fun p hp => .tail _ (hz p hp), ?_, Apart.cons (fun a ha => ?_) ha4⟩
          · exact new_ne hl1
          · rw [List.range_succ, List.map_append]
            exact DatAll.append (DatAll.mono (fun p hp => .tail _ hp) hd4) (.one (.list (vs := [_, _]) (.head _) (.cons (.int _ _) (.cons (.int _ _) .nil))))
          · simp only [List.mem_cons, List.not_mem_nil, or_false] at ha
            obtain ⟨_, _, _, _, _, _, _, _, c10, c9, c8, c7, c6, c5, c4, c3, c2, c1, _⟩ := hl1
            rcases ha with rfl | rfl | rfl | rfl | rfl | rfl | rfl | rfl | rfl | rfl
            all_goals (refine Nat.ne_of_lt ?_; assumption)
        · rintro ys4 nw ⟨zs, rfl, hz, hd4, ha4⟩ D4 h2 tk2 F2 N2 off2
          simp only [List.cons_append, List.nil_append] at N2 off2
          simp only [LCg.Off1] at off2
          have hd4' := PySem.Flt.Hid.mk hd4
          clear hd4
          k_steps
          refine Stop.out ?_
          refine ne_same (by assumption) (.tail _ (.head _)) (DatAll.mono (fun p hp => ?_) hd) (.head _) (DatAll.mono (fun p hp => ?_) hd4'.out) (fun d hm => ?_) (by first | ktr_units | (show un + _ + 64 < cLine; omega)) ?_
          · simp only [List.mem_cons]; simp [hz p hp]
          · simp only [List.mem_cons]; simp [hp]
          · obtain ⟨j, _, rfl⟩ := List.mem_map.mp hm
            exact hueD_ok _ _
          k_steps
          refine Stop.out ?_
          have hR1 := hR.out _ hleft
          refine' useS (rows_is _ _ hR1.1 (.mk hR1.2)) ?k1 ?k2 ?k3 ?k4 ?k5 ?kK ?kd ?ku ?_
          (case k1 => k_asm)
          (case k2 => k_asm)
          (case k3 => k_asm)
          (case k4 => k_asm)
          (case k5 => k_asm)
          (case kK => first | exact rfl | assumption)
          (case kd => ktr_room)
          (case ku => ktr_units)
          intro v9 tl9 h9 tk9 F9 N9 d9 e9
          obtain ⟨r9, vs9, n9, rfl, hr9, hd9⟩ := e9
          have N10 := News.rot (lit := [_, _, _, _, _, _, _, _, _, _, _, _, _, _, _, _]) (xs := zs) N9
          simp only [List.cons_append, List.nil_append] at N10
          have ha5 := Apart.more ha4 d9 (fun a ha => by
            simp only [List.mem_cons, List.not_mem_nil, or_false] at ha
            rcases ha with rfl | rfl | rfl | rfl | rfl | rfl | rfl | rfl | rfl | rfl
            all_goals (apply Exists.intro; repeat (first | exact List.Mem.head _ | apply List.Mem.tail)))
          have hd5 : DatAll (zs ++ tl9) ys3 _ := DatAll.mono (fun p hp => List.mem_append_left _ (hz p hp)) hd
          have hr5 := List.mem_append_right zs hr9
          have hd6 : DatAll (zs ++ tl9) vs9 _ := DatAll.mono (fun p hp => List.mem_append_right zs hp) hd9
          obtain ⟨us, hus⟩ : ∃ us, us = zs ++ tl9 := ⟨_, rfl⟩
          rw [← hus] at N10 ha5 hd5 hr5 hd6
          have hd5' := PySem.Flt.Hid.mk hd5
          have hd6' := PySem.Flt.Hid.mk hd6
          clear ha4 hd hr9 hd9 N9 d9 hd4' hd5 hd6 hz ha N2 hus
          k_steps
          refine Stop.out ?_
          obtain ⟨y1, y2, y3, y4, y5, y6⟩ := hP.out _ hleft
          have y4' := PySem.Flt.Hid.mk y4
          clear y4
          refine dat_last (ds := (rowsN _ _).map rowDat) (by assumption) (by repeat (first | assumption | apply List.Mem.tail)) (DatAll.mono (fun p hp => by repeat (first | assumption | apply List.Mem.tail)) hd6'.out) (by simpa using y1) (by rw [List.length_map]; exact (hR1.2 _).1) (fun v hv => ?_)
          rw [last_dat y1] at hv
          generalize lastRow (Txt.join (PySem.Str.ofString "") sl) = lr at hv y2 y3 y4' y5 y6
          unfold rowDat at hv
          cases hv with
          | @list a ws nn _ hma hw =>
          cases hw with
          | @cons x1 _ _ _ hx1 hw =>
          cases hw with
          | @cons x2 _ _ _ hx2 hw =>
          cases hw with
          | @cons x3 _ _ _ hx3 hw =>
          cases hw
          cases hx1 with
          | str _ tt1 =>
          clear hx2 hx3
          rename News _ _ _ _ => NN
          have hla := (⟨_, NN.get hma, rfl, _, rfl⟩ : Heap.IsList _ a [Value.str lr.text tt1, x2, x3].toArray)
          clear hR1 hma
          k_steps
          have yl : (piecesOf lr.text).length = 4 := by unfold piecesOf; rw [List.length_map, Array.length_toList]; exact y3
          refine SrcS.intro (by k_asm) (by k_asm) y2 (by rw [sizeLine_eq, y3]; decide) ?_
          intro g6
          refine comp_rest (fun i ys nw => nw = _ ∧ ∃ bs : List (Array UInt8 × Tok), ys = bytesV bs ∧ bs.map (·.1) = (piecesOf lr.text).take i) ⟨rfl, [], rfl, rfl⟩ ?_ ?_
          · rintro i v ys5 nw I oI C oC D m₂ h tk E' hi ⟨c, u, hc, rfl⟩ ⟨rfl, bs, rfl, hbs⟩ hC hx F N off ne
            have off' := PySem.Flt.Hid.mk off
            simp only [LCg.Off3] at off
            have hsg := y4'.out c (by rw [Array.mem_toList_iff]; exact Array.mem_of_getElem? hc)
            have hpc : (piecesOf lr.text)[i]? = some (pieceB ⟨#[c]⟩) := by
              unfold piecesOf; rw [List.getElem?_map, Array.getElem?_toList, hc]; rfl
            have hpc' := PySem.Flt.Hid.mk hpc
            clear hpc hc
            k_steps
            exact LCg.CompEnd.intro (by assumption) (by assumption) _ (fun _ h => h) off'.out True.intro ⟨rfl, bs ++ [(_, _)], bytes_snoc _ _ _, by rw [List.map_append, hbs, List.take_add_one, hpc'.out]; rfl⟩
          · rintro ys5 nw ⟨rfl, bs, rfl, hbs⟩ D5 h5 tk5 F5 N5 off5
            simp only [LCg.Off1] at off5
            rw [y3, List.take_of_length_le (by omega)] at hbs
            have hb1 : bs.length ≠ 1 := by
              have := congrArg List.length hbs
              rw [List.length_map, yl] at this
              omega
            have hb2 : (bs.map (·.1.size)).sum ≤ 1000 := by
              have : bs.map (·.1.size) = (bs.map (·.1)).map (·.size) := by rw [List.map_map]; rfl
              rw [this, hbs]; exact y5
            rw [← hbs] at y6
            clear hbs y5
            k_steps
            · rename _ ≠ _ => hbad
              exact absurd rfl hbad
            · rename News _ _ _ _ => NN
              obtain ⟨sw, hd, oS, oA, oT, oH, oL, rfl, rfl, rfl, rfl, rfl, rfl, rfl, N11⟩ := named18 NN
              clear NN
              rename _ < _ ∧ _ => hlt
              obtain ⟨_, _, k1, _, _, _, _, k2, k3, k4, k5, k6, _, _, _, _, _, k7⟩ := hlt
              have ha6 := apart6 k7 ha5
              (rename (@Ne Nat _ hd) ∧ _ => hne)
              obtain ⟨_, _, _, _, z5, z4, z3, z2, z1, _⟩ := hne
              clear ha5 k7
              repeat (rename (@Ne Nat _ _) ∧ _ => hc; clear hc)
              repeat (rename (@LT.lt Nat _ _ _) ∧ _ => hc; clear hc)
              refine iterT_list (J4 _ sw hd _ _ _ _ _ ys3 oS oH oL us (sweptN wl.sum (Txt.join (PySem.Str.ofString "") sl))) rfl (fun i m nw hJ => hJ.mem hr5) (by assumption) N11 ⟨[], 0, oA, oT, _, _, none, none, m2_start rfl rfl, rfl, (by assumption), (by assumption), .nil⟩ ?_ ?_
              · rintro i v m₁ news₁ s₁ I oI hv ⟨ys, k, oA, oT, x, y, o1, o2, rfl, rfl, hA1, hT1, hys⟩ off F1 N1
                have hi : i < (rowsN (Txt.join (PySem.Str.ofString "") sl) (Txt.join (PySem.Str.ofString "") sl).length).length := by
                  have := DatAll.length hd6'.out
                  rw [List.length_map] at this
                  rw [← this]; exact (List.getElem?_eq_some_iff.mp hv).1
                obtain ⟨v', hv', hin⟩ := DatAll.get hd6'.out (k := i) (by simpa using hi)
                rw [hv] at hv'
                cases hv'
                rw [List.getElem_map] at hin
                have hsw : (sweptN wl.sum (Txt.join (PySem.Str.ofString "") sl))[i]? = some (sweepT wl.sum (rowsN (Txt.join (PySem.Str.ofString "") sl) (Txt.join (PySem.Str.ofString "") sl).length)[i]) := by
                  unfold sweptN
                  rw [List.getElem?_map, List.getElem?_eq_getElem hi]; rfl
                have hro := hQ.out _ hleft wl.sum _ (List.getElem_mem hi)
                generalize (rowsN (Txt.join (PySem.Str.ofString "") sl) (Txt.join (PySem.Str.ofString "") sl).length)[i] = row at hin hsw hro
                unfold rowDat at hin
                cases hin with
                | @list a ws nn _ ha hw =>
                cases hw with
                | @cons x1 _ _ _ hx1 hw =>
                cases hw with
                | @cons x2 _ _ _ hx2 hw =>
                cases hw with
                | @cons x3 _ _ _ hx3 hw =>
                cases hw
                cases hx1 with
                | str _ ta =>
                cases hx3 with
                | str _ tr =>
                cases hx2 with
                | @list b as nb _ hbm has =>
                have b5 := ints_of has
                have hla2 : s₁.heap.IsList a [Value.str row.text ta, Value.ref b, Value.str row.rest tr].toArray := ⟨_, N1.get (.tail _ (.tail _ (.tail _ (.tail _ (.tail _ (.tail _ (.tail _ (.tail _ ha)))))))), rfl, _, rfl⟩
                have n1 : @Ne Nat _ I := off _ (.head _)
                have n2 : @Ne Nat _ I := off _ (.tail _ (.head _))
                have n3 : @Ne Nat _ I := off _ (.tail _ (.tail _ (.head _)))
                have n4 : @Ne Nat _ I := off _ (.tail _ (.tail _ (.tail _ (.head _))))
                have n5 : @Ne Nat _ I := off _ (.tail _ (.tail _ (.tail _ (.tail _ (.head _)))))
                have n6 : @Ne Nat _ I := off _ (.tail _ (.tail _ (.tail _ (.tail _ (.tail _ (.head _))))))
                have n7 : @Ne Nat _ I := off _ (.tail _ (.tail _ (.tail _ (.tail _ (.tail _ (.tail _ (.head _)))))))
                have off' := PySem.Flt.Hid.mk off
                clear off
                k_steps
                have htl := hro.len
                have r4 := hro.run
                have r5 := hro.perm
                have r6 := hro.room
                have r7 : sweepT wl.sum row = Txt.join (PySem.Str.ofString "") ((rowPerm wl.sum row).toList.map fun i : Nat => Txt.item row.text (i : Int)) := rfl
                generalize rowPerm wl.sum row = pm at r4 r5 r6 r7
                refine Stop.out ?_
                refine LCg.CompSrc.range (n := 5) (by rfl) (by k_asm) (by k_asm) (by assumption) (by decide) (by decide) (by decide) ?_
                intro g7
                refine comp_rest (fun i ys nw => nw = _ ∧ IntsAre ys ((List.range i).map (accZ row.text))) ⟨rfl, .nil⟩ ?_ ?_
                · rintro j v ys7 nw I7 oI7 C7 oC7 D7 m₂ h tk E' hj ⟨t, rfl⟩ ⟨rfl, hi7⟩ hC hx F N off7 ne
                  have off7' := PySem.Flt.Hid.mk off7
                  simp only [LCg.Off3] at off7
                  k_steps
                  exact LCg.CompEnd.intro (by assumption) (by assumption) _ (fun _ h => h) off7'.out True.intro ⟨rfl, by rw [List.range_succ, List.map_append]; exact ksk_snoc hi7⟩
                · rintro ys7 nw ⟨rfl, hi7⟩ D7 h7 tk7 F7 N7 off7
                  simp only [LCg.Off1] at off7
                  k_steps
                  refine Stop.out ?_
                  have hbN := hbm
                  refine ne_same (ds := row.accs.map Dat.int) (by assumption) (.tail _ (.tail _ (.tail _ (.tail _ (.tail _ (.tail _ (.tail _ (.tail _ (.tail _ hbm))))))))) (dat_of_ints b5) (.head _) (hro.accs ▸ dat_of_ints hi7) (fun d hm => ?_) (by first | ktr_units | (show un + _ + 64 < cLine; omega)) ?_
                  · obtain ⟨j, _, rfl⟩ := List.mem_map.mp hm
                    rfl
                  rename News _ _ _ _ => N8
                  have N9 := News.drop N8
                  clear N8 off7
                  k_steps
                  refine Stop.out ?_
                  refine LCg.CompSrc.range (n := 4) (by rfl) (by k_asm) (by k_asm) (by assumption) (by decide) (by decide) (by decide) ?_
                  intro g8
                  refine comp_rest (fun i ys nw => ∃ xs, nw = [_, _, _, _, _, _, _, _] ++ xs ∧ (∀ p ∈ us, p ∈ xs) ∧ DatAll xs ys (((rowPairs wl.sum row).take i).map pairD)) ⟨us, rfl, fun _ h => h, .nil⟩ ?_ ?_
                  · rintro j v ys8 nw I8 oI8 C8 oC8 D8 m₂ h tk E' hj ⟨t, rfl⟩ ⟨xs, rfl, hxs, hd8⟩ hC hx F N off8 ne
                    have off8' := PySem.Flt.Hid.mk off8
                    simp only [List.cons_append, List.nil_append] at N off8
                    simp only [LCg.Off3] at off8
                    k_steps
                    refine Stop.out ?_
                    obtain ⟨lo1, lo2⟩ := hro.lo j hj
                    refine int_item N (mem11 hxs _ hbm) b5 (by omega) (show row.accs[(0 + (j : Int) + 1).toNat]? = some (row.accs.getD (j + 1) 0) from by rw [show (0 + (j : Int) + 1).toNat = j + 1 by omega]; exact accs_get hro.accs (by omega)) (by rw [hro.accs, List.length_map, List.length_range]; omega) (fun t1 => ?_)
                    generalize hac : row.accs.getD (j + 1) 0 = ac at lo1 lo2
                    k_steps
                    refine Stop.out ?_
                    refine dat_itemU N (.tail _ (.tail _ (.tail _ (.tail _ (.tail _ (.head _)))))) hd5'.out (by omega) (by rw [List.length_map, List.length_range]; omega) (by rw [List.length_map, List.length_range]; omega) (fun v hv => ?_)
                    rw [hue_at (by omega)] at hv
                    rw [show -Txt.count (Txt.join (PySem.Str.ofString "") sl) (PySem.Str.ofString "b") + (ac - -Txt.count (Txt.join (PySem.Str.ofString "") sl) (PySem.Str.ofString "b")) = ac by omega] at hv
                    obtain ⟨a1, n1, t2, t3, rfl, hm1⟩ := hue_in hv
                    k_steps
                    refine Stop.out ?_
                    refine int_item N (mem11 hxs _ hm1) (.cons _ _ (.cons _ _ .nil)) (by decide) rfl (Nat.le_of_ble_eq_true rfl) (fun t4 => ?_)
                    k_steps
                    rename _ ∧ _ => hl1
                    refine CompEnd.grow (lit := [_, _, _, _, _, _, _, _]) (by assumption) (by assumption) ?dTup off8'.out True.intro ⟨_ :: xs, rfl, fun p hp => .tail _ (hxs p hp), ?_⟩
                    exact new_ne hl1
                    rw [pairs_snoc hj, hac]
                    exact DatAll.append (DatAll.mono (fun p hp => .tail _ hp) hd8) (.one (.tuple (vs := [_, _]) (.head _) (.cons (.int _ _) (.cons (.int _ _) .nil))))
                  · rintro ys8 nw ⟨xs, rfl, hxs, hd8⟩ D10 h10 tk10 F10 N10 off10
                    simp only [List.cons_append, List.nil_append] at N10 off10
                    simp only [LCg.Off1] at off10
                    rw [List.take_of_length_le (by rw [pairs_len]; omega)] at hd8
                    k_steps
                    refine Stop.out ?_
                    refine sorted_T (by assumption) (by assumption) (.head _) (DatAll.mono mem9 hd8) (by rw [pairs_len]; decide) (by rw [pairs_len]; decide) (show ktRun _ (kas_sort (rowPairs wl.sum row).length) = _ from by rw [pairs_len]; exact r4) (fun D11 h11 c11 F11 N11 l11 => ?_)
                    have N12 := drop2 N11
                    clear N11 N10 off10
                    have d1 := allLt_of l11
                    clear l11
                    simp only [AllLt] at d1
                    k_steps
                    refine Stop.out ?_
                    refine LCp.SrcLP.ledger (by rfl) (by assumption) (by assumption) (.head _) (by rw [List.size_toArray, List.length_map, r5.1, sizeLine_eq]; decide) (fun g9 => ?_)
                    refine comp_restP (fun i ys => StrsAre ys ((pm.toList.take i).map fun k : Nat => Txt.item row.text (k : Int))) .nil ?_ ?_
                    · intro j v hj hv
                      obtain ⟨q, a1, n1, t1, t2, hq, hq4, rfl, hm1⟩ := perm_get hd8 r5.2 hv
                      refine ⟨a1, _, _, n1, rfl, mem9 _ hm1, ?_⟩
                      intro ys9 I9 oI9 C9 oC9 D9 m₂ h tk E' hJ hC hx hx2 F N off9 ne
                      have off9' := PySem.Flt.Hid.mk off9
                      simp only [LCg.Off3] at off9
                      k_steps
                      exact LCg.CompEnd.intro (by assumption) (by assumption) _ (fun _ h => h) off9'.out (.inr ⟨_, .head _, rfl, _, rfl⟩) ⟨rfl, text_snoc hJ hq⟩
                    · intro ys9 hys9 D12 h12 tk12 F12 N13 off12
                      have N14 := shrink N13 hxs
                      rw [List.size_toArray, List.length_map, r5.1, List.take_of_length_le (by omega)] at hys9
                      simp only [LCg.Off1] at off12
                      clear N13
                      have hyl : ys.length ≤ 1000 := by
                        rw [StrsAre.len_eq hys, List.length_take]
                        refine Nat.le_trans (Nat.min_le_right _ _) ?_
                        unfold sweptN
                        rw [List.length_map]
                        exact ((hR.out _ hleft).2 _).1
                      k_steps
                      exact turn4 (by assumption) m2_turn (by assumption) off'.out (by assumption) (by assumption) hys (by rw [← r7]; exact hsw)
              · intro m' nw h' tk hJ F' N'
                obtain ⟨ys, k, oA, oT, x, y, o1, o2, rfl, rfl, hA1, hT1, hys⟩ := hJ
                k_steps
                refine Stop.out ?_
                ksk_kw
                ksk_show
                obtain ⟨x1, x2, x3, x4⟩ := hX.out _ hleft
                have x4' := PySem.Flt.Hid.mk x4
                clear x4
                have g := hG.out _ hleft wl.sum
                have hys2 := hys
                rw [List.take_of_length_le (by first | omega | (rw [swept_len, textsN, List.length_map, DatAll.length hd6'.out, List.length_map]; exact Nat.le_refl _))] at hys2
                refine' sorted_X (p := sortPerm wl.sum (Txt.join (PySem.Str.ofString "") sl)) ?k1 ?k2 ?k3 ?k4 ?k5 ?kK ?kd ?ku ?km hys2 (by rw [swept_len]; exact x1) (by rw [swept_len]; exact x2) g.run g.idx ?_
                (case k1 => k_asm)
                (case k2 => k_asm)
                (case k3 => k_asm)
                (case k4 => k_asm)
                (case k5 => k_asm)
                (case km => exact List.Mem.head _)
                (case kK => first | exact rfl | assumption)
                (case kd => ktr_room)
                (case ku => ktr_units)
                intro D13 h13 c13 tk13 ts hts F13 N13 l13
                rw [g.out] at hts
                generalize hT : textsN (Txt.join (PySem.Str.ofString "") sl) = tx at hts x1 x2 x3 x4'
                have d13 := allLt_of l13
                clear l13
                simp only [AllLt] at d13
                obtain ⟨p1, p2, p3, p4, p5, p6, p7, p8⟩ := d13
                k_steps
                refine Stop.out ?_
                rename StrsAre ts _ => hts
                refine LCg.CompSrc.range (by rfl) (by k_asm) (by k_asm) (show IsRange _ _ _ _ _ _ _ _ from News.get (by assumption) (.head _)) (small_one (by omega) (by omega) (by omega) (by omega)) (rangeSize_nat _ _) (by rw [sizeLine_eq]; omega) ?_
                intro g10
                refine comp_rest (fun i ys nw => nw = _ ∧ IntsAre ys (List.replicate i (-1))) ⟨rfl, .nil⟩ ?_ ?_
                · rintro j v ys14 nw I14 oI14 C14 oC14 D14 m₂ h tk E' hj ⟨t, rfl⟩ ⟨rfl, hi14⟩ hC hx F N off14 ne
                  have hj2 : j + 1 < tx.length := by (clear off14 ne; (repeat (rename (@Ne Nat _ _) ∧ _ => hcc; clear hcc)); omega)
                  have off14' := PySem.Flt.Hid.mk off14
                  simp only [LCg.Off3] at off14
                  k_steps
                  refine Stop.out ?_
                  refine str_item (by assumption) (.tail _ (.tail _ (.tail _ (.tail _ (.head _))))) hts (by omega) (show tx[(1 + (j : Int) - 1).toNat]? = some (tx.getD j (st "")) from by rw [show (1 + (j : Int) - 1).toNat = j by omega]; exact getD_at (by omega)) (by omega) (fun t1 => ?_)
                  k_steps
                  refine Stop.out ?_
                  refine str_item (by assumption) (.tail _ (.tail _ (.tail _ (.tail _ (.head _))))) hts (by omega) (show tx[(1 + (j : Int)).toNat]? = some (tx.getD (j + 1) (st "")) from by rw [show (1 + (j : Int)).toNat = j + 1 by omega]; exact getD_at hj2) (by omega) (fun t2 => ?_)
                  k_steps
                  exact LCg.CompEnd.intro (by assumption) (by assumption) _ (fun _ h => h) off14'.out True.intro ⟨rfl, ints_rep hi14 (x3 j hj2)⟩
                · rintro ys14 nw ⟨rfl, hi14⟩ D14 h14 tk14 F14 N14 off14
                  simp only [LCg.Off1] at off14
                  k_steps
                  refine Stop.out ?_
                  refine ne_same (ds := List.map Dat.int (List.replicate _ (-1))) (by assumption) (.tail _ (.tail _ (.head _))) (dat_of_ints hi14) (.head _) (by first | exact dat_of_ints (flat_rep _ _) | (rw [show ((tx.length : Int) - 1).toNat = tx.length - 1 by omega]; exact dat_of_ints (flat_rep _ _))) (fun d hm => ?_) (by first | ktr_units | (show un + _ + 64 < cLine; omega)) ?_
                  · obtain ⟨j, _, rfl⟩ := List.mem_map.mp hm
                    rfl
                  rename News _ _ _ _ => N16
                  have N17 := News.drop (News.drop (News.drop (News.drop N16)))
                  clear N16 off14
                  k_steps
                  refine ⟨_, _, _, _, _, rfl, (by assumption), (by assumption), (mem8 _ hr5), (rows3_of hd6'.out).mono mem8, ?_, ?_⟩
                  · rw [DatAll.length hd6'.out, List.length_map, sizeLine_eq]
                    have := ((hR.out _ hleft).2 (Txt.join (PySem.Str.ofString "") sl).length).1
                    omega
                  · intro D15 h15 tk15 ys15 F15 N15 off15 hys15
                    have hys16 : StrsAre ys15 tx := hT ▸ hys15
                    simp only [LCg.Off1] at off15
                    k_steps
                    refine Stop.out ?_
                    rename StrsAre ts _ => hts
                    refine eq_same (ds := tx.map Dat.str) (by assumption) (.tail _ (.head _)) (dat_of_strs hts) (.head _) (dat_of_strs hys16) (fun d hm => ?_) (by first | ktr_units | (show un + _ + 64 < cLine; omega)) ?_
                    · obtain ⟨j, hj, rfl⟩ := List.mem_map.mp hm
                      exact x4'.out j hj
                    k_steps
                    exact hret _ _ _ _ (by assumption)
end
end Mine

namespace Mine
/-- words of four signs as numbers -/
def wStr (w : List Nat) : PySem.Str := ⟨(w.map (97 + ·)).toArray⟩
def sgn (d : Nat) : PySem.Str := ⟨#[97 + d]⟩
def wAcc (w : List Nat) : List Int := w.foldl (fun acc d => acc ++ [acc.getLastD 0 + (if d = 0 then 1 else if d = 1 then -1 else 2)]) [0]
def wRow (w : List Nat) : RowD := ⟨wStr w, wAcc w, ⟨#[]⟩⟩
def digs : List Nat := [0, 1, 2]
def W81 : List (List Nat) := digs.flatMap fun a => digs.flatMap fun b => digs.flatMap fun c => digs.map fun d => [a, b, c, d]
def cnt (d : Nat) (w : List Nat) : Nat := (w.filter (Nat.beq d)).length
def srt (w : List Nat) : List Nat := List.replicate (cnt 0 w) 0 ++ (List.replicate (cnt 1 w) 1 ++ List.replicate (cnt 2 w) 2)
def leftsD : List (List Nat) := W81.filter fun w => decide (srt w = w)
def wordsOf (l : List Nat) : List (List Nat) := W81.filter fun w => decide (srt w = l)
def leftOf (l : List Nat) : PySem.Str := Txt.join (PySem.Str.ofString "") (l.map sgn)
theorem lefts_D : lefts = leftsD.map (·.map sgn) := by decide +kernel
theorem of_lefts {P : PySem.Str → Prop} (h : ∀ l ∈ leftsD, P (leftOf l)) : ∀ ss ∈ lefts, P (Txt.join (PySem.Str.ofString "") ss) := fun ss hs => by
  rw [lefts_D] at hs
  obtain ⟨l, hl, rfl⟩ := List.mem_map.mp hs
  exact h l hl
def rowsEq : List RowD → List RowD → Bool
  | [], [] => true
  | x :: a, y :: b => decide (x.text = y.text) && (decide (x.accs = y.accs) && (decide (x.rest = y.rest) && rowsEq a b))
  | _, _ => false
theorem rowsEq_of : ∀ {a b : List RowD}, rowsEq a b = true → a = b
  | [], [], _ => rfl
  | [], _ :: _, h => by simp [rowsEq] at h
  | _ :: _, [], h => by simp [rowsEq] at h
  | ⟨t, c, r⟩ :: a, ⟨t', c', r'⟩ :: b, h => by
    simp only [rowsEq, Bool.and_eq_true, decide_eq_true_eq] at h
    obtain ⟨rfl, rfl, rfl, h⟩ := h
    rw [rowsEq_of h]
theorem rows_all : ∀ l ∈ leftsD, (leftOf l).length = 4 ∧ rowsEq (rowsN (leftOf l) 4) ((wordsOf l).map wRow) = true := by decide +kernel
theorem rows_D {l : List Nat} (hl : l ∈ leftsD) : rowsN (leftOf l) (leftOf l).length = (wordsOf l).map wRow := by
  obtain ⟨h1, h2⟩ := rows_all l hl
  rw [h1]; exact rowsEq_of h2
theorem texts_D {l : List Nat} (hl : l ∈ leftsD) : textsN (leftOf l) = (wordsOf l).map wStr := by
  unfold textsN; rw [rows_D hl, List.map_map]; rfl
-- what _law_rows asks
def signB (x : PySem.Str) : Bool := decide (x = PySem.Str.ofString "a") || (decide (x = PySem.Str.ofString "b") || decide (x = PySem.Str.ofString "c"))
theorem signB_of {x : PySem.Str} (h : signB x = true) : isSign x := by
  simp only [signB, Bool.or_eq_true, decide_eq_true_eq] at h; exact h
def rowB (row : RowD) : Bool := Nat.ble row.text.length 100 && (Nat.ble row.rest.length 100 && (((List.range row.rest.length).all fun a : Nat => signB (Txt.item row.rest (0 + (a : Int)))) && (!row.accs.isEmpty && Nat.ble row.accs.length 100)))
theorem rowB_of {row : RowD} (h : rowB row = true) : row.text.length ≤ 100 ∧ row.rest.length ≤ 100 ∧ (∀ a : Nat, a < row.rest.length → isSign (Txt.item row.rest (0 + (a : Int)))) ∧ row.accs ≠ [] ∧ row.accs.length ≤ 100 := by
  simp only [rowB, Bool.and_eq_true, Nat.ble_eq, List.all_eq_true, List.mem_range, Bool.not_eq_true', List.isEmpty_eq_false_iff] at h
  obtain ⟨h1, h2, h3, h4, h5⟩ := h
  exact ⟨h1, h2, fun a ha => signB_of (h3 a ha), h4, h5⟩
theorem rowsok_all : ∀ l ∈ leftsD, (rowsN (leftOf l) 5).isEmpty = true ∧ ∀ i ∈ [0, 1, 2, 3, 4], Nat.ble (rowsN (leftOf l) i).length 1000 = true ∧ (rowsN (leftOf l) i).all rowB = true := by decide +kernel
theorem rows_none {left : PySem.Str} (h : rowsN left 5 = []) : ∀ k, rowsN left (5 + k) = []
  | 0 => h
  | k + 1 => by show (rowsN left (5 + k)).flatMap grow = []; rw [rows_none h k]; rfl
theorem rowsOk_D {l : List Nat} (hl : l ∈ leftsD) : RowsOk (leftOf l) := by
  obtain ⟨h5, h⟩ := rowsok_all l hl
  refine ⟨by rw [(rows_all l hl).1]; decide, fun i => ?_⟩
  by_cases hi : i < 5
  · obtain ⟨h1, h2⟩ := h i (by simp only [List.mem_cons, List.not_mem_nil, or_false]; omega)
    exact ⟨by simpa using h1, fun row hr => rowB_of (List.all_eq_true.mp h2 row hr)⟩
  · have e : rowsN (leftOf l) i = [] := by
      have := rows_none (List.isEmpty_iff.mp h5) (i - 5)
      rwa [show 5 + (i - 5) = i by omega] at this
    rw [e]
    exact ⟨by decide, fun _ hr => nomatch hr⟩
-- the last row's text
def lastW (l : List Nat) : List Nat := ((wordsOf l).getLast?).getD []
def lastB (l : List Nat) : Bool :=
  !(wordsOf l).isEmpty && (decide ((wStr (lastW l)).cps.all (· < 128) = true) && (Nat.beq (wStr (lastW l)).cps.size 4 && (((wStr (lastW l)).cps.toList.all fun c => signB ⟨#[c]⟩) && (Nat.ble ((piecesOf (wStr (lastW l))).map (·.size)).sum 1000 &&
    decide (pdF (Builtin.Bytes.joined #[] (piecesOf (wStr (lastW l)))) = some (Txt.count (leftOf l) (PySem.Str.ofString "a") - Txt.count (leftOf l) (PySem.Str.ofString "b") + 2 * Txt.count (leftOf l) (PySem.Str.ofString "c")))))))
theorem leftsD_is : leftsD = [[0, 0, 0, 0], [0, 0, 0, 1], [0, 0, 0, 2], [0, 0, 1, 1], [0, 0, 1, 2], [0, 0, 2, 2], [0, 1, 1, 1], [0, 1, 1, 2], [0, 1, 2, 2], [0, 2, 2, 2], [1, 1, 1, 1], [1, 1, 1, 2], [1, 1, 2, 2], [1, 2, 2, 2], [2, 2, 2, 2]] := by decide +kernel
theorem last_0 : lastB [0, 0, 0, 0] = true := by decide +kernel
theorem last_1 : lastB [0, 0, 0, 1] = true := by decide +kernel
theorem last_2 : lastB [0, 0, 0, 2] = true := by decide +kernel
theorem last_3 : lastB [0, 0, 1, 1] = true := by decide +kernel
theorem last_4 : lastB [0, 0, 1, 2] = true := by decide +kernel
theorem last_5 : lastB [0, 0, 2, 2] = true := by decide +kernel
theorem last_6 : lastB [0, 1, 1, 1] = true := by decide +kernel
theorem last_7 : lastB [0, 1, 1, 2] = true := by decide +kernel
theorem last_8 : lastB [0, 1, 2, 2] = true := by decide +kernel
theorem last_9 : lastB [0, 2, 2, 2] = true := by decide +kernel
theorem last_10 : lastB [1, 1, 1, 1] = true := by decide +kernel
theorem last_11 : lastB [1, 1, 1, 2] = true := by decide +kernel
theorem last_12 : lastB [1, 1, 2, 2] = true := by decide +kernel
theorem last_13 : lastB [1, 2, 2, 2] = true := by decide +kernel
theorem last_14 : lastB [2, 2, 2, 2] = true := by decide +kernel
theorem last_all : ∀ l ∈ leftsD, lastB l = true := by
  rw [leftsD_is]
  exact (List.forall_mem_cons.mpr ⟨last_0, (List.forall_mem_cons.mpr ⟨last_1, (List.forall_mem_cons.mpr ⟨last_2, (List.forall_mem_cons.mpr ⟨last_3, (List.forall_mem_cons.mpr ⟨last_4, (List.forall_mem_cons.mpr ⟨last_5, (List.forall_mem_cons.mpr ⟨last_6, (List.forall_mem_cons.mpr ⟨last_7, (List.forall_mem_cons.mpr ⟨last_8, (List.forall_mem_cons.mpr ⟨last_9, (List.forall_mem_cons.mpr ⟨last_10, (List.forall_mem_cons.mpr ⟨last_11, (List.forall_mem_cons.mpr ⟨last_12, (List.forall_mem_cons.mpr ⟨last_13, (List.forall_mem_cons.mpr ⟨last_14, (fun _ h => nomatch h)⟩)⟩)⟩)⟩)⟩)⟩)⟩)⟩)⟩)⟩)⟩)⟩)⟩)⟩)⟩)
theorem lastOk_D {l : List Nat} (hl : l ∈ leftsD) : LastOk (leftOf l) := by
  have h := last_all l hl
  simp only [lastB, Bool.and_eq_true, decide_eq_true_eq, Nat.ble_eq, List.all_eq_true, Bool.not_eq_true', List.isEmpty_eq_false_iff] at h
  obtain ⟨h1, h2, h3, h4, h5, h6⟩ := h
  have e : (lastRow (leftOf l)).text = wStr (lastW l) := by
    unfold lastRow lastW
    rw [rows_D hl, List.getLast?_map, List.getLast?_eq_some_getLast h1]
    rfl
  refine ⟨?_, ?_, ?_, ?_, ?_, ?_⟩
  · rw [rows_D hl]
    intro h0
    exact h1 (List.map_eq_nil_iff.mp h0)
  · rw [e]; exact h2
  · rw [e]; exact Nat.eq_of_beq_eq_true h3
  · rw [e]; exact fun c hc => signB_of (h4 c hc)
  · rw [e]; exact h5
  · rw [e]; exact h6
-- the texts in their order
def collB : List (List Nat) → Bool
  | a :: b :: r => decide (collZ (wStr a) (wStr b) = -1) && collB (b :: r)
  | _ => true
theorem collB_of : ∀ {ws : List (List Nat)}, collB ws = true → ∀ k, k + 1 < ws.length → collZ ((ws.map wStr).getD k (st "")) ((ws.map wStr).getD (k + 1) (st "")) = -1
  | [], _, k, hk => by simp at hk
  | [_], _, k, hk => by simp at hk
  | a :: b :: r, h, k, hk => by
    simp only [collB, Bool.and_eq_true, decide_eq_true_eq] at h
    cases k with
    | zero => exact h.1
    | succ k => exact collB_of h.2 k (by simpa using hk)
theorem texts_all : ∀ l ∈ leftsD, (1 ≤ (wordsOf l).length ∧ (wordsOf l).length < 64) ∧ collB (wordsOf l) = true := by decide +kernel
theorem strOk_all : ∀ w ∈ W81, PyData.strOk (wStr w) = true := by decide +kernel
theorem wordsOf_mem {l w : List Nat} (h : w ∈ wordsOf l) : w ∈ W81 := (List.mem_filter.mp h).1
theorem textsOk_D {l : List Nat} (hl : l ∈ leftsD) : TextsOk (leftOf l) := by
  obtain ⟨⟨h1, h2⟩, h3⟩ := texts_all l hl
  unfold TextsOk
  rw [texts_D hl, List.length_map]
  refine ⟨h1, h2, fun k hk => collB_of h3 k hk, fun x hx => ?_⟩
  obtain ⟨w, hw, rfl⟩ := List.mem_map.mp hx
  exact strOk_all w (wordsOf_mem hw)
end Mine

namespace Mine
def stepN (V : Nat) : Nat := 1 + V / 7 % 8
def wheelN (V : Nat) : Nat := 2 + (V + 3) % 7
def hueN (s wh a : Nat) : Nat := ((a + 4 * wh - 4) * s) % wh
theorem hue_nat (V a : Nat) : hueZ (V : Int) ((a : Int) - 4) = (hueN (stepN V) (wheelN V) a : Int) := by
  unfold hueZ hueN stepN wheelN
  rw [show ((V : Int).fdiv 7).fmod 8 = (V : Int) / 7 % 8 from by rw [Int.fdiv_eq_ediv_of_nonneg _ (by decide), Int.fmod_eq_emod_of_nonneg _ (by decide)], show ((V : Int) + 3).fmod 7 = ((V : Int) + 3) % 7 from Int.fmod_eq_emod_of_nonneg _ (by decide)]
  have e1 : (1 + (V : Int) / 7 % 8) = ((1 + V / 7 % 8 : Nat) : Int) := by omega
  have e2 : (2 + ((V : Int) + 3) % 7) = ((2 + (V + 3) % 7 : Nat) : Int) := by omega
  rw [e1, e2]
  generalize (1 + V / 7 % 8 : Nat) = s
  have hw : 1 ≤ (2 + (V + 3) % 7 : Nat) := by omega
  generalize (2 + (V + 3) % 7 : Nat) = wh at hw
  rw [Int.fmod_eq_emod_of_nonneg _ (by omega)]
  have e3 : ((((a + 4 * wh - 4) * s) % wh : Nat) : Int) = (((a : Int) - 4) * s + wh * (4 * s)) % wh := by
    have e4 : ((a + 4 * wh - 4 : Nat) : Int) = (a : Int) - 4 + wh * 4 := by omega
    rw [Int.natCast_emod, Int.natCast_mul, e4, Int.add_mul, Int.mul_assoc]
  rw [e3, Int.add_mul_emod_self_left]
theorem hue_lt (V a : Nat) : hueN (stepN V) (wheelN V) a < 8 := by
  unfold hueN wheelN
  have := Nat.mod_lt ((a + 4 * (2 + (V + 3) % 7) - 4) * stepN V) (show 2 + (V + 3) % 7 > 0 by omega)
  omega
def natC (ks : List Nat) (i j : Nat) : Option Bool := match ks[i]?, ks[j]? with
  | some p, some q => some (Nat.blt p q)
  | _, _ => none
theorem pairC_map {α : Type} {L : List α} {f : α → Int × Int} {g : α → Nat} (h : ∀ a ∈ L, ∀ b ∈ L, pairLt (f a) (f b) = Nat.blt (g a) (g b)) : pairC (L.map f) = natC (L.map g) := by
  funext i j
  unfold pairC natC
  rw [List.getElem?_map, List.getElem?_map, List.getElem?_map, List.getElem?_map]
  cases hi : L[i]? with
  | none => rfl
  | some a =>
    cases hj : L[j]? with
    | none => rfl
    | some b =>
      show some (pairLt (f a) (f b)) = some (Nat.blt (g a) (g b))
      rw [h a (List.mem_of_getElem? hi) b (List.mem_of_getElem? hj)]
theorem strC_map {α : Type} {L : List α} {f : α → PySem.Str} {g : α → Nat} (h : ∀ a ∈ L, ∀ b ∈ L, decide ((f a).cps.toList < (f b).cps.toList) = Nat.blt (g a) (g b)) : strC (L.map f) = natC (L.map g) := by
  funext i j
  unfold strC natC
  rw [List.getElem?_map, List.getElem?_map, List.getElem?_map, List.getElem?_map]
  cases hi : L[i]? with
  | none => rfl
  | some a =>
    cases hj : L[j]? with
    | none => rfl
    | some b =>
      show some (decide ((f a).cps.toList < (f b).cps.toList)) = some (Nat.blt (g a) (g b))
      rw [h a (List.mem_of_getElem? hi) b (List.mem_of_getElem? hj)]
theorem pairLt_nat {h1 h2 k1 k2 : Nat} (a1 : h1 < 8) (a2 : h2 < 8) (b1 : k1 < 4) (b2 : k2 < 4) : pairLt (-(h1 : Int), -(0 + (k1 : Int))) (-(h2 : Int), -(0 + (k2 : Int))) = Nat.blt ((8 - h1) * 4 + (3 - k1)) ((8 - h2) * 4 + (3 - k2)) := by
  unfold pairLt
  dsimp only
  by_cases e : h1 = h2
  · subst e
    rw [if_pos (by simp)]
    by_cases e2 : k1 = k2
    · subst e2
      rw [if_pos (by simp)]
      exact (Bool.eq_false_iff.mpr fun h => by rw [Nat.blt_eq] at h; omega).symm
    · rw [if_neg (by rw [beq_iff_eq]; omega)]
      rw [Bool.eq_iff_iff, decide_eq_true_eq, Nat.blt_eq]
      omega
  · rw [if_neg (by rw [beq_iff_eq]; omega)]
    rw [Bool.eq_iff_iff, decide_eq_true_eq, Nat.blt_eq]
    omega
/-- the accounts behind the signs, four added -/
def aN (w : List Nat) : List Nat := (w.foldl (fun (p : Nat × List Nat) d => let a := p.1 + (if d = 0 then 2 else if d = 1 then 0 else 3) - 1; (a, p.2 ++ [a])) (4, [])).2
theorem aN_all : ∀ w ∈ W81, ∀ k ∈ [0, 1, 2, 3], (wAcc w).getD (k + 1) 0 = ((aN w).getD k 0 : Int) - 4 := by decide +kernel
def keysN (V : Nat) (w : List Nat) : List Nat := (List.range 4).map fun k => (8 - hueN (stepN V) (wheelN V) ((aN w).getD k 0)) * 4 + (3 - k)
theorem pairs_nat {V : Nat} {w : List Nat} (hw : w ∈ W81) : pairC (rowPairs (V : Int) (wRow w)) = natC (keysN V w) := by
  unfold rowPairs keysN
  refine pairC_map fun a ha b hb => ?_
  have ha' := List.mem_range.mp ha
  have hb' := List.mem_range.mp hb
  have e : ∀ k, k < 4 → hueZ (V : Int) ((wRow w).accs.getD (k + 1) 0) = (hueN (stepN V) (wheelN V) ((aN w).getD k 0) : Int) := fun k hk => by
    show hueZ _ ((wAcc w).getD (k + 1) 0) = _
    rw [aN_all w hw k (by simp only [List.mem_cons, List.not_mem_nil, or_false]; omega), hue_nat]
  rw [e a ha', e b hb']
  exact pairLt_nat (hue_lt _ _) (hue_lt _ _) ha' hb'
def permN (V : Nat) (w : List Nat) : Option (Array Nat) := ktRun (natC (keysN V w)) (kas_sort 4)
def permB (V : Nat) (w : List Nat) : Bool := match permN V w with
  | some p => Nat.beq p.toList.length 4 && p.toList.all fun i => Nat.blt i 4
  | none => false
def swN (V : Nat) (w : List Nat) : List Nat := ((permN V w).getD #[]).toList.map fun i => w.getD i 0
theorem rowPerm_nat {V : Nat} {w : List Nat} (hw : w ∈ W81) : rowPerm (V : Int) (wRow w) = (permN V w).getD #[] := by
  unfold rowPerm permN; rw [pairs_nat hw]
theorem permB_of {V : Nat} {w : List Nat} (h : permB V w = true) : permN V w = some ((permN V w).getD #[]) ∧ ((permN V w).getD #[]).toList.length = 4 ∧ ∀ i ∈ ((permN V w).getD #[]).toList, i < 4 := by
  unfold permB at h
  cases e : permN V w with
  | none => rw [e] at h; cases h
  | some p =>
    rw [e] at h
    simp only [Bool.and_eq_true, List.all_eq_true] at h
    exact ⟨rfl, Nat.eq_of_beq_eq_true h.1, fun i hi => by have := h.2 i hi; rwa [Nat.blt_eq] at this⟩
theorem sum_ones {x : PySem.Str} : ∀ l : List Nat, ((l.map fun i : Nat => Txt.item x (i : Int)).map (·.length)).sum = l.length
  | [] => rfl
  | a :: l => by
    rw [List.map_cons, List.map_cons, List.sum_cons, sum_ones l, List.length_cons]
    show 1 + l.length = _
    omega
theorem W4_0 : ∀ w ∈ (W81.drop 0).take 9, (wStr w).length = 4 ∧ wAcc w = (List.range 5).map (accZ (wStr w)) := by decide +kernel
theorem W4_1 : ∀ w ∈ (W81.drop 9).take 9, (wStr w).length = 4 ∧ wAcc w = (List.range 5).map (accZ (wStr w)) := by decide +kernel
theorem W4_2 : ∀ w ∈ (W81.drop 18).take 9, (wStr w).length = 4 ∧ wAcc w = (List.range 5).map (accZ (wStr w)) := by decide +kernel
theorem W4_3 : ∀ w ∈ (W81.drop 27).take 9, (wStr w).length = 4 ∧ wAcc w = (List.range 5).map (accZ (wStr w)) := by decide +kernel
theorem W4_4 : ∀ w ∈ (W81.drop 36).take 9, (wStr w).length = 4 ∧ wAcc w = (List.range 5).map (accZ (wStr w)) := by decide +kernel
theorem W4_5 : ∀ w ∈ (W81.drop 45).take 9, (wStr w).length = 4 ∧ wAcc w = (List.range 5).map (accZ (wStr w)) := by decide +kernel
theorem W4_6 : ∀ w ∈ (W81.drop 54).take 9, (wStr w).length = 4 ∧ wAcc w = (List.range 5).map (accZ (wStr w)) := by decide +kernel
theorem W4_7 : ∀ w ∈ (W81.drop 63).take 9, (wStr w).length = 4 ∧ wAcc w = (List.range 5).map (accZ (wStr w)) := by decide +kernel
theorem W4_8 : ∀ w ∈ (W81.drop 72).take 9, (wStr w).length = 4 ∧ wAcc w = (List.range 5).map (accZ (wStr w)) := by decide +kernel
theorem W81_parts : W81 = (W81.drop 0).take 9 ++ ((W81.drop 9).take 9 ++ ((W81.drop 18).take 9 ++ ((W81.drop 27).take 9 ++ ((W81.drop 36).take 9 ++ ((W81.drop 45).take 9 ++ ((W81.drop 54).take 9 ++ ((W81.drop 63).take 9 ++ (W81.drop 72).take 9))))))) := by decide +kernel
theorem W4 : ∀ w ∈ W81, (wStr w).length = 4 ∧ wAcc w = (List.range 5).map (accZ (wStr w)) := fun w hw => by
  rw [W81_parts] at hw
  simp only [List.mem_append] at hw
  rcases hw with h | h | h | h | h | h | h | h | h
  · exact W4_0 w h
  · exact W4_1 w h
  · exact W4_2 w h
  · exact W4_3 w h
  · exact W4_4 w h
  · exact W4_5 w h
  · exact W4_6 w h
  · exact W4_7 w h
  · exact W4_8 w h
theorem lo_all : ∀ l ∈ leftsD, ∀ w ∈ wordsOf l, ∀ k ∈ [0, 1, 2, 3], 0 ≤ (wAcc w).getD (k + 1) 0 - -Txt.count (leftOf l) (PySem.Str.ofString "b") ∧ (wAcc w).getD (k + 1) 0 - -Txt.count (leftOf l) (PySem.Str.ofString "b") < Txt.count (leftOf l) (PySem.Str.ofString "a") + 2 * Txt.count (leftOf l) (PySem.Str.ofString "c") + 1 - -Txt.count (leftOf l) (PySem.Str.ofString "b") := by decide +kernel
theorem rowOk_N {V : Nat} {l w : List Nat} (hl : l ∈ leftsD) (hw : w ∈ wordsOf l) (hp : permB V w = true) : RowOk (leftOf l) (V : Int) (wRow w) := by
  have hw' := wordsOf_mem hw
  obtain ⟨p1, p2, p3⟩ := permB_of hp
  have e := rowPerm_nat (V := V) hw'
  refine ⟨(W4 w hw').1, (W4 w hw').2, fun k hk => lo_all l hl w hw k (by simp only [List.mem_cons, List.not_mem_nil, or_false]; omega), ?_, ?_, ?_⟩
  · rw [pairs_nat hw', e]; exact p1
  · rw [e]; exact ⟨p2, p3⟩
  · rw [sum_ones, e, p2]; decide
end Mine

namespace Mine
def codeN (w : List Nat) : Nat := w.foldl (fun c d => c * 3 + d) 0
def eqW : List Nat → List Nat → Bool
  | [], [] => true
  | a :: u, b :: v => Nat.beq a b && eqW u v
  | _, _ => false
theorem eqW_of : ∀ {u v : List Nat}, eqW u v = true → u = v
  | [], [], _ => rfl
  | [], _ :: _, h => by simp [eqW] at h
  | _ :: _, [], h => by simp [eqW] at h
  | a :: u, b :: v, h => by
    simp only [eqW, Bool.and_eq_true] at h
    rw [Nat.eq_of_beq_eq_true h.1, eqW_of h.2]
def eqWs : List (List Nat) → List (List Nat) → Bool
  | [], [] => true
  | a :: u, b :: v => eqW a b && eqWs u v
  | _, _ => false
theorem eqWs_of : ∀ {u v : List (List Nat)}, eqWs u v = true → u = v
  | [], [], _ => rfl
  | [], _ :: _, h => by simp [eqWs] at h
  | _ :: _, [], h => by simp [eqWs] at h
  | a :: u, b :: v, h => by
    simp only [eqWs, Bool.and_eq_true] at h
    rw [eqW_of h.1, eqWs_of h.2]
def sortO (V : Nat) (ws : List (List Nat)) : Option (Array Nat) := ktRun (natC (ws.map fun w => codeN (swN V w))) (kas_sort ws.length)
def sortB (V : Nat) (l : List Nat) : Bool := (wordsOf l).all (permB V) && match sortO V (wordsOf l) with
  | some p => (p.toList.all fun i => Nat.blt i (wordsOf l).length) && eqWs (p.toList.map fun i => ((wordsOf l).map (swN V)).getD i []) (wordsOf l)
  | none => false
/-- four signs -/
def good (w : List Nat) : Prop := ∃ a b c d, w = [a, b, c, d] ∧ a < 3 ∧ b < 3 ∧ c < 3 ∧ d < 3
theorem good_all : ∀ w ∈ W81, w.length = 4 ∧ ∀ d ∈ w, d < 3 := by decide +kernel
theorem good_of {w : List Nat} (h : w.length = 4) (h3 : ∀ d ∈ w, d < 3) : good w := by
  match w, h with
  | [a, b, c, d], _ => exact ⟨a, b, c, d, rfl, h3 _ (by simp), h3 _ (by simp), h3 _ (by simp), h3 _ (by simp)⟩
theorem lt_code {u v : List Nat} (hu : good u) (hv : good v) : decide ((wStr u).cps.toList < (wStr v).cps.toList) = Nat.blt (codeN u) (codeN v) := by
  obtain ⟨a, b, c, d, rfl, h1, h2, h3, h4⟩ := hu
  obtain ⟨e, f, g, h, rfl, k1, k2, k3, k4⟩ := hv
  rw [Bool.eq_iff_iff, decide_eq_true_eq, Nat.blt_eq]
  show ([97 + a, 97 + b, 97 + c, 97 + d] : List Nat) < [97 + e, 97 + f, 97 + g, 97 + h] ↔ (((0 * 3 + a) * 3 + b) * 3 + c) * 3 + d < (((0 * 3 + e) * 3 + f) * 3 + g) * 3 + h
  simp only [List.cons_lt_cons_iff, List.not_lt_nil, and_false, or_false]
  omega
theorem item_D {w : List Nat} (hw : w.length = 4) {i : Nat} (hi : i < 4) : Txt.item (wStr w) (i : Int) = sgn (w.getD i 0) := by
  match w, hw with
  | [a, b, c, d], _ =>
    match i, hi with
    | 0, _ => rfl
    | 1, _ => rfl
    | 2, _ => rfl
    | 3, _ => rfl
theorem join_D {l : List Nat} (hl : l.length = 4) : Txt.join (st "") (l.map sgn) = wStr l := by
  match l, hl with
  | [a, b, c, d], _ =>
    have e : (st "").cps = #[] := by decide +kernel
    show (⟨(((#[97 + a] ++ (st "").cps ++ #[97 + b]) ++ (st "").cps ++ #[97 + c]) ++ (st "").cps ++ #[97 + d])⟩ : PySem.Str) = _
    rw [e]; rfl
theorem swN_good {V : Nat} {w : List Nat} (hw : w ∈ W81) (h : permB V w = true) : good (swN V w) := by
  obtain ⟨_, p2, p3⟩ := permB_of h
  obtain ⟨g1, g2⟩ := good_all w hw
  refine good_of (by unfold swN; rw [List.length_map, p2]) fun d hd => ?_
  unfold swN at hd
  obtain ⟨i, hi, rfl⟩ := List.mem_map.mp hd
  have hi4 := p3 i hi
  rw [List.getD_eq_getElem?_getD, List.getElem?_eq_getElem (by omega)]
  exact g2 _ (List.getElem_mem _)
theorem sweepT_nat {V : Nat} {w : List Nat} (hw : w ∈ W81) (h : permB V w = true) : sweepT (V : Int) (wRow w) = wStr (swN V w) := by
  obtain ⟨_, p2, p3⟩ := permB_of h
  unfold sweepT
  rw [rowPerm_nat hw]
  have e : (((permN V w).getD #[]).toList.map fun i : Nat => Txt.item (wRow w).text (i : Int)) = (swN V w).map sgn := by
    unfold swN
    rw [List.map_map]
    exact List.map_congr_left fun i hi => item_D (good_all w hw).1 (p3 i hi)
  rw [e]
  exact join_D (by unfold swN; rw [List.length_map, p2])
theorem swept_nat {V : Nat} {l : List Nat} (hl : l ∈ leftsD) (h : (wordsOf l).all (permB V) = true) : sweptN (V : Int) (leftOf l) = (wordsOf l).map fun w => wStr (swN V w) := by
  unfold sweptN
  rw [rows_D hl, List.map_map]
  exact List.map_congr_left fun w hw => sweepT_nat (wordsOf_mem hw) (List.all_eq_true.mp h w hw)
theorem sortOk_N {V : Nat} {l : List Nat} (hl : l ∈ leftsD) (h : sortB V l = true) : SortOk (leftOf l) (V : Int) := by
  unfold sortB at h
  rw [Bool.and_eq_true] at h
  obtain ⟨h1, h2⟩ := h
  have e1 := swept_nat hl h1
  have e2 : strC (sweptN (V : Int) (leftOf l)) = natC ((wordsOf l).map fun w => codeN (swN V w)) := by
    rw [e1]
    exact strC_map fun a ha b hb => lt_code (swN_good (wordsOf_mem ha) (List.all_eq_true.mp h1 a ha)) (swN_good (wordsOf_mem hb) (List.all_eq_true.mp h1 b hb))
  have e3 : (sweptN (V : Int) (leftOf l)).length = (wordsOf l).length := by rw [e1, List.length_map]
  have e4 : ktRun (strC (sweptN (V : Int) (leftOf l))) (kas_sort (sweptN (V : Int) (leftOf l)).length) = sortO V (wordsOf l) := by rw [e2, e3]; rfl
  cases eo : sortO V (wordsOf l) with
  | none => rw [eo] at h2; cases h2
  | some p =>
    rw [eo] at h2 e4
    simp only [Bool.and_eq_true, List.all_eq_true] at h2
    obtain ⟨h3, h4⟩ := h2
    have e5 : sortPerm (V : Int) (leftOf l) = p := by unfold sortPerm; rw [e4]; rfl
    have hi : ∀ i ∈ p.toList, i < (wordsOf l).length := fun i hi => by have := h3 i hi; rwa [Nat.blt_eq] at this
    refine ⟨by rw [e4, e5], fun i hi' => by rw [e5] at hi'; rw [e3]; exact hi i hi', ?_⟩
    rw [e5, texts_D hl, ← eqWs_of h4, List.map_map, e1]
    refine List.map_congr_left fun i hi' => ?_
    have hlt := hi i hi'
    show ((wordsOf l).map fun w => wStr (swN V w)).getD i (st "") = wStr (((wordsOf l).map (swN V)).getD i [])
    rw [List.getD_eq_getElem?_getD, List.getD_eq_getElem?_getD, List.getElem?_map, List.getElem?_map, List.getElem?_eq_getElem hlt]
    rfl
-- from a remainder to any sum
theorem rem56 (W : Int) : ∃ V : Nat, V < 56 ∧ (W.fdiv 7).fmod 8 = ((V : Int).fdiv 7).fmod 8 ∧ (W + 3).fmod 7 = ((V : Int) + 3).fmod 7 ∧ W.fmod 4 = (V : Int).fmod 4 := by
  refine ⟨(W % 56).toNat, by omega, ?_, ?_, ?_⟩
  · rw [Int.fdiv_eq_ediv_of_nonneg _ (by decide), Int.fmod_eq_emod_of_nonneg _ (by decide), Int.fdiv_eq_ediv_of_nonneg _ (by decide), Int.fmod_eq_emod_of_nonneg _ (by decide)]
    omega
  · rw [Int.fmod_eq_emod_of_nonneg _ (by decide), Int.fmod_eq_emod_of_nonneg _ (by decide)]
    omega
  · rw [Int.fmod_eq_emod_of_nonneg _ (by decide), Int.fmod_eq_emod_of_nonneg _ (by decide)]
    omega
theorem hueZ_rem {W V : Int} (h1 : (W.fdiv 7).fmod 8 = (V.fdiv 7).fmod 8) (h2 : (W + 3).fmod 7 = (V + 3).fmod 7) : hueZ W = hueZ V := by
  funext ac; unfold hueZ; rw [h1, h2]
theorem pairs_rem {W V : Int} (h : hueZ W = hueZ V) : rowPairs W = rowPairs V := by
  funext row; unfold rowPairs; rw [h]
theorem perm_rem {W V : Int} (h : hueZ W = hueZ V) : rowPerm W = rowPerm V := by
  funext row; unfold rowPerm; rw [pairs_rem h]
theorem swept_rem {W V : Int} (h : hueZ W = hueZ V) : sweptN W = sweptN V := by
  have e : sweepT W = sweepT V := by funext row; unfold sweepT; rw [perm_rem h]
  funext left; unfold sweptN; rw [e]
theorem rowOk_rem {W V : Int} {left : PySem.Str} {row : RowD} (h : hueZ W = hueZ V) (r : RowOk left V row) : RowOk left W row :=
  ⟨r.len, r.accs, r.lo, by rw [pairs_rem h, perm_rem h]; exact r.run, by rw [perm_rem h]; exact r.perm, by rw [perm_rem h]; exact r.room⟩
theorem sortOk_rem {W V : Int} {left : PySem.Str} (h : hueZ W = hueZ V) (r : SortOk left V) : SortOk left W := by
  have e : sortPerm W = sortPerm V := by funext left; unfold sortPerm; rw [swept_rem h]
  exact ⟨by rw [swept_rem h, e]; exact r.run, by rw [swept_rem h, e]; exact r.idx, by rw [swept_rem h, e]; exact r.out⟩
def huesB (V : Nat) : Bool := !Float64.isInf (hueF ((V : Int).fmod 4) 8) && (List.range 13).all fun a : Nat =>
  toldOk (((a : Int) - 4) * (1 + ((V : Int).fdiv 7).fmod 8)) (2 + ((V : Int) + 3).fmod 7) (hueF ((V : Int).fmod 4) 8) ((((a : Int) - 4) * (1 + ((V : Int).fdiv 7).fmod 8)).fmod (2 + ((V : Int) + 3).fmod 7)) (2 * (V : Int).fmod 4 + 4)
theorem huesOk_N {V : Nat} (h : huesB V = true) : HuesOk (V : Int) := by
  unfold huesB at h
  rw [Bool.and_eq_true] at h
  refine ⟨by simpa using h.1, fun ac h1 h2 => ?_⟩
  have := List.all_eq_true.mp h.2 (ac + 4).toNat (List.mem_range.mpr (by omega))
  rwa [show ((ac + 4).toNat : Int) - 4 = ac by omega] at this
theorem huesOk_rem {W V : Int} (h1 : (W.fdiv 7).fmod 8 = (V.fdiv 7).fmod 8) (h2 : (W + 3).fmod 7 = (V + 3).fmod 7) (h3 : W.fmod 4 = V.fmod 4) (h : HuesOk V) : HuesOk W := by
  unfold HuesOk at h ⊢
  rw [h1, h2, h3]; exact h
end Mine

namespace Mine
def strictN {α : Type} (n : Nat) (f : Nat → α) : α := match n with
  | 0 => f 0
  | k + 1 => f (k + 1)
theorem strictN_eq {α : Type} (n : Nat) (f : Nat → α) : strictN n f = f n := by cases n <;> rfl
def forceU {α : Type} (x : UInt64) (f : UInt64 → α) : α := strictN x.toNat fun n => f (UInt64.ofNat n)
theorem forceU_eq {α : Type} (x : UInt64) (f : UInt64 → α) : forceU x f = f x := by
  unfold forceU; rw [strictN_eq, UInt64.ofNat_toNat]
def vH (m1 m2 h : UInt64) : UInt64 :=
  if (Float64.cmp h 4595172819793696085 == some .lt) = true then Float64.add m1 (Float64.mul (Float64.mul (Float64.sub m2 m1) h) 4618441417868443648)
  else if (Float64.cmp h 4602678819172646912 == some .lt) = true then m2
  else if (Float64.cmp h 4604180019048437077 == some .lt) = true then Float64.add m1 (Float64.mul (Float64.mul (Float64.sub m2 m1) (Float64.sub 4604180019048437077 h)) 4618441417868443648)
  else m1
def toldE (a b c M m rc gc bc : UInt64) (p wh : Int) (hu d l : UInt64) (r1 r2 : Int) : Bool :=
  forceU (if (Float64.cmp a M == some .eq) = true then Float64.sub bc gc else if (Float64.cmp b M == some .eq) = true then Float64.sub (Float64.add 4611686018427387904 rc) bc else Float64.sub (Float64.add 4616189618054758400 gc) rc) fun h =>
  forceU (Float64.div h 4618441417868443648) fun h =>
  forceU (Float64.divmod h 4607182418800017408).2 fun h =>
  forceU (Float64.add (Float64.mul h (Float64.ofInt wh)) 4602678819172646912) fun X =>
  forceU (Float64.add (Float64.mul l (Float64.ofInt 16)) 4602678819172646912) fun Y =>
  !Float64.isInf hu && !Float64.isZero d && !Float64.isZero (Float64.add M m) && !Float64.isZero (Float64.sub (Float64.sub 4611686018427387904 M) m) &&
    !(Float64.cmp m M == some .eq) && Float64.isFinite X && Float64.isFinite Y && decide ((Flt.toInt Float64.truncOf X).fmod wh = r1) && decide (Flt.toInt Float64.truncOf Y = r2)
def toldS (p wh : Int) (low m2 : UInt64) (r1 r2 : Int) : Bool :=
  forceU (hueF p wh) fun hu =>
  forceU (Float64.divmod (Float64.add hu 4599676419421066581) 4607182418800017408).2 fun ha =>
  forceU (Float64.divmod (Float64.add hu 0) 4607182418800017408).2 fun hb =>
  forceU (Float64.divmod (Float64.add hu (Float64.neg 4599676419421066581)) 4607182418800017408).2 fun hc =>
  forceU (vH low m2 ha) fun a => forceU (vH low m2 hb) fun b => forceU (vH low m2 hc) fun c =>
  forceU (max2 (max2 a b) c) fun M => forceU (min2 (min2 a b) c) fun m =>
  forceU (Float64.sub M m) fun d => forceU (Float64.div (Float64.add M m) 4611686018427387904) fun l =>
  forceU (Float64.div (Float64.sub M a) d) fun rc => forceU (Float64.div (Float64.sub M b) d) fun gc => forceU (Float64.div (Float64.sub M c) d) fun bc =>
  toldE a b c M m rc gc bc p wh hu d l r1 r2
theorem toldS_eq (p wh : Int) (low : UInt64) (r1 r2 : Int) : toldS p wh low (Float64.add low 4602678819172646912) r1 r2 = toldOk p wh low r1 r2 := by
  unfold toldS toldE
  simp only [forceU_eq]
  rfl
/-- a whole number, reckoned first -/
def strictI {α : Type} (i : Int) (f : Int → α) : α := match i with
  | .ofNat n => strictN n fun n => f (.ofNat n)
  | .negSucc n => strictN n fun n => f (.negSucc n)
theorem strictI_eq {α : Type} (i : Int) (f : Int → α) : strictI i f = f i := by
  cases i with
  | ofNat n => exact strictN_eq n fun n => f (.ofNat n)
  | negSucc n => exact strictN_eq n fun n => f (.negSucc n)
def huesS (V : Nat) : Bool :=
  strictI (1 + ((V : Int).fdiv 7).fmod 8) fun s => strictI (2 + ((V : Int) + 3).fmod 7) fun wh => strictI (2 * (V : Int).fmod 4 + 4) fun r2 =>
  forceU (hueF ((V : Int).fmod 4) 8) fun low => forceU (Float64.add low 4602678819172646912) fun m2 =>
  !Float64.isInf low && (List.range 13).all fun a : Nat => strictI (((a : Int) - 4) * s) fun p => strictI (p.fmod wh) fun r1 => toldS p wh low m2 r1 r2
theorem huesS_eq (V : Nat) : huesS V = huesB V := by
  unfold huesS huesB
  simp only [forceU_eq, strictI_eq, toldS_eq]
def sortW (V : Nat) (ws : List (List Nat)) : Bool := ws.all (permB V) && match sortO V ws with
  | some p => (p.toList.all fun i => Nat.blt i ws.length) && eqWs (p.toList.map fun i => (ws.map (swN V)).getD i []) ws
  | none => false
theorem sortW_eq (V : Nat) (l : List Nat) : sortW V (wordsOf l) = sortB V l := rfl
def wordsL : List (List (List Nat)) := [[[0, 0, 0, 0]], [[0, 0, 0, 1], [0, 0, 1, 0], [0, 1, 0, 0], [1, 0, 0, 0]], [[0, 0, 0, 2], [0, 0, 2, 0], [0, 2, 0, 0], [2, 0, 0, 0]], [[0, 0, 1, 1], [0, 1, 0, 1], [0, 1, 1, 0], [1, 0, 0, 1], [1, 0, 1, 0], [1, 1, 0, 0]], [[0, 0, 1, 2], [0, 0, 2, 1], [0, 1, 0, 2], [0, 1, 2, 0], [0, 2, 0, 1], [0, 2, 1, 0], [1, 0, 0, 2], [1, 0, 2, 0], [1, 2, 0, 0], [2, 0, 0, 1], [2, 0, 1, 0], [2, 1, 0, 0]], [[0, 0, 2, 2], [0, 2, 0, 2], [0, 2, 2, 0], [2, 0, 0, 2], [2, 0, 2, 0], [2, 2, 0, 0]], [[0, 1, 1, 1], [1, 0, 1, 1], [1, 1, 0, 1], [1, 1, 1, 0]], [[0, 1, 1, 2], [0, 1, 2, 1], [0, 2, 1, 1], [1, 0, 1, 2], [1, 0, 2, 1], [1, 1, 0, 2], [1, 1, 2, 0], [1, 2, 0, 1], [1, 2, 1, 0], [2, 0, 1, 1], [2, 1, 0, 1], [2, 1, 1, 0]], [[0, 1, 2, 2], [0, 2, 1, 2], [0, 2, 2, 1], [1, 0, 2, 2], [1, 2, 0, 2], [1, 2, 2, 0], [2, 0, 1, 2], [2, 0, 2, 1], [2, 1, 0, 2], [2, 1, 2, 0], [2, 2, 0, 1], [2, 2, 1, 0]], [[0, 2, 2, 2], [2, 0, 2, 2], [2, 2, 0, 2], [2, 2, 2, 0]], [[1, 1, 1, 1]], [[1, 1, 1, 2], [1, 1, 2, 1], [1, 2, 1, 1], [2, 1, 1, 1]], [[1, 1, 2, 2], [1, 2, 1, 2], [1, 2, 2, 1], [2, 1, 1, 2], [2, 1, 2, 1], [2, 2, 1, 1]], [[1, 2, 2, 2], [2, 1, 2, 2], [2, 2, 1, 2], [2, 2, 2, 1]], [[2, 2, 2, 2]]]
theorem words_tab : leftsD.map wordsOf = wordsL := by decide +kernel
theorem sortB_of {V : Nat} (h : wordsL.all (sortW V) = true) : ∀ l ∈ leftsD, sortB V l = true := fun l hl => by
  rw [← sortW_eq]
  exact List.all_eq_true.mp h _ (by rw [← words_tab]; exact List.mem_map_of_mem hl)
end Mine

namespace Mine
theorem hues_0 : huesS 0 = true := by decide +kernel
theorem hues_1 : huesS 1 = true := by decide +kernel
theorem hues_2 : huesS 2 = true := by decide +kernel
theorem hues_3 : huesS 3 = true := by decide +kernel
theorem hues_4 : huesS 4 = true := by decide +kernel
theorem hues_5 : huesS 5 = true := by decide +kernel
theorem hues_6 : huesS 6 = true := by decide +kernel
theorem hues_7 : huesS 7 = true := by decide +kernel
theorem hues_8 : huesS 8 = true := by decide +kernel
theorem hues_9 : huesS 9 = true := by decide +kernel
theorem hues_10 : huesS 10 = true := by decide +kernel
theorem hues_11 : huesS 11 = true := by decide +kernel
theorem hues_12 : huesS 12 = true := by decide +kernel
theorem hues_13 : huesS 13 = true := by decide +kernel
theorem hues_14 : huesS 14 = true := by decide +kernel
theorem hues_15 : huesS 15 = true := by decide +kernel
theorem hues_16 : huesS 16 = true := by decide +kernel
theorem hues_17 : huesS 17 = true := by decide +kernel
theorem hues_18 : huesS 18 = true := by decide +kernel
theorem hues_19 : huesS 19 = true := by decide +kernel
theorem hues_20 : huesS 20 = true := by decide +kernel
theorem hues_21 : huesS 21 = true := by decide +kernel
theorem hues_22 : huesS 22 = true := by decide +kernel
theorem hues_23 : huesS 23 = true := by decide +kernel
theorem hues_24 : huesS 24 = true := by decide +kernel
theorem hues_25 : huesS 25 = true := by decide +kernel
theorem hues_26 : huesS 26 = true := by decide +kernel
theorem hues_27 : huesS 27 = true := by decide +kernel
theorem hues_28 : huesS 28 = true := by decide +kernel
theorem hues_29 : huesS 29 = true := by decide +kernel
theorem hues_30 : huesS 30 = true := by decide +kernel
theorem hues_31 : huesS 31 = true := by decide +kernel
theorem hues_32 : huesS 32 = true := by decide +kernel
theorem hues_33 : huesS 33 = true := by decide +kernel
theorem hues_34 : huesS 34 = true := by decide +kernel
theorem hues_35 : huesS 35 = true := by decide +kernel
theorem hues_36 : huesS 36 = true := by decide +kernel
theorem hues_37 : huesS 37 = true := by decide +kernel
theorem hues_38 : huesS 38 = true := by decide +kernel
theorem hues_39 : huesS 39 = true := by decide +kernel
theorem hues_40 : huesS 40 = true := by decide +kernel
theorem hues_41 : huesS 41 = true := by decide +kernel
theorem hues_42 : huesS 42 = true := by decide +kernel
theorem hues_43 : huesS 43 = true := by decide +kernel
theorem hues_44 : huesS 44 = true := by decide +kernel
theorem hues_45 : huesS 45 = true := by decide +kernel
theorem hues_46 : huesS 46 = true := by decide +kernel
theorem hues_47 : huesS 47 = true := by decide +kernel
theorem hues_48 : huesS 48 = true := by decide +kernel
theorem hues_49 : huesS 49 = true := by decide +kernel
theorem hues_50 : huesS 50 = true := by decide +kernel
theorem hues_51 : huesS 51 = true := by decide +kernel
theorem hues_52 : huesS 52 = true := by decide +kernel
theorem hues_53 : huesS 53 = true := by decide +kernel
theorem hues_54 : huesS 54 = true := by decide +kernel
theorem hues_55 : huesS 55 = true := by decide +kernel
theorem sorts_0 : wordsL.all (sortW 0) = true := by decide +kernel
theorem sorts_1 : wordsL.all (sortW 1) = true := by decide +kernel
theorem sorts_2 : wordsL.all (sortW 2) = true := by decide +kernel
theorem sorts_3 : wordsL.all (sortW 3) = true := by decide +kernel
theorem sorts_4 : wordsL.all (sortW 4) = true := by decide +kernel
theorem sorts_5 : wordsL.all (sortW 5) = true := by decide +kernel
theorem sorts_6 : wordsL.all (sortW 6) = true := by decide +kernel
theorem sorts_7 : wordsL.all (sortW 7) = true := by decide +kernel
theorem sorts_8 : wordsL.all (sortW 8) = true := by decide +kernel
theorem sorts_9 : wordsL.all (sortW 9) = true := by decide +kernel
theorem sorts_10 : wordsL.all (sortW 10) = true := by decide +kernel
theorem sorts_11 : wordsL.all (sortW 11) = true := by decide +kernel
theorem sorts_12 : wordsL.all (sortW 12) = true := by decide +kernel
theorem sorts_13 : wordsL.all (sortW 13) = true := by decide +kernel
theorem sorts_14 : wordsL.all (sortW 14) = true := by decide +kernel
theorem sorts_15 : wordsL.all (sortW 15) = true := by decide +kernel
theorem sorts_16 : wordsL.all (sortW 16) = true := by decide +kernel
theorem sorts_17 : wordsL.all (sortW 17) = true := by decide +kernel
theorem sorts_18 : wordsL.all (sortW 18) = true := by decide +kernel
theorem sorts_19 : wordsL.all (sortW 19) = true := by decide +kernel
theorem sorts_20 : wordsL.all (sortW 20) = true := by decide +kernel
theorem sorts_21 : wordsL.all (sortW 21) = true := by decide +kernel
theorem sorts_22 : wordsL.all (sortW 22) = true := by decide +kernel
theorem sorts_23 : wordsL.all (sortW 23) = true := by decide +kernel
theorem sorts_24 : wordsL.all (sortW 24) = true := by decide +kernel
theorem sorts_25 : wordsL.all (sortW 25) = true := by decide +kernel
theorem sorts_26 : wordsL.all (sortW 26) = true := by decide +kernel
theorem sorts_27 : wordsL.all (sortW 27) = true := by decide +kernel
theorem sorts_28 : wordsL.all (sortW 28) = true := by decide +kernel
theorem sorts_29 : wordsL.all (sortW 29) = true := by decide +kernel
theorem sorts_30 : wordsL.all (sortW 30) = true := by decide +kernel
theorem sorts_31 : wordsL.all (sortW 31) = true := by decide +kernel
theorem sorts_32 : wordsL.all (sortW 32) = true := by decide +kernel
theorem sorts_33 : wordsL.all (sortW 33) = true := by decide +kernel
theorem sorts_34 : wordsL.all (sortW 34) = true := by decide +kernel
theorem sorts_35 : wordsL.all (sortW 35) = true := by decide +kernel
theorem sorts_36 : wordsL.all (sortW 36) = true := by decide +kernel
theorem sorts_37 : wordsL.all (sortW 37) = true := by decide +kernel
theorem sorts_38 : wordsL.all (sortW 38) = true := by decide +kernel
theorem sorts_39 : wordsL.all (sortW 39) = true := by decide +kernel
theorem sorts_40 : wordsL.all (sortW 40) = true := by decide +kernel
theorem sorts_41 : wordsL.all (sortW 41) = true := by decide +kernel
theorem sorts_42 : wordsL.all (sortW 42) = true := by decide +kernel
theorem sorts_43 : wordsL.all (sortW 43) = true := by decide +kernel
theorem sorts_44 : wordsL.all (sortW 44) = true := by decide +kernel
theorem sorts_45 : wordsL.all (sortW 45) = true := by decide +kernel
theorem sorts_46 : wordsL.all (sortW 46) = true := by decide +kernel
theorem sorts_47 : wordsL.all (sortW 47) = true := by decide +kernel
theorem sorts_48 : wordsL.all (sortW 48) = true := by decide +kernel
theorem sorts_49 : wordsL.all (sortW 49) = true := by decide +kernel
theorem sorts_50 : wordsL.all (sortW 50) = true := by decide +kernel
theorem sorts_51 : wordsL.all (sortW 51) = true := by decide +kernel
theorem sorts_52 : wordsL.all (sortW 52) = true := by decide +kernel
theorem sorts_53 : wordsL.all (sortW 53) = true := by decide +kernel
theorem sorts_54 : wordsL.all (sortW 54) = true := by decide +kernel
theorem sorts_55 : wordsL.all (sortW 55) = true := by decide +kernel
theorem hues_all (V : Nat) (h : V < 56) : huesS V = true := by
  match V, h with
  | 0, _ => exact hues_0
  | 1, _ => exact hues_1
  | 2, _ => exact hues_2
  | 3, _ => exact hues_3
  | 4, _ => exact hues_4
  | 5, _ => exact hues_5
  | 6, _ => exact hues_6
  | 7, _ => exact hues_7
  | 8, _ => exact hues_8
  | 9, _ => exact hues_9
  | 10, _ => exact hues_10
  | 11, _ => exact hues_11
  | 12, _ => exact hues_12
  | 13, _ => exact hues_13
  | 14, _ => exact hues_14
  | 15, _ => exact hues_15
  | 16, _ => exact hues_16
  | 17, _ => exact hues_17
  | 18, _ => exact hues_18
  | 19, _ => exact hues_19
  | 20, _ => exact hues_20
  | 21, _ => exact hues_21
  | 22, _ => exact hues_22
  | 23, _ => exact hues_23
  | 24, _ => exact hues_24
  | 25, _ => exact hues_25
  | 26, _ => exact hues_26
  | 27, _ => exact hues_27
  | 28, _ => exact hues_28
  | 29, _ => exact hues_29
  | 30, _ => exact hues_30
  | 31, _ => exact hues_31
  | 32, _ => exact hues_32
  | 33, _ => exact hues_33
  | 34, _ => exact hues_34
  | 35, _ => exact hues_35
  | 36, _ => exact hues_36
  | 37, _ => exact hues_37
  | 38, _ => exact hues_38
  | 39, _ => exact hues_39
  | 40, _ => exact hues_40
  | 41, _ => exact hues_41
  | 42, _ => exact hues_42
  | 43, _ => exact hues_43
  | 44, _ => exact hues_44
  | 45, _ => exact hues_45
  | 46, _ => exact hues_46
  | 47, _ => exact hues_47
  | 48, _ => exact hues_48
  | 49, _ => exact hues_49
  | 50, _ => exact hues_50
  | 51, _ => exact hues_51
  | 52, _ => exact hues_52
  | 53, _ => exact hues_53
  | 54, _ => exact hues_54
  | 55, _ => exact hues_55
  | n + 56, h => exact absurd h (by omega)
theorem sorts_all (V : Nat) (h : V < 56) : wordsL.all (sortW V) = true := by
  match V, h with
  | 0, _ => exact sorts_0
  | 1, _ => exact sorts_1
  | 2, _ => exact sorts_2
  | 3, _ => exact sorts_3
  | 4, _ => exact sorts_4
  | 5, _ => exact sorts_5
  | 6, _ => exact sorts_6
  | 7, _ => exact sorts_7
  | 8, _ => exact sorts_8
  | 9, _ => exact sorts_9
  | 10, _ => exact sorts_10
  | 11, _ => exact sorts_11
  | 12, _ => exact sorts_12
  | 13, _ => exact sorts_13
  | 14, _ => exact sorts_14
  | 15, _ => exact sorts_15
  | 16, _ => exact sorts_16
  | 17, _ => exact sorts_17
  | 18, _ => exact sorts_18
  | 19, _ => exact sorts_19
  | 20, _ => exact sorts_20
  | 21, _ => exact sorts_21
  | 22, _ => exact sorts_22
  | 23, _ => exact sorts_23
  | 24, _ => exact sorts_24
  | 25, _ => exact sorts_25
  | 26, _ => exact sorts_26
  | 27, _ => exact sorts_27
  | 28, _ => exact sorts_28
  | 29, _ => exact sorts_29
  | 30, _ => exact sorts_30
  | 31, _ => exact sorts_31
  | 32, _ => exact sorts_32
  | 33, _ => exact sorts_33
  | 34, _ => exact sorts_34
  | 35, _ => exact sorts_35
  | 36, _ => exact sorts_36
  | 37, _ => exact sorts_37
  | 38, _ => exact sorts_38
  | 39, _ => exact sorts_39
  | 40, _ => exact sorts_40
  | 41, _ => exact sorts_41
  | 42, _ => exact sorts_42
  | 43, _ => exact sorts_43
  | 44, _ => exact sorts_44
  | 45, _ => exact sorts_45
  | 46, _ => exact sorts_46
  | 47, _ => exact sorts_47
  | 48, _ => exact sorts_48
  | 49, _ => exact sorts_49
  | 50, _ => exact sorts_50
  | 51, _ => exact sorts_51
  | 52, _ => exact sorts_52
  | 53, _ => exact sorts_53
  | 54, _ => exact sorts_54
  | 55, _ => exact sorts_55
  | n + 56, h => exact absurd h (by omega)
theorem all_hues : ∀ W, HuesOk W := fun W => by
  obtain ⟨V, hV, h1, h2, h3⟩ := rem56 W
  exact huesOk_rem h1 h2 h3 (huesOk_N (by rw [← huesS_eq]; exact hues_all V hV))
theorem all_sorts : ∀ ss ∈ lefts, ∀ W : Int, SortOk (Txt.join (PySem.Str.ofString "") ss) W :=
  of_lefts (P := fun left => ∀ W : Int, SortOk left W) fun l hl W => by
    obtain ⟨V, hV, h1, h2, _⟩ := rem56 W
    exact sortOk_rem (hueZ_rem h1 h2) (sortOk_N hl (sortB_of (sorts_all V hV) l hl))
theorem all_rows : ∀ ss ∈ lefts, ∀ W : Int, ∀ row ∈ rowsN (Txt.join (PySem.Str.ofString "") ss) (Txt.join (PySem.Str.ofString "") ss).length, RowOk (Txt.join (PySem.Str.ofString "") ss) W row :=
  of_lefts (P := fun left => ∀ W : Int, ∀ row ∈ rowsN left left.length, RowOk left W row) fun l hl W row hr => by
    obtain ⟨V, hV, h1, h2, _⟩ := rem56 W
    rw [rows_D hl] at hr
    obtain ⟨w, hw, rfl⟩ := List.mem_map.mp hr
    have hs := sortB_of (sorts_all V hV) l hl
    unfold sortB at hs
    rw [Bool.and_eq_true] at hs
    exact rowOk_rem (hueZ_rem h1 h2) (rowOk_N hl hw (List.all_eq_true.mp hs.1 w hw))
theorem all_rowsOk : ∀ ss ∈ lefts, RowsOk (Txt.join (PySem.Str.ofString "") ss) := of_lefts fun _ hl => rowsOk_D hl
theorem all_last : ∀ ss ∈ lefts, LastOk (Txt.join (PySem.Str.ofString "") ss) := of_lefts fun _ hl => lastOk_D hl
theorem all_texts : ∀ ss ∈ lefts, TextsOk (Txt.join (PySem.Str.ofString "") ss) := of_lefts fun _ hl => textsOk_D hl
end Mine

theorem Mine.loose_is : looseW Mine.hd.view_39 [PySem.Str.ofString "_quoted", PySem.Str.ofString "_paren_depth", PySem.Str.ofString "ONE_THIRD", PySem.Str.ofString "ONE_SIXTH", PySem.Str.ofString "TWO_THIRD"] = Mine.LO := by decide +kernel
theorem PySem.Challenge.cw_wu0001_01_holds : PySem.Challenge.rw_wu0001_01.Holds := by
  refine Mine.hd ?_
  k_fill
  intro w s₀ s₁ mg mb G Y fa o pm cd doc dV kV ho hd hcd hD hmg hg args vals as hpre hlay hrd hwl hlo
  have KX := kIn_of Y
  refine Ground.open G ?_
  intro T B D TE TW
  have TA := at_of_top T
  have hfa : fa = 96 := by
    have e := mg_of KX T.g (n := PySem.Str.ofString "law") (v := .ref 96) (by k_is)
    rw [hmg] at e
    injection e with e
    injection e
  subst hfa
  wrow_args hpre hlay hrd hwl hlo
  all_goals (
    first | refine callC_kw (enter_call ?_) | refine enter_call ?_ | refine callC_kw (enter_callW ?_) | refine enter_callW ?_ | w_how)
  all_goals (w_top on)
  refine codeAny_mono ?_ (fun _ _ g => GoodW.toG g)
  have K0 := below_caller (Top.heap T)
  rename IntsAre _ _ => hI
  rename Heap.IsList _ _ _ => hL
  rename ¬ _ < _ => h63
  rw [Mine.loose_is] at T
  refine Mine.law_is w _ mg mb _ _ _ _ _ s₁ _ _ _ _ K0 KX T (by decide) (by decide) hL hI (by omega) (.mk Mine.all_hues) (.mk Mine.all_rowsOk) (.mk Mine.all_last) (.mk Mine.all_rows) (.mk Mine.all_sorts) (.mk Mine.all_texts) ?_
  intro L m h' tk' F
  wrow_close
