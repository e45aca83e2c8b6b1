import PyProof.Rows.All
import Wide.All
import OpenK.AllK
import Wide.FinOn
import PySem.Challenge.RW_jd0003_02
open PySem PySem.W PySem.Spec PySem.Calls PyProof.Rows
set_option Elab.async false
set_option maxRecDepth 100000
set_option maxHeartbeats 8000000
set_option compiler.extract_closed false
namespace Mine
open_top hd for PySem.Challenge.rw_jd0003_02
section
variable {prog : Program} {w : World} {A₀ A : Around} {s : Shared} {base h₀ : Heap} {outer : List Env} {L : Addr} {m : Str → Option Value} {env : Env} {K : Frag}
  {mean : ExcName → Option Value} {mg mb : Str → Option Value} {p : Program} {loose : List Str}
  {R : Result → Shared → Prop} {name qual : Str} {params : Arguments} {body : List Stmt} {scope : Scope} {dV kV doc pm cdv ct oc : Value} {an od : Option Addr} {osl : Array (Option Value)} {f : Addr} {args : Args} {binds : List (Str × Value)}

theorem enterC (B : Below A₀ base outer h₀) (F : Fr h₀ L s.heap m) (X₀ : K.In h₀) (T : Top p loose mean mg mb h₀) (hA : A.frames = some (env :: outer)) (hf : env.frame = some L) (hke : env.scope.kind = .function)
    (ho : K.lookup f = some ⟨oc, od, .func (fnOf name qual params body scope dV kV doc pm an cdv ct), osl⟩) (hcd : codeIn K cdv qual = true) (hroom : A.depth < recursionLimit)
    (hbind : BindsTo s (fnOf name qual params body scope dV kV doc pm an cdv ct) args binds) (hkind : (binds.all fun y => scope.names.lookup y.1 == some .local || scope.names.lookup y.1 == some .cell) = true)
    (hnd : ((cellsFrom 0 scope.names []).map (·.1)).Nodup)
    (h : ∀ L' h₁ tk cells, Fr s.heap L' h₁ (bindL (envOfC qual scope L' f cdv).kindOf binds fun _ => none) → News s.heap L' h₁ cells →
      CellsAre (bindC (envOfC qual scope L' f cdv).kindOf binds fun _ => none) (cellsFrom (L' + 1) scope.names []) cells → Below A base (env :: outer) s.heap → K.In s.heap → Top p loose mean mg mb s.heap →
      wpAny (model prog w) (A.deeper (envOfC qual scope L' f cdv)) (execs body (envOfC qual scope L' f cdv))
        (fun fl s' => R (.ok (.ret (match fl with | .ret v => v | _ => .none))) s')
        (fun e s' => wpAny (model prog w) (A.deeper (envOfC qual scope L' f cdv)) (leaving (envOfC qual scope L' f cdv) e) (fun _ s'' => R (.error e) s'') (fun e' s'' => R (.error e') s'') s')
        { s with heap := h₁, toks := tk })
    (hco : scope.isCoroutine = false) (hgen : scope.isGenerator = false) (hk : scope.kind = .function) : codeAny (model prog w) A (.call (.ref f) args) R s := by
  have B₁ := pushX B F hf hke
  have B₂ : Below A base (env :: outer) s.heap := ⟨hA, fun b o e => F.keep b o (B.stays b o e), B₁.frames⟩
  have hlim : s.heap.NoLimit := T.nolimit.keeps F.keep
  refine codeAny_call_function hroom (F.keep _ _ (X₀ _ _ ho)) rfl hco hgen rfl (codeRec_of (X₀.keeps F.keep) hcd) (hbind _ _ _ _ ?_)
  refine wpAny_newFunctionEnv_cells hk (kindsX hkind _) fun env' he s' x => ?_
  subst he
  refine ⟨hlim.keeps x.toInCall.keep, codeAny_func ?_⟩
  obtain ⟨h₁, tk, rfl, _⟩ := x.done
  obtain ⟨cells, NC, Y⟩ := Cl.news (h₀ := s.heap) (Nat.le_refl _) fun n c hm => ⟨x.cell n c (lookup_of_mem_nodup (cellsFrom_names scope.names 0 (s.heap.objs.size + 1) [] [] rfl ▸ hnd) hm), x.above n c hm⟩
  exact h s.heap.objs.size h₁ tk cells ⟨x.toInCall.ns, x.toInCall.keep, Nat.le_refl _⟩ NC Y B₂ (X₀.keeps F.keep) (T.keeps F.keep)

theorem enterP (B : Below A₀ base outer h₀) (F : Fr h₀ L s.heap m) (X₀ : K.In h₀) (T : Top p loose mean mg mb h₀) (hA : A.frames = some (env :: outer)) (hf : env.frame = some L) (hke : env.scope.kind = .function)
    (ho : K.lookup f = some ⟨oc, od, .func (fnOf name qual params body scope dV kV doc pm an cdv ct), osl⟩) (hcd : codeIn K cdv qual = true) (hroom : A.depth < recursionLimit)
    (hbind : BindsTo s (fnOf name qual params body scope dV kV doc pm an cdv ct) args binds) (hloc : ∀ y ∈ binds, scope.names.lookup y.1 = some .local)
    (h : ∀ L' h₁, Fr s.heap L' h₁ (fun y => binds.reverse.lookup y) → News s.heap L' h₁ [] → Below A base (env :: outer) s.heap → K.In s.heap → Top p loose mean mg mb s.heap →
      wpAny (model prog w) (A.deeper (envOf qual scope L' f cdv)) (execs body (envOf qual scope L' f cdv))
        (fun fl s' => R (.ok (.ret (match fl with | .ret v => v | _ => .none))) s')
        (fun e s' => wpAny (model prog w) (A.deeper (envOf qual scope L' f cdv)) (leaving (envOf qual scope L' f cdv) e) (fun _ s'' => R (.error e) s'') (fun e' s'' => R (.error e') s'') s')
        { s with heap := h₁, toks := s.toks + binds.length })
    (hco : scope.isCoroutine = false) (hgen : scope.isGenerator = false) (hk : scope.kind = .function)
    (hcell : ∀ x ∈ scope.names, x.2 ≠ .cell) : codeAny (model prog w) A (.call (.ref f) args) R s := by
  have B₁ := pushX B F hf hke
  have B₂ : Below A base (env :: outer) s.heap := ⟨hA, fun b o e => F.keep b o (B.stays b o e), B₁.frames⟩
  have hlim : s.heap.NoLimit := T.nolimit.keeps F.keep
  refine codeAny_call_def (fd := fnOf name qual params body scope dV kV doc pm an cdv ct) (body := body) (binds := binds) hroom (F.keep _ _ (X₀ _ _ ho)) rfl hlim (codeRec_of (X₀.keeps F.keep) hcd) rfl hbind hcell hloc (fun h₁ hns hk₁ => ?_) hco hgen hk
  exact h s.heap.objs.size h₁ ⟨hns, hk₁, Nat.le_refl _⟩ News.nil B₂ (X₀.keeps F.keep) (T.keeps F.keep)
end

def Stop (P : Prop) : Prop := P
theorem stop {P : Prop} (h : Stop P) : P := h
theorem unstop {P : Prop} (h : P) : Stop P := h
def Bd (K : Frag) (f : Addr) (s : Shared) (args : List Value) (binds : List (Str × Value)) : Prop := ∀ fd oc od osl, K.lookup f = some ⟨oc, od, .func fd, osl⟩ → BindsTo s fd ⟨args, []⟩ binds
theorem Bd.at {K : Frag} {f : Addr} {s : Shared} {args : List Value} {binds : List (Str × Value)} {fd : FuncData} {oc : Value} {od : Option Addr} {osl : Array (Option Value)} (h : Bd K f s args binds) (e : K.lookup f = some ⟨oc, od, .func fd, osl⟩) : BindsTo s fd ⟨args, []⟩ binds := h _ _ _ _ e
theorem Bd.of {K : Frag} {f : Addr} {s : Shared} {args : List Value} {binds : List (Str × Value)} {fd : FuncData} {oc : Value} {od : Option Addr} {osl : Array (Option Value)} (e : K.lookup f = some ⟨oc, od, .func fd, osl⟩) (h : BindsTo s fd ⟨args, []⟩ binds) : Bd K f s args binds := by
  intro fd' oc' od' osl' e'
  rw [e] at e'
  cases e'
  exact h
theorem rsz (n : Nat) : Builtin.Range.rangeSize 0 (n : Int) 1 = ((n : Nat) : Int) := by rw [rangeSize_nat]; omega
theorem room_of {M : Model} {A A₀ : Around} {base h₀ h : Heap} {L : Addr} {m : Str → Option Value} {gens drawn tk os} {outer : List Env} {env : Env} (hs : h₀.NoSeer) (hl : h₀.NoLimit) (F : Fr h₀ L h m) (B : Below A₀ base outer h₀) (ht : M.prog.given.tree = none) (hA : A = A₀.deeper env)
    (hd : A.depth + Builtin.pylongFrames < recursionLimit) (hgen : env.scope.isGenerator = false) (hco : env.scope.isCoroutine = false) (hb : env.builtins = builtinsNs) (hg : env.globals = mainGlobals) :
    PylongRoom M A { heap := h, gens := gens, drawn := drawn, toks := tk, os := os } :=
  PylongRoom.of (Heap.NoLimit.keeps hl F.keep) hd (SeerAt.of (Heap.NoSeer.keeps hs F.keep) ht (by rw [hA]; exact Around.frames_deeper B.stack) hgen hco hb hg)

theorem leave_any {M : Model} {A : Around} {base g h : Heap} {outer : List Env} {env : Env} {L e : Addr} {m : Str → Option Value} {cls : String} {Q : Unit → Shared → Prop} {E : Value → Shared → Prop} {s' : Shared} {news : List (Addr × Obj)}
    (B : Below A base outer g) (hx : Heap.NewExc h s'.heap e cls) (F : Fr g L h m) (N : News g L h news) (hf : env.frame = some L) (hke : env.scope.kind = .function)
    (hQ : ∀ h', RaisedN base outer e (.type cls) news h' → g.UpToSlots h' → Q () { s' with heap := h' }) : wpAny M (A.deeper env) (leaving env (.ref e)) Q E s' := by
  have B' := pushX B F hf hke
  let fs := (env :: outer).filterMap (·.frame)
  have inF : ∀ en ∈ env :: outer, ∀ b, en.frame = some b → b ∈ fs := fun en he b hb => List.mem_filterMap.mpr ⟨en, he, hb⟩
  have s1 : base.StaysIn (hideAll h fs) := fun b o q => hideAll_get _ (B'.stays b o q) fun hm => by
    rw [(B'.frames.mem hm).1] at q
    exact nomatch q
  have s2 : ∀ q ∈ news, (hideAll h fs).get? q.1 = some q.2 ∧ base.get? q.1 = none := fun q hq => by
    obtain ⟨n1, n2, n3⟩ := N q hq
    refine ⟨hideAll_get _ n1 fun hm => ?_, fresh_of_stays B.stays n3⟩
    obtain ⟨en, he, hfe⟩ := List.mem_filterMap.mp hm
    rcases List.mem_cons.mp he with e1 | he
    · rw [e1, hf] at hfe
      exact n2 (Option.some.inj hfe).symm
    · obtain ⟨o, ho, _⟩ := (B.frames.mem (List.mem_filterMap.mpr ⟨en, he, hfe⟩)).2
      rw [n3] at ho
      exact nomatch ho
  have s3 : (hideAll h fs).get? e = none := by
    cases q : (hideAll h fs).get? e with
    | none => rfl
    | some o => have := of_hideAll _ q; rw [hx.new] at this; exact nomatch this
  obtain ⟨ob, tp, he, hcls, hd⟩ := hx.there
  refine wpAny_leaving_firstW (a0 := tp) B'.stack ((funFrames_hide B'.frames inF).of_keeps fun b o hb _ => ⟨o, hx.keeps b o hb, rfl⟩) hf he (fun b o hb => hx.keeps b o (of_hideAll _ hb)) s3 hd rfl rfl fun h' hL => ?_
  obtain ⟨k1, ⟨_, _, k2⟩, k3, k4⟩ := hL
  rw [hcls] at k3
  exact hQ h' ⟨hideAll h fs, tp, s1, s2, k1, s3, k2, k3⟩ ((Heap.UpToSlots.of_keeps F.keep).trans ((Heap.UpToSlots.of_keeps hx.keeps).trans k4))

/-- what is wanted behind a step, under a name: it keeps the terms small -/
structure Cont {α : Type} (Q Q' : α → Shared → Prop) : Prop where
  go : ∀ v s', Q v s' → Q' v s'
theorem cut {α : Type} {M : Model} {A : Around} {t : Sem α} {Q : α → Shared → Prop} {E : Value → Shared → Prop} {s : Shared} (h : ∀ Q' : α → Shared → Prop, Cont Q Q' → wpAny M A t Q' E s) : wpAny M A t Q E s := h Q ⟨fun _ _ h => h⟩
theorem resume {α : Type} {Q Q' : α → Shared → Prop} {v : α} {s : Shared} (c : Cont Q Q') (h : Q v s) : Q' v s := c.go v s h
/-- the names of a frame, one at a time -/
def mset (x : Str) (v : Value) (m : Str → Option Value) : Str → Option Value := fun y => if y = x then some v else m y
def mnone : Str → Option Value := fun _ => none
theorem storeM {M : Model} {A : Around} {E : Value → Shared → Prop} {s : Shared} {h₀ : Heap} {L a : Addr} {m : Str → Option Value} {cn : Str} {cs : Scope} {ccd : Value} {cl : List (Str × Addr)}
    {x : Str} {v : Value} {Q : Unit → Shared → Prop} {news : List (Addr × Obj)} (F : Fr h₀ L s.heap m) (N : News h₀ L s.heap news)
    (h : ∀ h', Fr h₀ L h' (mset x v m) → News h₀ L h' news → Q () { s with heap := h', toks := s.toks + 1 })
    (hk : cs.kind = .function) (hx : (envX cn cs L a ccd cl).kindOf x = some .local) : wpAny M A (storeName (envX cn cs L a ccd cl) x v) Q E s := storeX_L F N h hk hx

theorem oms :
    (∀ n : Nat, -(2:Int) ^ 62 ≤ (n : Int)) ∧ (∀ n : Nat, -(2:Int) ^ 63 ≤ (n : Int)) ∧ (∀ n : Nat, -(2:Int) ^ 64 < (n : Int)) ∧
    (∀ n : Nat, n ≤ 4 → n ≤ 16777216) ∧ (∀ n : Nat, n ≤ 4 → n < 2 ^ 62) ∧ (∀ n : Nat, n ≤ 4 → (n : Int) < 2 ^ 62) ∧ (∀ n : Nat, n ≤ 4 → (n : Int) < 2 ^ 63) ∧ (∀ n : Nat, n ≤ 4 → (n : Int) ≤ ((1048576 : Nat) : Int)) ∧
    (∀ n : Nat, n ≤ 8 → n ≤ 16777216) ∧ (∀ n : Nat, n ≤ 8 → n < 2 ^ 62) ∧ (∀ n : Nat, n ≤ 8 → (n : Int) < 2 ^ 62) ∧ (∀ n : Nat, n ≤ 8 → (n : Int) < 2 ^ 63) ∧ (∀ n : Nat, n ≤ 8 → (n : Int) ≤ ((1048576 : Nat) : Int)) ∧
    (∀ n : Nat, n < 10 → n ≤ 16777216) ∧ (∀ n : Nat, n < 10 → (n : Int) < 2 ^ 62) ∧ (∀ n : Nat, n < 10 → (n : Int) < 2 ^ 63) ∧ (∀ n : Nat, n < 10 → (n : Int) < 2 ^ 64) ∧
    (∀ n : Nat, n + 1 < 10 → n ≤ 16777216) ∧ (∀ n : Nat, n + 1 < 10 → ((n + 1 : Nat) : Int) < 2 ^ 62) ∧ (∀ n : Nat, n + 1 < 10 → 0 + 1 + n ≤ 16777216) ∧
    (∀ x : Int, x ≤ 20 → x < 2 ^ 64) ∧ (∀ x : Int, 0 < x → -(2:Int) ^ 64 < x) ∧ (∀ x : Int, 0 ≤ x → -(2:Int) ^ 64 < x) ∧ (∀ x : Int, 0 ≤ x → -(2:Int) ^ 62 ≤ x) ∧ (∀ x : Int, 0 ≤ x → -(2:Int) ^ 63 ≤ x) ∧
    (∀ x : Int, 0 < x ∧ x < 1000000000000000 → -(2:Int) ^ 64 < x) ∧ (∀ x : Int, 0 < x ∧ x < 1000000000000000 → x < 2 ^ 64) ∧
    -(2:Int) ^ 62 ≤ 0 ∧ -(2:Int) ^ 62 ≤ 1 ∧ -(2:Int) ^ 63 ≤ 0 ∧ (0:Int) < 2 ^ 62 ∧ (1:Int) < 2 ^ 62 ∧ (0:Int) < 2 ^ 63 ∧ -(2:Int) ^ 64 < 2 ∧ (2:Int) < 2 ^ 64 ∧ -(2:Int) ^ 64 < 1 ∧ (1:Int) < 2 ^ 64 ∧ -(2:Int) ^ 64 < 0 ∧ (0:Int) < 2 ^ 64 ∧ 0 + 1 ≤ 16777216 ∧ 0 + 1 + 1 ≤ 16777216 ∧ 0 + 1 + 1 + 1 ≤ 16777216 ∧
    (∀ a : Nat, ¬ a + 1 = a) ∧ (∀ a : Nat, ¬ a = a + 1) ∧ (∀ a : Nat, ¬ a + 1 + 1 = a) ∧ (∀ a : Nat, ¬ a = a + 1 + 1) ∧ (∀ a : Nat, ¬ a + 1 + 1 + 1 = a) ∧ (∀ a : Nat, ¬ a = a + 1 + 1 + 1) ∧ (∀ a : Nat, ¬ a + 1 + 1 + 1 + 1 = a) ∧ (∀ a : Nat, ¬ a = a + 1 + 1 + 1 + 1) ∧ (∀ a : Nat, ¬ a + 1 + 1 + 1 + 1 + 1 = a) ∧ (∀ a : Nat, ¬ a = a + 1 + 1 + 1 + 1 + 1) ∧ (∀ a : Nat, ¬ a + 1 + 1 + 1 + 1 + 1 + 1 = a) ∧ (∀ a : Nat, ¬ a = a + 1 + 1 + 1 + 1 + 1 + 1) := by
  refine ⟨?_, ?_, ?_, ?_, ?_, ?_, ?_, ?_, ?_, ?_, ?_, ?_, ?_, ?_, ?_, ?_, ?_, ?_, ?_, ?_, ?_, ?_, ?_, ?_, ?_, ?_, ?_, ?_, ?_, ?_, ?_, ?_, ?_, ?_, ?_, ?_, ?_, ?_, ?_, ?_, ?_, ?_, ?_, ?_, ?_, ?_, ?_, ?_, ?_, ?_, ?_, ?_, ?_, ?_⟩ <;> first | decide | exact fun n => Nat.succ_ne_self n | (intros; lia) | omega

theorem oma :
    (∀ (x y z : Nat), (x < y ∧ z + 1 + 1 + 1 + 1 + 1 < y ∧ z + 1 + 1 + 1 + 1 < y ∧ z + 1 + 1 + 1 < y ∧ z + 1 + 1 < y ∧ z + 1 < y) → (((z + 1 + 1 + 1 + 1 + 1 = y) = False) ∧ ((z + 1 + 1 + 1 + 1 = y) = False) ∧ ((z + 1 + 1 + 1 = y) = False) ∧ ((y = z + 1 + 1) = False) ∧ ((z + 1 + 1 = y) = False) ∧ ((y = z + 1) = False) ∧ ((z + 1 = y) = False))) ∧
    (∀ (x y z : Nat), (x < y ∧ z + 1 + 1 + 1 + 1 + 1 + 1 < y ∧ z + 1 + 1 + 1 + 1 + 1 < y ∧ z + 1 + 1 + 1 + 1 < y ∧ z + 1 + 1 + 1 < y ∧ z + 1 + 1 < y ∧ z + 1 < y) → (((y = z + 1 + 1 + 1 + 1 + 1 + 1) = False) ∧ ((z + 1 + 1 + 1 + 1 + 1 + 1 = y) = False) ∧ ((y = z + 1 + 1 + 1 + 1 + 1) = False) ∧ ((z + 1 + 1 + 1 + 1 + 1 = y) = False) ∧ ((y = z + 1 + 1 + 1 + 1) = False) ∧ ((z + 1 + 1 + 1 + 1 = y) = False) ∧ ((y = z + 1 + 1 + 1) = False) ∧ ((z + 1 + 1 + 1 = y) = False) ∧ ((y = z + 1 + 1) = False) ∧ ((z + 1 + 1 = y) = False) ∧ ((z + 1 = y) = False))) ∧
    (∀ (x y z : Nat), (x < y ∧ z + 1 + 1 + 1 < y ∧ z + 1 + 1 < y ∧ z + 1 < y) → (((y = x) = False) ∧ ((y = z + 1 + 1 + 1) = False) ∧ ((y = z + 1 + 1) = False))) ∧
    (∀ (p u v w x y z : Nat), (x < y ∧ z < y ∧ u < y ∧ v < y ∧ w < y ∧ p + 1 + 1 + 1 + 1 + 1 < y ∧ p + 1 + 1 + 1 + 1 < y ∧ p + 1 + 1 + 1 < y ∧ p + 1 + 1 < y ∧ p + 1 < y) → (((y = v) = False) ∧ ((y = p + 1 + 1 + 1 + 1 + 1) = False) ∧ ((y = p + 1 + 1 + 1 + 1) = False) ∧ ((y = p + 1 + 1 + 1) = False) ∧ ((y = p + 1 + 1) = False) ∧ ((y = p + 1) = False))) ∧
    (∀ (p q u v w x y z : Nat), (x < y ∧ z < y ∧ u < y ∧ v < y ∧ w < y ∧ p < y ∧ q + 1 + 1 + 1 + 1 + 1 < y ∧ q + 1 + 1 + 1 + 1 < y ∧ q + 1 + 1 + 1 < y ∧ q + 1 + 1 < y ∧ q + 1 < y) → ((y = q + 1 + 1) = False)) ∧
    (∀ (x y : Nat), (x + 1 + 1 + 1 + 1 + 1 < y ∧ x + 1 + 1 + 1 + 1 < y ∧ x + 1 + 1 + 1 < y ∧ x + 1 + 1 < y ∧ x + 1 < y) → ((y = x + 1) = False)) :=
  ⟨fun _ _ _ h => ⟨eq_false (Nat.ne_of_lt h.2.1), eq_false (Nat.ne_of_lt h.2.2.1), eq_false (Nat.ne_of_lt h.2.2.2.1), eq_false (Nat.ne_of_gt h.2.2.2.2.1), eq_false (Nat.ne_of_lt h.2.2.2.2.1), eq_false (Nat.ne_of_gt h.2.2.2.2.2), eq_false (Nat.ne_of_lt h.2.2.2.2.2)⟩,
   fun _ _ _ h => ⟨eq_false (Nat.ne_of_gt h.2.1), eq_false (Nat.ne_of_lt h.2.1), eq_false (Nat.ne_of_gt h.2.2.1), eq_false (Nat.ne_of_lt h.2.2.1), eq_false (Nat.ne_of_gt h.2.2.2.1), eq_false (Nat.ne_of_lt h.2.2.2.1), eq_false (Nat.ne_of_gt h.2.2.2.2.1), eq_false (Nat.ne_of_lt h.2.2.2.2.1), eq_false (Nat.ne_of_gt h.2.2.2.2.2.1), eq_false (Nat.ne_of_lt h.2.2.2.2.2.1), eq_false (Nat.ne_of_lt h.2.2.2.2.2.2)⟩,
   fun _ _ _ h => ⟨eq_false (Nat.ne_of_gt h.1), eq_false (Nat.ne_of_gt h.2.1), eq_false (Nat.ne_of_gt h.2.2.1)⟩,
   fun _ _ _ _ _ _ _ h => ⟨eq_false (Nat.ne_of_gt h.2.2.2.1), eq_false (Nat.ne_of_gt h.2.2.2.2.2.1), eq_false (Nat.ne_of_gt h.2.2.2.2.2.2.1), eq_false (Nat.ne_of_gt h.2.2.2.2.2.2.2.1), eq_false (Nat.ne_of_gt h.2.2.2.2.2.2.2.2.1), eq_false (Nat.ne_of_gt h.2.2.2.2.2.2.2.2.2)⟩,
   fun _ _ _ _ _ _ _ _ h => eq_false (Nat.ne_of_gt h.2.2.2.2.2.2.2.2.2.1),
   fun _ _ h => eq_false (Nat.ne_of_gt h.2.2.2.2)⟩
theorem omt :
    (∀ (a : Nat) (b : Nat) (c : Int) (d : Nat) (e : Nat) (f : Nat), (c = 0 ∨ c = (↑d : Int)) → (a = f) → (f = e) → (b ≤ e) → (-(↑a : Int) ≤ -(↑b : Int) + c) = True) ∧
    (∀ (a : Int) (b : Nat), (a = 0 ∨ a = (↑b : Int)) → ((↑a.toNat : Int) = a) = True) ∧
    (∀ (a : Nat) (b : Int) (c : Nat), (a < 10) → (b = 0 ∨ b = (↑c : Int)) → (-2 ^ 63 ≤ -(↑a : Int) + b) = True) ∧
    (∀ (a : Int) (b : Int) (c : Nat), (a < b) → ((↑b.toNat : Int) = b) → ((a - b + (↑c : Int)).toNat = c - ((↑b.toNat : Int) - a).toNat) = True) ∧
    (∀ (a : Nat), (¬a = 0) → (¬a = 1) → (¬a = 2) → (¬a = 3) → (¬a = 4) → (a < 6) → (a = 5) = True) ∧
    (∀ (a : Int) (b : Nat) (c : Nat), (b = c) → (a < 0 + (↑c : Int)) → (a < (↑b : Int)) = True) ∧
    (∀ (a : Int) (b : Nat), (a < 0 + (↑b : Int)) → (b ≤ 8) → (a < 2 ^ 63) = True) ∧
    (∀ (a : Nat) (b : Nat), (b < a) → (a + 1 - (b + 1) < a + 1 - b) = True) ∧
    (∀ (a : Int) (b : Nat), (1 ≤ a ∧ a ≤ 4) → ((↑(min (2 + 2 * a).toNat b - (2 + a).toNat) : Int) ≤ a) = True) ∧
    (∀ (a : Int) (b : Nat) (c : Nat) (d : Nat), (a = 0 + (↑c : Int)) → (b = d) → (c < d) → (a < (↑b : Int)) = True) ∧
    (∀ (a : Int) (b : Nat), (a < 0 + (↑b : Int)) → (0 ≤ a) → (a.toNat < b) = True) ∧
    (∀ (a : Nat) (b : Int), ((↑a : Int) = b) → (1 ≤ b ∧ b ≤ 4) → (0 < a) = True) ∧
    (∀ (a : Nat) (b : Nat), (a < b) → (b < 10) → (a < 10) = True) ∧
    (∀ (a : Int) (b : Int), (b ≤ a) → (a < b) = False) ∧
    (∀ (a : Nat) (b : Nat) (c : Nat), (a + 150 < c) → (b = 100) → (a + 1 + b < c) = True) ∧
    (∀ (a : Int) (b : Nat) (c : Nat), (a = 0 + (↑c : Int)) → (c < b) → (b ≤ 8) → (a < 2 ^ 63) = True) ∧
    (∀ (a : Nat) (b : Int), ((↑a : Int) = b) → (1 ≤ b ∧ b ≤ 4) → (a ≤ 4) = True) ∧
    (∀ (a : Int) (b : Int) (c : Int) (d : Int), (c < a) → (b = c - d + (d + 1)) → ((a - b).toNat < (a - c).toNat) = True) ∧
    (∀ (a : Int) (b : Nat), (a = 0 + (↑b : Int)) → (a.toNat = b) = True) ∧
    (∀ (a : Int) (b : Nat), (a = 0) → (a = 0 ∨ b < 3 ∨ a = 1 ∧ b = 3) = True) ∧
    (∀ (a : Int) (b : Nat) (c : Nat), (a = 0 + (↑c : Int)) → (c < b) → (a.toNat < b) = True) ∧
    (∀ (a : Nat), (a + 60 < 9900) → (a + 3 + 30 < 9900) = True) ∧
    (∀ (a : Int) (b : Int) (c : Nat), ((↑b.toNat : Int) - a ≤ (↑c : Int)) → (c ≤ 8) → (-2 ^ 63 ≤ a - b) = True) ∧
    (∀ (a : Int) (b : Nat) (c : Nat), (a < 0 + (↑b : Int)) → (b ≤ c) → (c < 10) → (a < 2 ^ 63) = True) ∧
    (∀ (a : Int) (b : Nat), (a = 4) → (a = 4 ∨ b < 3 ∨ a = 1 ∧ b = 3) = True) ∧
    (∀ (a : Int) (b : Nat) (c : Nat), (a = 0 + (↑c : Int)) → (c < b) → (b ≤ 4) → (a < 2 ^ 63) = True) ∧
    (∀ (a : Nat) (b : Nat) (c : Nat), (a + (b + 1) = c) → (a + 1 + b = c) = True) ∧
    (∀ (a : Nat) (b : Int), ((↑a : Int) = b) → (1 ≤ b ∧ b ≤ 4) → (a ≤ 8) = True) ∧
    (∀ (a : Int) (b : Nat) (c : Nat), (0 ≤ a) → (b = c) → (a.toNat < c) → (0 ≤ a ∧ a < (↑b : Int)) = True) ∧
    (∀ (a : Int) (b : Int) (c : Int) (d : Int), (d = c) → (a < b) → (a < b ∧ c ≤ d) = True) ∧
    (∀ (a : Int) (b : Nat) (c : Nat), (a < (↑b : Int)) → (c ≤ b) → (0 < c) → (a.toNat < b) = True) ∧
    (∀ (a : Int) (b : Nat), (a = 0 + (↑b : Int)) → (0 ≤ a) = True) ∧
    (∀ (a : Nat) (b : Int) (c : Nat), (a = c) → ((↑c : Int) ≤ b) → (1 ≤ b ∧ b ≤ 4) → (a ≤ 16777216) = True) ∧
    (∀ (a : Int), (0 ≤ a ∧ a ≤ 7) → (5 < a) → (a - 6 = 0 ∨ a - 6 = 1) = True) ∧
    (∀ (a : Int), (¬5 < a) → (a.toNat < 6) = True) ∧
    (∀ (a : Nat), (a + 200 < 1000) → (a + 1 + 150 < 1000) = True) ∧
    (∀ (a : Nat) (b : Nat), (a = b) → (b < 10) → (a ≤ 16777216) = True) ∧
    (∀ (a : Int) (b : Int), (1 ≤ a ∧ a ≤ 4) → (0 ≤ b ∧ b ≤ 4) → (a + b = (↑(a + b).toNat : Int)) = True) ∧
    (∀ (a : Nat) (b : Int), ((↑a : Int) ≤ b) → (1 ≤ b ∧ b ≤ 4) → (a < 2 ^ 62) = True) ∧
    (∀ (a : Nat) (b : Nat), (a = b) → (0 < b) → (0 < a) = True) ∧
    (∀ (a : Nat) (b : Nat), (b ≤ a) → (0 < b) → (a = a - 1 + 1) = True) ∧
    (∀ (a : Nat) (b : Int) (c : Int), ((↑a : Int) ≤ b) → (c = (↑a : Int)) → (¬c < b) → (a = b.toNat) = True) ∧
    (∀ (a : Nat), (0 < a) → (0 < (↑a : Int)) = True) ∧
    (∀ (a : Nat) (b : Nat), (b ≤ a) → ((↑a : Int) < (↑b : Int)) = False) ∧
    (∀ (a : Nat) (b : Int) (c : Int), (c = (↑a : Int)) → (c < b) → ((↑(a + 1) : Int) ≤ b) = True) ∧
    (∀ (a : Int) (b : Nat) (c : Int), (a = 1) → ((↑b : Int) = c) → (c = 3) → (a = 0 ∨ b < 3 ∨ a = 1 ∧ b = 3) = True) ∧
    (∀ (a : Int) (b : Nat) (c : Int), (a = 1) → ((↑b : Int) = c) → (c = 3) → (a = 4 ∨ b < 3 ∨ a = 1 ∧ b = 3) = True) ∧
    (∀ (a : Int) (b : Nat), ((↑b : Int) ≤ a) → (-2 ^ 63 ≤ a - (↑b : Int)) = True) ∧
    (∀ (a : Nat) (b : Nat) (c : Nat) (d : Nat), (a = c) → (c = d) → (d ≤ 4 * b) → (b < 10) → (a ≤ 16777216) = True) ∧
    (∀ (a : Int) (b : Nat) (c : Nat), (0 ≤ a ∧ a < (↑c : Int)) → (c = b) → (b ≤ 8) → (a < 2 ^ 63) = True) ∧
    (∀ (a : Nat) (b : Nat), (a ≤ b) → (b < 10) → ((↑a : Int) < 2 ^ 63) = True) ∧
    (∀ (a : Nat) (b : Int) (c : Int) (d : Nat) (e : Nat), ((↑c.toNat : Int) - b ≤ (↑e : Int)) → (d = e) → (a = d) → (-(↑a : Int) ≤ b - c) = True) ∧
    (∀ (a : Int) (b : Nat), (0 ≤ a ∧ a < (↑b : Int)) → (a < (↑b : Int)) = True) ∧
    (∀ (a : Nat) (b : Nat), (b ≤ a ∧ a ≤ 8) → (a ≤ 9) = True) ∧
    (∀ (a : Nat), (0 ≤ (↑a : Int)) = True) ∧
    (∀ (a : Int), (¬5 < a) → (a < 2 ^ 63) = True) ∧
    (∀ (a : Int) (b : Int), (0 < a ∧ a < 1000 ∧ 0 < b ∧ b < 1000) → (a.natAbs < 1073741824) = True) ∧
    (∀ (a : Int) (b : Int) (c : Nat), (a < 0 + (↑c : Int)) → ((↑c : Int) = b) → (1 ≤ b ∧ b ≤ 4) → (a < 2 ^ 63) = True) ∧
    (∀ (a : Nat) (b : Nat) (c : Nat) (d : Nat), (a + c ≤ d) → (a + min b c ≤ d) = True) ∧
    (∀ (a : Int) (b : Nat) (c : Int), ((↑b : Int) = c) → (c < 3) → (a = 0 ∨ b < 3 ∨ a = 1 ∧ b = 3) = True) ∧
    (∀ (a : Int), (0 ≤ a ∧ a ≤ 20) → (-2 ^ 64 < a + 1) = True) ∧
    (∀ (a : Nat) (b : Nat) (c : Nat), (a + (c + 1) = b) → (a < b) = True) ∧
    (∀ (a : Int) (b : Nat), ((↑b : Int) ≤ a) → (a = (↑a.toNat : Int)) = True) ∧
    (∀ (a : Int), (0 < a) → ((↑a.toNat : Int) = a) = True) ∧
    (∀ (a : Int) (b : Nat) (c : Int), ((↑b : Int) = c) → (c < 3) → (a = 4 ∨ b < 3 ∨ a = 1 ∧ b = 3) = True) ∧
    (∀ (a : Int), (0 < a) → (a = 0) = False) ∧
    (∀ (a : Nat) (b : Int), ((↑a : Int) ≤ b) → ((↑(a + (b - (↑a : Int)).toNat) : Int) = b) = True) ∧
    (∀ (a : Int), (0 ≤ a ∧ a < 5) → (a < 2 ^ 64) = True) ∧
    (∀ (a : Nat) (b : Nat), (a ≤ b) → (¬a < b) → (a = b) = True) ∧
    (∀ (a : Int), (1 ≤ a ∧ a ≤ 4) → (-2 ^ 62 ≤ a) = True) ∧
    (∀ (a : Int) (b : Nat), (a < 0 + (↑b : Int)) → (b < 10) → (2 * (a + 1) < 2 ^ 64) = True) ∧
    (∀ (a : Nat) (b : Nat) (c : Nat), (a = c) → (c ≤ 4 * b) → (b < 10) → (a < 64) = True) ∧
    (∀ (a : Int) (b : Int) (c : Nat), (0 ≤ a) → (a ≤ (↑c : Int)) → ((↑c : Int) ≤ b) → (b ≤ 20) → (0 ≤ a ∧ a ≤ 20) = True) ∧
    (∀ (a : Int), (0 ≤ a ∧ a ≤ 20) → ((a + 1).natAbs < 1073741824) = True) ∧
    (∀ (a : Int) (b : Nat) (c : Int), (c = (↑b : Int)) → (0 ≤ a ∧ a < c) → (a.toNat < b) = True) ∧
    (∀ (a : Int) (b : Int), (0 ≤ a ∧ a < b) → (b < 100) → (a < 2 ^ 63) = True) ∧
    (∀ (a : Nat) (b : Nat) (c : Int), ((↑b : Int) = c) → ((↑a : Int) = c) → (a = b) = True) ∧
    (∀ (a : Int), (0 ≤ a ∧ a ≤ 20) → (a + 1 < 2 ^ 64) = True) ∧
    (∀ (a : Nat) (b : Nat), (a = b) → (b ≤ 8) → (a < 64) = True) ∧
    (∀ (a : Int) (b : Int), (a ≤ (↑b.toNat : Int)) → (¬a < b) → ((↑b.toNat : Int) = b) → (a = (↑b.toNat : Int)) = True) ∧
    (∀ (a : Int) (b : Nat), (a < 0 + (↑b : Int)) → (b < 10) → (a + 1 < 2 ^ 64) = True) ∧
    (∀ (a : Nat), (0 + a = a) = True) ∧
    (∀ (a : Nat) (b : Nat), (a ≤ b ∧ b ≤ 8) → (a ≤ b) = True) ∧
    (∀ (a : Nat) (b : Nat) (c : Nat), (c = b) → (a < c) → (a < b) = True) ∧
    (∀ (a : Int) (b : Int), (0 < b ∧ b < 1000 ∧ 0 < a ∧ a < 1000) → (-2 ^ 64 < a) = True) ∧
    (∀ (a : Int), (0 < a ∧ a < 1000000000000) → (-2 ^ 64 < a) = True) ∧
    (∀ (a : Nat) (b : Nat), (a ≤ b ∧ b ≤ 8) → (a ≤ b + 1) = True) ∧
    (∀ (a : Nat), (a ≤ a + 1) = True) ∧
    (∀ (a : Nat) (b : Nat), (a = b) → (b ≤ 4) → (a ≤ 16777216) = True) ∧
    (∀ (a : Nat), (a ≤ 3) → ((↑a : Int) < 100) = True) ∧
    (∀ (a : Int) (b : Int), (a = b) → (a < b) = False) ∧
    (∀ (a : Int) (b : Int) (c : Int) (d : Int), (¬c < d) → (d ≠ c) → ((a < b ∧ c ≤ d)) = False) ∧
    (∀ (a : Int), (1 ≤ a ∧ a ≤ 4) → (0 ≤ 2 + a) = True) ∧
    (∀ (a : Nat) (b : Nat), (b ≤ a ∧ a ≤ 8) → (a < 10) = True) ∧
    (∀ (a : Nat) (b : Int), (b < (↑a : Int)) → (-(↑a : Int) + b < 0) = True) ∧
    (∀ (a : Int), (1 ≤ a ∧ a ≤ 4) → (0 ≤ 2 + 2 * a) = True) ∧
    (∀ (a : Nat), (a + 200 < 1000) → (a < 1000) = True) ∧
    (∀ (a : Int) (b : Nat), (1 ≤ a ∧ a ≤ 4) → (a - (↑b : Int) < 2 ^ 63) = True) ∧
    (∀ (a : Int), (0 ≤ a) → (a = (↑a.toNat : Int)) = True) ∧
    (∀ (a : Int) (b : Int) (c : Int) (d : Int), (¬a < b) → ((a < b ∧ c ≤ d)) = False) ∧
    (∀ (a : Int) (b : Int), (a < b) → (a < (↑b.toNat : Int)) = True) ∧
    (∀ (a : Nat) (b : Int), (¬b < (↑a : Int)) → ((↑a : Int) ≤ b) = True) ∧
    (∀ (a : Int), (0 ≤ a) → (-2 ^ 64 < 2 * (a + 1)) = True) ∧
    (∀ (a : Nat), (1 + (↑a : Int) = (↑(a + 1) : Int)) = True) ∧
    (∀ (a : Nat) (b : Nat) (c : Nat), (b = c) → (a + 0 = c) → (a = b) = True) ∧
    (∀ (a : Int) (b : Int), (a < b) → (a - b < 0) = True) ∧
    (∀ (a : Int), (a ≤ 20) → (a.toNat ≤ 20) = True) ∧
    (∀ (a : Nat) (b : Nat) (c : Nat) (d : Nat), (a + b ≤ d) → (d ≤ c) → (a + b ≤ c) = True) ∧
    (∀ (a : Nat) (b : Nat), (b ≤ a) → (0 < b) → (0 < (↑a : Int)) = True) ∧
    (∀ (a : Int), (0 ≤ a ∧ a ≤ 20) → (-2 ^ 64 < a) = True) ∧
    (∀ (a : Nat) (b : Int), ((↑a : Int) ≤ b) → (b ≤ 20) → ((↑a : Int) ≤ 20) = True) ∧
    (∀ (a : Int), (0 ≤ a) → (-2 ^ 64 < a + 1) = True) ∧
    (∀ (a : Int), (0 ≤ a ∧ a ≤ 7) → (0 ≤ a) = True) ∧
    (∀ (a : Int), (a < 0) → (0 < -a + 1) = True) ∧
    (∀ (a : Int) (b : Int), (¬-b < a) → (a ≤ -b) = True) ∧
    (∀ (a : Nat), (1 + a = a + 1) = True) ∧
    (∀ (a : Int), (0 ≤ a ∧ a ≤ 7) → (a - 6 < 2) = True) ∧
    (∀ (a : Nat) (b : Nat) (c : Nat), (c = b) → (a < c) → (a < b) = True) ∧
    (∀ (a : Nat) (b : Nat), (a = b) → (b ≤ 8) → (a ≤ 8) = True) ∧
    (∀ (a : Int), (¬5 < a) → (a < 6) = True) ∧
    (∀ (a : Nat) (b : Nat), (a = b) → (b ≤ 8) → (a ≤ 16777216) = True) ∧
    (∀ (a : Nat) (b : Nat), (b = a + 2) → (a ≤ b) = True) ∧
    (∀ (a : Nat) (b : Nat), (a + 150 < b) → (a < b) = True) ∧
    (∀ (a : Nat), (a ≤ 4) → (a ≤ 8) = True) ∧
    (∀ (a : Nat), (0 + (↑a : Int) = (↑a : Int)) = True) ∧
    (∀ (a : Nat) (b : Nat), ((↑a : Int) < 0 + (↑b : Int)) → (a < b) = True) ∧
    (∀ (a : Nat) (b : Nat), (b = a + 1) → (a ≤ b) = True) ∧
    (∀ (a : Int) (b : Int), (b < a) → (a ≤ b) = False) ∧
    (∀ (a : Nat), (a ≤ a + 2) = True) ∧
    (∀ (a : Nat), (a ≤ a + 3) = True) ∧
    (∀ (a : Int) (b : Int), (0 ≤ a ∧ a < b) → (0 ≤ a) = True) ∧
    (∀ (a : Nat) (b : Nat), ((↑a : Int) ≤ (↑b : Int)) → (a ≤ b) = True) :=
  ⟨by intros; exact eq_true (by lia),
   by intros; exact eq_true (by lia),
   by intros; exact eq_true (by lia),
   fun a b c h e => eq_true (by obtain ⟨k, hk⟩ := Int.eq_ofNat_of_zero_le (Int.le_of_lt (Int.sub_pos_of_lt h)); rw [e, show a - b + (c : Int) = (c : Int) - (b - a) by omega, hk, Int.toNat_sub, Int.toNat_natCast]),
   by intros; exact eq_true (by lia),
   by intros; exact eq_true (by lia),
   by intros; exact eq_true (by lia),
   fun a b h => eq_true (Nat.sub_lt_sub_left (Nat.lt_succ_of_lt h) (Nat.lt_succ_self b)),
   fun a b h => eq_true (by obtain ⟨k, rfl⟩ := Int.eq_ofNat_of_zero_le (Int.le_trans (by decide : (0 : Int) ≤ 1) h.1); refine Int.ofNat_le.mpr ?_; show min (2 + 2 * k) b - (2 + k) ≤ k; exact Nat.sub_le_of_le_add (Nat.le_trans (Nat.min_le_left _ _) (by omega))),
   by intros; exact eq_true (by lia),
   fun a b h g => eq_true ((Int.toNat_lt g).mpr (by rw [Int.zero_add] at h; exact h)),
   by intros; exact eq_true (by omega),
   by intros; exact eq_true (by lia),
   by intros; exact eq_false (by omega),
   by intros; exact eq_true (by lia),
   by intros; exact eq_true (by lia),
   by intros; exact eq_true (by lia),
   fun a b c d h e => eq_true ((Int.toNat_lt_toNat (Int.sub_pos_of_lt h)).mpr (by omega)),
   by intros; exact eq_true (by lia),
   by intros; exact eq_true (by lia),
   fun a b c e h => eq_true (by rw [e, Int.zero_add]; exact h),
   by intros; exact eq_true (by lia),
   by intros; exact eq_true (by lia),
   by intros; exact eq_true (by lia),
   by intros; exact eq_true (by lia),
   by intros; exact eq_true (by lia),
   by intros; exact eq_true (by lia),
   by intros; exact eq_true (by omega),
   by intros; exact eq_true (by lia),
   by intros; exact eq_true (by lia),
   fun a b c h g k => eq_true ((Int.toNat_lt' (Nat.lt_of_lt_of_le k g)).mpr h),
   by intros; exact eq_true (by lia),
   by intros; exact eq_true (by lia),
   by intros; exact eq_true (by lia),
   by intros; exact eq_true (by lia),
   by intros; exact eq_true (by omega),
   by intros; exact eq_true (by omega),
   fun a b h g => eq_true (Int.toNat_of_nonneg (Int.add_nonneg (Int.le_trans (by decide) h.1) g.1)).symm,
   by intros; exact eq_true (by omega),
   by intros; exact eq_true (by lia),
   fun a b h g => eq_true (Nat.sub_add_cancel (Nat.le_trans g h)).symm,
   fun a b c h e g => eq_true (by have q : b = (a : Int) := Int.le_antisymm (e ▸ Int.not_lt.mp g) h; rw [q]; rfl),
   by intros; exact eq_true (by omega),
   by intros; exact eq_false (by lia),
   by intros; exact eq_true (by lia),
   by intros; exact eq_true (by lia),
   by intros; exact eq_true (by omega),
   by intros; exact eq_true (by lia),
   by intros; exact eq_true (by lia),
   by intros; exact eq_true (by lia),
   by intros; exact eq_true (by omega),
   by intros; exact eq_true (by lia),
   by intros; exact eq_true (by omega),
   by intros; exact eq_true (by lia),
   by intros; exact eq_true (by lia),
   by intros; exact eq_true (by lia),
   by intros; exact eq_true (by omega),
   by intros; exact eq_true (by lia),
   by intros; exact eq_true (by lia),
   by intros; exact eq_true (by lia),
   by intros; exact eq_true (by omega),
   by intros; exact eq_true (by lia),
   by intros; exact eq_true (by lia),
   by intros; exact eq_true (by omega),
   by intros; exact eq_true (by lia),
   by intros; exact eq_false (by lia),
   by intros; exact eq_true (by lia),
   by intros; exact eq_true (by omega),
   by intros; exact eq_true (by lia),
   by intros; exact eq_true (by lia),
   by intros; exact eq_true (by lia),
   by intros; exact eq_true (by omega),
   by intros; exact eq_true (by lia),
   by intros; exact eq_true (by omega),
   fun a b c e h => eq_true ((Int.toNat_lt h.1).mpr (e ▸ h.2)),
   by intros; exact eq_true (by lia),
   by intros; exact eq_true (by lia),
   by intros; exact eq_true (by omega),
   by intros; exact eq_true (by lia),
   by intros; exact eq_true (by lia),
   by intros; exact eq_true (by omega),
   by intros; exact eq_true (by lia),
   by intros; exact eq_true (by lia),
   by intros; exact eq_true (by lia),
   by intros; exact eq_true (by omega),
   by intros; exact eq_true (by omega),
   by intros; exact eq_true (by omega),
   by intros; exact eq_true (by lia),
   by intros; exact eq_true (by lia),
   by intros; exact eq_true (by lia),
   by intros; exact eq_false (by omega),
   by intros; exact eq_false (by lia),
   by intros; exact eq_true (by lia),
   by intros; exact eq_true (by omega),
   by intros; exact eq_true (by omega),
   by intros; exact eq_true (by lia),
   by intros; exact eq_true (by lia),
   by intros; exact eq_true (by omega),
   by intros; exact eq_true (by lia),
   by intros; exact eq_false (by omega),
   by intros; exact eq_true (by lia),
   by intros; exact eq_true (by lia),
   by intros; exact eq_true (by lia),
   by intros; exact eq_true (by lia),
   by intros; exact eq_true (by lia),
   by intros; exact eq_true (by lia),
   by intros; exact eq_true (by lia),
   by intros; exact eq_true (by lia),
   by intros; exact eq_true (by omega),
   by intros; exact eq_true (by omega),
   by intros; exact eq_true (by lia),
   by intros; exact eq_true (by lia),
   by intros; exact eq_true (by lia),
   by intros; exact eq_true (by lia),
   by intros; exact eq_true (by lia),
   by intros; exact eq_true (by lia),
   by intros; exact eq_true (by omega),
   by intros; exact eq_true (by lia),
   by intros; exact eq_true (by lia),
   by intros; exact eq_true (by omega),
   by intros; exact eq_true (by lia),
   by intros; exact eq_true (by lia),
   by intros; exact eq_true (by lia),
   by intros; exact eq_true (by lia),
   by intros; exact eq_true (by lia),
   by intros; exact eq_true (by lia),
   by intros; exact eq_true (by omega),
   by intros; exact eq_false (by lia),
   by intros; exact eq_true (by lia),
   by intros; exact eq_true (by lia),
   by intros; exact eq_true (by lia),
   by intros; exact eq_true (by omega)⟩

section
local macro_rules | `(tactic| omega) => `(tactic| first | lia | omega (config := {}))
def SS (f : Nat → Int) : Nat → Int
  | 0 => 0
  | n + 1 => SS f n + f n
theorem SS_congr {f g : Nat → Int} : ∀ {n : Nat}, (∀ k, k < n → f k = g k) → SS f n = SS g n
  | 0, _ => rfl
  | n + 1, h => by simp only [SS]; rw [SS_congr fun k hk => h k (Nat.lt_succ_of_lt hk), h n (Nat.lt_succ_self n)]
theorem SS_shift (f : Nat → Int) : ∀ n, SS f (n + 1) = f 0 + SS (fun k => f (k + 1)) n
  | 0 => by simp [SS]
  | n + 1 => by
    have := SS_shift f n
    simp only [SS] at this ⊢
    omega
theorem sum_SS : ∀ l : List Int, l.sum = SS (fun k => l.getD k 0) l.length
  | [] => rfl
  | x :: r => by
    rw [List.sum_cons, List.length_cons, SS_shift, sum_SS r]
    simp
theorem SS_le {f g : Nat → Int} : ∀ {n : Nat}, (∀ k, k < n → f k ≤ g k) → SS f n ≤ SS g n
  | 0, _ => Int.le_refl _
  | n + 1, h => by
    have a := SS_le fun k hk => h k (Nat.lt_succ_of_lt hk)
    have b := h n (Nat.lt_succ_self n)
    simp only [SS]; omega
theorem SS_gap {f g : Nat → Int} {i : Nat} {T : Int} : ∀ {n : Nat}, i < n → (∀ k, k < n → f k ≤ g k) → f i + T ≤ g i → SS f n + T ≤ SS g n
  | n + 1, hi, h, hT => by
    simp only [SS]
    by_cases e : i = n
    · subst e
      have a := SS_le (n := i) fun k hk => h k (Nat.lt_succ_of_lt hk)
      omega
    · have a := SS_gap (n := n) (by omega) (fun k hk => h k (Nat.lt_succ_of_lt hk)) hT
      have b := h n (Nat.lt_succ_self n)
      omega
theorem SS_mul {f : Nat → Int} {c : Int} : ∀ n, SS (fun k => f k * c) n = SS f n * c
  | 0 => by simp [SS]
  | n + 1 => by simp only [SS]; rw [SS_mul n, Int.add_mul]
theorem SS_sub {f g : Nat → Int} : ∀ n, SS (fun k => f k - g k) n = SS f n - SS g n
  | 0 => by simp [SS]
  | n + 1 => by simp only [SS]; rw [SS_sub n]; omega
theorem SS_nonneg {f : Nat → Int} : ∀ {n : Nat}, (∀ k, k < n → 0 ≤ f k) → 0 ≤ SS f n
  | 0, _ => Int.le_refl _
  | n + 1, h => by
    have a := SS_nonneg fun k hk => h k (Nat.lt_succ_of_lt hk)
    have b := h n (Nat.lt_succ_self n)
    simp only [SS]; omega
theorem SS_ge {f : Nat → Int} {i : Nat} : ∀ {n : Nat}, (∀ k, k < n → 0 ≤ f k) → i < n → f i ≤ SS f n
  | n + 1, h, hi => by
    simp only [SS]
    by_cases e : i = n
    · subst e
      have a := SS_nonneg fun k hk => h k (Nat.lt_succ_of_lt hk)
      omega
    · have a := SS_ge (fun k hk => h k (Nat.lt_succ_of_lt hk)) (show i < n by omega)
      have b := h n (Nat.lt_succ_self n)
      omega
theorem getD_set (l : List Int) (i k : Nat) (x : Int) (hi : i < l.length) : (l.set i x).getD k 0 = if k = i then x else l.getD k 0 := by
  simp only [List.getD_eq_getElem?_getD, List.getElem?_set]
  by_cases h : i = k
  · subst h; simp [hi]
  · rw [if_neg h, if_neg (Ne.symm h)]
theorem SS_set {f : Nat → Int} {i : Nat} {x : Int} : ∀ {n : Nat}, i < n → SS (fun k => if k = i then x else f k) n = SS f n - f i + x
  | n + 1, hi => by
    simp only [SS]
    by_cases e : i = n
    · subst e
      rw [SS_congr (f := fun k => if k = i then x else f k) (g := f) fun k hk => if_neg (Nat.ne_of_lt hk)]
      simp
    · rw [SS_set (n := n) (by omega), if_neg (Ne.symm e)]; omega

def Elig (ns rs : List Int) (h : Int) (i : Nat) : Prop := rs.getD i 0 * ns.sum < ns.getD i 0 * h
structure IsNext (ns rs : List Int) (h : Int) (i : Nat) : Prop where
  lt : i < ns.length
  elig : Elig ns rs h i
  max : ∀ j, j < ns.length → Elig ns rs h j → ns.getD j 0 * (rs.getD i 0 + 1) ≤ ns.getD i 0 * (rs.getD j 0 + 1)
  first : ∀ j, j < i → Elig ns rs h j → ns.getD j 0 * (rs.getD i 0 + 1) < ns.getD i 0 * (rs.getD j 0 + 1)
theorem IsNext.unique {ns rs : List Int} {h : Int} {i j : Nat} (a : IsNext ns rs h i) (b : IsNext ns rs h j) : i = j := by
  rcases Nat.lt_trichotomy i j with c | c | c
  · have x := b.first i c a.elig
    have y := a.max j b.lt b.elig
    omega
  · exact c
  · have x := a.first j c b.elig
    have y := b.max i a.lt a.elig
    omega
inductive QR (ns : List Int) : Nat → List Int → Prop
  | zero : QR ns 0 (List.replicate ns.length 0)
  | succ {j : Nat} {rs : List Int} {i : Nat} : QR ns j rs → IsNext ns rs ((j : Int) + 1) i → QR ns (j + 1) (rs.set i (rs.getD i 0 + 1))
theorem QR.unique {ns : List Int} {j : Nat} {a b : List Int} (ha : QR ns j a) (hb : QR ns j b) : a = b := by
  induction ha generalizing b with
  | zero => cases hb; rfl
  | succ q n ih =>
    cases hb with
    | succ q' n' =>
      have e := ih q'
      subst e
      have e2 := n.unique n'
      subst e2
      rfl
theorem QR.len {ns : List Int} {j : Nat} {a : List Int} (h : QR ns j a) : a.length = ns.length := by
  induction h with
  | zero => simp
  | succ q n ih => simp [ih]
theorem QR.nonneg {ns : List Int} {j : Nat} {a : List Int} (h : QR ns j a) : ∀ k, 0 ≤ a.getD k 0 := by
  induction h with
  | zero => intro k; simp [List.getD_eq_getElem?_getD, List.getElem?_replicate]; split <;> simp
  | @succ j rs i q n ih =>
    intro k
    rw [getD_set _ _ _ _ (by rw [q.len]; exact n.lt)]
    split
    · have := ih i; omega
    · exact ih k
theorem QR.sum {ns : List Int} {j : Nat} {a : List Int} (h : QR ns j a) : a.sum = j := by
  induction h with
  | zero => simp
  | succ q n ih =>
    have hl := q.len
    rw [sum_SS, List.length_set]
    rw [sum_SS] at ih
    rename_i rs i
    rw [SS_congr (g := fun k => if k = i then rs.getD i 0 + 1 else rs.getD k 0) fun k _ => getD_set _ _ _ _ (by rw [hl]; exact n.lt), SS_set (by rw [hl]; exact n.lt), ih]
    simp; omega
theorem QR.le {ns : List Int} {j : Nat} {a : List Int} (h : QR ns j a) (k : Nat) : a.getD k 0 ≤ j := by
  by_cases hk : k < a.length
  · have := SS_ge (f := fun k => a.getD k 0) (fun k _ => h.nonneg k) hk
    rw [← sum_SS, h.sum] at this
    exact this
  · rw [List.getD_eq_getElem?_getD, List.getElem?_eq_none (by omega)]; simp

theorem rk_getD (f : Int → Int) (n k : Nat) (h : k < n) : ((rangeKs 0 n).map f).getD k 0 = f (k : Int) := by
  simp [rangeKs, List.getD_eq_getElem?_getD, h]
theorem map_getD (f : Int → Int) (l : List Int) (k : Nat) (h : k < l.length) : (l.map f).getD k 0 = f (l.getD k 0) := by
  simp [List.getD_eq_getElem?_getD, h]
theorem foldl_filt {α : Type} (p : α → Prop) [DecidablePred p] : ∀ (xs acc : List α), xs.foldl (fun l i => if p i then l ++ [i] else l) acc = acc ++ xs.filter (fun i => decide (p i))
  | [], acc => by simp
  | x :: r, acc => by
    rw [List.foldl_cons, foldl_filt p r]
    by_cases h : p x
    · simp [h]
    · simp [h]
theorem first_filt (p : Nat → Prop) [DecidablePred p] : ∀ n, ((List.range n).filter (fun i => decide (p i)) = [] ∧ ∀ k, k < n → ¬ p k) ∨ ∃ i, i < n ∧ p i ∧ (∀ k, k < i → ¬ p k) ∧ ((List.range n).filter (fun i => decide (p i))).head? = some i
  | 0 => .inl ⟨rfl, fun k h => absurd h (Nat.not_lt_zero k)⟩
  | n + 1 => by
    rw [List.range_succ, List.filter_append]
    rcases first_filt p n with ⟨e, h⟩ | ⟨i, hi, hp, hk, he⟩
    · by_cases hn : p n
      · refine .inr ⟨n, Nat.lt_succ_self n, hn, h, ?_⟩
        rw [e]; simp [hn]
      · refine .inl ⟨by rw [e]; simp [hn], fun k hk => ?_⟩
        by_cases e2 : k = n
        · rw [e2]; exact hn
        · exact h k (by omega)
    · refine .inr ⟨i, by omega, hp, hk, ?_⟩
      rw [List.head?_append, he]; rfl
theorem prod_from : ∀ (l : List Int) (c : Int), l.foldl (fun c r => c * (r + 1)) c = c * l.foldl (fun c r => c * (r + 1)) 1
  | [], c => by simp
  | r :: l, c => by
    rw [List.foldl_cons, List.foldl_cons, prod_from l (c * (r + 1)), prod_from l (1 * (r + 1)), Int.one_mul, Int.mul_assoc]
def prodInc (rs : List Int) : Int := rs.foldl (fun c r => c * (r + 1)) 1
theorem prodInc_snoc (pre : List Int) (r : Int) : prodInc (pre ++ [r]) = prodInc pre * (r + 1) := by simp [prodInc, List.foldl_append]
theorem prodInc_cons (r : Int) (l : List Int) : prodInc (r :: l) = (r + 1) * prodInc l := by
  unfold prodInc
  rw [List.foldl_cons, prod_from, Int.one_mul]
theorem prodInc_pos : ∀ {l : List Int}, (∀ x ∈ l, 0 ≤ x) → 0 < prodInc l
  | [], _ => by decide
  | r :: l, h => by
    rw [prodInc_cons]
    exact Int.mul_pos (by have := h r (by simp); omega) (prodInc_pos fun x hx => h x (by simp [hx]))
theorem prodInc_le : ∀ {l : List Int}, (∀ x ∈ l, 0 ≤ x ∧ x ≤ 20) → prodInc l ≤ (21 : Int) ^ l.length
  | [], _ => by decide
  | r :: l, h => by
    rw [prodInc_cons, List.length_cons, Int.pow_succ, Int.mul_comm]
    have h1 := h r (by simp)
    have h2 := prodInc_le (l := l) fun x hx => h x (by simp [hx])
    have h3 := prodInc_pos (l := l) fun x hx => (h x (by simp [hx])).1
    exact Int.mul_le_mul h2 (by omega) (by omega) (by omega)
theorem prodInc_div : ∀ {l : List Int} {i : Nat}, (∀ x ∈ l, 0 ≤ x) → i < l.length → ∃ P, prodInc l = (l.getD i 0 + 1) * P ∧ 0 < P
  | r :: l, 0, h, _ => ⟨prodInc l, by rw [prodInc_cons]; simp, prodInc_pos fun x hx => h x (by simp [hx])⟩
  | r :: l, i + 1, h, hi => by
    obtain ⟨P, e, hP⟩ := prodInc_div (l := l) (i := i) (fun x hx => h x (by simp [hx])) (by simpa using hi)
    refine ⟨(r + 1) * P, ?_, Int.mul_pos (by have := h r (by simp); omega) hP⟩
    rw [prodInc_cons, e]
    simp only [List.getD_cons_succ]
    rw [Int.mul_left_comm]
theorem cmp_le {a b x y P Px Py : Int} (hP : 0 < P) (hx : P = x * Px) (hy : P = y * Py) (x0 : 0 < x) (y0 : 0 < y) : a * Px ≤ b * Py ↔ a * y ≤ b * x := by
  have e1 : a * Px * (x * y) = a * y * P := by rw [hx]; simp only [Int.mul_comm, Int.mul_left_comm, Int.mul_assoc]
  have e2 : b * Py * (x * y) = b * x * P := by rw [hy]; simp only [Int.mul_comm, Int.mul_left_comm, Int.mul_assoc]
  have xy := Int.mul_pos x0 y0
  constructor
  · intro h
    have := Int.mul_le_mul_of_nonneg_right h (Int.le_of_lt xy)
    rw [e1, e2] at this
    exact Int.le_of_mul_le_mul_right this hP
  · intro h
    have := Int.mul_le_mul_of_nonneg_right h (Int.le_of_lt hP)
    rw [← e1, ← e2] at this
    exact Int.le_of_mul_le_mul_right this xy
theorem ceil_lt {r x T : Int} (hT : 0 < T) : r < -((-x).fdiv T) ↔ r * T < x := by
  have h1 : T * (-x).fdiv T ≤ -x := by rw [Int.fdiv_eq_ediv_of_nonneg _ (Int.le_of_lt hT)]; exact Int.mul_ediv_self_le (Int.ne_of_gt hT)
  have h2 : -x < T * (-x).fdiv T + T := by rw [Int.fdiv_eq_ediv_of_nonneg _ (Int.le_of_lt hT)]; exact Int.lt_mul_ediv_self_add hT
  generalize (-x).fdiv T = q at *
  constructor
  · intro h
    have h3 : T * (r + 1) ≤ T * (-q) := Int.mul_le_mul_of_nonneg_left (by omega) (Int.le_of_lt hT)
    rw [Int.mul_neg, Int.mul_add, Int.mul_one] at h3
    rw [Int.mul_comm r T]
    omega
  · intro h
    rw [Int.mul_comm r T] at h
    by_cases hc : r < -q
    · exact hc
    · exfalso
      have h3 : T * (-q) ≤ T * r := Int.mul_le_mul_of_nonneg_left (by omega) (Int.le_of_lt hT)
      rw [Int.mul_neg] at h3
      omega
theorem SS_exists {f : Nat → Int} : ∀ {n : Nat}, 0 < SS f n → ∃ i, i < n ∧ 0 < f i
  | 0, h => absurd h (by simp [SS])
  | n + 1, h => by
    simp only [SS] at h
    by_cases hn : 0 < f n
    · exact ⟨n, Nat.lt_succ_self n, hn⟩
    · obtain ⟨i, hi, e⟩ := SS_exists (f := f) (n := n) (by omega)
      exact ⟨i, by omega, e⟩
theorem elig_exists {ns rs : List Int} {j : Nat} (hq : QR ns j rs) (hsum : 0 < ns.sum) : ∃ i, i < ns.length ∧ Elig ns rs ((j : Int) + 1) i := by
  have h : 0 < SS (fun k => ns.getD k 0 * ((j : Int) + 1) - rs.getD k 0 * ns.sum) ns.length := by
    rw [SS_sub, SS_mul, SS_mul, ← sum_SS]
    have e := sum_SS rs
    rw [hq.sum, hq.len] at e
    rw [← e, Int.mul_add, Int.mul_one, Int.mul_comm]
    omega
  obtain ⟨i, hi, h⟩ := SS_exists h
  exact ⟨i, hi, by unfold Elig; omega⟩
theorem getD_pos {ns : List Int} (hpos : ∀ x ∈ ns, 0 ≤ x) (i : Nat) : 0 ≤ ns.getD i 0 := by
  rw [List.getD_eq_getElem?_getD]
  cases h : ns[i]? with
  | none => simp
  | some x => exact hpos x (List.mem_of_getElem? h)
theorem mem_of_getD {rs : List Int} (h : ∀ k, 0 ≤ rs.getD k 0) : ∀ x ∈ rs, 0 ≤ x := fun x hx => by
  obtain ⟨i, hi, rfl⟩ := List.mem_iff_getElem.mp hx
  have := h i
  rw [List.getD_eq_getElem?_getD, List.getElem?_eq_getElem hi] at this
  exact this
theorem step_next {ns rs : List Int} {j : Nat} (hq : QR ns j rs) (hpos : ∀ x ∈ ns, 0 ≤ x) (hsum : 0 < ns.sum) {qs us q2 mqs : List Int} {M : Int}
    (hqs : qs = List.map (fun i => (ns.getD i.toNat 0 * prodInc rs).fdiv (rs.getD i.toNat 0 + 1)) (rangeKs 0 ns.length))
    (hus : us = List.map (fun p => -(((-p) * (rs.sum + 1)).fdiv ns.sum)) ns)
    (hq2 : q2 = List.map (fun i => if us.getD i.toNat 0 ≤ rs.getD i.toNat 0 then 0 else qs.getD i.toNat 0) (rangeKs 0 ns.length))
    (hM : M ∈ q2) (hx : ∀ a, a ∈ q2 → a ≤ M)
    (hmqs : mqs = List.foldl (fun l i => if q2.getD i.toNat 0 = M then l ++ [i] else l) [] (rangeKs 0 ns.length)) :
    0 < mqs.length ∧ 0 ≤ mqs.getD (Int.toNat 0) 0 ∧ IsNext ns rs ((j : Int) + 1) (mqs.getD (Int.toNat 0) 0).toNat := by
  have hrp := mem_of_getD hq.nonneg
  have hP := prodInc_pos hrp
  have hl := hq.len
  have q2l : q2.length = ns.length := by rw [hq2]; simp [rangeKs_length]
  have gq2 : ∀ k, k < ns.length → q2.getD k 0 = if us.getD k 0 ≤ rs.getD k 0 then 0 else qs.getD k 0 := fun k hk => by
    rw [hq2, rk_getD _ _ _ hk]; simp
  have gqs : ∀ k, k < ns.length → ∃ P, prodInc rs = (rs.getD k 0 + 1) * P ∧ 0 < P ∧ qs.getD k 0 = ns.getD k 0 * P := fun k hk => by
    obtain ⟨P, e, h⟩ := prodInc_div (i := k) hrp (by omega)
    refine ⟨P, e, h, ?_⟩
    rw [hqs, rk_getD _ _ _ hk]
    simp only [Int.toNat_natCast]
    have h0 := hq.nonneg k
    rw [Int.fdiv_eq_ediv_of_nonneg _ (by omega), e, Int.mul_left_comm, Int.mul_ediv_cancel_left _ (by omega)]
  have gel : ∀ k, k < ns.length → (Elig ns rs ((j : Int) + 1) k ↔ ¬ us.getD k 0 ≤ rs.getD k 0) := fun k hk => by
    rw [hus, map_getD _ _ _ hk, hq.sum]
    unfold Elig
    rw [← ceil_lt hsum, Int.neg_mul]
    omega
  have gpos : ∀ k, k < ns.length → Elig ns rs ((j : Int) + 1) k → 0 < q2.getD k 0 := fun k hk he => by
    rw [gq2 k hk, if_neg ((gel k hk).mp he)]
    obtain ⟨P, e, h, e2⟩ := gqs k hk
    rw [e2]
    refine Int.mul_pos ?_ h
    unfold Elig at he
    have h0 := Int.mul_nonneg (hq.nonneg k) (Int.le_of_lt hsum)
    have h1 := getD_pos hpos k
    rcases Int.lt_or_eq_of_le h1 with h2 | h2
    · exact h2
    · rw [← h2] at he; omega
  obtain ⟨i₀, hi₀, he₀⟩ := elig_exists hq hsum
  have memD : ∀ k, k < ns.length → q2.getD k 0 ∈ q2 := fun k hk => by
    rw [List.getD_eq_getElem?_getD, List.getElem?_eq_getElem (by omega)]; exact List.getElem_mem _
  have M0 : 0 < M := Int.lt_of_lt_of_le (gpos i₀ hi₀ he₀) (hx _ (memD i₀ hi₀))
  have elM : ∀ k, k < ns.length → q2.getD k 0 = M → Elig ns rs ((j : Int) + 1) k := fun k hk e => by
    rw [gel k hk]
    intro h
    rw [gq2 k hk, if_pos h] at e
    omega
  have emq : mqs = ((List.range ns.length).filter (fun k => decide (q2.getD k 0 = M))).map (fun k : Nat => (k : Int)) := by
    rw [hmqs, foldl_filt (fun i : Int => q2.getD i.toNat 0 = M), List.nil_append, rangeKs, List.filter_map]
    simp only [Int.zero_add]
    rfl
  rcases first_filt (fun k => q2.getD k 0 = M) ns.length with ⟨_, hno⟩ | ⟨i, hi, hiM, hik, he⟩
  · exfalso
    obtain ⟨k, hk, e⟩ := List.mem_iff_getElem.mp hM
    refine hno k (by omega) ?_
    rw [List.getD_eq_getElem?_getD, List.getElem?_eq_getElem hk, e]; rfl
  · obtain ⟨r, hr⟩ : ∃ r, (List.range ns.length).filter (fun k => decide (q2.getD k 0 = M)) = i :: r := by
      cases h : (List.range ns.length).filter (fun k => decide (q2.getD k 0 = M)) with
      | nil => rw [h] at he; cases he
      | cons a r => rw [h] at he; cases he; exact ⟨r, rfl⟩
    have em : mqs.getD (Int.toNat 0) 0 = (i : Int) := by rw [emq, hr]; simp
    refine ⟨by rw [emq, hr]; simp, by rw [em]; omega, ?_⟩
    rw [em, Int.toNat_natCast]
    have hei := elM i hi hiM
    obtain ⟨Pi, ei, hPi, qi⟩ := gqs i hi
    have hri := hq.nonneg i
    refine ⟨hi, hei, fun k hk hek => ?_, fun k hk hek => ?_⟩
    · obtain ⟨Pk, ek, hPk, qk⟩ := gqs k hk
      have hrk := hq.nonneg k
      have h1 := hx _ (memD k hk)
      rw [← hiM, gq2 k hk, if_neg ((gel k hk).mp hek), gq2 i hi, if_neg ((gel i hi).mp hei), qk, qi] at h1
      exact (cmp_le hP ek ei (by omega) (by omega)).mp h1
    · have hkn : k < ns.length := by omega
      obtain ⟨Pk, ek, hPk, qk⟩ := gqs k hkn
      have hrk := hq.nonneg k
      have h1 := hx _ (memD k hkn)
      have h2 := hik k hk
      rw [← hiM] at h1 h2
      rw [gq2 k hkn, if_neg ((gel k hkn).mp hek), gq2 i hi, if_neg ((gel i hi).mp hei), qk, qi] at h1 h2
      refine Int.not_le.mp fun h3 => h2 (Int.le_antisymm h1 ?_)
      exact (cmp_le hP ei ek (by omega) (by omega)).mpr h3

theorem QR.upper {ns : List Int} {h : Nat} {rs : List Int} (q : QR ns h rs) (hpos : ∀ x ∈ ns, 0 ≤ x) (hsum : 0 < ns.sum) : ∀ k, rs.getD k 0 * ns.sum < ns.getD k 0 * (h : Int) + ns.sum := by
  induction q with
  | zero =>
    intro k
    rw [show (List.replicate ns.length (0 : Int)).getD k 0 = 0 by simp [List.getD_eq_getElem?_getD, List.getElem?_replicate]; split <;> simp]
    simp; exact hsum
  | @succ j rs i q n ih =>
    intro k
    rw [getD_set _ _ _ _ (by rw [q.len]; exact n.lt)]
    have e : (((j + 1 : Nat) : Int)) = (j : Int) + 1 := by omega
    rw [e]
    split
    · rename_i e2
      subst e2
      have := n.elig
      unfold Elig at this
      rw [Int.add_mul, Int.one_mul]
      omega
    · have h1 := ih k
      have h2 := getD_pos hpos k
      rw [Int.mul_add, Int.mul_one]
      omega
theorem QR.hist {ns : List Int} {h : Nat} {rs : List Int} (q : QR ns h rs) : ∃ A : Nat → List Int, A h = rs ∧ (∀ t, t ≤ h → QR ns t (A t)) ∧ ∀ t, t < h → ∃ i, IsNext ns (A t) ((t : Int) + 1) i ∧ A (t + 1) = (A t).set i ((A t).getD i 0 + 1) := by
  induction q with
  | zero => exact ⟨fun _ => List.replicate ns.length 0, rfl, fun t ht => by cases Nat.le_zero.mp ht; exact .zero, fun t ht => absurd ht (Nat.not_lt_zero t)⟩
  | @succ j rs i q n ih =>
    obtain ⟨A, e, h1, h2⟩ := ih
    refine ⟨fun t => if t ≤ j then A t else rs.set i (rs.getD i 0 + 1), if_neg (by omega), fun t ht => ?_, fun t ht => ?_⟩
    · by_cases c : t ≤ j
      · simp only [if_pos c]; exact h1 t c
      · have : t = j + 1 := by omega
        subst this
        simp only [if_neg c]
        exact .succ q n
    · by_cases c : t = j
      · subst c
        exact ⟨i, by simp only [Nat.le_refl, if_true]; rw [e]; exact n, by dsimp only; rw [if_pos (Nat.le_refl t), e, if_neg (by omega)]⟩
      · have c1 : t ≤ j := by omega
        have c2 : t + 1 ≤ j := by omega
        simp only [if_pos c1, if_pos c2]
        exact h2 t (by omega)
theorem QR.lower {ns : List Int} {h : Nat} {rs : List Int} (q : QR ns h rs) (hpos : ∀ x ∈ ns, 0 ≤ x) (hsum : 0 < ns.sum) (i : Nat) (hi : i < ns.length) : ns.getD i 0 * (h : Int) < rs.getD i 0 * ns.sum + ns.sum := by
  refine Int.not_le.mp fun bad => ?_
  obtain ⟨A, eA, hA, hstep⟩ := q.hist
  have hT : ns.sum = SS (fun k => ns.getD k 0) ns.length := sum_SS ns
  have sA : ∀ t, t ≤ h → SS (fun k => (A t).getD k 0) ns.length = (t : Int) := fun t ht => by
    have := (hA t ht).sum
    rw [sum_SS, (hA t ht).len] at this
    exact this
  have p0 : ∀ k, 0 ≤ ns.getD k 0 := getD_pos hpos
  have a0 : ∀ t, t ≤ h → ∀ k, 0 ≤ (A t).getD k 0 := fun t ht => (hA t ht).nonneg
  rw [← eA] at bad
  have ai0 := a0 h (Nat.le_refl h) i
  -- the party's own votes are over nought
  have pi : 0 < ns.getD i 0 := by
    rcases Int.lt_or_eq_of_le (p0 i) with h2 | h2
    · exact h2
    · rw [← h2] at bad
      have := Int.mul_nonneg ai0 (Int.le_of_lt hsum)
      omega
  have bad' : ((A h).getD i 0 + 1) * ns.sum ≤ ns.getD i 0 * (h : Int) := by rw [Int.add_mul, Int.one_mul]; exact bad
  -- parties that are not heavy lie at or under their share
  have light : ∀ k, ¬ (ns.getD k 0 * ((A h).getD i 0 + 1) < ns.getD i 0 * (A h).getD k 0) → (A h).getD k 0 * ns.sum ≤ ns.getD k 0 * (h : Int) := fun k hk => by
    have h1 : ns.getD i 0 * (A h).getD k 0 ≤ ns.getD k 0 * ((A h).getD i 0 + 1) := Int.not_lt.mp hk
    have h2 := Int.mul_le_mul_of_nonneg_right h1 (Int.le_of_lt hsum)
    have h3 := Int.mul_le_mul_of_nonneg_left bad' (p0 k)
    rw [Int.mul_assoc, Int.mul_assoc] at h2
    have h4 := Int.le_trans h2 h3
    rw [Int.mul_left_comm (ns.getD k 0)] at h4
    exact Int.le_of_mul_le_mul_left h4 pi
  have mono : ∀ t, t < h → ∀ k, (A t).getD k 0 ≤ (A (t + 1)).getD k 0 := fun t ht k => by
    obtain ⟨g, n, e⟩ := hstep t ht
    rw [e, getD_set _ _ _ _ (by rw [(hA t (Nat.le_of_lt ht)).len]; exact n.lt)]
    split
    · rename_i e2; subst e2; omega
    · exact Int.le_refl _
  have monoh : ∀ d t, t + d = h → ∀ k, (A t).getD k 0 ≤ (A h).getD k 0 := fun d => by
    induction d with
    | zero => intro t e k; have : t = h := by omega
              subst this; exact Int.le_refl _
    | succ d ih => intro t e k; exact Int.le_trans (mono t (by omega) k) (ih (t + 1) (by omega) k)
  have notO : ¬ (ns.getD i 0 * ((A h).getD i 0 + 1) < ns.getD i 0 * (A h).getD i 0) := fun x => by
    rw [Int.mul_add, Int.mul_one] at x; omega
  -- no seat ever went to a heavy party
  have claim : ∀ d t, t + d = h → ∀ k, ns.getD k 0 * ((A h).getD i 0 + 1) < ns.getD i 0 * (A h).getD k 0 → (A t).getD k 0 = (A h).getD k 0 := fun d => by
    induction d with
    | zero => intro t e k _; have : t = h := by omega
              subst this; rfl
    | succ d ih =>
      intro t e k hk
      have ih' := ih (t + 1) (by omega)
      obtain ⟨g, n, eS⟩ := hstep t (by omega)
      have hlen := (hA t (by omega)).len
      have eD : ∀ k, (A (t + 1)).getD k 0 = if k = g then (A t).getD g 0 + 1 else (A t).getD k 0 := fun k => by
        rw [eS, getD_set _ _ _ _ (by rw [hlen]; exact n.lt)]
      by_cases hg : ns.getD g 0 * ((A h).getD i 0 + 1) < ns.getD i 0 * (A h).getD g 0
      · exfalso
        have g1 := ih' g hg
        have g2 := eD g
        rw [if_pos rfl] at g2
        have g3 : (A t).getD g 0 + 1 = (A h).getD g 0 := by rw [← g2]; exact g1
        have hig : i ≠ g := fun x => notO (x ▸ hg)
        have mi := monoh (d + 1) t e i
        -- i was not eligible
        have ni : ns.getD i 0 * ((t : Int) + 1) ≤ (A t).getD i 0 * ns.sum := Int.not_lt.mp fun el => by
          have h1 := n.max i hi el
          rw [g3] at h1
          have h2 : ns.getD g 0 * ((A t).getD i 0 + 1) ≤ ns.getD g 0 * ((A h).getD i 0 + 1) := Int.mul_le_mul_of_nonneg_left (by omega) (p0 g)
          omega
        have key : SS (fun k => ((A h).getD k 0 - (A (t + 1)).getD k 0) * ns.sum) ns.length + ns.sum ≤ SS (fun k => ns.getD k 0 * ((h : Int) - ((t : Int) + 1))) ns.length := by
          refine SS_gap hi (fun k hkn => ?_) ?_
          · have hd : (0 : Int) ≤ (h : Int) - ((t : Int) + 1) := by omega
            have pk := Int.mul_nonneg (p0 k) hd
            by_cases ho : ns.getD k 0 * ((A h).getD i 0 + 1) < ns.getD i 0 * (A h).getD k 0
            · rw [ih' k ho, Int.sub_self, Int.zero_mul]; exact pk
            · by_cases hs : (A (t + 1)).getD k 0 = (A h).getD k 0
              · rw [hs, Int.sub_self, Int.zero_mul]; exact pk
              · have hkg : k ≠ g := fun x => ho (x ▸ hg)
                have e1 := eD k
                rw [if_neg hkg] at e1
                have mk := monoh d (t + 1) (by omega) k
                have nk : ns.getD k 0 * ((t : Int) + 1) ≤ (A t).getD k 0 * ns.sum := Int.not_lt.mp fun el => by
                  have h1 := n.max k hkn el
                  rw [g3] at h1
                  have h2 : ns.getD g 0 * ((A t).getD k 0 + 1) ≤ ns.getD g 0 * (A h).getD k 0 := Int.mul_le_mul_of_nonneg_left (by omega) (p0 g)
                  have h3 : ns.getD k 0 * (A h).getD g 0 ≤ ns.getD g 0 * (A h).getD k 0 := Int.le_trans h1 h2
                  have ak : 0 < (A h).getD k 0 := by have := a0 (t + 1) (by omega) k; omega
                  have ai1 : 0 < (A h).getD i 0 + 1 := by omega
                  have h4 := Int.mul_le_mul_of_nonneg_right h3 (Int.le_of_lt ai1)
                  have h5 := Int.mul_lt_mul_of_pos_right hg ak
                  have h6 := Int.mul_le_mul_of_nonneg_right (Int.not_lt.mp ho) (a0 h (Nat.le_refl h) g)
                  have x1 : ns.getD k 0 * (A h).getD g 0 * ((A h).getD i 0 + 1) = ns.getD k 0 * ((A h).getD i 0 + 1) * (A h).getD g 0 := Int.mul_right_comm _ _ _
                  have x2 : ns.getD g 0 * (A h).getD k 0 * ((A h).getD i 0 + 1) = ns.getD g 0 * ((A h).getD i 0 + 1) * (A h).getD k 0 := Int.mul_right_comm _ _ _
                  have x3 : ns.getD i 0 * (A h).getD g 0 * (A h).getD k 0 = ns.getD i 0 * (A h).getD k 0 * (A h).getD g 0 := Int.mul_right_comm _ _ _
                  omega
                have lk := light k ho
                rw [e1, Int.sub_mul, Int.mul_sub]
                omega
          · have e1 := eD i
            rw [if_neg hig] at e1
            rw [e1, Int.sub_mul, Int.mul_sub]
            omega
        rw [SS_mul, SS_mul, SS_sub, sA h (Nat.le_refl h), sA (t + 1) (by omega), ← hT, Int.mul_comm ns.sum] at key
        have e2 : (((t + 1 : Nat)) : Int) = (t : Int) + 1 := by omega
        rw [e2] at key
        omega
      · have hkg : k ≠ g := fun x => hg (x ▸ hk)
        have e1 := eD k
        rw [if_neg hkg] at e1
        rw [← e1]
        exact ih' k hk
  have none : ∀ k, ¬ (ns.getD k 0 * ((A h).getD i 0 + 1) < ns.getD i 0 * (A h).getD k 0) := fun k hk => by
    have h1 := claim h 0 (by omega) k hk
    have h2 := sA 0 (Nat.zero_le h)
    have h3 : (A 0).getD k 0 = 0 := by
      have z := hA 0 (Nat.zero_le h)
      generalize A 0 = z0 at z
      cases z
      simp [List.getD_eq_getElem?_getD, List.getElem?_replicate]; split <;> simp
    rw [← h1, h3, Int.mul_zero] at hk
    have := Int.mul_nonneg (p0 k) (show (0 : Int) ≤ (A h).getD i 0 + 1 by omega)
    omega
  have key : SS (fun k => (A h).getD k 0 * ns.sum) ns.length + ns.sum ≤ SS (fun k => ns.getD k 0 * (h : Int)) ns.length :=
    SS_gap hi (fun k _ => light k (none k)) bad
  rw [SS_mul, SS_mul, sA h (Nat.le_refl h), ← hT, Int.mul_comm ns.sum] at key
  omega

structure Best (ns rs : List Int) (h : Int) (n b : Nat) : Prop where
  lt : b < n
  elig : Elig ns rs h b
  max : ∀ k, k < n → Elig ns rs h k → ns.getD k 0 * (rs.getD b 0 + 1) ≤ ns.getD b 0 * (rs.getD k 0 + 1)
  first : ∀ k, k < b → Elig ns rs h k → ns.getD k 0 * (rs.getD b 0 + 1) < ns.getD b 0 * (rs.getD k 0 + 1)
theorem Best.next {ns rs : List Int} {h : Int} {b : Nat} (x : Best ns rs h ns.length b) : IsNext ns rs h b := ⟨x.lt, x.elig, x.max, x.first⟩
theorem Best.keep {ns rs : List Int} {h : Int} {n b : Nat} (x : Best ns rs h n b) (hn : Elig ns rs h n → ns.getD n 0 * (rs.getD b 0 + 1) ≤ ns.getD b 0 * (rs.getD n 0 + 1)) : Best ns rs h (n + 1) b :=
  ⟨Nat.lt_succ_of_lt x.lt, x.elig, fun k hk e => by
    by_cases c : k = n
    · subst c; exact hn e
    · exact x.max k (by omega) e, x.first⟩
theorem Best.one {ns rs : List Int} {h : Int} {n : Nat} (x : ∀ k, k < n → ¬ Elig ns rs h k) (e : Elig ns rs h n) : Best ns rs h (n + 1) n :=
  ⟨Nat.lt_succ_self n, e, fun k hk ek => by
    by_cases c : k = n
    · subst c; exact Int.le_refl _
    · exact absurd ek (x k (by omega)), fun k hk ek => absurd ek (x k hk)⟩
theorem Best.take {ns rs : List Int} {h : Int} {n b : Nat} (r0 : ∀ k, 0 ≤ rs.getD k 0) (x : Best ns rs h n b) (e : Elig ns rs h n) (g : ns.getD b 0 * (rs.getD n 0 + 1) < ns.getD n 0 * (rs.getD b 0 + 1)) : Best ns rs h (n + 1) n := by
  have key : ∀ k, k < n → Elig ns rs h k → ns.getD k 0 * (rs.getD n 0 + 1) < ns.getD n 0 * (rs.getD k 0 + 1) := fun k hk ek => by
    have h1 := x.max k hk ek
    have rk := r0 k
    have rb := r0 b
    have rn := r0 n
    have h2 := Int.mul_le_mul_of_nonneg_right h1 (show 0 ≤ rs.getD n 0 + 1 by omega)
    have h3 := Int.mul_lt_mul_of_pos_right g (show 0 < rs.getD k 0 + 1 by omega)
    have x1 : ns.getD b 0 * (rs.getD k 0 + 1) * (rs.getD n 0 + 1) = ns.getD b 0 * (rs.getD n 0 + 1) * (rs.getD k 0 + 1) := Int.mul_right_comm _ _ _
    have x2 : ns.getD k 0 * (rs.getD b 0 + 1) * (rs.getD n 0 + 1) = ns.getD k 0 * (rs.getD n 0 + 1) * (rs.getD b 0 + 1) := Int.mul_right_comm _ _ _
    have x3 : ns.getD n 0 * (rs.getD b 0 + 1) * (rs.getD k 0 + 1) = ns.getD n 0 * (rs.getD k 0 + 1) * (rs.getD b 0 + 1) := Int.mul_right_comm _ _ _
    refine Int.lt_of_mul_lt_mul_right (a := rs.getD b 0 + 1) ?_ (by omega)
    omega
  exact ⟨Nat.lt_succ_self n, e, fun k hk ek => by
    by_cases c : k = n
    · subst c; exact Int.le_refl _
    · exact Int.le_of_lt (key k (by omega) ek), key⟩
/-- what a divisor method hands out beyond the first seats: v the parties' values, d the divisors, D how many of them stand -/
def Opt (v : List Int) (d : Nat → Int × Int) (D : Nat) (c : Nat → Int) : Prop :=
  ∀ i j k l : Nat, i < v.length → j < v.length → (k : Int) < c i → c j ≤ (l : Int) → l < D →
    v.getD j 0 * (d l).2 * (d k).1 < v.getD i 0 * (d k).2 * (d l).1 ∨ (v.getD j 0 * (d l).2 * (d k).1 = v.getD i 0 * (d k).2 * (d l).1 ∧ i < j)
theorem Opt.le {v : List Int} {d : Nat → Int × Int} {D : Nat} {c : Nat → Int} (o : Opt v d D c) {i j k l : Nat} (hi : i < v.length) (hj : j < v.length) (hk : (k : Int) < c i) (hl : c j ≤ (l : Int)) (hD : l < D) :
    v.getD j 0 * (d l).2 * (d k).1 ≤ v.getD i 0 * (d k).2 * (d l).1 := by
  rcases o i j k l hi hj hk hl hD with h | h <;> omega
theorem Opt.mono {v : List Int} {d : Nat → Int × Int} {D : Nat} {c c' : Nat → Int} (o : Opt v d D c) (o' : Opt v d (D + 1) c') (c0 : ∀ k, 0 ≤ c k) (c0' : ∀ k, 0 ≤ c' k)
    (hs : SS c v.length ≤ (D : Int)) (hs' : SS c' v.length = SS c v.length + 1) : ∀ j, j < v.length → c j ≤ c' j := fun j hj => by
  refine Int.not_lt.mp fun bad => ?_
  have ex : ∃ i, i < v.length ∧ 0 < c' i - c i := SS_exists (f := fun k => c' k - c k) (by rw [SS_sub]; omega)
  obtain ⟨i, hi, gi⟩ := ex
  have hij : i ≠ j := fun e => by subst e; omega
  have hci := SS_ge (f := c) (fun k _ => c0 k) hi
  have hcj := SS_ge (f := c) (fun k _ => c0 k) hj
  have hsum : c i + c j ≤ SS c v.length := by
    have h1 : SS c v.length = SS (fun k => if k = j then 0 else c k) v.length + c j := by rw [SS_set hj]; omega
    have h2 := SS_ge (f := fun k => if k = j then 0 else c k) (n := v.length) (i := i) (fun k _ => by split; exact Int.le_refl _; exact c0 k) hi
    rw [if_neg hij] at h2
    omega
  have a0 := c0 i
  have b0 := c0' j
  have e1 : ((c i).toNat : Int) = c i := Int.toNat_of_nonneg a0
  have e2 : ((c' j).toNat : Int) = c' j := Int.toNat_of_nonneg b0
  have p1 := o' i j (c i).toNat (c' j).toNat hi hj (by omega) (by omega) (by omega)
  have p2 := o j i (c' j).toNat (c i).toNat hj hi (by omega) (by omega) (by omega)
  rcases p1 with p1 | ⟨p1, q1⟩ <;> rcases p2 with p2 | ⟨p2, q2⟩ <;> omega
/-- from p_i c_j <= p_j c with c T <= p_i s (or over it): share of j -/
theorem light_of {pi pj ci cj T s : Int} (hpi : 0 < pi) (hpj : 0 ≤ pj) (hT : 0 < T) (h : pi * cj ≤ pj * ci) (b : ci * T ≤ pi * s) : cj * T ≤ pj * s := by
  have h2 := Int.mul_le_mul_of_nonneg_right h (Int.le_of_lt hT)
  have h3 := Int.mul_le_mul_of_nonneg_left b hpj
  rw [Int.mul_assoc, Int.mul_assoc] at h2
  have h4 := Int.le_trans h2 h3
  rw [Int.mul_left_comm pj] at h4
  exact Int.le_of_mul_le_mul_left h4 hpi
theorem heavy_of {pi pj ci cj T s : Int} (hpi : 0 < pi) (hpj : 0 ≤ pj) (hT : 0 < T) (h : pj * ci ≤ pi * cj) (b : pi * s ≤ ci * T) : pj * s ≤ cj * T := by
  have h2 := Int.mul_le_mul_of_nonneg_right h (Int.le_of_lt hT)
  have h3 := Int.mul_le_mul_of_nonneg_left b hpj
  rw [Int.mul_assoc, Int.mul_assoc] at h2
  have h4 := Int.le_trans h3 h2
  rw [Int.mul_left_comm pj] at h4
  exact Int.le_of_mul_le_mul_left h4 hpi
section
variable {v : List Int} {c : Nat → Int} {s : Nat}
theorem jeff_lower (o : Opt v (fun k => ((k : Int) + 1, 1)) s c) (c0 : ∀ k, 0 ≤ c k) (hv : ∀ k, k < v.length → 0 < v.getD k 0) (hs : SS c v.length = (s : Int)) (hT : 0 < v.sum) (i : Nat) (hi : i < v.length) :
    v.getD i 0 * (s : Int) < c i * v.sum + v.sum := by
  refine Int.not_le.mp fun bad => ?_
  have bad' : (c i + 1) * v.sum ≤ v.getD i 0 * (s : Int) := by rw [Int.add_mul, Int.one_mul]; exact bad
  have pi := hv i hi
  have sT : v.sum = SS (fun k => v.getD k 0) v.length := sum_SS v
  have ip : v.getD i 0 ≤ v.sum := by rw [sT]; exact SS_ge (f := fun k => v.getD k 0) (fun k hk => Int.le_of_lt (hv k hk)) hi
  have ci0 := c0 i
  have lt : c i < (s : Int) := by
    have h1 := Int.mul_le_mul_of_nonneg_right ip (Int.natCast_nonneg s)
    have h2 : (c i + 1) * v.sum ≤ (s : Int) * v.sum := by rw [Int.mul_comm (s : Int)]; exact Int.le_trans bad' h1
    have := Int.le_of_mul_le_mul_right h2 hT
    omega
  have light : ∀ j, j < v.length → c j * v.sum ≤ v.getD j 0 * (s : Int) := fun j hj => by
    have pj := hv j hj
    by_cases hc : c j = 0
    · rw [hc, Int.zero_mul]; exact Int.mul_nonneg (Int.le_of_lt pj) (Int.natCast_nonneg s)
    · have cj0 := c0 j
      have e1 : ((c i).toNat : Int) = c i := Int.toNat_of_nonneg ci0
      have e2 : ((c j - 1).toNat : Int) = c j - 1 := Int.toNat_of_nonneg (by omega)
      have h := o.le (i := j) (j := i) (k := (c j - 1).toNat) (l := (c i).toNat) hj hi (by omega) (by omega) (by omega)
      simp only [e1, e2, Int.mul_one] at h
      rw [show c j - 1 + 1 = c j by omega] at h
      exact light_of pi (Int.le_of_lt pj) hT h bad'
  have key : SS (fun k => c k * v.sum) v.length + v.sum ≤ SS (fun k => v.getD k 0 * (s : Int)) v.length := SS_gap hi light bad
  rw [SS_mul, SS_mul, hs, ← sT, Int.mul_comm v.sum] at key
  omega
theorem adams_upper (o : Opt v (fun k => ((k : Int) + 1, 1)) s c) (c0 : ∀ k, 0 ≤ c k) (hv : ∀ k, k < v.length → 0 < v.getD k 0) (hs : SS c v.length + v.length = (s : Int)) (hT : 0 < v.sum) (i : Nat) (hi : i < v.length) :
    (c i + 1) * v.sum < v.getD i 0 * (s : Int) + v.sum := by
  refine Int.not_le.mp fun bad => ?_
  have bad' : v.getD i 0 * (s : Int) ≤ c i * v.sum := by rw [Int.add_mul, Int.one_mul] at bad; omega
  have pi := hv i hi
  have sT : v.sum = SS (fun k => v.getD k 0) v.length := sum_SS v
  have ci0 := c0 i
  have s0 : 0 < (s : Int) := by have := SS_nonneg (f := c) (n := v.length) fun k _ => c0 k; omega
  have cpos : 0 < c i := by
    rcases Int.lt_or_eq_of_le ci0 with h | h
    · exact h
    · rw [← h, Int.zero_mul] at bad'
      have := Int.mul_pos pi s0
      omega
  have e2 : ((c i - 1).toNat : Int) = c i - 1 := Int.toNat_of_nonneg (by omega)
  have heavy : ∀ j, j < v.length → v.getD j 0 * (s : Int) ≤ (c j + 1) * v.sum := fun j hj => by
    have pj := hv j hj
    have cj0 := c0 j
    have cjs := SS_ge (f := c) (fun k _ => c0 k) hj
    have e1 : ((c j).toNat : Int) = c j := Int.toNat_of_nonneg cj0
    have h := o.le (i := i) (j := j) (k := (c i - 1).toNat) (l := (c j).toNat) hi hj (by omega) (by omega) (by omega)
    simp only [e1, e2, Int.mul_one] at h
    rw [show c i - 1 + 1 = c i by omega] at h
    exact heavy_of pi (Int.le_of_lt pj) hT h bad'
  have key : SS (fun k => v.getD k 0 * (s : Int)) v.length + v.sum ≤ SS (fun k => (c k + 1) * v.sum) v.length := SS_gap hi heavy (by rw [Int.add_mul, Int.one_mul] at bad ⊢; omega)
  have e3 : SS (fun k => c k + 1) v.length = (s : Int) := by
    rw [← hs]
    have : ∀ n, SS (fun k => c k + 1) n = SS c n + n := fun n => by
      induction n with
      | zero => rfl
      | succ n ih => simp only [SS]; rw [ih]; omega
    exact this _
  rw [SS_mul, SS_mul, e3, ← sT, Int.mul_comm v.sum] at key
  omega
end

def dvs : Nat → Nat → Int × Int
  | 0, k => ((k : Int) + 1, 1)
  | 1, k => (2 * (k : Int) + 1, 1)
  | 2, 0 => (7, 5)
  | 2, k + 1 => (2 * ((k + 1 : Nat) : Int) + 1, 1)
  | 3, k => (((k : Int) + 1) * ((k : Int) + 2), 1)
  | 4, k => ((k : Int) + 1, 1)
  | _, k => (2 * ((k : Int) + 1) * ((k : Int) + 2), 2 * ((k : Int) + 1) + 1)
def rz (g : Nat) : Int := if g ≤ 2 then 0 else 1
def sqv (g : Nat) (p : Int) : Int := if g = 3 then p * p else p
theorem gap {g : Nat} (hg : g < 6) {pi pj : Int} {k l : Nat} (hi : 0 < pi) (hj : 0 < pj) (hB : 1 ≤ (k : Int) + rz g) (h : pj * ((l : Int) + rz g + 1) ≤ pi * ((k : Int) + rz g)) :
    sqv g pj * (dvs g k).2 * (dvs g l).1 < sqv g pi * (dvs g l).2 * (dvs g k).1 := by
  have k0 : (0 : Int) ≤ (k : Int) := Int.natCast_nonneg k
  have l0 : (0 : Int) ≤ (l : Int) := Int.natCast_nonneg l
  have cases : g = 0 ∨ g = 1 ∨ g = 2 ∨ g = 3 ∨ g = 4 ∨ g = 5 := by omega
  rcases cases with e | e | e | e | e | e <;> subst e <;> simp only [rz, sqv] at h hB ⊢
  · simp [dvs] at h hB ⊢
    rw [Int.mul_add, Int.mul_one] at h ⊢
    rw [Int.mul_add pi]
    omega
  · simp [dvs] at h hB ⊢
    rw [Int.mul_add, Int.mul_one] at h
    rw [Int.mul_add, Int.mul_one, Int.mul_add, Int.mul_one, Int.mul_left_comm, Int.mul_left_comm pi]
    omega
  · obtain ⟨k', e⟩ : ∃ k', k = k' + 1 := ⟨k - 1, by simp at hB; omega⟩
    subst e
    rw [show dvs 2 (k' + 1) = (2 * ((k' + 1 : Nat) : Int) + 1, 1) from rfl]
    generalize ((k' + 1 : Nat) : Int) = B at *
    have e0 : (if (2 : Nat) ≤ 2 then (0 : Int) else 1) = 0 := rfl
    have e1 : ∀ p : Int, (if (2 : Nat) = 3 then p * p else p) = p := fun _ => rfl
    simp only [e0, e1, Int.add_zero, Int.mul_one] at h hB ⊢
    cases l with
    | zero =>
      rw [show dvs 2 0 = (7, 5) from rfl]
      simp only [Int.natCast_zero, Int.zero_add, Int.mul_one] at h ⊢
      have x : pi * 5 * (2 * B + 1) = 10 * (pi * B) + 5 * pi := by
        rw [Int.mul_add, Int.mul_one, Int.mul_comm pi 5, Int.mul_assoc, Int.mul_left_comm pi 2]; omega
      have y : 0 < pi * B := Int.mul_pos hi (by omega)
      omega
    | succ l' =>
      rw [show dvs 2 (l' + 1) = (2 * ((l' + 1 : Nat) : Int) + 1, 1) from rfl]
      generalize ((l' + 1 : Nat) : Int) = A at *
      simp only [Int.mul_one]
      rw [Int.mul_add, Int.mul_one] at h
      rw [Int.mul_add, Int.mul_one, Int.mul_add, Int.mul_one, Int.mul_left_comm, Int.mul_left_comm pi]
      omega
  · simp [dvs] at h hB ⊢
    generalize hA : (l : Int) + 1 = A at *
    generalize hK : (k : Int) + 1 = B at *
    rw [show (l : Int) + 2 = A + 1 by omega, show (k : Int) + 2 = B + 1 by omega]
    have A1 : 1 ≤ A := by omega
    have B1 : 1 ≤ B := by omega
    have h0 : 0 ≤ pj * (A + 1) := Int.mul_nonneg (by omega) (by omega)
    have h2 : pj * (A + 1) * (pj * (A + 1)) ≤ pi * B * (pi * B) := Int.mul_le_mul h h h0 (Int.le_trans h0 h)
    have x1 : pj * pj * (A * (A + 1)) + pj * pj * (A + 1) = pj * (A + 1) * (pj * (A + 1)) := by
      rw [← Int.mul_add, show A * (A + 1) + (A + 1) = (A + 1) * (A + 1) by rw [Int.add_mul A 1, Int.one_mul]]
      ac_rfl
    have x2 : pi * pi * (B * (B + 1)) = pi * B * (pi * B) + pi * pi * B := by
      rw [Int.mul_add B, Int.mul_one, Int.mul_add]
      congr 1
      ac_rfl
    have x3 : 0 < pj * pj * (A + 1) := Int.mul_pos (Int.mul_pos hj hj) (by omega)
    have x4 : 0 < pi * pi * B := Int.mul_pos (Int.mul_pos hi hi) (by omega)
    omega
  · simp [dvs] at h hB ⊢
    rw [Int.mul_add pj, Int.mul_one] at h
    omega
  · simp [dvs] at h hB ⊢
    generalize hA : (l : Int) + 1 = A at *
    generalize hK : (k : Int) + 1 = B at *
    rw [show (l : Int) + 2 = A + 1 by omega, show (k : Int) + 2 = B + 1 by omega]
    have A1 : 1 ≤ A := by omega
    have B1 : 1 ≤ B := by omega
    have h1 : pj * (A + 1) * (2 * (A * (2 * B + 1))) ≤ pi * B * (2 * (A * (2 * B + 1))) := Int.mul_le_mul_of_nonneg_right h (Int.mul_nonneg (by omega) (Int.mul_nonneg (by omega) (by omega)))
    have h2 : A * (2 * B + 1) < (2 * A + 1) * (B + 1) := by
      rw [Int.mul_add A, Int.mul_one, Int.add_mul, Int.one_mul, Int.mul_add (2 * A), Int.mul_one, Int.mul_assoc, Int.mul_left_comm A 2]
      omega
    have h3 : pi * B * (2 * (A * (2 * B + 1))) < pi * B * (2 * ((2 * A + 1) * (B + 1))) := Int.mul_lt_mul_of_pos_left (by omega) (Int.mul_pos hi (by omega))
    have x1 : pj * (2 * B + 1) * (2 * A * (A + 1)) = pj * (A + 1) * (2 * (A * (2 * B + 1))) := by
      ac_rfl
    have x2 : pi * (2 * A + 1) * (2 * B * (B + 1)) = pi * B * (2 * ((2 * A + 1) * (B + 1))) := by
      ac_rfl
    omega

theorem mapD (f : Int → Int) (l : List Int) (k : Nat) (h : k < l.length) : (l.map f).getD k 0 = f (l.getD k 0) := map_getD f l k h
theorem two_bad {g : Nat} (hg : g < 6) {ps : List Int} {c : Nat → Int} {s : Nat} (o : Opt (ps.map (sqv g)) (dvs g) s c) (c0 : ∀ k, 0 ≤ c k) {i j : Nat} (hi : i < ps.length) (hj : j < ps.length)
    (pi : 0 < ps.getD i 0) (pj : 0 < ps.getD j 0) {T : Int} (hT : ps.getD i 0 + ps.getD j 0 = T) (hs : c i + rz g + (c j + rz g) = (s : Int)) (bad : (c i + rz g + 1) * T ≤ ps.getD i 0 * (s : Int)) : False := by
  have z0 : 0 ≤ rz g ∧ rz g ≤ 1 := by unfold rz; split <;> omega
  have ci := c0 i
  have cj := c0 j
  generalize hp : ps.getD i 0 = p at *
  generalize hq : ps.getD j 0 = q at *
  have T0 : 0 < T := by omega
  generalize hA : c i + rz g = A at *
  have A0 : 0 ≤ A := by omega
  have s0 : 0 < (s : Int) := by
    rcases Int.lt_or_eq_of_le (Int.natCast_nonneg s) with h | h
    · exact h
    · rw [← h, Int.mul_zero] at bad
      have := Int.mul_pos (show 0 < A + 1 by omega) T0
      omega
  have B1 : q * (s : Int) ≤ (c j + rz g - 1) * T := by
    have e : c j + rz g - 1 = (s : Int) - (A + 1) := by omega
    have e2 : q = T - p := by omega
    rw [e, e2, Int.sub_mul, Int.sub_mul, Int.mul_comm T]
    omega
  generalize hB : c j + rz g - 1 = B at *
  have Bp : 1 ≤ B := by
    have h1 := Int.mul_pos pj s0
    refine Int.not_lt.mp fun h => ?_
    have h2 : B * T ≤ 0 * T := Int.mul_le_mul_of_nonneg_right (by omega) (Int.le_of_lt T0)
    rw [Int.zero_mul] at h2
    omega
  have cross : q * (A + 1) ≤ p * B := by
    have h1 := Int.mul_le_mul B1 bad (Int.mul_nonneg (by omega) (Int.le_of_lt T0)) (Int.mul_nonneg (by omega) (Int.le_of_lt T0))
    have e1 : q * (s : Int) * ((A + 1) * T) = q * (A + 1) * ((s : Int) * T) := by ac_rfl
    have e2 : B * T * (p * (s : Int)) = p * B * ((s : Int) * T) := by ac_rfl
    rw [e1, e2] at h1
    exact Int.le_of_mul_le_mul_right h1 (Int.mul_pos s0 T0)
  have lt : A + 1 ≤ (s : Int) := by
    have h1 : p * (s : Int) ≤ T * (s : Int) := Int.mul_le_mul_of_nonneg_right (by omega) (Int.le_of_lt s0)
    have h2 : (A + 1) * T ≤ (s : Int) * T := by rw [Int.mul_comm (s : Int)]; exact Int.le_trans bad h1
    exact Int.le_of_mul_le_mul_right h2 T0
  have e1 : ((c i).toNat : Int) = c i := Int.toNat_of_nonneg ci
  have e2 : ((c j - 1).toNat : Int) = c j - 1 := Int.toNat_of_nonneg (by omega)
  have h := o.le (i := j) (j := i) (k := (c j - 1).toNat) (l := (c i).toNat) (by simpa using hj) (by simpa using hi) (by omega) (by omega) (by omega)
  rw [mapD _ _ _ hi, mapD _ _ _ hj, hp, hq] at h
  have w := gap hg (pi := p) (pj := q) (k := (c j - 1).toNat) (l := (c i).toNat) pi pj (by omega) (by
    rw [show ((c i).toNat : Int) + rz g + 1 = A + 1 by omega, show ((c j - 1).toNat : Int) + rz g = B by omega]; exact cross)
  omega
theorem two_ok {g : Nat} (hg : g < 6) {ps : List Int} {c : Nat → Int} {s : Nat} (o : Opt (ps.map (sqv g)) (dvs g) s c) (c0 : ∀ k, 0 ≤ c k) (hn : 0 < ps.length) (hn3 : ps.length < 3) (hv : ∀ k, k < ps.length → 0 < ps.getD k 0)
    (hs : SS (fun k => c k + rz g) ps.length = (s : Int)) : ∀ i, i < ps.length → ps.getD i 0 * (s : Int) < (c i + rz g) * ps.sum + ps.sum ∧ (c i + rz g) * ps.sum < ps.getD i 0 * (s : Int) + ps.sum := by
  have z0 : 0 ≤ rz g ∧ rz g ≤ 1 := by unfold rz; split <;> omega
  have sT : ps.sum = SS (fun k => ps.getD k 0) ps.length := sum_SS ps
  have cases : ps.length = 1 ∨ ps.length = 2 := by omega
  rcases cases with e | e
  · rw [e] at hs sT hv
    simp only [SS, Int.zero_add] at hs sT
    intro i hi
    have : i = 0 := by omega
    subst this
    have p0 := hv 0 (by omega)
    rw [sT, hs, Int.mul_comm (s : Int)]
    omega
  · rw [e] at hs sT hv
    simp only [SS, Int.zero_add] at hs sT
    have p0 := hv 0 (by omega)
    have p1 := hv 1 (by omega)
    have low : ∀ i j, i < 2 → j < 2 → i ≠ j → ps.getD i 0 * (s : Int) < (c i + rz g) * ps.sum + ps.sum := fun i j hi hj hij => by
      refine Int.not_le.mp fun bad => ?_
      refine two_bad hg o c0 (i := i) (j := j) (by omega) (by omega) (hv i hi) (hv j hj) (T := ps.sum) ?_ ?_ ?_
      · have : (i = 0 ∧ j = 1) ∨ (i = 1 ∧ j = 0) := by omega
        rcases this with ⟨rfl, rfl⟩ | ⟨rfl, rfl⟩ <;> omega
      · have : (i = 0 ∧ j = 1) ∨ (i = 1 ∧ j = 0) := by omega
        rcases this with ⟨rfl, rfl⟩ | ⟨rfl, rfl⟩ <;> omega
      · rw [Int.add_mul, Int.one_mul]; exact bad
    have up : ∀ i j, i < 2 → j < 2 → i ≠ j → (c i + rz g) * ps.sum < ps.getD i 0 * (s : Int) + ps.sum := fun i j hi hj hij => by
      have l := low j i hj hi (Ne.symm hij)
      have e1 : c j + rz g = (s : Int) - (c i + rz g) := by
        have : (i = 0 ∧ j = 1) ∨ (i = 1 ∧ j = 0) := by omega
        rcases this with ⟨rfl, rfl⟩ | ⟨rfl, rfl⟩ <;> omega
      have e2 : ps.getD j 0 = ps.sum - ps.getD i 0 := by
        have : (i = 0 ∧ j = 1) ∨ (i = 1 ∧ j = 0) := by omega
        rcases this with ⟨rfl, rfl⟩ | ⟨rfl, rfl⟩ <;> omega
      rw [e1, e2, Int.sub_mul, Int.sub_mul, Int.mul_comm ps.sum] at l
      omega
    intro i hi
    have : i = 0 ∨ i = 1 := by omega
    rcases this with rfl | rfl
    · exact ⟨low 0 1 (by omega) (by omega) (by omega), up 0 1 (by omega) (by omega) (by omega)⟩
    · exact ⟨low 1 0 (by omega) (by omega) (by omega), up 1 0 (by omega) (by omega) (by omega)⟩
theorem webster3 {ps : List Int} {c : Nat → Int} {s : Nat} (o : Opt ps (dvs 1) s c) (c0 : ∀ k, 0 ≤ c k) (hn : ps.length = 3) (hv : ∀ k, k < ps.length → 0 < ps.getD k 0)
    (hs : SS c ps.length = (s : Int)) : ∀ i, i < ps.length → ps.getD i 0 * (s : Int) < c i * ps.sum + ps.sum ∧ c i * ps.sum < ps.getD i 0 * (s : Int) + ps.sum := by
  have sT : ps.sum = SS (fun k => ps.getD k 0) ps.length := sum_SS ps
  have T0 : 0 < ps.sum := by
    rw [sT]
    have := SS_ge (f := fun k => ps.getD k 0) (n := ps.length) (i := 0) (fun k hk => Int.le_of_lt (hv k hk)) (by omega)
    have := hv 0 (by omega)
    omega
  have s0 := Int.natCast_nonneg s
  have d1 : ∀ k : Nat, dvs 1 k = (2 * (k : Int) + 1, 1) := fun _ => rfl
  intro i hi
  have pi := hv i hi
  have ci := c0 i
  have e1 : ((c i).toNat : Int) = c i := Int.toNat_of_nonneg ci
  constructor
  · refine Int.not_le.mp fun bad => ?_
    have bad' : (c i + 1) * ps.sum ≤ ps.getD i 0 * (s : Int) := by rw [Int.add_mul, Int.one_mul]; exact bad
    have ip : ps.getD i 0 ≤ ps.sum := by rw [sT]; exact SS_ge (f := fun k => ps.getD k 0) (fun k hk => Int.le_of_lt (hv k hk)) hi
    have lt : c i + 1 ≤ (s : Int) := by
      have h1 := Int.mul_le_mul_of_nonneg_right ip s0
      have h2 : (c i + 1) * ps.sum ≤ (s : Int) * ps.sum := by rw [Int.mul_comm (s : Int)]; exact Int.le_trans bad' h1
      exact Int.le_of_mul_le_mul_right h2 T0
    have key : SS (fun k => 2 * (c k * ps.sum)) ps.length + 2 * ps.sum ≤ SS (fun k => 2 * (ps.getD k 0 * (s : Int)) + (if k = i then 0 else ps.sum - 1)) ps.length := by
      refine SS_gap hi (fun j hj => ?_) (by rw [if_pos rfl]; omega)
      by_cases hji : j = i
      · subst hji; rw [if_pos rfl]; omega
      rw [if_neg hji]
      have pj := hv j hj
      by_cases hc : c j = 0
      · have := Int.mul_nonneg (Int.le_of_lt pj) s0
        rw [hc, Int.zero_mul]; omega
      · have cj := c0 j
        have e2 : ((c j - 1).toNat : Int) = c j - 1 := Int.toNat_of_nonneg (by omega)
        have h := o.le (i := j) (j := i) (k := (c j - 1).toNat) (l := (c i).toNat) hj hi (by omega) (by omega) (by omega)
        rw [d1, d1] at h
        simp only [e1, e2, Int.mul_one] at h
        -- p_i (2 c_j - 1) <= p_j (2 c_i + 1)
        have h1 := Int.mul_le_mul_of_nonneg_right h (Int.le_of_lt T0)
        have h2 := Int.mul_le_mul_of_nonneg_left bad' (show 0 ≤ 2 * ps.getD j 0 by omega)
        have x1 : ps.getD j 0 * (2 * c i + 1) * ps.sum + ps.getD j 0 * ps.sum = 2 * ps.getD j 0 * ((c i + 1) * ps.sum) := by
          rw [Int.mul_add, Int.mul_one, Int.add_mul, Int.add_mul, Int.one_mul, Int.mul_add, Int.mul_assoc 2, Int.mul_left_comm (ps.getD j 0) 2, Int.mul_assoc 2, Int.mul_assoc 2, Int.mul_assoc]
          omega
        have x2 : 2 * ps.getD j 0 * (ps.getD i 0 * (s : Int)) = ps.getD i 0 * (2 * (ps.getD j 0 * (s : Int))) := by ac_rfl
        have x3 : ps.getD i 0 * (2 * (c j - 1) + 1) * ps.sum = ps.getD i 0 * ((2 * (c j - 1) + 1) * ps.sum) := Int.mul_assoc _ _ _
        have x4 := Int.mul_pos pj T0
        have h3 : ps.getD i 0 * ((2 * (c j - 1) + 1) * ps.sum) < ps.getD i 0 * (2 * (ps.getD j 0 * (s : Int))) := by omega
        have h4 := Int.lt_of_mul_lt_mul_left h3 (Int.le_of_lt pi)
        have x5 : (2 * (c j - 1) + 1) * ps.sum = 2 * (c j * ps.sum) - ps.sum := by
          rw [show 2 * (c j - 1) + 1 = 2 * c j - 1 by omega, Int.sub_mul, Int.one_mul, Int.mul_assoc]
        omega
    rw [hn] at hs sT key hi
    simp only [SS, Int.zero_add] at hs sT key
    have hsum : c 0 * ps.sum + c 1 * ps.sum + c 2 * ps.sum = (s : Int) * ps.sum := by rw [← Int.add_mul, ← Int.add_mul, hs]
    have tsum : ps.getD 0 0 * (s : Int) + ps.getD 1 0 * (s : Int) + ps.getD 2 0 * (s : Int) = (s : Int) * ps.sum := by rw [← Int.add_mul, ← Int.add_mul, ← sT, Int.mul_comm]
    have : i = 0 ∨ i = 1 ∨ i = 2 := by omega
    rcases this with rfl | rfl | rfl <;> simp [-List.getD_eq_getElem?_getD] at key <;> omega
  · refine Int.not_le.mp fun bad => ?_
    have cpos : 0 < c i := by
      rcases Int.lt_or_eq_of_le ci with h | h
      · exact h
      · rw [← h, Int.zero_mul] at bad
        have := Int.mul_nonneg (Int.le_of_lt pi) s0
        omega
    have e3 : ((c i - 1).toNat : Int) = c i - 1 := Int.toNat_of_nonneg (by omega)
    have key : SS (fun k => 2 * (ps.getD k 0 * (s : Int)) - (if k = i then 0 else ps.sum - 1)) ps.length + 2 * ps.sum ≤ SS (fun k => 2 * (c k * ps.sum)) ps.length := by
      refine SS_gap hi (fun j hj => ?_) (by rw [if_pos rfl]; omega)
      by_cases hji : j = i
      · subst hji; rw [if_pos rfl]; omega
      rw [if_neg hji]
      have pj := hv j hj
      have cj := c0 j
      have cjs : c j < (s : Int) := by
        have h1 : SS c ps.length = SS (fun k => if k = j then 0 else c k) ps.length + c j := by rw [SS_set hj]; omega
        have h2 := SS_ge (f := fun k => if k = j then 0 else c k) (n := ps.length) (i := i) (fun k _ => by split; exact Int.le_refl _; exact c0 k) hi
        rw [if_neg (Ne.symm hji)] at h2
        omega
      have e2 : ((c j).toNat : Int) = c j := Int.toNat_of_nonneg cj
      have h := o.le (i := i) (j := j) (k := (c i - 1).toNat) (l := (c j).toNat) hi hj (by omega) (by omega) (by omega)
      rw [d1, d1] at h
      simp only [e2, e3, Int.mul_one] at h
      -- p_j (2 c_i - 1) <= p_i (2 c_j + 1)
      have h1 := Int.mul_le_mul_of_nonneg_right h (Int.le_of_lt T0)
      have x5 : (2 * (c i - 1) + 1) * ps.sum = 2 * (c i * ps.sum) - ps.sum := by
        rw [show 2 * (c i - 1) + 1 = 2 * c i - 1 by omega, Int.sub_mul, Int.one_mul, Int.mul_assoc]
      have x6 : (2 * c j + 1) * ps.sum = 2 * (c j * ps.sum) + ps.sum := by rw [Int.add_mul, Int.one_mul, Int.mul_assoc]
      rw [Int.mul_assoc, Int.mul_assoc, x5, x6] at h1
      have h2 : ps.getD j 0 * (2 * (ps.getD i 0 * (s : Int)) + ps.sum) ≤ ps.getD j 0 * (2 * (c i * ps.sum) - ps.sum) := Int.mul_le_mul_of_nonneg_left (by omega) (Int.le_of_lt pj)
      have x7 : ps.getD j 0 * (2 * (ps.getD i 0 * (s : Int)) + ps.sum) = ps.getD i 0 * (2 * (ps.getD j 0 * (s : Int))) + ps.getD j 0 * ps.sum := by
        rw [Int.mul_add]
        congr 1
        ac_rfl
      have x8 := Int.mul_pos pj T0
      have h3 : ps.getD i 0 * (2 * (ps.getD j 0 * (s : Int))) < ps.getD i 0 * (2 * (c j * ps.sum) + ps.sum) := by omega
      have h4 := Int.lt_of_mul_lt_mul_left h3 (Int.le_of_lt pi)
      omega
    rw [hn] at hs sT key hi
    simp only [SS, Int.zero_add] at hs sT key
    have hsum : c 0 * ps.sum + c 1 * ps.sum + c 2 * ps.sum = (s : Int) * ps.sum := by rw [← Int.add_mul, ← Int.add_mul, hs]
    have tsum : ps.getD 0 0 * (s : Int) + ps.getD 1 0 * (s : Int) + ps.getD 2 0 * (s : Int) = (s : Int) * ps.sum := by rw [← Int.add_mul, ← Int.add_mul, ← sT, Int.mul_comm]
    have : i = 0 ∨ i = 1 ∨ i = 2 := by omega
    rcases this with rfl | rfl | rfl <;> simp [-List.getD_eq_getElem?_getD] at key <;> omega
end

theorem sorted_cnt {l : List Int} (h : l.Pairwise (· ≤ ·)) {q : Nat} (q0 : 0 < q) (ql : q ≤ l.length) :
    (l.filter (fun w => decide (l.getD (l.length - q) 0 < w))).length < q ∧ q ≤ (l.filter (fun w => decide (l.getD (l.length - q) 0 ≤ w))).length := by
  have hi : l.length - q < l.length := by omega
  generalize hidx : l.length - q = i at *
  have em : l.getD i 0 = l[i] := by rw [List.getD_eq_getElem?_getD, List.getElem?_eq_getElem hi]; rfl
  rw [em]
  have sp := List.pairwise_iff_getElem.mp h
  have e1 := List.take_append_drop (i + 1) l
  have e2 := List.take_append_drop i l
  constructor
  · have h1 : (l.take (i + 1)).filter (fun w => decide (l[i] < w)) = [] := by
      rw [List.filter_eq_nil_iff]
      intro a ha
      obtain ⟨k, hk, rfl⟩ := List.mem_iff_getElem.mp ha
      rw [List.length_take] at hk
      rw [List.getElem_take, decide_eq_true_eq]
      by_cases c : k = i
      · subst c; omega
      · have := sp k i (by omega) hi (by omega)
        omega
    have h2 : l.filter (fun w => decide (l[i] < w)) = (l.drop (i + 1)).filter (fun w => decide (l[i] < w)) := by
      have z := congrArg (List.filter (fun w => decide (l[i] < w))) e1
      rw [List.filter_append, h1, List.nil_append] at z
      exact z.symm
    rw [h2]
    have := List.length_filter_le (fun w => decide (l[i] < w)) (l.drop (i + 1))
    rw [List.length_drop] at this
    omega
  · have h1 : (l.drop i).filter (fun w => decide (l[i] ≤ w)) = l.drop i := by
      rw [List.filter_eq_self]
      intro a ha
      obtain ⟨k, hk, rfl⟩ := List.mem_iff_getElem.mp ha
      rw [List.length_drop] at hk
      rw [List.getElem_drop, decide_eq_true_eq]
      by_cases c : k = 0
      · subst c; exact Int.le_refl _
      · exact sp i (i + k) hi (by omega) (by omega)
    have h2 : (l.filter (fun w => decide (l[i] ≤ w))).length = ((l.take i).filter (fun w => decide (l[i] ≤ w))).length + (l.drop i).length := by
      have z := congrArg (fun x => (List.filter (fun w => decide (l[i] ≤ w)) x).length) e2
      rw [List.filter_append, List.length_append, h1] at z
      exact z.symm
    rw [h2, List.length_drop]
    omega
theorem flat_cnt (p : Int → Bool) : ∀ rows : List (List Int), (rows.flatten.filter p).length = (rows.map (fun r => (r.filter p).length)).sum
  | [] => rfl
  | r :: rest => by
    rw [List.flatten_cons, List.filter_append, List.length_append, List.map_cons, List.sum_cons, flat_cnt p rest]
/-- a strictly falling f: how many of the first D lie over m -/
theorem cnt_gt {f : Nat → Int} {m : Int} : ∀ {D : Nat}, (∀ k l, k < l → l < D → f l < f k) → (((List.range D).map f).filter (fun w => decide (m < w))).length ≤ D ∧ ∀ k, k < D → (k < (((List.range D).map f).filter (fun w => decide (m < w))).length ↔ m < f k)
  | 0, _ => ⟨Nat.le_refl _, fun k hk => absurd hk (Nat.not_lt_zero k)⟩
  | D + 1, h => by
    obtain ⟨i1, i2⟩ := cnt_gt (f := f) (m := m) (D := D) fun k l a b => h k l a (by omega)
    have hall : (((List.range D).map f).filter (fun w => decide (m < w))).length < D → ¬ m < f D := fun a b => by
      have c := (i2 _ a).mpr
      have := h _ D a (Nat.lt_succ_self D)
      have := c (by omega)
      omega
    rw [List.range_succ, List.map_append, List.filter_append, List.length_append]
    by_cases hD : m < f D
    · have e : (List.filter (fun w => decide (m < w)) (List.map f [D])).length = 1 := by simp [hD]
      rw [e]
      have full : (((List.range D).map f).filter (fun w => decide (m < w))).length = D := by
        rcases Nat.lt_or_ge (((List.range D).map f).filter (fun w => decide (m < w))).length D with a | a
        · exact absurd hD (hall a)
        · omega
      refine ⟨by omega, fun k hk => ?_⟩
      rw [full]
      constructor
      · intro _
        by_cases c : k = D
        · subst c; exact hD
        · exact (i2 k (by omega)).mp (by omega)
      · intro _; omega
    · have e : (List.filter (fun w => decide (m < w)) (List.map f [D])).length = 0 := by simp [hD]
      rw [e, Nat.add_zero]
      refine ⟨by omega, fun k hk => ?_⟩
      by_cases c : k = D
      · subst c
        constructor
        · intro a; omega
        · intro a; exact absurd a hD
      · exact i2 k (by omega)
theorem at_cnt {f : Nat → Int} {m : Int} {D k : Nat} (h : ∀ k l, k < l → l < D → f l < f k) (hk : k < D) (e : f k = m) : (((List.range D).map f).filter (fun w => decide (m < w))).length = k := by
  obtain ⟨_, i2⟩ := cnt_gt (f := f) (m := m) h
  have a : ¬ k < (((List.range D).map f).filter (fun w => decide (m < w))).length := fun x => by have := (i2 k hk).mp x; omega
  rcases Nat.lt_or_ge (((List.range D).map f).filter (fun w => decide (m < w))).length k with b | b
  · have c := (i2 _ (Nat.lt_trans b hk)).mpr
    have := h _ k b hk
    have := c (by omega)
    omega
  · omega
theorem cnt_ge {f : Nat → Int} {m : Int} {D : Nat} (h : ∀ k l, k < l → l < D → f l < f k) :
    (((List.range D).map f).filter (fun w => decide (m ≤ w))).length = (((List.range D).map f).filter (fun w => decide (m < w))).length + if m ∈ (List.range D).map f then 1 else 0 := by
  induction D with
  | zero => simp
  | succ D ih =>
    have ih' := ih fun k l a b => h k l a (by omega)
    rw [List.range_succ, List.map_append, List.filter_append, List.filter_append, List.length_append, List.length_append, ih']
    have em : (m ∈ (List.range D).map f ++ List.map f [D]) ↔ (m ∈ (List.range D).map f ∨ m = f D) := by simp
    by_cases c : m ∈ (List.range D).map f
    · obtain ⟨k, hk, e⟩ := List.mem_map.mp c
      have hkD := List.mem_range.mp hk
      have := h k D hkD (Nat.lt_succ_self D)
      rw [if_pos c, if_pos (em.mpr (.inl c))]
      have z1 : ¬ m ≤ f D := by omega
      have z2 : ¬ m < f D := by omega
      simp [z1, z2]
    · rw [if_neg c]
      by_cases d : m = f D
      · rw [if_pos (em.mpr (.inr d))]
        have z2 : ¬ m < f D := by omega
        have z1 : m ≤ f D := by omega
        simp [z1, z2]
      · rw [if_neg fun x => (em.mp x).elim c d]
        by_cases z : m < f D
        · have z1 : m ≤ f D := by omega
          simp [z, z1]
        · have z1 : ¬ m ≤ f D := by omega
          simp [z, z1]

section
local macro_rules | `(tactic| omega) => `(tactic| first | lia | omega (config := {}))
/-- the loop that hands out the last seats: to i where q i, as long as seats are left -/
def tieF (q : Nat → Bool) (n : Int) (r : List Int) : Nat → List Int
  | 0 => r
  | i + 1 => if (tieF q n r i).sum < n ∧ q i = true then (tieF q n r i).set i ((tieF q n r i).getD i 0 + 1) else tieF q n r i
theorem tieF_len (q : Nat → Bool) (n : Int) (r : List Int) : ∀ i, (tieF q n r i).length = r.length
  | 0 => rfl
  | i + 1 => by
    simp only [tieF]
    split
    · rw [List.length_set, tieF_len q n r i]
    · exact tieF_len q n r i
theorem sum_set {l : List Int} {i : Nat} (hi : i < l.length) : (l.set i (l.getD i 0 + 1)).sum = l.sum + 1 := by
  rw [sum_SS, sum_SS l, List.length_set, SS_congr (f := fun k => (l.set i (l.getD i 0 + 1)).getD k 0) (g := fun k => if k = i then l.getD i 0 + 1 else l.getD k 0) fun k _ => getD_set l i k _ hi, SS_set hi]
  omega
structure TieOk (q : Nat → Bool) (n : Int) (r a : List Int) (i : Nat) : Prop where
  cases : ∀ k, a.getD k 0 = r.getD k 0 ∨ (a.getD k 0 = r.getD k 0 + 1 ∧ q k = true ∧ k < i)
  sum : a.sum = n ∨ a.sum = r.sum + (((List.range i).filter q).length : Int)
  low : a.sum ≤ n
  stop : ∀ k, k < i → q k = true → a.getD k 0 = r.getD k 0 → a.sum = n ∧ ∀ l, k < l → a.getD l 0 = r.getD l 0
theorem tieF_ok {q : Nat → Bool} {n : Int} {r : List Int} (hr : r.sum ≤ n) : ∀ {i : Nat}, i ≤ r.length → TieOk q n r (tieF q n r i) i
  | 0, _ => ⟨fun _ => .inl rfl, .inr (by simp [tieF]), hr, fun k hk => absurd hk (Nat.not_lt_zero k)⟩
  | i + 1, hi => by
    have ih := tieF_ok (q := q) (n := n) hr (Nat.le_of_succ_le hi)
    have hl := tieF_len q n r i
    generalize ha : tieF q n r i = a at *
    have hia : i < a.length := by omega
    have hri : a.getD i 0 = r.getD i 0 := (ih.cases i).elim id fun ⟨_, _, h⟩ => absurd h (Nat.lt_irrefl i)
    simp only [tieF, ha]
    by_cases c : a.sum < n ∧ q i = true
    · rw [if_pos c]
      refine ⟨fun k => ?_, .inr ?_, ?_, fun k hk qk e => ?_⟩
      · rw [getD_set a i k _ hia]
        by_cases e : k = i
        · subst e; rw [if_pos rfl]; exact .inr ⟨by omega, c.2, Nat.lt_succ_self _⟩
        · rw [if_neg e]
          exact (ih.cases k).imp id fun ⟨x, y, z⟩ => ⟨x, y, Nat.lt_succ_of_lt z⟩
      · rw [sum_set hia, List.range_succ, List.filter_append, List.length_append, List.filter_cons_of_pos c.2]
        rcases ih.sum with h | h
        · omega
        · simp only [List.filter_nil, List.length_cons, List.length_nil]; omega
      · rw [sum_set hia]; omega
      · rw [getD_set a i k _ hia] at e
        by_cases e2 : k = i
        · subst e2; rw [if_pos rfl] at e; omega
        · rw [if_neg e2] at e
          have := (ih.stop k (by omega) qk e).1
          omega
    · rw [if_neg c]
      refine ⟨fun k => (ih.cases k).imp id fun ⟨x, y, z⟩ => ⟨x, y, Nat.lt_succ_of_lt z⟩, ?_, ih.low, fun k hk qk e => ?_⟩
      · by_cases d : a.sum = n
        · exact .inl d
        · have qi : ¬ q i = true := fun x => c ⟨by have := ih.low; omega, x⟩
          refine ih.sum.imp id fun h => ?_
          rw [List.range_succ, List.filter_append, List.filter_cons_of_neg qi, List.filter_nil, List.append_nil]
          exact h
      · by_cases e2 : k = i
        · subst e2
          refine ⟨by have := ih.low; have : ¬ a.sum < n := fun x => c ⟨x, qk⟩; omega, fun l hl => ?_⟩
          exact (ih.cases l).elim id fun ⟨_, _, h⟩ => absurd h (by omega)
        · exact ih.stop k (by omega) qk e
/-- what a divisor method hands out is best -/
theorem opt_of {v : List Int} {d : Nat → Int × Int} {D : Nat} {P m : Int} {Pk : Nat → Int} {q : Nat → Bool} {t : Nat → Int}
    (hv : ∀ k, k < v.length → 0 < v.getD k 0) (hP : 0 < P) (hk : ∀ k, k < D → P = (d k).1 * Pk k ∧ 0 < (d k).1)
    (fall : ∀ k l, k < l → l < D → (d l).2 * (d k).1 < (d k).2 * (d l).1)
    (hq : ∀ i, i < v.length → (q i = true ↔ m ∈ (List.range D).map fun k => v.getD i 0 * (d k).2 * Pk k))
    (h1 : ∀ k, k < v.length → t k = 0 ∨ (t k = 1 ∧ q k = true))
    (h2 : ∀ k l, k < l → l < v.length → q k = true → t k = 0 → t l = 0) :
    Opt v d D (fun i => ((((List.range D).map fun k => v.getD i 0 * (d k).2 * Pk k).filter fun w => decide (m < w)).length : Int) + t i) := by
  have F : ∀ i, i < v.length → ∀ k l, k < l → l < D → v.getD i 0 * (d l).2 * Pk l < v.getD i 0 * (d k).2 * Pk k := fun i hi k l a b => by
    refine Int.not_le.mp fun x => ?_
    have := (cmp_le hP (hk k (by omega)).1 (hk l b).1 (hk k (by omega)).2 (hk l b).2).mp x
    rw [Int.mul_assoc, Int.mul_assoc] at this
    have := Int.le_of_mul_le_mul_left this (hv i hi)
    have := fall k l a b
    omega
  intro i j k l hi hj hki hlj hD
  dsimp only at hki hlj
  have Fi0 := F i hi
  have Fj0 := F j hj
  have ti := h1 i hi
  have tj := h1 j hj
  have memi := hq i hi
  have memj := hq j hj
  generalize hfi : (fun k => v.getD i 0 * (d k).2 * Pk k) = fi at hki memi
  generalize hfj : (fun k => v.getD j 0 * (d k).2 * Pk k) = fj at hlj memj
  have Fi : ∀ k l, k < l → l < D → fi l < fi k := by rw [← hfi]; exact Fi0
  have Fj : ∀ k l, k < l → l < D → fj l < fj k := by rw [← hfj]; exact Fj0
  obtain ⟨ni, ci⟩ := cnt_gt (m := m) Fi
  obtain ⟨nj, cj⟩ := cnt_gt (m := m) Fj
  have ai := fun k hk e => at_cnt (m := m) (k := k) Fi hk e
  have aj := fun k hk e => at_cnt (m := m) (k := k) Fj hk e
  generalize hni : (((List.range D).map fi).filter fun w => decide (m < w)).length = a at *
  generalize hnj : (((List.range D).map fj).filter fun w => decide (m < w)).length = b at *
  have kD : k < D := by
    rcases ti with e | ⟨e, x⟩
    · omega
    · obtain ⟨k', hk', e'⟩ := List.mem_map.mp (memi.mp x)
      have hk' := List.mem_range.mp hk'
      have := ai k' hk' e'
      omega
  have lo : m ≤ fi k := by
    by_cases c : k < a
    · exact Int.le_of_lt ((ci k kD).mp c)
    · rcases ti with e | ⟨e, x⟩
      · omega
      · obtain ⟨k', hk', e'⟩ := List.mem_map.mp (memi.mp x)
        have hk' := List.mem_range.mp hk'
        have := ai k' hk' e'
        have : k = k' := by omega
        subst this
        omega
  have hi2 : fj l ≤ m := by
    refine Int.not_lt.mp fun x => ?_
    have := (cj l hD).mpr x
    rcases tj with e | ⟨e, _⟩ <;> omega
  have efi : fi k = v.getD i 0 * (d k).2 * Pk k := by rw [← hfi]
  have efj : fj l = v.getD j 0 * (d l).2 * Pk l := by rw [← hfj]
  have C1 : v.getD j 0 * (d l).2 * Pk l ≤ v.getD i 0 * (d k).2 * Pk k ↔ _ := cmp_le hP (hk l hD).1 (hk k kD).1 (hk l hD).2 (hk k kD).2
  have C2 : v.getD i 0 * (d k).2 * Pk k ≤ v.getD j 0 * (d l).2 * Pk l ↔ _ := cmp_le hP (hk k kD).1 (hk l hD).1 (hk k kD).2 (hk l hD).2
  rw [← efi, ← efj] at C1 C2
  have c1 := C1.mp (by omega)
  rcases Int.lt_or_eq_of_le c1 with c | c
  · exact .inl c
  · refine .inr ⟨c, ?_⟩
    have c2 := C2.mpr (by omega)
    have e1 : fi k = m := by omega
    have e2 : fj l = m := by omega
    have k1 := ai k kD e1
    have l1 := aj l hD e2
    have qj : q j = true := memj.mpr (List.mem_map.mpr ⟨l, List.mem_range.mpr hD, e2⟩)
    refine Nat.lt_of_not_le fun bad => ?_
    rcases Nat.lt_or_eq_of_le bad with bad | bad
    · have := h2 j i bad hi qj (by rcases tj with e | ⟨e, _⟩ <;> omega)
      omega
    · subst bad
      have hab : fi = fj := hfi.symm.trans hfj
      subst hab
      omega
def com (g n : Nat) : Int := ((List.range n).map fun k => (dvs g k).1).foldl (fun c x => c * x) 1
theorem com_ok : ∀ g, g < 6 → ∀ n, n < 10 → 0 < com g n ∧ ∀ k, k < n → 0 < (dvs g k).1 ∧ com g n = (dvs g k).1 * (com g n / (dvs g k).1) := by decide +kernel
theorem dvs_fall : ∀ g, g < 6 → ∀ l, l < 9 → ∀ k, k < l → (dvs g l).2 * (dvs g k).1 < (dvs g k).2 * (dvs g l).1 := by decide +kernel
/-- a row of weights, as the program makes it -/
def wts (g n : Nat) (p : Int) : List Int := (List.range n).map fun k => (sqv g p * (dvs g k).2 * com g n).fdiv (dvs g k).1
theorem wts_eq {g n : Nat} (hg : g < 6) (hn : n < 10) (p : Int) : wts g n p = (List.range n).map fun k => sqv g p * (dvs g k).2 * (com g n / (dvs g k).1) := by
  refine List.map_congr_left fun k hk => ?_
  obtain ⟨a, b⟩ := (com_ok g hg n hn).2 k (List.mem_range.mp hk)
  generalize com g n / (dvs g k).1 = X at *
  rw [b, Int.mul_left_comm, Int.mul_fdiv_cancel_left _ (by omega)]
theorem sqv_pos {g : Nat} {p : Int} (h : 0 < p) : 0 < sqv g p := by
  unfold sqv
  split
  · exact Int.mul_pos h h
  · exact h
/-- the seats of a divisor method -/
structure DivR (ps : List Int) (g n : Nat) (rs : List Int) : Prop where
  len : rs.length = ps.length
  sum : rs.sum = (n : Int)
  opt : ∃ c : Nat → Int, (∀ k, 0 ≤ c k) ∧ (∀ k, k < ps.length → rs.getD k 0 = rz g + c k) ∧ Opt (ps.map (sqv g)) (dvs g) n c
/-- the seats that the weights over the bar give -/
def over (ps : List Int) (g n : Nat) (m : Int) : List Int := ps.map fun p => rz g + (((wts g n p).filter fun w => decide (m < w)).length : Int)
theorem SS_add {f g : Nat → Int} : ∀ n, SS (fun k => f k + g k) n = SS f n + SS g n
  | 0 => rfl
  | n + 1 => by simp only [SS]; rw [SS_add n]; omega
theorem sum_map_add (f h : Int → Int) : ∀ l : List Int, (l.map fun p => f p + h p).sum = (l.map f).sum + (l.map h).sum
  | [] => rfl
  | x :: r => by simp only [List.map_cons, List.sum_cons]; rw [sum_map_add f h r]; omega
theorem sum_map_const (z : Int) : ∀ l : List Int, (l.map fun _ => z).sum = z * l.length
  | [] => by simp
  | x :: r => by simp only [List.map_cons, List.sum_cons, List.length_cons]; rw [sum_map_const z r]; rw [Int.natCast_add, Int.mul_add]; simp; omega
theorem sum_cast (f : Int → Nat) : ∀ l : List Int, ((l.map f).sum : Int) = (l.map fun p => (f p : Int)).sum
  | [] => rfl
  | x :: r => by simp only [List.map_cons, List.sum_cons]; rw [← sum_cast f r]; omega
theorem cnt_idx (q : Int → Bool) : ∀ l : List Int, (((List.range l.length).filter fun i => q (l.getD i 0)).length : Int) = (l.map fun p => if q p then (1 : Int) else 0).sum
  | [] => rfl
  | x :: r => by
    rw [List.length_cons, List.range_succ_eq_map, List.map_cons, List.sum_cons, ← cnt_idx q r]
    rw [List.filter_cons, List.filter_map]
    have e : (List.filter (fun i => q (r.getD i 0)) (List.range r.length)).length = (List.filter ((fun i => q ((x :: r).getD i 0)) ∘ Nat.succ) (List.range r.length)).length := rfl
    rw [e]
    have e2 : (x :: r).getD 0 0 = x := rfl
    rw [e2]
    by_cases c : q x = true
    · rw [if_pos c, if_pos c, List.length_cons, List.length_map]; omega
    · rw [if_neg c, if_neg c, List.length_map]; omega
theorem div_ok {ps l : List Int} {g n : Nat} {m : Int} (hg : g < 6) (hn : n < 10) (hv : ∀ k, k < ps.length → 0 < ps.getD k 0) {r0 : Nat} (hr0 : (r0 : Int) = rz g * ps.length) (hq : r0 < n) (hle : n - r0 ≤ l.length)
    (hs : l.Pairwise (· ≤ ·)) (hp : l.Perm (ps.map (wts g n)).flatten) (hm : m = l.getD (l.length - (n - r0)) 0) :
    (over ps g n m).sum < (n : Int) ∧ DivR ps g n (tieF (fun i => decide (m ∈ wts g n (ps.getD i 0))) n (over ps g n m) ps.length) := by
  have hlen : (over ps g n m).length = ps.length := List.length_map ..
  have nz : 0 < n := by omega
  obtain ⟨c1, c2⟩ := sorted_cnt hs (q := n - r0) (by omega) hle
  rw [← hm] at c1 c2
  rw [(hp.filter _).length_eq, flat_cnt, List.map_map] at c1 c2
  have F : ∀ p : Int, 0 < p → ∀ k l, k < l → l < n → sqv g p * (dvs g l).2 * (com g n / (dvs g l).1) < sqv g p * (dvs g k).2 * (com g n / (dvs g k).1) := fun p hp k l a b => by
    refine Int.not_le.mp fun x => ?_
    obtain ⟨h1, h2⟩ := com_ok g hg n hn
    have := (cmp_le h1 (h2 k (by omega)).2 (h2 l b).2 (h2 k (by omega)).1 (h2 l b).1).mp x
    rw [Int.mul_assoc, Int.mul_assoc] at this
    have := Int.le_of_mul_le_mul_left this (sqv_pos hp)
    have := dvs_fall g hg l (by omega) k a
    omega
  have ge : ∀ p : Int, 0 < p → ((wts g n p).filter fun w => decide (m ≤ w)).length = ((wts g n p).filter fun w => decide (m < w)).length + if m ∈ wts g n p then 1 else 0 := fun p hp => by
    rw [wts_eq hg hn]
    exact cnt_ge (F p hp)
  have so : (over ps g n m).sum = (r0 : Int) + ((ps.map fun p => ((wts g n p).filter fun w => decide (m < w)).length).sum : Int) := by
    rw [over, sum_map_add, sum_map_const, sum_cast, hr0]
  have hlow : (over ps g n m).sum < (n : Int) := by
    rw [so]
    have : (ps.map fun p => ((wts g n p).filter fun w => decide (m < w)).length).sum < n - r0 := c1
    omega
  have hall : ((ps.map fun p => ((wts g n p).filter fun w => decide (m ≤ w)).length).sum : Int) = ((ps.map fun p => ((wts g n p).filter fun w => decide (m < w)).length).sum : Int) + (((List.range ps.length).filter fun i => decide (m ∈ wts g n (ps.getD i 0))).length : Int) := by
    rw [cnt_idx (fun p => decide (m ∈ wts g n p)), sum_cast, sum_cast, ← sum_map_add]
    congr 1
    refine List.map_congr_left fun p hp => ?_
    obtain ⟨k, hk, e⟩ := List.mem_iff_getElem.mp hp
    have := hv k hk
    rw [List.getD_eq_getElem?_getD, List.getElem?_eq_getElem hk, Option.getD_some, e] at this
    rw [ge p this]
    by_cases c : m ∈ wts g n p <;> simp [c]
  refine ⟨hlow, ?_⟩
  have T := tieF_ok (q := fun i => decide (m ∈ wts g n (ps.getD i 0))) (Int.le_of_lt hlow) (Nat.le_of_eq hlen.symm)
  have TL := tieF_len (fun i => decide (m ∈ wts g n (ps.getD i 0))) n (over ps g n m) ps.length
  generalize tieF (fun i => decide (m ∈ wts g n (ps.getD i 0))) n (over ps g n m) ps.length = a at *
  have og : ∀ k, k < ps.length → (over ps g n m).getD k 0 = rz g + (((wts g n (ps.getD k 0)).filter fun w => decide (m < w)).length : Int) := fun k hk => map_getD _ ps k hk
  have sum : a.sum = n := by
    rcases T.sum with h | h
    · exact h
    · have c2' : n - r0 ≤ (ps.map fun p => ((wts g n p).filter fun w => decide (m ≤ w)).length).sum := c2
      have := T.low
      rw [so] at h
      omega
  have t01 : ∀ k, a.getD k 0 - (over ps g n m).getD k 0 = 0 ∨ (a.getD k 0 - (over ps g n m).getD k 0 = 1 ∧ decide (m ∈ wts g n (ps.getD k 0)) = true) := fun k => by
    rcases T.cases k with h | ⟨h, x, _⟩
    · exact .inl (by omega)
    · exact .inr ⟨by omega, x⟩
  have row : ∀ k, k < ps.length → wts g n (ps.getD k 0) = (List.range n).map fun l => (ps.map (sqv g)).getD k 0 * (dvs g l).2 * (com g n / (dvs g l).1) := fun k hk => by
    rw [wts_eq hg hn, map_getD _ ps k hk]
  have vl : (ps.map (sqv g)).length = ps.length := List.length_map ..
  have O := opt_of (v := ps.map (sqv g)) (d := dvs g) (D := n) (P := com g n) (m := m) (Pk := fun k => com g n / (dvs g k).1) (q := fun i => decide (m ∈ wts g n (ps.getD i 0))) (t := fun k => a.getD k 0 - (over ps g n m).getD k 0)
    (fun k hk => by rw [vl] at hk; rw [map_getD _ ps k hk]; exact sqv_pos (hv k hk)) (com_ok g hg n hn).1 (fun k hk => ((com_ok g hg n hn).2 k hk).symm)
    (fun k l h1 h2 => dvs_fall g hg l (by omega) k h1) (fun i hi => by rw [vl] at hi; rw [decide_eq_true_eq, row i hi])
    (fun k _ => t01 k) (fun k l hkl hl qk e => by
      rw [vl] at hl
      have := (T.stop k (by omega) qk (by omega)).2 l hkl
      omega)
  refine ⟨by omega, sum, _, fun k => ?_, fun k hk => ?_, O⟩
  · have := t01 k
    omega
  · rw [← row k hk, og k hk]
    omega
end

def LowOk (ps rs : List Int) : Prop := ∀ i, i < ps.length → -ps.sum < rs.getD i 0 * ps.sum - ps.getD i 0 * rs.sum
def UpOk (ps rs : List Int) : Prop := ∀ i, i < ps.length → rs.getD i 0 * ps.sum - ps.getD i 0 * rs.sum < ps.sum
theorem sum_pos {ps : List Int} (h0 : 0 < ps.length) (hv : ∀ k, k < ps.length → 0 < ps.getD k 0) : 0 < ps.sum := by
  rw [sum_SS]
  have := SS_ge (f := fun k => ps.getD k 0) (n := ps.length) (i := 0) (fun k hk => Int.le_of_lt (hv k hk)) h0
  have := hv 0 h0
  omega
theorem DivR.ss {ps rs : List Int} {g n : Nat} (h : DivR ps g n rs) {c : Nat → Int} (hc : ∀ k, k < ps.length → rs.getD k 0 = rz g + c k) : SS (fun k => c k + rz g) ps.length = (n : Int) := by
  rw [← h.sum, sum_SS rs, h.len]
  exact SS_congr fun k hk => by rw [hc k hk, Int.add_comm]
theorem SS_const (z : Int) : ∀ n : Nat, SS (fun _ => z) n = z * n
  | 0 => by simp [SS]
  | n + 1 => by simp only [SS]; rw [SS_const z n, Int.natCast_add, Int.mul_add]; simp
theorem DivR.mono {ps rs rs' : List Int} {g n : Nat} (h : DivR ps g n rs) (h' : DivR ps g (n + 1) rs') : ∀ j, j < ps.length → rs.getD j 0 ≤ rs'.getD j 0 := fun j hj => by
  obtain ⟨c, c0, hc, O⟩ := h.opt
  obtain ⟨c', c0', hc', O'⟩ := h'.opt
  have s1 := h.ss hc
  have s2 := h'.ss hc'
  have z0 : 0 ≤ rz g := by unfold rz; split <;> omega
  rw [SS_add, SS_const] at s1 s2
  have zl : 0 ≤ rz g * (ps.length : Int) := Int.mul_nonneg z0 (by omega)
  have vl : (ps.map (sqv g)).length = ps.length := List.length_map ..
  have := O.mono O' c0 c0' (by rw [vl]; omega) (by rw [vl]; omega) j (by rw [vl]; exact hj)
  rw [hc j hj, hc' j hj]
  omega
theorem DivR.jeff {ps rs : List Int} {n : Nat} (h : DivR ps 0 n rs) (hv : ∀ k, k < ps.length → 0 < ps.getD k 0) (h0 : 0 < ps.length) : LowOk ps rs := fun i hi => by
  obtain ⟨c, c0, hc, O⟩ := h.opt
  have s1 := h.ss hc
  rw [show ps.map (sqv 0) = ps from (List.map_congr_left fun _ _ => rfl).trans (List.map_id ps)] at O
  have hz : rz 0 = 0 := rfl
  rw [SS_congr (g := c) fun k _ => by rw [hz, Int.add_zero]] at s1
  have := jeff_lower O c0 hv s1 (sum_pos h0 hv) i hi
  rw [h.sum, hc i hi, hz, Int.zero_add]
  omega
theorem DivR.adams {ps rs : List Int} {n : Nat} (h : DivR ps 4 n rs) (hv : ∀ k, k < ps.length → 0 < ps.getD k 0) (h0 : 0 < ps.length) : UpOk ps rs := fun i hi => by
  obtain ⟨c, c0, hc, O⟩ := h.opt
  have s1 := h.ss hc
  rw [show ps.map (sqv 4) = ps from (List.map_congr_left fun _ _ => rfl).trans (List.map_id ps)] at O
  have hz : rz 4 = 1 := rfl
  rw [SS_add, SS_const, hz, Int.one_mul] at s1
  have := adams_upper O c0 hv s1 (sum_pos h0 hv) i hi
  rw [h.sum, hc i hi, hz, Int.add_comm 1]
  omega
theorem DivR.two {ps rs : List Int} {g n : Nat} (h : DivR ps g n rs) (hg : g < 6) (hv : ∀ k, k < ps.length → 0 < ps.getD k 0) (h0 : 0 < ps.length) (h3 : ps.length < 3) : LowOk ps rs ∧ UpOk ps rs := by
  obtain ⟨c, c0, hc, O⟩ := h.opt
  have := two_ok hg O c0 h0 h3 hv (h.ss hc)
  refine ⟨fun i hi => ?_, fun i hi => ?_⟩
  · have := this i hi; rw [h.sum, hc i hi, Int.add_comm (rz g)]; omega
  · have := this i hi; rw [h.sum, hc i hi, Int.add_comm (rz g)]; omega
theorem DivR.web {ps rs : List Int} {n : Nat} (h : DivR ps 1 n rs) (hv : ∀ k, k < ps.length → 0 < ps.getD k 0) (h3 : ps.length = 3) : LowOk ps rs ∧ UpOk ps rs := by
  obtain ⟨c, c0, hc, O⟩ := h.opt
  have s1 := h.ss hc
  rw [show ps.map (sqv 1) = ps from (List.map_congr_left fun _ _ => rfl).trans (List.map_id ps)] at O
  have hz : rz 1 = 0 := rfl
  rw [SS_congr (g := c) fun k _ => by rw [hz, Int.add_zero]] at s1
  have := webster3 O c0 h3 hv s1
  refine ⟨fun i hi => ?_, fun i hi => ?_⟩
  · have := this i hi; rw [h.sum, hc i hi, hz, Int.zero_add]; omega
  · have := this i hi; rw [h.sum, hc i hi, hz, Int.zero_add]; omega
/-- the seats of largest_remainder -/
structure LrR (ps : List Int) (n : Nat) (rs : List Int) : Prop where
  len : rs.length = ps.length
  sum : rs.sum = (n : Int)
  low : LowOk ps rs
  up : UpOk ps rs
def flr (ps : List Int) (n : Nat) : List Int := ps.map fun p => (p * (n : Int)).fdiv ps.sum
def rmd (ps : List Int) (n : Nat) : List Int := ps.map fun p => p * (n : Int) - (p * (n : Int)).fdiv ps.sum * ps.sum
theorem fdiv_facts {x T : Int} (hT : 0 < T) : 0 ≤ x - x.fdiv T * T ∧ x - x.fdiv T * T < T := by
  rw [Int.fdiv_eq_ediv_of_nonneg _ (Int.le_of_lt hT)]
  have h1 := Int.mul_ediv_self_le (x := x) (Int.ne_of_gt hT)
  have h2 := Int.lt_mul_ediv_self_add (x := x) hT
  rw [Int.mul_comm (x / T)]
  omega
theorem SS_mulr (f : Nat → Int) (T : Int) : ∀ n, SS (fun k => f k * T) n = SS f n * T := fun n => SS_mul n
theorem flr_sum {ps : List Int} {n : Nat} (hT : 0 < ps.sum) : (flr ps n).sum * ps.sum + (rmd ps n).sum = (n : Int) * ps.sum := by
  have h : ∀ l : List Int, ∀ T : Int, (l.map fun p => (p * (n : Int)).fdiv T).sum * T + (l.map fun p => p * (n : Int) - (p * (n : Int)).fdiv T * T).sum = l.sum * n := fun l T => by
    induction l with
    | nil => simp
    | cons x r ih =>
      simp only [List.map_cons, List.sum_cons]
      rw [Int.add_mul, Int.add_mul]
      omega
  rw [flr, rmd, h ps ps.sum, Int.mul_comm]
theorem cnt_bound {T m : Int} (hT : 0 < T) (hm : m ≤ 0) : ∀ l : List Int, (∀ x ∈ l, 0 ≤ x ∧ x < T) → l.sum ≤ ((l.filter fun w => decide (m < w)).length : Int) * T
  | [], _ => by simp
  | x :: r, h => by
    have ih := cnt_bound hT hm r fun y hy => h y (List.mem_cons_of_mem _ hy)
    have hx := h x (List.mem_cons_self)
    rw [List.sum_cons]
    by_cases c : m < x
    · rw [List.filter_cons_of_pos (by simpa using c), List.length_cons, Int.natCast_add, Int.add_mul]
      omega
    · rw [List.filter_cons_of_neg (by simpa using c)]
      omega
theorem flr_getD {ps : List Int} {n k : Nat} (hk : k < ps.length) : (flr ps n).getD k 0 = (ps.getD k 0 * (n : Int)).fdiv ps.sum := map_getD _ ps k hk
theorem rmd_getD {ps : List Int} {n k : Nat} (hk : k < ps.length) : (rmd ps n).getD k 0 = ps.getD k 0 * (n : Int) - (ps.getD k 0 * (n : Int)).fdiv ps.sum * ps.sum := map_getD _ ps k hk
theorem rmd_all {ps : List Int} {n : Nat} (hT : 0 < ps.sum) : ∀ x ∈ rmd ps n, 0 ≤ x ∧ x < ps.sum := fun x hx => by
  obtain ⟨p, _, rfl⟩ := List.mem_map.mp hx
  exact fdiv_facts hT
theorem flr_le {ps : List Int} {n : Nat} (hT : 0 < ps.sum) : (flr ps n).sum ≤ (n : Int) := by
  have h := flr_sum (n := n) hT
  have : 0 ≤ (rmd ps n).sum := by
    rw [sum_SS]
    exact SS_nonneg fun k hk => by
      have e : (rmd ps n).getD k 0 = (rmd ps n)[k] := by rw [List.getD_eq_getElem?_getD, List.getElem?_eq_getElem hk]; rfl
      rw [e]
      exact (rmd_all hT _ (List.getElem_mem hk)).1
  exact Int.le_of_mul_le_mul_right (by omega) hT
theorem flr_ok {ps : List Int} {n : Nat} (hT : 0 < ps.sum) (he : (flr ps n).sum = (n : Int)) : LrR ps n (flr ps n) := by
  refine ⟨List.length_map .., he, fun i hi => ?_, fun i hi => ?_⟩
  · rw [he, flr_getD hi]; have := fdiv_facts (x := ps.getD i 0 * (n : Int)) hT; omega
  · rw [he, flr_getD hi]; have := fdiv_facts (x := ps.getD i 0 * (n : Int)) hT; omega
theorem lr_q {ps : List Int} {n : Nat} (hT : 0 < ps.sum) : (n : Int) - (flr ps n).sum ≤ ps.length := by
  have h := flr_sum (n := n) hT
  have h2 := cnt_bound hT (Int.le_refl 0) (rmd ps n) (rmd_all hT)
  have h3 := List.length_filter_le (fun w => decide ((0 : Int) < w)) (rmd ps n)
  rw [show (rmd ps n).length = ps.length from List.length_map ..] at h3
  have h4 : (((rmd ps n).filter fun w => decide (0 < w)).length : Int) * ps.sum ≤ (ps.length : Int) * ps.sum := Int.mul_le_mul_of_nonneg_right (by omega) (Int.le_of_lt hT)
  refine Int.le_of_mul_le_mul_right (a := ps.sum) ?_ hT
  rw [Int.sub_mul]
  omega
theorem lr_ok {ps l : List Int} {n : Nat} {m : Int} (hT : 0 < ps.sum) (hlt : (flr ps n).sum < (n : Int)) (hs : l.Pairwise (· ≤ ·)) (hp : l.Perm (rmd ps n))
    (hm : m = l.getD (l.length - ((n : Int) - (flr ps n).sum).toNat) 0) : LrR ps n (tieF (fun i => decide (m ≤ (rmd ps n).getD i 0)) n (flr ps n) ps.length) := by
  have hq := lr_q (n := n) hT
  have hl : l.length = ps.length := hp.length_eq.trans (List.length_map ..)
  obtain ⟨c1, c2⟩ := sorted_cnt hs (q := ((n : Int) - (flr ps n).sum).toNat) (by omega) (by omega)
  rw [← hm] at c1 c2
  rw [(hp.filter _).length_eq] at c1 c2
  have mpos : 0 < m := by
    refine Int.not_le.mp fun bad => ?_
    have h := flr_sum (n := n) hT
    have h2 := cnt_bound hT bad (rmd ps n) (rmd_all hT)
    have h4 : ((((rmd ps n).filter fun w => decide (m < w)).length : Int) + 1) * ps.sum ≤ ((n : Int) - (flr ps n).sum) * ps.sum := Int.mul_le_mul_of_nonneg_right (by omega) (Int.le_of_lt hT)
    rw [Int.add_mul, Int.sub_mul, Int.one_mul] at h4
    omega
  have T := tieF_ok (q := fun i => decide (m ≤ (rmd ps n).getD i 0)) (Int.le_of_lt hlt) (Nat.le_of_eq (List.length_map ..).symm : ps.length ≤ (flr ps n).length)
  have TL := tieF_len (fun i => decide (m ≤ (rmd ps n).getD i 0)) n (flr ps n) ps.length
  generalize tieF (fun i => decide (m ≤ (rmd ps n).getD i 0)) n (flr ps n) ps.length = a at *
  have cq : (((List.range ps.length).filter fun i => decide (m ≤ (rmd ps n).getD i 0)).length : Int) = (((rmd ps n).filter fun w => decide (m ≤ w)).length : Int) := by
    have := cnt_idx (fun w => decide (m ≤ w)) (rmd ps n)
    rw [show (rmd ps n).length = ps.length from List.length_map ..] at this
    rw [this]
    generalize rmd ps n = r
    induction r with
    | nil => rfl
    | cons x r ih =>
      rw [List.map_cons, List.sum_cons, ih, List.filter_cons]
      split <;> simp <;> omega
  have sum : a.sum = n := by
    rcases T.sum with h | h
    · exact h
    · have := T.low
      omega
  refine ⟨by rw [TL]; exact List.length_map .., sum, fun i hi => ?_, fun i hi => ?_⟩
  · rw [sum]
    have := fdiv_facts (x := ps.getD i 0 * (n : Int)) hT
    rcases T.cases i with h | ⟨h, x, _⟩
    · rw [h, flr_getD hi]; omega
    · rw [h, flr_getD hi, Int.add_mul]; omega
  · rw [sum]
    have := fdiv_facts (x := ps.getD i 0 * (n : Int)) hT
    rcases T.cases i with h | ⟨h, x, _⟩
    · rw [h, flr_getD hi]; omega
    · rw [decide_eq_true_eq, rmd_getD hi] at x
      rw [h, flr_getD hi, Int.add_mul]; omega
local macro_rules | `(tactic| walk_at "exec While Compare cons nil") => `(tactic| refine stop ?_)
local macro_rules | `(tactic| walk_at "exec For Name Name cons nil") => `(tactic| refine stop ?_)
local macro_rules | `(tactic| walk_at "exec For Name Call cons nil") => `(tactic| refine stop ?_)
local macro_rules | `(tactic| walk_at "exec Assign cons ListComp") => `(tactic| refine stop ?_)
local macro_rules | `(tactic| walk_at "eval ListComp") => `(tactic| refine stop ?_)
local macro_rules | `(tactic| walk_at "CompSrc") => `(tactic| refine stop ?_)
local macro_rules | `(tactic| walk_at "CompSrcT") => `(tactic| refine stop ?_)
local macro_rules | `(tactic| walk_at "pyIter ref") => `(tactic| refine stop ?_)
local macro_rules | `(tactic| walk_at "InvEndN") => `(tactic| refine stop ?_)
local macro_rules | `(tactic| walk_at "KswEnd") => `(tactic| refine stop ?_)
local macro_rules | `(tactic| walk_at "CompEnd") => `(tactic| refine stop ?_)
local macro_rules | `(tactic| walk_at "binaryOp FloorDiv int int") => `(tactic| (refine floordiv_int ?hb ?_ ?hp; (case hb => omega); (case hp => exact Or.inr (room_of (by assumption) (PyProof.Rows.Top.nolimit (by assumption)) (by assumption) (by assumption) (by rfl) (by rfl) (by (((have e100 : Builtin.pylongFrames = 100 := rfl); (have e1000 : recursionLimit = 1000 := rfl); (simp only [depth_deeper, depth_in1, depth_under_kw, depth_under_make] at *); (dsimp only [ktrTop] at *); omega))) (by rfl) (by rfl) (by rfl) (by rfl)))))
local macro_rules | `(tactic| walk_at "binaryOp Mult int int") => `(tactic| refine mul_int ?_ (by assumption))
local macro_rules | `(tactic| walk_at "call type:range") => `(tactic| ((rename Fr _ _ _ _ => F'); (rename News _ _ _ _ => N'); first | (with_unfolding_all refine range1_rows F' N' ?_; intro _ _ _ _ _ _ _ _ _) | (with_unfolding_all refine range2_rows F' N' ?_; intro _ _ _ _ _ _ _ _ _)))
local macro_rules | `(tactic| walk_at "exec Raise some none") => `(tactic| refine Raise_new rfl ?_)
local macro_rules | `(tactic| walk_at "storeName") => `(tactic| (k_here; k_dflt (refine' storeM ?F ?N ?_ ?a ?b; (case F => k_asm); (case N => k_asm); (case a => rfl); (case b => rfl); k_whole); intro h' F' N'; (try k_sweep)))
local macro_rules | `(tactic| omega) => `(tactic| first | (with_reducible first | assumption | (simp (disch := assumption) only [ne_eq, not_false_eq_true, oms, oma, omt]; done)) | ((repeat ((rename @Ne Nat _ _ => h); clear h)); omega (config := {})) | omega (config := {}))
local macro_rules | `(tactic| k_ne) => `(tactic| first | assumption | (refine Ne.symm ?_; assumption) | (refine neN ?_; (try dsimp only); omega))

section
theorem prodInc_bd {rs : List Int} (h : ∀ r ∈ rs, 0 ≤ r ∧ r ≤ 20) (hl : rs.length ≤ 8) : 0 < prodInc rs ∧ prodInc rs < 1000000000000 := by
  refine ⟨prodInc_pos fun x hx => (h x hx).1, ?_⟩
  have h1 := prodInc_le h
  have h2 : (21 : Int) ^ rs.length ≤ 21 ^ 8 := by
    have := Nat.pow_le_pow_right (n := 21) (by decide) hl
    exact_mod_cast this
  have h3 : (21 : Int) ^ 8 < 1000000000000 := by decide
  omega
abbrev QSt := List Value × List Int × Nat × Obj × Obj × Obj × Obj
theorem quota_ok {w : World} {loose : List Str} {mean : ExcName → Option Value} {mg mb : Str → Option Value} {dp un : Nat} {gd : Option (List Code)} {cn : Str} {cs : Scope} {a : Addr} {ccd : Value} {cl : List (Str × Addr)} {outer : List Env} {A₀ : Around} {base h₀ : Heap} {L : Addr} {m : Str → Option Value} {s : Shared} {Q E : Value → Shared → Prop}
  {lv : Addr} {vs : List Value} {ns : List Int} {k : Int} {t : Tok} {args : List Value}
  (hB : Below A₀ base outer h₀) (hF : Fr h₀ L s.heap m) (hX : (hd.heap_39 w.params).In h₀) (hT : Top hd.view_39 loose mean mg mb h₀) (hk : cs.kind = .function)
  (hdp : dp + 150 < recursionLimit) (hun : un + 30 < cLine)
  (hl : s.heap.IsList lv vs.toArray) (hi : IntsAre vs ns) (hlen : ns.length ≤ 8) (hn0 : 0 < ns.length) (hpos : ∀ x ∈ ns, 0 ≤ x) (hsum : 0 < ns.sum) (hk0 : 0 ≤ k) (hk8 : k ≤ 20)
  (hbind : Bd (hd.heap_39 w.params) 74 s args [(Str.ofString "votes", .ref lv), (Str.ofString "seats", .int k t), (Str.ofString "tiesallowed", .bool true)])
  (ret : ∀ (r : Addr) (rv : List Value) (rs : List Int) (cap : Nat) (h' : Heap) (tk' : Nat), (∀ b o, s.heap.get? b = some o → h'.get? b = some o) → s.heap.get? r = none → h'.get? r = some (listOf rv.toArray cap) → IntsAre rv rs → QR ns k.toNat rs → Q (.ref r) { s with heap := h', toks := tk' }) :
  wpAny (model PySem.Challenge.rw_jd0003_02.row.prog w) (ktrTop dp un gd cn cs L a ccd cl outer) (call (.ref 74) args) Q E s := by
  ((w_top off); (have hfill : PySem.Challenge.rw_jd0003_02.row.prog = PySem.Challenge.rw_jd0003_02.row.prog ∧ hd.heap_39 = hd.heap_39 := (by k_fill; exact ⟨rfl, rfl⟩); clear hfill))
  refine wpAny_call ?_
  k_dflt (((refine' enterC ?k1Z ?k2Z ?k3Z ?k5Z ?kAZ ?kFZ ?kKZ ?k6Z ?k7Z ?k8Z ?k9Z ?kBZ ?kDZ ?_ ?c2Z ?c3Z ?c4Z; (case kAZ => exact rfl); (case kFZ => exact rfl); (case kKZ => assumption); (case k1Z => k_asm); (case k2Z => k_asm); (case k3Z => k_asm); (case k5Z => k_asm); (case k6Z => k_is); (case k7Z => k_is); (case k8Z => ktr_room); (case k9Z => first | exact Bd.at (by assumption) (by k_is) | exact BindsTo.of_eq rfl | exact binds_K (by k_in) rfl (by k_is) rfl rfl rfl); (case kBZ => exact rfl); (case kDZ => decide +kernel); (case c2Z => exact rfl); (case c3Z => exact rfl); (case c4Z => exact rfl); k_whole; intro _ _ _ _ _ _ _ _ _ _; (rename CellsAre _ _ _ => Y'); k_cells Y'; (rename News _ _ _ _ => N'); (try simp only [List.cons_append, List.nil_append] at N'); revert N'; intro _; (try dsimp only))))
  clear hF hB hX hT
  have hseer : s.heap.NoSeer := Top.seer (by assumption) (by decide +kernel)
  (try k_unmd); (try k_fold)
  (repeat' (first | ((fail_if_success (with_reducible show Stop _)); (first | ((with_reducible show wpAny _ _ (exec _ _) _ _ _); refine cut ?_; intro _ _; walk1) | ((rename Cont _ _ => cq); refine' resume cq ?_; clear cq; (try ((rename (Flow → Shared → Prop) => qq); clear qq)); (try dsimp only)) | (k_unfold; (try dsimp only)) | walk1 | (dsimp only; walk1)))))
  rename_i L' hh3 tk0 B' X' T' oM oU oQ oC oR0 oV d1 d2 d3 d4 d5 d6 lz hz lt1 D' hD iD n1 s1 e1 e2 e3 lt2 hW oR F' N' dR qz cz
  unfold Stop
  have dV : oV.data = .cell (some (.ref lv)) := d6
  refine ksw_while (σ := QSt) (fun c => [(D', listOf c.1.toArray c.2.2.1), (L' + 1 + 1 + 1 + 1 + 1 + 1, c.2.2.2.2.2.2), (L' + 1 + 1 + 1 + 1 + 1, c.2.2.2.2.2.1), (L' + 1 + 1 + 1 + 1, c.2.2.2.2.1), (L' + 1 + 1 + 1, c.2.2.2.1), (L' + 1 + 1, oR), (L' + 1, oV)])
    (fun _ => []) (fun c => IntsAre c.1 c.2.1 ∧ (∃ v, c.2.2.2.1.data = .cell v) ∧ (∃ v, c.2.2.2.2.1.data = .cell v) ∧ (∃ v, c.2.2.2.2.2.1.data = .cell v) ∧ (∃ v, c.2.2.2.2.2.2.data = .cell v)) [Str.ofString "r", Str.ofString "maxquotas", Str.ofString "nextrep"]
    (fun c => ∃ j : Nat, QR ns j c.2.1 ∧ (j : Int) ≤ k) (fun c => (k - c.2.1.sum).toNat)
    ((List.replicate (ns.length : Int).toNat [Value.int 0 tk0]).flatten, (List.replicate (ns.length : Int).toNat [(0 : Int)]).flatten, 0, oC, oQ, oU, oM) F' ?hn ⟨iD, ⟨_, d4⟩, ⟨_, d3⟩, ⟨_, d2⟩, ⟨_, d1⟩⟩ (fun _ h => nomatch h) ?hp ?turn
  case hn => exact fun p hp => N' p (by simp only [List.mem_cons, List.not_mem_nil, or_false] at hp ⊢; rcases hp with h | h | h | h | h | h | h <;> simp [h])
  case hp => exact ⟨0, by have z := QR.zero (ns := ns); simpa using z, hk0⟩
  clear F' N' iD s1 e1 e2 e3 d1 d2 d3 d4 d5 d6
  rintro ⟨rv, rs, cap, oC, oQ, oU, oM⟩ u h tk ⟨hri, ⟨vC, hC⟩, ⟨vQ, hQ⟩, ⟨vU, hU⟩, ⟨vM, hM⟩⟩ ⟨j, hj, hjk⟩ hFr hNw
  dsimp only at *
  (repeat' (first | ((fail_if_success (with_reducible show Stop _)); (first | ((with_reducible show wpAny _ _ (exec _ _) _ _ _); refine cut ?_; intro _ _; walk1) | ((rename Cont _ _ => cq); refine' resume cq ?_; clear cq; (try ((rename (Flow → Shared → Prop) => qq); clear qq)); (try dsimp only)) | (k_unfold; (try dsimp only)) | walk1 | (dsimp only; walk1)))))
  rotate_left
  · rename_i F9 N9 hge
    have hjs := hj.sum
    have ejk : j = k.toNat := by omega
    exact ret D' rv rs cap _ _ F9.keep (N9 _ (.head _)).2.2 (N9 _ (.head _)).1 hri (ejk ▸ hj)
  have hrs : ∀ r ∈ rs, 0 ≤ r ∧ r ≤ 20 := fun r hr => by
    obtain ⟨i, hi, e⟩ := List.mem_iff_getElem.mp hr
    have a1 := hj.nonneg i
    have a2 := hj.le i
    rw [List.getD_eq_getElem?_getD, List.getElem?_eq_getElem hi, e] at a1 a2
    simp only [Option.getD_some] at a1 a2
    omega
  have hrl : rs.length = ns.length := hj.len
  have hp1 : 0 < prodInc rs ∧ prodInc rs < 1000000000000 := prodInc_bd hrs (by omega)
  have hrg : ∀ i : Nat, 0 ≤ rs.getD i 0 ∧ rs.getD i 0 ≤ 20 := fun i => ⟨hj.nonneg i, Int.le_trans (hj.le i) (by omega)⟩
  have hrsum : 0 ≤ rs.sum ∧ rs.sum ≤ 20 := by rw [hj.sum]; omega
  rename_i hh1 tk1 t1 hlt hh2 oC2 F2 N2 dC2 qz2 cz2
  unfold Stop
  refine For_invVF F2 (by rfl) (by rfl) ?_
  (repeat' (first | ((fail_if_success (with_reducible show Stop _)); (first | ((with_reducible show wpAny _ _ (exec _ _) _ _ _); refine cut ?_; intro _ _; walk1) | ((rename Cont _ _ => cq); refine' resume cq ?_; clear cq; (try ((rename (Flow → Shared → Prop) => qq); clear qq)); (try dsimp only)) | (k_unfold; (try dsimp only)) | walk1 | (dsimp only; walk1)))))
  unfold Stop
  refine kst_listL (σ := Obj) (fun c => [(D', listOf rv.toArray cap), (L' + 1 + 1 + 1 + 1 + 1 + 1, oM), (L' + 1 + 1 + 1 + 1 + 1, oU), (L' + 1 + 1 + 1 + 1, oQ), (L' + 1 + 1 + 1, c), (L' + 1 + 1, oR), (L' + 1, oV)])
    (fun _ => []) (fun _ => True) [] (fun pre c => ∃ t, c.data = .cell (some (.int (prodInc pre) t))) oC2 (by rfl) (fun c => List.Mem.head _) hri F2 N2 trivial (fun _ h => nomatch h) ⟨_, dC2⟩ ?turn1 ?done1
  case turn1 =>
    intro c pre post r tr u1 h1 tk1 own hpre hmem hoff _ hP F3 N3
    obtain ⟨tc, dc⟩ := hP
    have hr := hrs r hmem
    dsimp only [List.map, List.cons_append, List.nil_append] at *
    refine Mine.cut ?_; intro _ _
    (repeat' (first | ((fail_if_success (with_reducible show Stop _)); (first | ((with_reducible show wpAny _ _ (exec _ _) _ _ _); refine cut ?_; intro _ _; walk1) | ((rename Cont _ _ => cq); refine' resume cq ?_; clear cq; (try ((rename (Flow → Shared → Prop) => qq); clear qq)); (try dsimp only)) | (k_unfold; (try dsimp only)) | walk1 | (dsimp only; walk1)))))
    rename_i _ hh4 oC4 F4 N4 dC4
    unfold Stop
    exact kst_end oC4 F4 N4 (fun p hp => List.mem_append_left own hp) (fun p hp => List.mem_append_right [_, _, _, _, _, _, _] hp) rfl trivial (fun _ h => nomatch h) (by ((intro z h1 _ _; (show (if z = _ then _ else _) = _); rw [if_neg h1]; rfl))) ⟨_, by rw [dC4, prodInc_snoc]⟩
  case done1 =>
    intro c u1 h1 tk1 _ hP F3 N3
    obtain ⟨tc, dc⟩ := hP
    dsimp only at *
    (repeat' (first | ((fail_if_success (with_reducible show Stop _)); (first | ((with_reducible show wpAny _ _ (exec _ _) _ _ _); refine cut ?_; intro _ _; walk1) | ((rename Cont _ _ => cq); refine' resume cq ?_; clear cq; (try ((rename (Flow → Shared → Prop) => qq); clear qq)); (try dsimp only)) | (k_unfold; (try dsimp only)) | walk1 | (dsimp only; walk1)))))
    unfold Stop
    refine wpAny_Assign_Name ?_
    (repeat' (first | ((fail_if_success (with_reducible show Stop _)); (first | ((with_reducible show wpAny _ _ (exec _ _) _ _ _); refine cut ?_; intro _ _; walk1) | ((rename Cont _ _ => cq); refine' resume cq ?_; clear cq; (try ((rename (Flow → Shared → Prop) => qq); clear qq)); (try dsimp only)) | (k_unfold; (try dsimp only)) | walk1 | (dsimp only; walk1)))))
    unfold Stop
    (k_dflt (refine' LCg.ListComp_U ?FZ ?clZ ?ceZ ?kiZ ?naZ ?hxZ ?_; (case kiZ => rfl); (case FZ => k_asm); (case ceZ => decide); (case clZ => with_unfolding_all rfl); (case naZ => decide); (case hxZ => rfl)))
    (repeat' (first | ((fail_if_success (with_reducible show Stop _)); (first | ((with_reducible show wpAny _ _ (exec _ _) _ _ _); refine cut ?_; intro _ _; walk1) | ((rename Cont _ _ => cq); refine' resume cq ?_; clear cq; (try ((rename (Flow → Shared → Prop) => qq); clear qq)); (try dsimp only)) | (k_unfold; (try dsimp only)) | walk1 | (dsimp only; walk1)))))
    unfold Stop
    (((rename IsRange _ _ _ _ _ _ _ _ => hR); (rename Fr _ _ _ _ => hF); (rename News _ _ _ _ => hN); refine LCg.CompSrc.range (by rfl) hF hN hR (small_one (by omega) (by omega) (by omega) (by omega)) (rsz _) (by rw [PySem.sizeLine_eq]; omega) ?_; clear hF hN; intro g9))
    refine kcf_range (fun i => (ns.getD i.toNat 0 * prodInc rs).fdiv (rs.getD i.toNat 0 + 1)) ?t2 ?d2
    case t2 =>
      intro i ti I oI C oC D m₂ ys hh tk E' hlo hhi hC hx hF hN off ne mk
      simp only [LCg.Off3, and_true] at off
      have hri := hrg i.toNat
      refine Mine.cut ?_; intro _ _
      (repeat' (first | ((fail_if_success (with_reducible show Stop _)); (first | ((with_reducible show wpAny _ _ (exec _ _) _ _ _); refine cut ?_; intro _ _; walk1) | ((rename Cont _ _ => cq); refine' resume cq ?_; clear cq; (try ((rename (Flow → Shared → Prop) => qq); clear qq)); (try dsimp only)) | (k_unfold; (try dsimp only)) | walk1 | (dsimp only; walk1)))))
      unfold Stop
      exact LCg.CompEnd.intro (by assumption) (by assumption) _ (by kcf_all) (by first | (simp only [LCg.Off3, and_true]; assumption)) trivial ⟨rfl, _, rfl⟩
    case d2 =>
      intro ys hys
      obtain ⟨qs, hqs⟩ : ∃ qs, qs = List.map (fun i => (ns.getD i.toNat 0 * prodInc rs).fdiv (rs.getD i.toNat 0 + 1)) (rangeKs 0 ns.length) := ⟨_, rfl⟩
      rw [← hqs] at hys
      have hql : qs.length = ns.length := by rw [hqs]; simp [rangeKs_length]
      unfold LCg.FinE
      intro D2 h2 tk2 F2 N2 o2
      simp only [LCg.Off1, and_true] at o2
      (repeat (obtain ⟨_, o2⟩ := o2))
      (repeat' (first | ((fail_if_success (with_reducible show Stop _)); (first | ((with_reducible show wpAny _ _ (exec _ _) _ _ _); refine cut ?_; intro _ _; walk1) | ((rename Cont _ _ => cq); refine' resume cq ?_; clear cq; (try ((rename (Flow → Shared → Prop) => qq); clear qq)); (try dsimp only)) | (k_unfold; (try dsimp only)) | walk1 | (dsimp only; walk1)))))
      (try (rotate_left; (exfalso; omega)))
      unfold Stop
      refine wpAny_Assign_Name ?_
      (repeat' (first | ((fail_if_success (with_reducible show Stop _)); (first | ((with_reducible show wpAny _ _ (exec _ _) _ _ _); refine cut ?_; intro _ _; walk1) | ((rename Cont _ _ => cq); refine' resume cq ?_; clear cq; (try ((rename (Flow → Shared → Prop) => qq); clear qq)); (try dsimp only)) | (k_unfold; (try dsimp only)) | walk1 | (dsimp only; walk1)))))
      unfold Stop
      (k_dflt (refine' LCg.ListComp_U ?FZ ?clZ ?ceZ ?kiZ ?naZ ?hxZ ?_; (case kiZ => rfl); (case FZ => k_asm); (case ceZ => decide); (case clZ => with_unfolding_all rfl); (case naZ => decide); (case hxZ => rfl)))
      (repeat' (first | ((fail_if_success (with_reducible show Stop _)); (first | ((with_reducible show wpAny _ _ (exec _ _) _ _ _); refine cut ?_; intro _ _; walk1) | ((rename Cont _ _ => cq); refine' resume cq ?_; clear cq; (try ((rename (Flow → Shared → Prop) => qq); clear qq)); (try dsimp only)) | (k_unfold; (try dsimp only)) | walk1 | (dsimp only; walk1)))))
      unfold Stop
      (((rename Fr _ _ _ _ => hF); (rename News _ _ _ _ => hN); refine LCg.CompSrc.base (by rfl) hF hN (by assumption) (by size_fits) ?_; clear hF hN; intro g9))
      refine kcf_list (fun p => -(((-p) * (rs.sum + 1)).fdiv ns.sum)) hi ?t3 ?d3
      case t3 =>
        intro i ti I oI C oC D m₂ ys hh tk E' hmem hC hx hF hN off ne mk
        simp only [LCg.Off3, and_true] at off
        refine Mine.cut ?_; intro _ _
        (repeat' (first | ((fail_if_success (with_reducible show Stop _)); (first | ((with_reducible show wpAny _ _ (exec _ _) _ _ _); refine cut ?_; intro _ _; walk1) | ((rename Cont _ _ => cq); refine' resume cq ?_; clear cq; (try ((rename (Flow → Shared → Prop) => qq); clear qq)); (try dsimp only)) | (k_unfold; (try dsimp only)) | walk1 | (dsimp only; walk1)))))
        unfold Stop
        exact LCg.CompEnd.intro (by assumption) (by assumption) _ (by kcf_all) (by first | (simp only [LCg.Off3, and_true]; assumption)) (Or.inl (by assumption)) ⟨rfl, _, rfl⟩
      case d3 =>
        intro ys3 hys3
        obtain ⟨us, hus⟩ : ∃ us, us = List.map (fun p => -(((-p) * (rs.sum + 1)).fdiv ns.sum)) ns := ⟨_, rfl⟩
        rw [← hus] at hys3
        have hul : us.length = ns.length := by rw [hus]; simp
        unfold LCg.FinE
        intro D3 h3 tk3 F3 N3 o3
        simp only [LCg.Off1, and_true] at o3
        (repeat (obtain ⟨_, o3⟩ := o3))
        (repeat' (first | ((fail_if_success (with_reducible show Stop _)); (first | ((with_reducible show wpAny _ _ (exec _ _) _ _ _); refine cut ?_; intro _ _; walk1) | ((rename Cont _ _ => cq); refine' resume cq ?_; clear cq; (try ((rename (Flow → Shared → Prop) => qq); clear qq)); (try dsimp only)) | (k_unfold; (try dsimp only)) | walk1 | (dsimp only; walk1)))))
        unfold Stop
        refine wpAny_Assign_Name ?_
        (repeat' (first | ((fail_if_success (with_reducible show Stop _)); (first | ((with_reducible show wpAny _ _ (exec _ _) _ _ _); refine cut ?_; intro _ _; walk1) | ((rename Cont _ _ => cq); refine' resume cq ?_; clear cq; (try ((rename (Flow → Shared → Prop) => qq); clear qq)); (try dsimp only)) | (k_unfold; (try dsimp only)) | walk1 | (dsimp only; walk1)))))
        unfold Stop
        (k_dflt (refine' LCg.ListComp_U ?FZ ?clZ ?ceZ ?kiZ ?naZ ?hxZ ?_; (case kiZ => rfl); (case FZ => k_asm); (case ceZ => decide); (case clZ => with_unfolding_all rfl); (case naZ => decide); (case hxZ => rfl)))
        (repeat' (first | ((fail_if_success (with_reducible show Stop _)); (first | ((with_reducible show wpAny _ _ (exec _ _) _ _ _); refine cut ?_; intro _ _; walk1) | ((rename Cont _ _ => cq); refine' resume cq ?_; clear cq; (try ((rename (Flow → Shared → Prop) => qq); clear qq)); (try dsimp only)) | (k_unfold; (try dsimp only)) | walk1 | (dsimp only; walk1)))))
        unfold Stop
        (((rename IsRange _ _ _ _ _ _ _ _ => hR); (rename Fr _ _ _ _ => hF); (rename News _ _ _ _ => hN); refine LCg.CompSrc.range (by rfl) hF hN hR (small_one (by omega) (by omega) (by omega) (by omega)) (rsz _) (by rw [PySem.sizeLine_eq]; omega) ?_; clear hF hN; intro g9))
        refine kcf_range (fun i => if us.getD i.toNat 0 ≤ rs.getD i.toNat 0 then 0 else qs.getD i.toNat 0) ?t4 ?d4
        case t4 =>
          intro i ti I oI C oC D m₂ ys hh tk E' hlo hhi hC hx hF hN off ne mk
          simp only [LCg.Off3, and_true] at off
          refine Mine.cut ?_; intro _ _
          (repeat' (first | ((fail_if_success (with_reducible show Stop _)); (first | ((with_reducible show wpAny _ _ (exec _ _) _ _ _); refine cut ?_; intro _ _; walk1) | ((rename Cont _ _ => cq); refine' resume cq ?_; clear cq; (try ((rename (Flow → Shared → Prop) => qq); clear qq)); (try dsimp only)) | (k_unfold; (try dsimp only)) | walk1 | (dsimp only; walk1)))))
          all_goals (unfold Stop; refine LCg.CompEnd.intro (by assumption) (by assumption) _ (by kcf_all) (by first | (simp only [LCg.Off3, and_true]; assumption)) trivial ⟨rfl, ?_⟩)
          · exact ⟨_, by rw [if_pos (by omega)]⟩
          · exact ⟨_, by rw [if_neg (by omega)]⟩
        case d4 =>
          intro ys4 hys4
          obtain ⟨q2, hq2⟩ : ∃ q2, q2 = List.map (fun i => if us.getD i.toNat 0 ≤ rs.getD i.toNat 0 then 0 else qs.getD i.toNat 0) (rangeKs 0 ns.length) := ⟨_, rfl⟩
          rw [← hq2] at hys4
          have hq2l : q2.length = ns.length := by rw [hq2]; simp [rangeKs_length]
          unfold LCg.FinE
          intro D4 h4 tk4 F4 N4 o4
          simp only [LCg.Off1, and_true] at o4
          (repeat (obtain ⟨_, o4⟩ := o4))
          (repeat' (first | ((fail_if_success (with_reducible show Stop _)); (first | ((with_reducible show wpAny _ _ (exec _ _) _ _ _); refine cut ?_; intro _ _; walk1) | ((rename Cont _ _ => cq); refine' resume cq ?_; clear cq; (try ((rename (Flow → Shared → Prop) => qq); clear qq)); (try dsimp only)) | (k_unfold; (try dsimp only)) | walk1 | (dsimp only; walk1)))))
          unfold Stop
          (k_dflt (refine' LCt.Assign_ListComp_T ?FZ ?eZ ?swZ ?clZ ?ceZ ?kiZ ?naZ ?hxZ ?hyZ ?hpZ ?_; (case hyZ => rfl); (case FZ => k_asm); (case eZ => exact rfl); (case swZ => with_unfolding_all rfl); (case clZ => with_unfolding_all rfl); (case ceZ => decide); (case kiZ => rfl); (case naZ => decide); (case hxZ => rfl); (case hpZ => rfl)))
          (repeat' (first | ((fail_if_success (with_reducible show Stop _)); (first | ((with_reducible show wpAny _ _ (exec _ _) _ _ _); refine cut ?_; intro _ _; walk1) | ((rename Cont _ _ => cq); refine' resume cq ?_; clear cq; (try ((rename (Flow → Shared → Prop) => qq); clear qq)); (try dsimp only)) | (k_unfold; (try dsimp only)) | walk1 | (dsimp only; walk1)))))
          unfold Stop
          rename Int => M
          rename (M ∈ q2) => hMq
          rename (∀ a, a ∈ q2 → a ≤ M) => hMx
          (((rename IsRange _ _ _ _ _ _ _ _ => hR); (rename Fr _ _ _ _ => hF); (rename News _ _ _ _ => hN); refine LCt.CompSrcT.range (by rfl) hF hN hR (small_one (by omega) (by omega) (by omega) (by omega)) (rsz _) (by rw [PySem.sizeLine_eq]; omega) ?_; clear hF hN; intro g9))
          refine kci_range (fun l i => if q2.getD i.toNat 0 = M then l ++ [i] else l) ?t5 ?d5 ?g5
          case g5 => intro l i; dsimp only; split <;> simp
          case t5 =>
            intro i ti I oI C oC D m₂ ys l hh tk E' hlo hhi hys hC hx hF hN off ne mk
            simp only [LCg.Off3, and_true] at off
            refine Mine.cut ?_; intro _ _
            (repeat' (first | ((fail_if_success (with_reducible show Stop _)); (first | ((with_reducible show wpAny _ _ (exec _ _) _ _ _); refine cut ?_; intro _ _; walk1) | ((rename Cont _ _ => cq); refine' resume cq ?_; clear cq; (try ((rename (Flow → Shared → Prop) => qq); clear qq)); (try dsimp only)) | (k_unfold; (try dsimp only)) | walk1 | (dsimp only; walk1)))))
            all_goals (unfold Stop; refine LCg.CompEnd.intro (by assumption) (by assumption) _ (by kcf_all) (by first | (simp only [LCg.Off3, and_true]; assumption)) trivial ?_)
            · exact ⟨rfl, i, ti, rfl, by rw [if_pos (by omega)]⟩
            · exact ⟨rfl, by rw [if_neg (by omega)]⟩
          case d5 =>
            intro ys5 hys5 hy5l
            obtain ⟨mqs, hmqs⟩ : ∃ mqs, mqs = List.foldl (fun l i => if q2.getD i.toNat 0 = M then l ++ [i] else l) [] (rangeKs 0 ns.length) := ⟨_, rfl⟩
            rw [← hmqs] at hys5
            obtain ⟨hmq0, hmq1, hnx⟩ := step_next hj hpos hsum hqs hus hq2 hMq hMx hmqs
            have hmqi : 0 ≤ mqs.getD (Int.toNat 0) 0 ∧ mqs.getD (Int.toNat 0) 0 < rs.length := by have := hnx.lt; omega
            clear hmqs hq2 hqs hus hMq hMx
            unfold LCg.FinA
            intro D5 h5 tk5 F5 N5 o5
            simp only [LCg.Off1, and_true] at o5
            (repeat (obtain ⟨_, o5⟩ := o5))
            (repeat' (first | ((fail_if_success (with_reducible show Stop _)); (first | ((with_reducible show wpAny _ _ (exec _ _) _ _ _); refine cut ?_; intro _ _; walk1) | ((rename Cont _ _ => cq); refine' resume cq ?_; clear cq; (try ((rename (Flow → Shared → Prop) => qq); clear qq)); (try dsimp only)) | (k_unfold; (try dsimp only)) | walk1 | (dsimp only; walk1)))))
            unfold Stop
            rename_i hi9 hl9 hs9
            have hjs := hj.sum
            have hq9 := QR.succ hj hnx
            have hs10 := hq9.sum
            refine ksw_end (σ := QSt) (_, _, _, _, _, _, _) (by assumption) (by assumption) (by (first | kst_in | kst_inAny | (intro p hp; kst_mem) | kst_anyIn)) ⟨hi9, ⟨_, by assumption⟩, ⟨_, by assumption⟩, ⟨_, by assumption⟩, ⟨_, by assumption⟩⟩ (fun _ h => nomatch h) ?same ⟨j + 1, hq9, by omega⟩ (by dsimp only; omega)
            case same => (intro z _ h3; have h4 := h3; simp only [List.contains_cons, List.contains_nil, Bool.or_false, Bool.or_eq_false_iff, beq_eq_false_iff_ne, ne_eq] at h4; obtain ⟨a1, a2, a3⟩ := h4; dsimp only [mset]; rw [if_neg a3, if_neg a2, if_neg a1]; exact if_neg (by rw [h3]; decide))

theorem quota_use {w : World} {loose : List Str} {mean : ExcName → Option Value} {mg mb : Str → Option Value} {dp un : Nat} {gd : Option (List Code)} {cn : Str} {cs : Scope} {a : Addr} {ccd : Value} {cl : List (Str × Addr)} {outer : List Env} {A₀ : Around} {base h₀ : Heap} {L : Addr} {m : Str → Option Value} {s : Shared} {Q E : Value → Shared → Prop}
  {lv : Addr} {vs : List Value} {ns : List Int} {k : Int} {t : Tok} {args : List Value} {news : List (Addr × Obj)} {c : Nat}
  (hB : Below A₀ base outer h₀) (hF : Fr h₀ L s.heap m) (hX : (hd.heap_39 w.params).In h₀) (hT : Top hd.view_39 loose mean mg mb h₀) (hN : News h₀ L s.heap news) (hk : cs.kind = .function)
  (hdp : dp + 150 < recursionLimit) (hun : un + 30 < cLine)
  (hm : (lv, listOf vs.toArray c) ∈ news) (hi : IntsAre vs ns) (hlen : ns.length ≤ 8) (hn0 : 0 < ns.length) (hpos : ∀ x ∈ ns, 0 ≤ x) (hsum : 0 < ns.sum) (hk0 : 0 ≤ k) (hk8 : k ≤ 20)
  (hbind : Bd (hd.heap_39 w.params) 74 s args [(Str.ofString "votes", .ref lv), (Str.ofString "seats", .int k t), (Str.ofString "tiesallowed", .bool true)])
  (ret : ∀ (r : Addr) (rv : List Value) (rs : List Int) (cap : Nat) (h' : Heap) (tk' : Nat), Fr h₀ L h' m → News h₀ L h' ((r, listOf rv.toArray cap) :: news) → LCg.Off1 r news → IntsAre rv rs → QR ns k.toNat rs → Q (.ref r) { s with heap := h', toks := tk' }) :
  wpAny (model PySem.Challenge.rw_jd0003_02.row.prog w) (ktrTop dp un gd cn cs L a ccd cl outer) (call (.ref 74) args) Q E s := by
  refine quota_ok hB hF hX hT hk hdp hun ⟨_, (hN _ hm).1, rfl, c, rfl⟩ hi hlen hn0 hpos hsum hk0 hk8 hbind fun r rv rs cap h' tk' keep fresh get hri hq => ?_
  refine ret r rv rs cap h' tk' (hF.keeps keep) ?_ ?_ hri hq
  · intro p hp
    rcases List.mem_cons.mp hp with rfl | hp
    · refine ⟨get, fun e => ?_, ?_⟩
      · obtain ⟨oL, _, _, hL, _⟩ := hF.ns
        have e' : r = L := e
        rw [e', hL] at fresh; cases fresh
      · cases q : h₀.get? r with
        | none => rfl
        | some o => have := hF.keep _ _ q; rw [fresh] at this; cases this
    · exact ⟨keep _ _ (hN p hp).1, (hN p hp).2⟩
  · clear ret hm
    induction news with
    | nil => trivial
    | cons p news ih =>
      refine ⟨fun e => ?_, ih fun q hq => hN q (.tail _ hq)⟩
      have h1 := (hN p (.head _)).1
      have e' : p.1 = r := e
      rw [e', fresh] at h1; cases h1
end

section
def wF (ns rs : List Int) (i : Int) : Bool := decide (rs.getD i.toNat 0 ≤ -(((-ns.getD i.toNat 0) * rs.sum).fdiv ns.sum)) && decide ((ns.getD i.toNat 0 * rs.sum).fdiv ns.sum ≤ rs.getD i.toNat 0)
theorem all_snoc (f : Int → Bool) (l : List Int) (x : Int) : (l ++ [x]).all f = (l.all f && f x) := by simp [List.all_append]
theorem within_ok {w : World} {loose : List Str} {mean : ExcName → Option Value} {mg mb : Str → Option Value} {dp un : Nat} {gd : Option (List Code)} {cn : Str} {cs : Scope} {a : Addr} {ccd : Value} {cl : List (Str × Addr)} {outer : List Env} {A₀ : Around} {base h₀ : Heap} {L : Addr} {m : Str → Option Value} {s : Shared} {Q E : Value → Shared → Prop}
  {lv lw : Addr} {vs ws : List Value} {ns rs : List Int}
  (hB : Below A₀ base outer h₀) (hF : Fr h₀ L s.heap m) (hX : (hd.heap_39 w.params).In h₀) (hT : Top hd.view_39 loose mean mg mb h₀) (hk : cs.kind = .function)
  (hdp : dp + 150 < recursionLimit) (hun : un + 30 < cLine)
  (hl : s.heap.IsList lv vs.toArray) (hi : IntsAre vs ns) (hl2 : s.heap.IsList lw ws.toArray) (hi2 : IntsAre ws rs) (hlen : ns.length ≤ 8) (hn0 : 0 < ns.length) (hrl : rs.length = ns.length) (hsum : 0 < ns.sum)
  (hmul : ∀ i, IntMulOk (-ns.getD i 0) rs.sum ∧ IntMulOk (ns.getD i 0) rs.sum)
  (ret : ∀ (h' : Heap) (tk' : Nat), (∀ b o, s.heap.get? b = some o → h'.get? b = some o) → Q (.bool ((rangeKs 0 ns.length).all (wF ns rs))) { s with heap := h', toks := tk' }) :
  wpAny (model PySem.Challenge.rw_jd0003_02.row.prog w) (ktrTop dp un gd cn cs L a ccd cl outer) (call (.ref 49) [.ref lv, .ref lw]) Q E s := by
  ((w_top off); (have hfill : PySem.Challenge.rw_jd0003_02.row.prog = PySem.Challenge.rw_jd0003_02.row.prog ∧ hd.heap_39 = hd.heap_39 := (by k_fill; exact ⟨rfl, rfl⟩); clear hfill))
  refine wpAny_call ?_
  k_dflt (((refine' enterP ?k1Z ?k2Z ?k3Z ?k5Z ?kAZ ?kFZ ?kKZ ?k6Z ?k7Z ?k8Z ?k9Z ?kBZ ?_ ?c2Z ?c3Z ?c4Z ?c5Z; (case kAZ => exact rfl); (case kFZ => exact rfl); (case kKZ => assumption); (case k1Z => k_asm); (case k2Z => k_asm); (case k3Z => k_asm); (case k5Z => k_asm); (case k6Z => k_is); (case k7Z => k_is); (case k8Z => ktr_room); (case k9Z => first | exact Bd.at (by assumption) (by k_is) | exact BindsTo.of_eq rfl | exact binds_K (by k_in) rfl (by k_is) rfl rfl rfl); (case kBZ => exact locs rfl); (case c5Z => decide); (case c2Z => exact rfl); (case c3Z => exact rfl); (case c4Z => exact rfl); k_whole; intro _ _ _ _ _ _ _; (try dsimp only))))
  clear hF hB hX hT
  have hseer : s.heap.NoSeer := Top.seer (by assumption) (by decide +kernel)
  (try k_unmd); (try k_fold)
  (repeat' (first | ((fail_if_success (with_reducible show Stop _)); (first | ((with_reducible show wpAny _ _ (exec _ _) _ _ _); refine cut ?_; intro _ _; walk1) | ((rename Cont _ _ => cq); refine' resume cq ?_; clear cq; (try ((rename (Flow → Shared → Prop) => qq); clear qq)); (try dsimp only)) | (k_unfold; (try dsimp only)) | walk1 | (dsimp only; walk1)))))
  unfold Stop
  rename Fr _ _ _ _ => F2
  refine For_invVF F2 (by rfl) (by rfl) ?_
  (repeat' (first | ((fail_if_success (with_reducible show Stop _)); (first | ((with_reducible show wpAny _ _ (exec _ _) _ _ _); refine cut ?_; intro _ _; walk1) | ((rename Cont _ _ => cq); refine' resume cq ?_; clear cq; (try ((rename (Flow → Shared → Prop) => qq); clear qq)); (try dsimp only)) | (k_unfold; (try dsimp only)) | walk1 | (dsimp only; walk1)))))
  unfold Stop
  rename Fr _ _ _ _ => F3
  rename News _ _ _ _ => N3
  rename IsRange _ _ _ _ _ _ _ _ => hR
  refine kst_range (σ := Bool) (fun _ => []) (fun c => [(Str.ofString "within", .bool c)]) (fun _ => True) [Str.ofString "upperquota", Str.ofString "lowerquota"] (fun pre c => c = pre.all (wF ns rs)) true
    (by rfl) hR (small_one (by omega) (by omega) (by omega) (by omega)) (rsz _) F3 N3 trivial ?hk9 rfl ?turn ?done
  case hk9 => kst_all
  case done =>
    intro c u h tk _ hP F4 N4
    dsimp only at *
    (repeat' (first | ((fail_if_success (with_reducible show Stop _)); (first | ((with_reducible show wpAny _ _ (exec _ _) _ _ _); refine cut ?_; intro _ _; walk1) | ((rename Cont _ _ => cq); refine' resume cq ?_; clear cq; (try ((rename (Flow → Shared → Prop) => qq); clear qq)); (try dsimp only)) | (k_unfold; (try dsimp only)) | walk1 | (dsimp only; walk1)))))
    rw [hP]
    exact ret _ _ F4.keep
  case turn =>
    intro c pre i ti u h tk own hk hlt hoff _ hP F4 N4
    have hm1 := (hmul i.toNat).1
    have hm2 := (hmul i.toNat).2
    dsimp only [kstB, List.map, List.cons_append, List.nil_append] at *
    refine Mine.cut ?_; intro _ _
    (repeat' (first | ((fail_if_success (with_reducible show Stop _)); (first | ((with_reducible show wpAny _ _ (exec _ _) _ _ _); refine cut ?_; intro _ _; walk1) | ((rename Cont _ _ => cq); refine' resume cq ?_; clear cq; (try ((rename (Flow → Shared → Prop) => qq); clear qq)); (try dsimp only)) | (k_unfold; (try dsimp only)) | walk1 | (dsimp only; walk1)))))
    all_goals (unfold Stop; first
      | (have e9 : wF ns rs i = false := (by unfold wF; rw [Bool.and_eq_false_iff]; first | exact .inl (decide_eq_false (by omega)) | exact .inr (decide_eq_false (by omega)))
         refine kst_end (σ := Bool) false (by assumption) (by assumption) (fun _ h => nomatch h) (fun p hp => hp) rfl trivial (fun p hp => by rw [List.mem_singleton.mp hp]; rfl) (by intro z h1 h2 h3; have hb := h2 _ (List.mem_cons_self); have h4 := h3; simp only [List.contains_cons, List.contains_nil, Bool.or_false, Bool.or_eq_false_iff, beq_eq_false_iff_ne, ne_eq] at h4; obtain ⟨a1, a2⟩ := h4; simp only [mset, if_neg h1, if_neg hb, if_neg a1, if_neg a2]; exact if_neg (by rw [h3]; decide)) (by rw [all_snoc, e9, Bool.and_false]))
      | (have e9 : wF ns rs i = true := (by unfold wF; rw [decide_eq_true (by omega), decide_eq_true (by omega)]; rfl)
         refine kst_end (σ := Bool) c (by assumption) (by assumption) (fun _ h => nomatch h) (fun p hp => hp) rfl trivial (fun p hp => by rw [List.mem_singleton.mp hp]; rfl) (by intro z h1 h2 h3; have hb := h2 _ (List.mem_cons_self); have h4 := h3; simp only [List.contains_cons, List.contains_nil, Bool.or_false, Bool.or_eq_false_iff, beq_eq_false_iff_ne, ne_eq] at h4; obtain ⟨a1, a2⟩ := h4; simp only [mset, if_neg h1, if_neg hb, if_neg a1, if_neg a2]; exact if_neg (by rw [h3]; decide)) (by rw [all_snoc, e9, Bool.and_true]; exact hP)))

theorem within_use {w : World} {loose : List Str} {mean : ExcName → Option Value} {mg mb : Str → Option Value} {dp un : Nat} {gd : Option (List Code)} {cn : Str} {cs : Scope} {a : Addr} {ccd : Value} {cl : List (Str × Addr)} {outer : List Env} {A₀ : Around} {base h₀ : Heap} {L : Addr} {m : Str → Option Value} {s : Shared} {Q E : Value → Shared → Prop}
  {lv lw : Addr} {vs ws : List Value} {ns rs : List Int} {news : List (Addr × Obj)} {c c2 : Nat}
  (hB : Below A₀ base outer h₀) (hF : Fr h₀ L s.heap m) (hX : (hd.heap_39 w.params).In h₀) (hT : Top hd.view_39 loose mean mg mb h₀) (hN : News h₀ L s.heap news) (hk : cs.kind = .function)
  (hdp : dp + 150 < recursionLimit) (hun : un + 30 < cLine)
  (hm : (lv, listOf vs.toArray c) ∈ news) (hm2 : (lw, listOf ws.toArray c2) ∈ news) (hi : IntsAre vs ns) (hi2 : IntsAre ws rs) (hlen : ns.length ≤ 8) (hn0 : 0 < ns.length) (hrl : rs.length = ns.length) (hsum : 0 < ns.sum)
  (hmul : ∀ i, IntMulOk (-ns.getD i 0) rs.sum ∧ IntMulOk (ns.getD i 0) rs.sum)
  (ret : ∀ (h' : Heap) (tk' : Nat), Fr h₀ L h' m → News h₀ L h' news → Q (.bool ((rangeKs 0 ns.length).all (wF ns rs))) { s with heap := h', toks := tk' }) :
  wpAny (model PySem.Challenge.rw_jd0003_02.row.prog w) (ktrTop dp un gd cn cs L a ccd cl outer) (call (.ref 49) [.ref lv, .ref lw]) Q E s :=
  within_ok hB hF hX hT hk hdp hun ⟨_, (hN _ hm).1, rfl, c, rfl⟩ hi ⟨_, (hN _ hm2).1, rfl, c2, rfl⟩ hi2 hlen hn0 hrl hsum hmul fun h' tk' keep => ret h' tk' (hF.keeps keep) fun p hp => ⟨keep _ _ (hN p hp).1, (hN p hp).2⟩
end

theorem floor_le {r x T : Int} (hT : 0 < T) : x.fdiv T ≤ r ↔ x < (r + 1) * T := by
  have h1 : T * x.fdiv T ≤ x := by rw [Int.fdiv_eq_ediv_of_nonneg _ (Int.le_of_lt hT)]; exact Int.mul_ediv_self_le (Int.ne_of_gt hT)
  have h2 : x < T * x.fdiv T + T := by rw [Int.fdiv_eq_ediv_of_nonneg _ (Int.le_of_lt hT)]; exact Int.lt_mul_ediv_self_add hT
  generalize x.fdiv T = q at *
  constructor
  · intro h
    have h3 : T * (q + 1) ≤ T * (r + 1) := Int.mul_le_mul_of_nonneg_left (by omega) (Int.le_of_lt hT)
    rw [Int.mul_add, Int.mul_one] at h3
    rw [Int.mul_comm (r + 1)]
    omega
  · intro h
    rw [Int.mul_comm (r + 1)] at h
    have h3 : T * q < T * (r + 1) := by omega
    have := Int.lt_of_mul_lt_mul_left h3 (Int.le_of_lt hT)
    omega
theorem wF_iff {ns rs : List Int} (hT : 0 < ns.sum) (i : Nat) : wF ns rs (i : Int) = true ↔ (rs.getD i 0 * ns.sum - ns.getD i 0 * rs.sum < ns.sum ∧ -ns.sum < rs.getD i 0 * ns.sum - ns.getD i 0 * rs.sum) := by
  unfold wF
  rw [Bool.and_eq_true, decide_eq_true_eq, decide_eq_true_eq, Int.toNat_natCast, floor_le hT, Int.neg_mul]
  have h := ceil_lt (r := rs.getD i 0 - 1) (x := ns.getD i 0 * rs.sum) hT
  rw [Int.sub_mul, Int.one_mul] at h
  rw [Int.add_mul, Int.one_mul]
  constructor
  · rintro ⟨a, b⟩
    have := h.mp (by omega)
    omega
  · rintro ⟨a, b⟩
    have := h.mpr (by omega)
    omega
theorem within_eq {ns rs off : List Int} (hT : 0 < ns.sum) {M m : Int}
    (hoff : off = List.map (fun i => rs.getD i.toNat 0 * ns.sum - ns.getD i.toNat 0 * rs.sum) (rangeKs 0 ns.length))
    (hM : M ∈ off) (hMx : ∀ a, a ∈ off → a ≤ M) (hm : m ∈ off) (hmx : ∀ a, a ∈ off → m ≤ a) :
    (rangeKs 0 ns.length).all (wF ns rs) = (decide (M < ns.sum) && decide (-ns.sum < m)) := by
  have mem : ∀ i, i < ns.length → rs.getD i 0 * ns.sum - ns.getD i 0 * rs.sum ∈ off := fun i hi => by
    rw [hoff]
    refine List.mem_map.mpr ⟨(i : Int), ?_, by simp⟩
    unfold rangeKs
    exact List.mem_map.mpr ⟨i, List.mem_range.mpr hi, by omega⟩
  rw [Bool.eq_iff_iff, List.all_eq_true, Bool.and_eq_true, decide_eq_true_eq, decide_eq_true_eq]
  have inv : ∀ a, a ∈ off → ∃ i : Nat, i < ns.length ∧ a = rs.getD i 0 * ns.sum - ns.getD i 0 * rs.sum := fun a ha => by
    rw [hoff] at ha
    obtain ⟨x, hx, rfl⟩ := List.mem_map.mp ha
    obtain ⟨x0, x1⟩ := mem_rangeKs hx
    exact ⟨x.toNat, by omega, rfl⟩
  have idx : ∀ i, i < ns.length → (i : Int) ∈ rangeKs 0 ns.length := fun i hi => by
    unfold rangeKs
    exact List.mem_map.mpr ⟨i, List.mem_range.mpr hi, by omega⟩
  constructor
  · intro h
    obtain ⟨i, hi, e⟩ := inv M hM
    obtain ⟨j, hj, e'⟩ := inv m hm
    have a := (wF_iff hT i).mp (h _ (idx i hi))
    have b := (wF_iff hT j).mp (h _ (idx j hj))
    exact ⟨e ▸ a.1, e' ▸ b.2⟩
  · rintro ⟨h1, h2⟩ x hx
    obtain ⟨x0, x1⟩ := mem_rangeKs hx
    obtain ⟨k, rfl⟩ : ∃ k : Nat, x = (k : Int) := ⟨x.toNat, by omega⟩
    have hk : k < ns.length := by omega
    rw [wF_iff hT]
    have a := hMx _ (mem k hk)
    have b := hmx _ (mem k hk)
    omega

def offs (ns rs : List Int) : List Int := (rangeKs 0 ns.length).map (fun i => rs.getD i.toNat 0 * ns.sum - ns.getD i.toNat 0 * rs.sum)
/-- what _law_far gives -/
structure Far (ns rs : List Int) (M m : Int) : Prop where
  inM : M ∈ offs ns rs
  geM : ∀ a, a ∈ offs ns rs → a ≤ M
  inm : m ∈ offs ns rs
  lem : ∀ a, a ∈ offs ns rs → m ≤ a
theorem Far.within {ns rs : List Int} {M m : Int} (h : Far ns rs M m) (hT : 0 < ns.sum) : (rangeKs 0 ns.length).all (wF ns rs) = (decide (M < ns.sum) && decide (-ns.sum < m)) := within_eq hT rfl h.inM h.geM h.inm h.lem
theorem offs_inv {ns rs : List Int} {a : Int} (h : a ∈ offs ns rs) : ∃ i : Nat, i < ns.length ∧ a = rs.getD i 0 * ns.sum - ns.getD i 0 * rs.sum := by
  obtain ⟨x, hx, rfl⟩ := List.mem_map.mp h
  unfold rangeKs at hx
  obtain ⟨i, hi, rfl⟩ := List.mem_map.mp hx
  have := List.mem_range.mp hi
  exact ⟨i, by omega, by simp⟩
theorem Far.up {ns rs : List Int} {M m : Int} (h : Far ns rs M m) (u : UpOk ns rs) : M < ns.sum := by
  obtain ⟨i, hi, e⟩ := offs_inv h.inM
  have := u i hi
  omega
theorem Far.low {ns rs : List Int} {M m : Int} (h : Far ns rs M m) (u : LowOk ns rs) : -ns.sum < m := by
  obtain ⟨i, hi, e⟩ := offs_inv h.inm
  have := u i hi
  omega
theorem QR.lr {ps rs : List Int} {n : Nat} (q : QR ps n rs) (hv : ∀ x ∈ ps, 0 ≤ x) (hT : 0 < ps.sum) : LrR ps n rs := by
  refine ⟨q.len, q.sum, fun i hi => ?_, fun i _ => ?_⟩
  · have := q.lower hv hT i hi
    rw [q.sum]
    omega
  · have := q.upper hv hT i
    rw [q.sum]
    omega

def tupO (a : Int) (t1 : Tok) (b : Int) (t2 : Tok) : Obj := { cls := Value.type "tuple", data := Data.seq #[.int a t1, .int b t2] }
/-- a list of refs to int pairs whose objects lie in tl -/
structure PairsIn (tl : List (Addr × Obj)) (ys : List Value) (qs : List (Int × Int)) : Prop where
  len : ys.length = qs.length
  at' : ∀ (i : Nat) (q : Int × Int), qs[i]? = some q → ∃ (t : Addr) (t1 t2 : Tok), ys[i]? = some (Value.ref t) ∧ (t, tupO q.1 t1 q.2 t2) ∈ tl
theorem PairsIn.nil {tl : List (Addr × Obj)} : PairsIn tl [] [] := ⟨rfl, fun i q h => by simp at h⟩
theorem PairsIn.snoc {tl : List (Addr × Obj)} {ys : List Value} {qs : List (Int × Int)} {t : Addr} {q : Int × Int} {t1 t2 : Tok} (h : PairsIn tl ys qs) : PairsIn ((t, tupO q.1 t1 q.2 t2) :: tl) (ys ++ [Value.ref t]) (qs ++ [q]) := by
  refine ⟨by rw [List.length_append, List.length_append, h.len]; rfl, fun i p hp => ?_⟩
  by_cases hi : i < qs.length
  · rw [List.getElem?_append_left hi] at hp
    obtain ⟨t', t1', t2', e, m⟩ := h.at' i p hp
    exact ⟨t', t1', t2', by rw [List.getElem?_append_left (by rw [h.len]; exact hi)]; exact e, List.mem_cons_of_mem _ m⟩
  · rw [List.getElem?_append_right (Nat.not_lt.mp hi)] at hp
    have e0 : i - qs.length = 0 := by
      cases e : i - qs.length with
      | zero => rfl
      | succ j => rw [e] at hp; simp at hp
    rw [e0] at hp
    simp only [List.getElem?_cons_zero, Option.some.injEq] at hp
    subst hp
    exact ⟨t, t1, t2, by rw [List.getElem?_append_right (by rw [h.len]; exact Nat.not_lt.mp hi), h.len, e0]; rfl, List.mem_cons_self⟩
theorem news_dup {h₀ h : Heap} {L : Addr} {news : List (Addr × Obj)} {p : Addr × Obj} (N : News h₀ L h news) (hp : p ∈ news) : News h₀ L h (p :: news) := fun q hq => by
  rcases List.mem_cons.mp hq with rfl | hq
  · exact N _ hp
  · exact N q hq
theorem my_item {prog w A E s} {value slice : PySem.Expr} {l : Addr} {vs : List Value} {k : Int} {u : Tok} {v : Value} {Q : Value → Shared → Prop}
    (hl : s.heap.IsList l vs.toArray) (h0 : 0 ≤ k) (hhi : k < 2 ^ 63) (hx : vs[k.toNat]? = some v) (h : Q v s)
    (hs : subscripted slice false (.ref l) (.int k u) = operate [.ref l, .int k u] (getItem (.ref l) (.int k u)) := by with_unfolding_all rfl) :
    wpAny (model prog w) A (subscriptTail value slice (.ref l) (.int k u)) Q E s :=
  tail_any hl.typeIs slot_list_getitem.lookup (wpAny_getItem_list hl h0 hhi (by simpa using hx) h) hs
theorem off1_own {D : Addr} : ∀ {l : List (Addr × Obj)}, LCg.Off1 D l → OwnOff l [D]
  | [], _, _, hp => nomatch hp
  | q :: l, x, p, hp => fun b hb => by
    rw [List.mem_singleton.mp hb]
    rcases List.mem_cons.mp hp with rfl | hp
    · exact x.1
    · exact off1_own x.2 p hp D (List.mem_singleton.mpr rfl)
theorem news_tail {h₀ h : Heap} {L : Addr} {news : List (Addr × Obj)} {p : Addr × Obj} (N : News h₀ L h (p :: news)) : News h₀ L h news := fun q hq => N q (.tail _ hq)
theorem allLt_mem {d : Nat} : ∀ {l : List (Addr × Obj)}, AllLt d l → ∀ p ∈ l, p.1 < d
  | [], _, _, h => nomatch h
  | _ :: _, x, p, h => by
    rcases List.mem_cons.mp h with rfl | h
    · exact x.1
    · exact allLt_mem x.2 p h
theorem own_cons {t : Addr} {o : Obj} {tl news : List (Addr × Obj)} (h1 : ∀ p ∈ news, p.1 ≠ t) (h2 : OwnOff tl (news.map (·.1))) : OwnOff ((t, o) :: tl) (news.map (·.1)) := fun p hp b hb e => by
  rcases List.mem_cons.mp hp with rfl | hp
  · obtain ⟨q, hq, e2⟩ := List.mem_map.mp hb
    exact h1 q hq (e2.trans e.symm)
  · exact h2 p hp b hb e
section
variable {prog : Program} {w : World} {A : Around} {h₀ : Heap} {L : Addr} {m : Str → Option Value} {env : Env} {elt : Expr} {x : Str} {scope : Scope} {cl : List (Str × Addr)} {s : Shared} {S : List (Addr × Obj) → Prop} {P : Nat → Value → Prop} {Fin : List Value → List (Addr × Obj) → Prop} {news : List (Addr × Obj)}
def PrEl (tl : List (Addr × Obj)) (q : Int × Int) (y : Value) (news' : List (Addr × Obj)) (news : List (Addr × Obj)) : Prop := ∃ t t1 t2, (∀ p ∈ news, p.1 ≠ t) ∧ news' = news ++ ((t, tupO q.1 t1 q.2 t2) :: tl) ∧ y = .ref t
theorem pr_end {I C D T : Addr} {s₁ : Shared} {oI oC oD : Obj} {h' : Heap} {tk : Nat} {tl : List (Addr × Obj)} {a b : Int} {t1 t2 : Tok} (F : Fr h₀ L h' m)
    (N : News h₀ L h' ((T, tupO a t1 b t2) :: (I, oI) :: (C, oC) :: (D, oD) :: (news ++ tl))) (off : LCg.Off3 I C D (news ++ tl)) (hl : I < T ∧ C < T ∧ D < T ∧ AllLt T (news ++ tl)) (hS : ∀ o, S (news ++ ((T, o) :: tl))) :
    LCg.CompEnd h₀ L m s₁ I oI C oC D oD S (fun y news' => PrEl tl (a, b) y news' news) (.ref T) { s₁ with heap := h', toks := tk } := by
  have lt : ∀ p ∈ news ++ tl, p.1 < T := allLt_mem hl.2.2.2
  refine LCg.CompEnd.intro F N (news ++ ((T, tupO a t1 b t2) :: tl)) (fun p hp => ?_) (LCg.Off3.of fun p hp => ?_) (hS _) ⟨T, t1, t2, fun p hp => Nat.ne_of_lt (lt p (List.mem_append_left _ hp)), rfl, rfl⟩
  · simp only [List.mem_cons, List.mem_append] at hp ⊢
    rcases hp with h | h | h | h | h | h <;> simp [h]
  · rcases List.mem_append.mp hp with h | h
    · exact off.mem p (List.mem_append_left _ h)
    · rcases List.mem_cons.mp h with rfl | h
      · exact ⟨Ne.symm (Nat.ne_of_lt hl.1), Ne.symm (Nat.ne_of_lt hl.2.1), Ne.symm (Nat.ne_of_lt hl.2.2.1)⟩
      · exact off.mem p (List.mem_append_right _ h)
theorem kcp_rest {n : Nat} {ks : List Int} (g : Int → Int × Int) (hks : ks.length = n) (hP : ∀ i v, i < n → P i v → ∃ k t, ks[i]? = some k ∧ v = .int k t)
    (turn : ∀ k t I oI C oC D m₂ ys tl h tk (E' : Value → Shared → Prop), k ∈ ks → LCg.NsObj oC m₂ → m₂ x = some (.int k t) → Fr h₀ L h m → News h₀ L h ((I, oI) :: (C, oC) :: (D, LCg.lst ys) :: (news ++ tl)) → LCg.Off3 I C D (news ++ tl) → ((@Ne Nat I C) ∧ (@Ne Nat I D) ∧ (@Ne Nat C D)) →
      wpAny (model prog w) A (eval elt (compEnvC scope cl C env)) (LCg.CompEnd h₀ L m { s with heap := h, toks := tk } I oI C oC D (LCg.lst ys) S (fun y news' => PrEl tl (g k) y news' news)) E' { s with heap := h, toks := tk })
    (fin : ∀ ys tl, OwnOff tl (news.map (·.1)) → PairsIn tl ys (ks.map g) → Fin ys (news ++ tl)) : LCg.CompRest prog w A h₀ L m env elt x scope cl s S P Fin n 0 [] news := by
  have key : ∀ (j i : Nat) (ys : List Value) (tl : List (Addr × Obj)), i + j = n → OwnOff tl (news.map (·.1)) → PairsIn tl ys ((ks.take i).map g) → LCg.CompRest prog w A h₀ L m env elt x scope cl s S P Fin j i ys (news ++ tl) := by
    intro j
    induction j with
    | zero =>
      intro i ys tl hi ho hy
      have e : i = ks.length := by omega
      subst e
      rw [List.take_length] at hy
      exact LCg.CompRest.zero (fin ys tl ho hy)
    | succ j ih =>
      intro i ys tl hi ho hy
      refine LCg.CompRest.succ ?_
      intro v I oI C oC D m₂ h tk E' hv hC hx F N off ne
      obtain ⟨k, t, hk, hv'⟩ := hP i v (by omega) hv
      rw [hv'] at hx
      refine wpAny_mono (turn k t I oI C oC D m₂ ys tl h tk E' (List.mem_of_getElem? hk) hC hx F N off ne) (fun y s₂ hq => ?_) fun _ _ e => e
      obtain ⟨h', tk', nw, e, F', N', off', hS, t', t1, t2, hne, hn, hy'⟩ := hq
      rw [hn] at N' off' hS
      refine ⟨h', tk', _, e, F', N', off', hS, ?_⟩
      rw [hy']
      refine ih (i + 1) _ _ (by omega) (own_cons hne ho) ?_
      rw [List.take_add_one, hk]
      simpa using hy.snoc
  have := key n 0 [] [] (by omega) (fun p hp => nomatch hp) (by simp only [List.take_zero, List.map_nil]; exact .nil)
  rwa [List.append_nil] at this
theorem kcp_range {n : Nat} {a : Int} (g : Int → Int × Int)
    (turn : ∀ k t I oI C oC D m₂ ys tl h tk (E' : Value → Shared → Prop), a ≤ k → k < a + (n : Int) → LCg.NsObj oC m₂ → m₂ x = some (.int k t) → Fr h₀ L h m → News h₀ L h ((I, oI) :: (C, oC) :: (D, LCg.lst ys) :: (news ++ tl)) → LCg.Off3 I C D (news ++ tl) → ((@Ne Nat I C) ∧ (@Ne Nat I D) ∧ (@Ne Nat C D)) →
      wpAny (model prog w) A (eval elt (compEnvC scope cl C env)) (LCg.CompEnd h₀ L m { s with heap := h, toks := tk } I oI C oC D (LCg.lst ys) S (fun y news' => PrEl tl (g k) y news' news)) E' { s with heap := h, toks := tk })
    (fin : ∀ ys tl, OwnOff tl (news.map (·.1)) → PairsIn tl ys ((rangeKs a n).map g) → Fin ys (news ++ tl)) : LCg.CompRest prog w A h₀ L m env elt x scope cl s S (fun i v => ∃ t, v = .int (a + (i : Int)) t) Fin n 0 [] news :=
  kcp_rest (ks := rangeKs a n) g (rangeKs_length a n) (fun i v hi hv => by
    obtain ⟨t, e⟩ := hv
    exact ⟨a + (i : Int), t, by simp [rangeKs, hi], e⟩)
    (fun k t I oI C oC D m₂ ys tl h tk E' hk hC hx F N off ne => turn k t I oI C oC D m₂ ys tl h tk E' (mem_rangeKs hk).1 (mem_rangeKs hk).2 hC hx F N off ne) fin
theorem kcp_list {vs : List Value} {ns : List Int} (g : Int → Int × Int) (hi : IntsAre vs ns)
    (turn : ∀ k t I oI C oC D m₂ ys tl h tk (E' : Value → Shared → Prop), k ∈ ns → LCg.NsObj oC m₂ → m₂ x = some (.int k t) → Fr h₀ L h m → News h₀ L h ((I, oI) :: (C, oC) :: (D, LCg.lst ys) :: (news ++ tl)) → LCg.Off3 I C D (news ++ tl) → ((@Ne Nat I C) ∧ (@Ne Nat I D) ∧ (@Ne Nat C D)) →
      wpAny (model prog w) A (eval elt (compEnvC scope cl C env)) (LCg.CompEnd h₀ L m { s with heap := h, toks := tk } I oI C oC D (LCg.lst ys) S (fun y news' => PrEl tl (g k) y news' news)) E' { s with heap := h, toks := tk })
    (fin : ∀ ys tl, OwnOff tl (news.map (·.1)) → PairsIn tl ys (ns.map g) → Fin ys (news ++ tl)) : LCg.CompRest prog w A h₀ L m env elt x scope cl s S (fun i v => vs.toArray[i]? = some v) Fin vs.toArray.size 0 [] news :=
  kcp_rest (ks := ns) g (by rw [List.size_toArray]; exact hi.length.symm) (fun i v _ hv => by
    obtain ⟨k, t, e, hk⟩ := IntsAre.at hi i v (by simpa using hv)
    exact ⟨k, t, hk, e⟩) turn fin
/-- a comprehension over a list of int pairs that makes ints -/
theorem kcq_list {vs : List Value} {qs : List (Int × Int)} {tl : List (Addr × Obj)} (g : Int × Int → Int) (hi : PairsIn tl vs qs)
    (turn : ∀ (q : Int × Int) t t1 t2 I oI C oC D m₂ ys h tk (E' : Value → Shared → Prop), q ∈ qs → (t, tupO q.1 t1 q.2 t2) ∈ tl → LCg.NsObj oC m₂ → m₂ x = some (.ref t) → Fr h₀ L h m → News h₀ L h ((I, oI) :: (C, oC) :: (D, LCg.lst ys) :: news) → LCg.Off3 I C D news → ((@Ne Nat I C) ∧ (@Ne Nat I D) ∧ (@Ne Nat C D)) →
      wpAny (model prog w) A (eval elt (compEnvC scope cl C env)) (LCg.CompEnd h₀ L m { s with heap := h, toks := tk } I oI C oC D (LCg.lst ys) S (fun y news' => KCfEl news (g q) y news')) E' { s with heap := h, toks := tk })
    (fin : ∀ ys, IntsAre ys (qs.map g) → Fin ys news) : LCg.CompRest prog w A h₀ L m env elt x scope cl s S (fun i v => vs.toArray[i]? = some v) Fin vs.toArray.size 0 [] news := by
  have key : ∀ (j i : Nat) (ys : List Value), i + j = qs.length → IntsAre ys ((qs.take i).map g) → LCg.CompRest prog w A h₀ L m env elt x scope cl s S (fun i v => vs.toArray[i]? = some v) Fin j i ys news := by
    intro j
    induction j with
    | zero =>
      intro i ys hi hy
      have e : i = qs.length := by omega
      subst e
      rw [List.take_length] at hy
      exact LCg.CompRest.zero (fin ys hy)
    | succ j ih =>
      intro i ys hij hy
      refine LCg.CompRest.succ ?_
      intro v I oI C oC D m₂ h tk E' hv hC hx F N off ne
      have hlt : i < qs.length := by omega
      obtain ⟨t, t1, t2, e, hm⟩ := hi.at' i qs[i] (List.getElem?_eq_getElem hlt)
      have hv : vs[i]? = some v := by simpa using hv
      rw [e] at hv
      simp only [Option.some.injEq] at hv
      rw [← hv] at hx
      refine wpAny_mono (turn qs[i] t t1 t2 I oI C oC D m₂ ys h tk E' (List.getElem_mem hlt) hm hC hx F N off ne) (fun y s₂ hq => ?_) fun _ _ e => e
      obtain ⟨h', tk', nw, e, F', N', off', hS, hn, t', hy'⟩ := hq
      rw [hn] at N' off' hS
      refine ⟨h', tk', news, e, F', N', off', hS, ?_⟩
      rw [hy']
      refine ih (i + 1) _ (by omega) ?_
      rw [List.take_add_one, List.getElem?_eq_getElem hlt, List.map_append]
      exact IntsAre.append hy (.cons (g qs[i]) t' .nil)
  rw [List.size_toArray, hi.len]
  exact key qs.length 0 [] (by omega) (by simp only [List.take_zero, List.map_nil]; exact .nil)
end

section
variable {prog : Program} {w : World} {A : Around} {E : Value → Shared → Prop} {s : Shared} {R : Result → Shared → Prop}
abbrev two (wn ln : Str) (p2 p3 p4 : Pos) (iter : Expr) : List Comprehension := [⟨.Name ln p2, iter, [], 0⟩, ⟨.Name wn p3, .Name ln p4, [], 0⟩]
theorem turn1 (elt t1 i1 t2 i2 : Expr) (scope : Scope) (pos : Pos) (it acc : Value) (env : Env) :
    compTurn (.ListComp elt [⟨t1, i1, [], 0⟩, ⟨t2, i2, [], 0⟩] scope pos) 1 it acc env = (standAt i2.pos >>= fun _ => pyNext it >>= fun r => match r with
      | none => pure (.done .next)
      | some v => letOwnedTupleGo t2 it v >>= fun _ => assign t2 env v >>= fun _ =>
        (eval elt env >>= fun x => call (.builtin "list.append") [acc, x] >>= fun _ => pure ()) >>= fun _ =>
          again (.compLoop (.ListComp elt [⟨t1, i1, [], 0⟩, ⟨t2, i2, [], 0⟩] scope pos) 1 it acc env)) := by rfl
theorem turn0 (elt t1 i1 t2 i2 : Expr) (scope : Scope) (pos : Pos) (it acc : Value) (env : Env) :
    compTurn (.ListComp elt [⟨t1, i1, [], 0⟩, ⟨t2, i2, [], 0⟩] scope pos) 0 it acc env = (standAt i1.pos >>= fun _ => pyNext it >>= fun r => match r with
      | none => pure (.done .next)
      | some v => letOwnedTupleGo t1 it v >>= fun _ => assign t1 env v >>= fun _ =>
        eval i2 env >>= fun x => standAt i2.pos >>= fun _ => foldedSetIterable i2 env x >>= fun x => holding [x] (pyIter x) >>= fun y =>
          runOwn (.compStart (.ListComp elt [⟨t1, i1, [], 0⟩, ⟨t2, i2, [], 0⟩] scope pos) 1 y acc env) env >>= fun _ =>
          again (.compLoop (.ListComp elt [⟨t1, i1, [], 0⟩, ⟨t2, i2, [], 0⟩] scope pos) 0 it acc env)) := by rfl
theorem start1 {elt t1 i1 t2 i2 scope pos it acc env}
    (h0 : codeAny (model prog w) A (.compLoop (.ListComp elt [⟨t1, i1, [], 0⟩, ⟨t2, i2, [], 0⟩] scope pos) 1 it acc env) R s)
    (h : wpAny (model prog w) A (pyIter it) (fun it' s' => codeAny (model prog w) A (.compLoop (.ListComp elt [⟨t1, i1, [], 0⟩, ⟨t2, i2, [], 0⟩] scope pos) 1 it' acc env) R s')
      (notedBy (model prog w) A env fun x s' => R (.error x) s') s) :
    codeAny (model prog w) A (.compStart (.ListComp elt [⟨t1, i1, [], 0⟩, ⟨t2, i2, [], 0⟩] scope pos) 1 it acc env) R s := by
  refine codeAny_of_tree ?_
  show wpAny _ _ ((compStart (.ListComp elt [⟨t1, i1, [], 0⟩, ⟨t2, i2, [], 0⟩] scope pos) 1 it acc env).onRaise (fun x => do noteFrame x env; standAt theWindowsPlace)) _ _ s
  refine wpAny_notedAt ?_
  unfold compStart
  show wpAny _ _ (ask >>= _) _ _ s
  refine wpAny_bind (wpAny_askSetting (wpAny_ite ?_))
  split
  · first
      | exact wpAny_bind (wpAny_pure (wpAny_pure (And.intro rfl h0)))
      | exact wpAny_pure (And.intro rfl h0)
  · refine wpAny_bind (wpAny_rule ?_)
    show wpAny _ _ (standAt i2.pos >>= _) _ _ s
    exact wpAny_bind (wpAny_standAt (wpAny_bind (wpAny_mono h (fun it' s' h' => wpAny_pure (And.intro rfl h')) fun _ _ x => x)))
inductive Inv1 (s : Shared) (env : Env) (I t D : Addr) (row ys : List Value) (n : Nat) (s' : Shared) : Prop
  | mk (h' : Heap) (tk j : Nat) (m' : Str → Option Value) (es : s' = { s with heap := h', toks := tk }) (hj : j ≤ row.length) (hn : n = row.length + 1 - j) (it : h'.IsListIter I t j) (hl : h'.IsList t row.toArray) (hD : h'.get? D = some (LCg.lst (ys ++ row.take j))) (hc : h'.Ns env.locals m')
    (keep : ∀ b o, b ≠ I → b ≠ D → b ≠ env.locals → s.heap.get? b = some o → h'.get? b = some o)
inductive Inv0 (s : Shared) (env : Env) (I ax D : Addr) (vs : List Value) (rows : List (List Value)) (h₁ : Heap) (n : Nat) (s' : Shared) : Prop
  | mk (h' : Heap) (tk j : Nat) (m' : Str → Option Value) (es : s' = { s with heap := h', toks := tk }) (hj : j ≤ vs.length) (hn : n = vs.length + 1 - j) (it : h'.IsListIter I ax j) (hD : h'.get? D = some (LCg.lst (rows.take j).flatten)) (hc : h'.Ns env.locals m')
    (keep : ∀ b o, h₁.get? b = some o → h'.get? b = some o)
theorem loop1 {iter : Expr} {wn ln : Str} {p1 p2 p3 p4 pos : Pos} {scope : Scope} {env : Env} {I t D : Addr} {row ys : List Value} {m : Str → Option Value}
    (hh : A.handled = none) (hk : env.scope.kind = .function) (hw : env.kindOf wn = some .local) (hd : (wn == ("__debug__" : Str)) = false)
    (ho : (env.scope.kind == .class || (env.scope.kind == .module && env.locals != env.globals)) = false)
    (hIC : I ≠ env.locals) (hID : I ≠ D) (htC : t ≠ env.locals) (htD : t ≠ D) (htI : t ≠ I) (hDC : D ≠ env.locals)
    (hit : s.heap.IsListIter I t 0) (hl : s.heap.IsList t row.toArray) (hD : s.heap.get? D = some (LCg.lst ys)) (hn : s.heap.Ns env.locals m) (hsz : ys.length + row.length ≤ sizeLine)
    (hR : ∀ h' tk m', h'.Ns env.locals m' → h'.get? D = some (LCg.lst (ys ++ row)) → (∀ b o, b ≠ I → b ≠ D → b ≠ env.locals → s.heap.get? b = some o → h'.get? b = some o) → R (.ok .next) { s with heap := h', toks := tk }) :
    codeAny (model prog w) A (.compLoop (.ListComp (.Name wn p1) (two wn ln p2 p3 p4 iter) scope pos) 1 (.ref I) (.ref D) env) R s := by
  have W : Walks prog w A I [I, t] [I] row.toArray.size _ _ := Walks.list hh I t htI row.toArray
  refine codeAny_loop rfl (Inv1 s env I t D row ys) ?_ (row.length + 1) ⟨s.heap, _, 0, m, rfl, Nat.zero_le _, rfl, hit, hl, by rw [List.take_zero, List.append_nil]; exact hD, hn, fun _ _ _ _ _ e => e⟩
  rintro n s' ⟨h', tk, j, m', rfl, hj, rfl, hit', hl', hD', hn', keep⟩
  show wpAny _ A ((compTurn (.ListComp (.Name wn p1) (two wn ln p2 p3 p4 iter) scope pos) 1 (.ref I) (.ref D) env).onRaise (fun x => do noteFrame x env; theTreesLotGoes x)) _ _ _
  refine wpAny_noted ?_
  rw [turn1]
  refine wpAny_bind (wpAny_standAt (wpAny_bind ?_))
  by_cases hlt : j < row.length
  · refine W.item j _ _ _ (by simpa using hlt) ⟨hit', hl'⟩ fun v h₂ tk₂ hv st₂ hk₂ => ?_
    have hv : row[j]? = some v := by simpa using hv
    refine wpAny_bind (wpAny_of_eq (by rfl) ?_)
    have hn₂ : h₂.Ns env.locals m' := hn'.at' fun o e => hk₂ _ o (by simpa using Ne.symm hIC) e
    refine wpAny_bind (wpAny_assign_Name (wpAny_storeName_local hw hn₂ (fun h₃ hn₃ hs₃ => ?_) ho))
    refine wpAny_bind (wpAny_bind (wpAny_Name (wpAny_loadName_local (v := v) hk hw hn₃ (if_pos rfl) ?_) hd))
    have hD₃ : h₃.get? D = some (LCg.lst (ys ++ row.take j)) := hs₃.extBut _ _ hDC (hk₂ _ _ (by simpa using Ne.symm hID) hD')
    refine wpAny_bind (append_at (hsz := by rw [List.size_toArray, List.length_append, List.length_take]; omega) hD₃ fun h₅ hs₅ hD₅ => ?_)
    refine wpAny_pure (wpAny_pure ⟨rfl, row.length + 1 - (j + 1), by omega, h₅, _, j + 1, _, rfl, hlt, rfl, ?_, ?_, ?_, hn₃.sameBut hs₅ (Ne.symm hDC), ?_⟩)
    · obtain ⟨o, e, r⟩ := st₂.1
      exact ⟨o, hs₅.extBut _ _ hID (hs₃.extBut _ _ hIC e), r⟩
    · obtain ⟨o, e, r⟩ := st₂.2
      exact ⟨o, hs₅.extBut _ _ htD (hs₃.extBut _ _ htC e), r⟩
    · rw [hD₅, LCg.lst_snoc, List.append_assoc, List.take_add_one, hv]; rfl
    · intro b o b1 b2 b3 e
      exact hs₅.extBut _ _ b2 (hs₃.extBut _ _ b3 (hk₂ _ _ (by simpa using b1) (keep b o b1 b2 b3 e)))
  · have e : j = row.length := by omega
    subst e
    refine W.done _ _ _ ⟨hit', by simpa using hl'⟩ fun h₂ tk₂ hk₂ => ?_
    refine wpAny_pure (hR h₂ _ m' (hn'.at' fun o e => hk₂ _ o (by simpa using Ne.symm hIC) e) ?_ fun b o b1 b2 b3 e => hk₂ _ _ (by simpa using b1) (keep b o b1 b2 b3 e))
    rw [List.take_length] at hD'
    exact hk₂ _ _ (by simpa using Ne.symm hID) hD'
/-- a list of refs to lists, as a heap holds them -/
def RowsAt (h : Heap) (vs : List Value) (rows : List (List Value)) : Prop := vs.length = rows.length ∧ ∀ (i : Nat) (row : List Value), rows[i]? = some row → ∃ t : Addr, vs[i]? = some (Value.ref t) ∧ h.IsList t (List.toArray row)
theorem len_flat_take {α : Type} : ∀ (l : List (List α)) (i : Nat), (l.take i).flatten.length ≤ l.flatten.length
  | [], i => by simp
  | x :: r, 0 => by simp
  | x :: r, i + 1 => by
    rw [List.take_succ_cons, List.flatten_cons, List.flatten_cons, List.length_append, List.length_append]
    have := len_flat_take r i
    omega
theorem loop0 {iter : Expr} {wn ln : Str} {p1 p2 p3 p4 pos : Pos} {scope : Scope} {env : Env} {I ax D : Addr} {vs : List Value} {rows : List (List Value)} {m : Str → Option Value} {h₁ : Heap}
    (hh : A.handled = none) (hk : env.scope.kind = .function) (hw : env.kindOf wn = some .local) (hd : (wn == ("__debug__" : Str)) = false) (hl' : env.kindOf ln = some .local) (hd' : (ln == ("__debug__" : Str)) = false)
    (ho : (env.scope.kind == .class || (env.scope.kind == .module && env.locals != env.globals)) = false)
    (hIC : I ≠ env.locals) (hID : I ≠ D) (hDC : D ≠ env.locals) (nI : h₁.get? I = none) (nC : h₁.get? env.locals = none) (nD : h₁.get? D = none)
    (hit : s.heap.IsListIter I ax 0) (hl : h₁.IsList ax vs.toArray) (hrow : RowsAt h₁ vs rows) (hkeep : ∀ b o, h₁.get? b = some o → s.heap.get? b = some o) (hD : s.heap.get? D = some (LCg.lst [])) (hn : s.heap.Ns env.locals m) (hsz : rows.flatten.length ≤ sizeLine)
    (hR : ∀ h' tk m', h'.Ns env.locals m' → h'.get? D = some (LCg.lst rows.flatten) → (∀ b o, h₁.get? b = some o → h'.get? b = some o) → R (.ok .next) { s with heap := h', toks := tk }) :
    codeAny (model prog w) A (.compLoop (.ListComp (.Name wn p1) (two wn ln p2 p3 p4 iter) scope pos) 0 (.ref I) (.ref D) env) R s := by
  have hax : ax ≠ I := fun e => by obtain ⟨o, q, _⟩ := hl; rw [e, nI] at q; cases q
  have W : Walks prog w A I [I, ax] [I] vs.toArray.size _ _ := Walks.list hh I ax hax vs.toArray
  refine codeAny_loop rfl (Inv0 s env I ax D vs rows h₁) ?_ (vs.length + 1) ⟨s.heap, _, 0, m, rfl, Nat.zero_le _, rfl, hit, by rw [List.take_zero]; exact hD, hn, hkeep⟩
  rintro n s' ⟨h', tk, j, m', rfl, hj, rfl, hit', hD', hn', keep⟩
  show wpAny _ A ((compTurn (.ListComp (.Name wn p1) (two wn ln p2 p3 p4 iter) scope pos) 0 (.ref I) (.ref D) env).onRaise (fun x => do noteFrame x env; theTreesLotGoes x)) _ _ _
  refine wpAny_noted ?_
  rw [turn0]
  refine wpAny_bind (wpAny_standAt (wpAny_bind ?_))
  have hl2 : h'.IsList ax vs.toArray := (by obtain ⟨o, e, r⟩ := hl; exact ⟨o, keep _ _ e, r⟩)
  by_cases hlt : j < vs.length
  · refine W.item j _ _ _ (by simpa using hlt) ⟨hit', hl2⟩ fun v h₂ tk₂ hv st₂ hk₂ => ?_
    obtain ⟨row, hrj⟩ : ∃ row, rows[j]? = some row := ⟨_, List.getElem?_eq_getElem (by have := hrow.1; omega)⟩
    obtain ⟨t, htv, htl⟩ := hrow.2 j row hrj
    have hv : v = Value.ref t := by
      have : vs[j]? = some v := by simpa using hv
      rw [htv] at this
      exact (Option.some.inj this).symm
    subst hv
    refine wpAny_bind (wpAny_of_eq (by rfl) ?_)
    have hn₂ : h₂.Ns env.locals m' := hn'.at' fun o e => hk₂ _ o (by simpa using Ne.symm hIC) e
    refine wpAny_bind (wpAny_assign_Name (wpAny_storeName_local hl' hn₂ (fun h₃ hn₃ hs₃ => ?_) ho))
    have k3 : ∀ b o, h₁.get? b = some o → h₃.get? b = some o := fun b o e => hs₃.extBut _ _ (fun q => by rw [q, nC] at e; cases e) (hk₂ _ _ (by simp; intro q; rw [q, nI] at e; cases e) (keep b o e))
    have htl₃ : h₃.IsList t row.toArray := (by obtain ⟨o, e, r⟩ := htl; exact ⟨o, k3 _ _ e, r⟩)
    have hD₃ : h₃.get? D = some (LCg.lst (rows.take j).flatten) := hs₃.extBut _ _ hDC (hk₂ _ _ (by simpa using Ne.symm hID) hD')
    have hit₃ : h₃.IsListIter I ax (j + 1) := by obtain ⟨o, e, r⟩ := st₂.1; exact ⟨o, hs₃.extBut _ _ hIC e, r⟩
    refine wpAny_bind (wpAny_Name (wpAny_loadName_local (v := Value.ref t) hk hl' hn₃ (if_pos rfl) ?_) hd')
    refine wpAny_bind (wpAny_standAt (wpAny_bind (wpAny_of_eq (by rfl) ?_)))
    refine wpAny_bind (wpAny_holding (wpAny_pyIter_list htl₃ ?_))
    dsimp only
    have nt : h₁.get? t ≠ none := fun q => by obtain ⟨o, e, _⟩ := htl; rw [e] at q; cases q
    have htlt : t < h₃.objs.size := by obtain ⟨_, e, _⟩ := htl₃; exact Heap.lt_size e
    have hClt : env.locals < h₃.objs.size := hn₃.lt
    have hDlt : D < h₃.objs.size := Heap.lt_size hD₃
    have hIlt : I < h₃.objs.size := by obtain ⟨_, e, _⟩ := hit₃; exact Heap.lt_size e
    have hlen : (rows.take j).flatten.length + row.length ≤ rows.flatten.length := by
      have := len_flat_take rows (j + 1)
      rw [List.take_add_one, hrj, List.flatten_append, List.length_append] at this
      simpa using this
    refine wpAny_bind (wpAny_runOwn ?_)
    rw [Around.mark_none]
    have L1 : ∀ R' : Result → Shared → Prop, (∀ h₄ tk₄ m₄, h₄.IsListIter I ax (j + 1) → h₄.get? D = some (LCg.lst (rows.take (j + 1)).flatten) → h₄.Ns env.locals m₄ → (∀ b o, h₁.get? b = some o → h₄.get? b = some o) → R' (.ok .next) { s with heap := h₄, toks := tk₄ }) →
        codeAny (model prog w) A (.compLoop (.ListComp (.Name wn p1) (two wn ln p2 p3 p4 iter) scope pos) 1 (.ref h₃.objs.size) (.ref D) env) R' { s with heap := h₃.push { cls := .type "list_iterator", data := .fields #[.ref t, .int 0 0] }, toks := tk₂ + 1 } := by
      intro R' hR'
      refine loop1 (I := h₃.objs.size) (t := t) (D := D) (row := row) (ys := (rows.take j).flatten) hh hk hw hd ho (Ne.symm (Nat.ne_of_lt hClt)) (Ne.symm (Nat.ne_of_lt hDlt)) (fun q => nt (q ▸ nC)) (fun q => nt (q ▸ nD)) (Nat.ne_of_lt htlt) hDC
        ⟨_, Heap.get?_push_size _ rfl, rfl, rfl⟩ (htl₃.push _) (Heap.get?_push_of_some _ hD₃) (hn₃.at' fun o e => Heap.get?_push_of_some _ e) (by omega) ?_
      intro h₄ tk₄ m₄ hn₄ hD₄ k₄
      refine hR' h₄ tk₄ m₄ ?_ ?_ hn₄ fun b o e => ?_
      · obtain ⟨o, e, r⟩ := hit₃
        exact ⟨o, k₄ _ _ (Nat.ne_of_lt hIlt) hID hIC (Heap.get?_push_of_some _ e), r⟩
      · rw [hD₄, List.take_add_one, hrj, List.flatten_append]; simp
      · have e3 := k3 b o e
        exact k₄ _ _ (Nat.ne_of_lt (Heap.lt_size e3)) (fun q => by rw [q, nD] at e; cases e) (fun q => by rw [q, nC] at e; cases e) (Heap.get?_push_of_some _ e3)
    refine start1 (L1 _ ?_) (wpAny_pyIter_listiter (i := 0) (l := t) ⟨_, Heap.get?_push_size _ rfl, rfl, rfl⟩ (L1 _ ?_)) <;>
      exact fun h₄ tk₄ m₄ a1 a2 a3 a4 => wpAny_pure ⟨rfl, vs.length + 1 - (j + 1), by omega, h₄, tk₄, j + 1, m₄, rfl, hlt, rfl, a1, a2, a3, a4⟩
  · have e : j = vs.length := by omega
    subst e
    refine W.done _ _ _ ⟨by simpa using hit', hl2⟩ fun h₂ tk₂ hk₂ => ?_
    refine wpAny_pure (hR h₂ _ m' (hn'.at' fun o e => hk₂ _ o (by simpa using Ne.symm hIC) e) ?_ fun b o e => hk₂ _ _ (by simp; intro q; rw [q, nI] at e; cases e) (keep b o e))
    rw [hrow.1, List.take_length] at hD'
    exact hk₂ _ _ (by simpa using Ne.symm hID) hD'
def FlatSrc (A : Around) (h₀ : Heap) (L : Addr) (m : Str → Option Value) (Q : Value → Shared → Prop) (xv : Value) (s₁ : Shared) : Prop :=
  ∃ (ax : Addr) (vs : List Value) (rows : List (List Value)) (news : List (Addr × Obj)), xv = .ref ax ∧ A.handled = none ∧ Fr h₀ L s₁.heap m ∧ News h₀ L s₁.heap news ∧ s₁.heap.IsList ax vs.toArray ∧ RowsAt s₁.heap vs rows ∧ rows.flatten.length ≤ sizeLine ∧
    ∀ D h tk, Fr h₀ L h m → News h₀ L h ((D, LCg.lst rows.flatten) :: news) → LCg.Off1 D news → Q (.ref D) { s₁ with heap := h, toks := tk }
theorem FlatSrc.intro {A : Around} {h₀ : Heap} {L : Addr} {m : Str → Option Value} {Q : Value → Shared → Prop} {s₁ : Shared} {ax : Addr} {vs : List Value} {rows : List (List Value)} {news : List (Addr × Obj)}
    (hh : A.handled = none) (F : Fr h₀ L s₁.heap m) (N : News h₀ L s₁.heap news) (hl : s₁.heap.IsList ax vs.toArray) (hr : RowsAt s₁.heap vs rows) (hz : rows.flatten.length ≤ sizeLine)
    (h : ∀ D h tk, Fr h₀ L h m → News h₀ L h ((D, LCg.lst rows.flatten) :: news) → LCg.Off1 D news → Q (.ref D) { s₁ with heap := h, toks := tk }) : FlatSrc A h₀ L m Q (.ref ax) s₁ :=
  ⟨ax, vs, rows, news, rfl, hh, F, N, hl, hr, hz, h⟩
theorem off1_of {D : Addr} : ∀ {l : List (Addr × Obj)}, (∀ p ∈ l, p.1 ≠ D) → LCg.Off1 D l
  | [], _ => trivial
  | _ :: _, h => ⟨h _ List.mem_cons_self, off1_of fun p hp => h p (List.mem_cons_of_mem _ hp)⟩
theorem flat_comp {h₀ : Heap} {L : Addr} {m : Str → Option Value} {env : Env} {iter : Expr} {wn ln : Str} {p1 p2 p3 p4 pos : Pos} {scope : Scope} {cl : List (Str × Addr)} {Q : Value → Shared → Prop}
    (hclos : closureFor scope env = pure cl) (hcell : ∀ y ∈ scope.names, y.2 ≠ .cell) (hkind : scope.kind = .function)
    (hnames : ∀ y ∈ scope.names, y.2 = .local → scope.names.lookup y.1 = some .local) (hw : scope.names.lookup wn = some .local) (hl : scope.names.lookup ln = some .local)
    (hd : (wn == ("__debug__" : Str)) = false) (hd' : (ln == ("__debug__" : Str)) = false)
    (h : wpAny (model prog w) A (eval iter env) (FlatSrc A h₀ L m Q) E s)
    (hs : ∀ x, foldedSetIterable iter env x = pure x := by intro _; rfl) :
    wpAny (model prog w) A (eval (.ListComp (.Name wn p1) (two wn ln p2 p3 p4 iter) scope pos) env) Q E s := by
  rw [eval_ListComp]
  refine wpAny_comprehension_free (use := none) rfl hs hclos hkind hnames (wpAny_mono h (fun xv s₁ h₁ => ?_) fun _ _ e => e)
  obtain ⟨ax, vs, rows, news, rfl, hh, F, N, hl1, hrow, hsz, fin⟩ := h₁
  refine wpAny_pyIter_list hl1 ?_
  refine wpAny_newObj_type (wpAny_newFunctionEnv hcell (by intro y hy; simp at hy) (fun h₁ hns₁ hsb₁ => ?_) hkind)
  dsimp only at hns₁ hsb₁ ⊢
  generalize hH1 : s₁.heap.push { cls := .type "list_iterator", dict := none, data := .fields #[.ref ax, .int 0 0] } = H1 at hns₁ hsb₁ ⊢
  generalize hH2 : H1.push { cls := .type "list", dict := none, data := .seq ([] : List Value).toArray } = H2 at hns₁ hsb₁ ⊢
  have z1 : H1.objs.size = s₁.heap.objs.size + 1 := by rw [← hH1, Heap.size_push]
  have z2 : H2.objs.size = s₁.heap.objs.size + 2 := by rw [← hH2, Heap.size_push, z1]
  have nIC : s₁.heap.objs.size ≠ H2.objs.size := by rw [z2]; omega
  have nID : s₁.heap.objs.size ≠ H1.objs.size := by rw [z1]; omega
  have nDC : H1.objs.size ≠ H2.objs.size := by rw [z1, z2]; omega
  have fresh : ∀ a, s₁.heap.objs.size ≤ a → s₁.heap.get? a = none := fun a ha => by
    cases e : s₁.heap.get? a with
    | none => rfl
    | some o' => exact absurd (Heap.lt_size e) (Nat.not_lt.mpr ha)
  have keep : ∀ b o, s₁.heap.get? b = some o → h₁.get? b = some o := fun b o e => hsb₁.extBut _ _ (fun q => by rw [q, fresh _ (by omega)] at e; cases e) (Heap.get?_push_of_some _ (hH2 ▸ Heap.get?_push_of_some _ (hH1 ▸ Heap.get?_push_of_some _ e)))
  have hI : h₁.get? s₁.heap.objs.size = some { cls := .type "list_iterator", dict := none, data := .fields #[.ref ax, .int 0 0] } :=
    hsb₁.extBut _ _ nIC (Heap.get?_push_of_some _ (hH2 ▸ Heap.get?_push_of_some _ (hH1 ▸ Heap.get?_push_size _ rfl)))
  have hDo : h₁.get? H1.objs.size = some (LCg.lst []) := hsb₁.extBut _ _ nDC (Heap.get?_push_of_some _ (hH2 ▸ Heap.get?_push_size _ rfl))
  have loop : codeAny (model prog w) A (.compLoop (.ListComp (.Name wn p1) (two wn ln p2 p3 p4 iter) scope pos) 0 (.ref s₁.heap.objs.size) (.ref H1.objs.size) (compEnvC scope cl H2.objs.size env))
      (compPost (model prog w) A E none Q (.ref H1.objs.size) H2.objs.size) { s₁ with heap := h₁, toks := s₁.toks + ([] : List (Str × Value)).length } := by
    refine loop0 (h₁ := s₁.heap) (ax := ax) (vs := vs) (rows := rows) hh (by simp [compEnvC, relabel, hkind]) (lookup_relabel_local hw) hd (lookup_relabel_local hl) hd' (by simp [compEnvC, relabel, hkind]) nIC nID nDC
      (fresh _ (Nat.le_refl _)) (fresh _ (by show _ ≤ H2.objs.size; omega)) (fresh _ (by omega)) ⟨_, hI, rfl, rfl⟩ hl1 hrow keep hDo hns₁ hsz ?_
    intro h' tk m' hn' hD' k'
    refine ⟨m', hn', fun h'' hs'' => ?_⟩
    have k2 : ∀ b o, s₁.heap.get? b = some o → h''.get? b = some o := fun b o e => hs''.extBut _ _ (fun q => by rw [q, fresh _ (by show _ ≤ H2.objs.size; omega)] at e; cases e) (k' b o e)
    refine fin _ h'' tk (F.keeps k2) (fun p hp => ?_) (off1_of fun p hp => ?_)
    · rcases List.mem_cons.mp hp with rfl | hp
      · refine ⟨hs''.extBut _ _ nDC hD', Ne.symm (Nat.ne_of_lt (Nat.lt_of_lt_of_le F.ns.lt (by rw [z1]; exact Nat.le_succ _))), ?_⟩
        · cases q : h₀.get? H1.objs.size with
          | none => rfl
          | some o => have := F.keep _ _ q; rw [fresh _ (by omega)] at this; cases this
      · exact ⟨k2 _ _ (N p hp).1, (N p hp).2⟩
    · have := Heap.lt_size (N p hp).1
      intro q
      have e' : @Eq Nat p.1 H1.objs.size := q
      have this : @LT.lt Nat _ p.1 s₁.heap.objs.size := this
      omega
  exact codeAny_compStart_list loop (wpAny_pyIter_listiter (i := 0) (l := ax) ⟨_, hI, rfl, rfl⟩ loop)
end

/-- a list of refs to lists of ints whose objects lie in tl -/
structure RowsIn (tl : List (Addr × Obj)) (ys : List Value) (rows : List (List Int)) : Prop where
  len : ys.length = rows.length
  at' : ∀ (i : Nat) (row : List Int), rows[i]? = some row → ∃ (t : Addr) (zs : List Value), ys[i]? = some (Value.ref t) ∧ (t, LCg.lst zs) ∈ tl ∧ IntsAre zs row
theorem RowsIn.nil {tl : List (Addr × Obj)} : RowsIn tl [] [] := ⟨rfl, fun i q h => by simp at h⟩
theorem RowsIn.snoc {tl : List (Addr × Obj)} {ys zs : List Value} {rows : List (List Int)} {t : Addr} {row : List Int} (h : RowsIn tl ys rows) (hz : IntsAre zs row) : RowsIn ((t, LCg.lst zs) :: tl) (ys ++ [Value.ref t]) (rows ++ [row]) := by
  refine ⟨by rw [List.length_append, List.length_append, h.len]; rfl, fun i p hp => ?_⟩
  by_cases hi : i < rows.length
  · rw [List.getElem?_append_left hi] at hp
    obtain ⟨t', zs', e, m, z⟩ := h.at' i p hp
    exact ⟨t', zs', by rw [List.getElem?_append_left (by rw [h.len]; exact hi)]; exact e, List.mem_cons_of_mem _ m, z⟩
  · rw [List.getElem?_append_right (Nat.not_lt.mp hi)] at hp
    have e0 : i - rows.length = 0 := by
      cases e : i - rows.length with
      | zero => rfl
      | succ j => rw [e] at hp; simp at hp
    rw [e0] at hp
    simp only [List.getElem?_cons_zero, Option.some.injEq] at hp
    subst hp
    exact ⟨t, zs, by rw [List.getElem?_append_right (by rw [h.len]; exact Nat.not_lt.mp hi), h.len, e0]; rfl, List.mem_cons_self, hz⟩
section
variable {prog : Program} {w : World} {A : Around} {E : Value → Shared → Prop} {s : Shared} {R : Result → Shared → Prop}
theorem newEnv_cell {M : Model} {scope : Scope} {globals : Addr} {cl : List (Str × Addr)} {qual : Str} {env : Env} {x : Str} {builtins : Addr} {Q : Env → Shared → Prop}
    (hcf : ∀ n, cellsFrom n scope.names cl = (x, n) :: cl) (hpc : ∀ h, pushCells h scope.names = h.push { cls := .type "cell", data := .cell none })
    (hQ : Q (newEnv scope s.heap.objs.size globals ((x, s.heap.objs.size + 1) :: cl) qual none .none (some env) builtins) { s with heap := (s.heap.push { cls := .type "dict", data := .dict #[] }).push { cls := .type "cell", data := .cell none } }) :
    wpAny M A (newFunctionEnv scope globals cl [] qual none .none (some env) builtins) Q E s := by
  simp only [newFunctionEnv, Option.isSome_some, if_true]
  refine wpAny_bind (wpAny_alloc ?_)
  refine wpAny_bind (wpAny_layCells _ (fun name kind cells => by cases hkc : kind == NameKind.cell <;> simp [hkc]) _ _ _ _ ?_)
  rw [hcf, hpc]
  rw [show ({ s with heap := s.heap.push { cls := .type "dict", data := .dict #[] } } : Shared).heap.objs.size = s.heap.objs.size + 1 from Heap.size_push ..]
  simp only [List.forIn_nil]
  exact wpAny_bind (wpAny_pure (wpAny_pure hQ))
inductive RowEnd (h₀ : Heap) (L : Addr) (m : Str → Option Value) (s₁ : Shared) (I : Addr) (oI : Obj) (C : Addr) (oC : Obj) (P : Addr) (oP : Obj) (D : Addr) (oD : Obj) (all : List (Addr × Obj)) (row : List Int) (y : Value) (s₂ : Shared) : Prop
  | mk (T : Addr) (zs : List Value) (h' : Heap) (tk : Nat) (ey : y = .ref T) (es : s₂ = { s₁ with heap := h', toks := tk }) (F : Fr h₀ L h' m) (N : News h₀ L h' ((T, LCg.lst zs) :: (I, oI) :: (C, oC) :: (P, oP) :: (D, oD) :: all)) (i : IntsAre zs row) (o : LCg.Off1 T ((I, oI) :: (C, oC) :: (P, oP) :: (D, oD) :: all))
inductive CellSrc (prog : Program) (w : World) (A : Around) (h₀ : Heap) (L : Addr) (m : Str → Option Value) (env : Env) (elt : Expr) (x : Str) (scope : Scope) (cl : List (Str × Addr)) (Q : Value → Shared → Prop) (xv : Value) (s₁ : Shared) : Prop
  | mk (ax : Addr) (vs : List Value) (ns : List Int) (g : Int → List Int) (news : List (Addr × Obj)) (ex : xv = .ref ax) (hh : A.handled = none) (F : Fr h₀ L s₁.heap m) (N : News h₀ L s₁.heap news) (hl : h₀.IsList ax vs.toArray) (hi : IntsAre vs ns) (hz : vs.length ≤ sizeLine)
    (turn : ∀ k t I oI C oC P oP D ys tl h tk (E' : Value → Shared → Prop), k ∈ ns → oP.data = .cell (some (.int k t)) → Fr h₀ L h m → News h₀ L h ((I, oI) :: (C, oC) :: (P, oP) :: (D, LCg.lst ys) :: (news ++ tl)) →
      OwnOff tl (news.map (·.1)) → (∀ p ∈ news ++ tl, p.1 ≠ I ∧ p.1 ≠ C ∧ p.1 ≠ P ∧ p.1 ≠ D) → ((@Ne Nat I C) ∧ (@Ne Nat I P) ∧ (@Ne Nat I D) ∧ (@Ne Nat C P) ∧ (@Ne Nat C D) ∧ (@Ne Nat P D)) →
      wpAny (model prog w) A (eval elt (compEnvC scope ((x, P) :: cl) C env)) (RowEnd h₀ L m { s₁ with heap := h, toks := tk } I oI C oC P oP D (LCg.lst ys) (news ++ tl) (g k)) E' { s₁ with heap := h, toks := tk })
    (fin : ∀ D h tk ys tl, Fr h₀ L h m → News h₀ L h ((D, LCg.lst ys) :: (news ++ tl)) → LCg.Off1 D (news ++ tl) → OwnOff tl (news.map (·.1)) → RowsIn tl ys (ns.map g) → Q (.ref D) { s₁ with heap := h, toks := tk })
theorem CellSrc.intro {h₀ : Heap} {L : Addr} {m : Str → Option Value} {env : Env} {elt : Expr} {x : Str} {scope : Scope} {cl : List (Str × Addr)} {Q : Value → Shared → Prop} {s₁ : Shared} {ax : Addr} {vs : List Value} {ns : List Int} (g : Int → List Int) {news : List (Addr × Obj)}
    (hh : A.handled = none) (F : Fr h₀ L s₁.heap m) (N : News h₀ L s₁.heap news) (hl : h₀.IsList ax vs.toArray) (hi : IntsAre vs ns) (hz : vs.length ≤ sizeLine)
    (turn : ∀ k t I oI C oC P oP D ys tl h tk (E' : Value → Shared → Prop), k ∈ ns → oP.data = .cell (some (.int k t)) → Fr h₀ L h m → News h₀ L h ((I, oI) :: (C, oC) :: (P, oP) :: (D, LCg.lst ys) :: (news ++ tl)) →
      OwnOff tl (news.map (·.1)) → (∀ p ∈ news ++ tl, p.1 ≠ I ∧ p.1 ≠ C ∧ p.1 ≠ P ∧ p.1 ≠ D) → ((@Ne Nat I C) ∧ (@Ne Nat I P) ∧ (@Ne Nat I D) ∧ (@Ne Nat C P) ∧ (@Ne Nat C D) ∧ (@Ne Nat P D)) →
      wpAny (model prog w) A (eval elt (compEnvC scope ((x, P) :: cl) C env)) (RowEnd h₀ L m { s₁ with heap := h, toks := tk } I oI C oC P oP D (LCg.lst ys) (news ++ tl) (g k)) E' { s₁ with heap := h, toks := tk })
    (fin : ∀ D h tk ys tl, Fr h₀ L h m → News h₀ L h ((D, LCg.lst ys) :: (news ++ tl)) → LCg.Off1 D (news ++ tl) → OwnOff tl (news.map (·.1)) → RowsIn tl ys (ns.map g) → Q (.ref D) { s₁ with heap := h, toks := tk }) :
    CellSrc prog w A h₀ L m env elt x scope cl Q (.ref ax) s₁ := ⟨ax, vs, ns, g, news, rfl, hh, F, N, hl, hi, hz, turn, fin⟩
theorem off1_mem {D : Addr} : ∀ {l : List (Addr × Obj)}, LCg.Off1 D l → ∀ p ∈ l, p.1 ≠ D
  | [], _, _, hp => nomatch hp
  | _ :: _, x, p, hp => by
    rcases List.mem_cons.mp hp with rfl | hp
    · exact x.1
    · exact off1_mem x.2 p hp
inductive CellInv (s₁ : Shared) (h₀ : Heap) (L : Addr) (m : Str → Option Value) (ax I : Addr) (vs : List Value) (news : List (Addr × Obj)) (ns : List Int) (g : Int → List Int) (k : Nat) (s' : Shared) : Prop
  | mk (h' : Heap) (tk i : Nat) (ys : List Value) (tl : List (Addr × Obj)) (pv : Option Value) (m' : Str → Option Value) (es : s' = { s₁ with heap := h', toks := tk }) (hi : i ≤ vs.length) (hk : k = vs.length + 1 - i) (hy : ys.length = i) (it : h'.IsListIter I ax i) (F : Fr h₀ L h' m) (hn : h'.Ns (I + 2) m') (hp : h'.IsCell (I + 3) pv)
    (N : News h₀ L h' ((I + 1, LCg.lst ys) :: (news ++ tl))) (off : ∀ p ∈ news ++ tl, p.1 ≠ I ∧ p.1 ≠ I + 2 ∧ p.1 ≠ I + 3 ∧ p.1 ≠ I + 1) (own : OwnOff tl (news.map (·.1))) (rows : RowsIn tl ys ((ns.take i).map g))
theorem cell_comp {h₀ : Heap} {L : Addr} {m : Str → Option Value} {env : Env} {iter elt : Expr} {x : Str} {px pos : Pos} {scope : Scope} {cl : List (Str × Addr)} {Q : Value → Shared → Prop}
    (hclos : closureFor scope env = pure cl) (hkind : scope.kind = .function)
    (hnames : ∀ y ∈ scope.names, y.2 = .local → scope.names.lookup y.1 = some .local)
    (hcf : ∀ n, cellsFrom n scope.names cl = (x, n) :: cl) (hpc : ∀ h, pushCells h scope.names = h.push { cls := .type "cell", data := .cell none }) (hx : (relabel scope env).names.lookup x = some .cell)
    (h : wpAny (model prog w) A (eval iter env) (CellSrc prog w A h₀ L m env elt x scope cl Q) E s)
    (hs : ∀ x, foldedSetIterable iter env x = pure x := by intro _; rfl) :
    wpAny (model prog w) A (eval (.ListComp elt [⟨.Name x px, iter, [], 0⟩] scope pos) env) Q E s := by
  rw [eval_ListComp]
  refine wpAny_comprehension_free (use := none) rfl hs hclos hkind hnames (wpAny_mono h (fun xv s₁ h₁ => ?_) fun _ _ e => e)
  obtain ⟨ax, vs, ns, g, news, rfl, hh, F, N, hl1, hi, hsz, turn, fin⟩ := h₁
  have hax : s₁.heap.IsList ax vs.toArray := by obtain ⟨o, e, r⟩ := hl1; exact ⟨o, F.keep _ _ e, r⟩
  refine wpAny_pyIter_list hax ?_
  refine wpAny_newObj_type (newEnv_cell hcf hpc ?_)
  generalize hI0 : s₁.heap.objs.size = I
  generalize hH1 : s₁.heap.push { cls := .type "list_iterator", dict := none, data := .fields #[.ref ax, .int 0 0] } = H1
  generalize hH2 : H1.push { cls := .type "list", dict := none, data := .seq ([] : List Value).toArray } = H2
  have z1 : H1.objs.size = I + 1 := by rw [← hH1, Heap.size_push, hI0]
  have z2 : H2.objs.size = I + 2 := by rw [← hH2, Heap.size_push, z1]
  dsimp only
  rw [z1, z2]
  generalize hH4 : (H2.push { cls := .type "dict", data := .dict #[] }).push { cls := .type "cell", data := .cell none } = H4
  have fresh : ∀ a, I ≤ a → s₁.heap.get? a = none := fun a ha => by
    cases e : s₁.heap.get? a with
    | none => rfl
    | some o' => exact absurd (Heap.lt_size e) (Nat.not_lt.mpr (hI0 ▸ ha))
  have fresh₀ : ∀ a, I ≤ a → h₀.get? a = none := fun a ha => by
    cases e : h₀.get? a with
    | none => rfl
    | some o' => have := F.keep a o' e; rw [fresh a ha] at this; cases this
  have keep : ∀ b o, s₁.heap.get? b = some o → H4.get? b = some o := fun b o e => hH4 ▸ Heap.get?_push_of_some _ (Heap.get?_push_of_some _ (hH2 ▸ Heap.get?_push_of_some _ (hH1 ▸ Heap.get?_push_of_some _ e)))
  have hI : H4.get? I = some { cls := .type "list_iterator", dict := none, data := .fields #[.ref ax, .int 0 0] } :=
    hH4 ▸ Heap.get?_push_of_some _ (Heap.get?_push_of_some _ (hH2 ▸ Heap.get?_push_of_some _ (hH1 ▸ hI0 ▸ Heap.get?_push_size _ rfl)))
  have hDo : H4.get? (I + 1) = some (LCg.lst []) := hH4 ▸ Heap.get?_push_of_some _ (Heap.get?_push_of_some _ (hH2 ▸ z1 ▸ Heap.get?_push_size _ rfl))
  have hCn : H4.Ns (I + 2) (fun _ => none) := by
    rw [← hH4, ← z2]
    exact (Heap.Ns.new H2 (.type "dict")).keeps fun b o e => Heap.get?_push_of_some _ e
  have hPc : H4.IsCell (I + 3) none := by
    refine ⟨{ cls := .type "cell", data := .cell none }, ?_, rfl⟩
    rw [← hH4, show I + 3 = (H2.push { cls := .type "dict", data := .dict #[] }).objs.size by rw [Heap.size_push, z2]]
    exact Heap.get?_push_size _ rfl
  have hLlt : @LT.lt Nat _ L I := hI0 ▸ F.ns.lt
  have loop : ∀ s₃ : Shared, s₃ = { s₁ with heap := H4, toks := s₁.toks } → codeAny (model prog w) A (.compLoop (.ListComp elt [⟨.Name x px, iter, [], 0⟩] scope pos) 0 (.ref I) (.ref (I + 1)) (compEnvC scope ((x, I + 3) :: cl) (I + 2) env))
      (compPost (model prog w) A E none Q (.ref (I + 1)) (I + 2)) s₃ := by
    rintro s₃ rfl
    have W : Walks prog w A I [I, ax] [I] vs.toArray.size _ _ := Walks.list hh I ax (fun q => by obtain ⟨o, e, _⟩ := hax; rw [q, fresh _ (Nat.le_refl _)] at e; cases e) vs.toArray
    refine codeAny_compLoop_tests
      (CellInv s₁ h₀ L m ax I vs news ns g) ?_ (vs.length + 1)
      ⟨H4, _, 0, [], [], _, _, rfl, Nat.zero_le _, rfl, rfl, ⟨_, hI, rfl, rfl⟩, F.keeps keep, hCn, hPc, fun p hp => ?_, fun p hp => ?_, (fun p hp => nomatch hp), by simp only [List.take_zero, List.map_nil]; exact .nil⟩
    · rintro k s' ⟨h', tk, i, ys, tl, pv, m', rfl, hi', rfl, hyl, hit', F', hn', hp', N', off', own', rows'⟩
      have hax' : h'.IsList ax vs.toArray := by obtain ⟨o, e, r⟩ := hl1; exact ⟨o, F'.keep _ _ e, r⟩
      by_cases hlt : i < vs.length
      · refine W.item i _ _ _ (by simpa using hlt) ⟨hit', hax'⟩ fun v h₂ tk₂ hv st₂ hk₂ => ?_
        have hv : vs[i]? = some v := by simpa using hv
        obtain ⟨kk, tt, hv2, hk2⟩ := IntsAre.at hi i v hv
        subst hv2
        have k2 : ∀ b o, b ≠ I → h'.get? b = some o → h₂.get? b = some o := fun b o hb e => hk₂ _ _ (by simpa using hb) e
        have hp₂ : h₂.IsCell (I + 3) pv := by obtain ⟨o, e, r⟩ := hp'; exact ⟨o, k2 _ _ (by show I + 3 ≠ I; omega) e, r⟩
        refine wpAny_assign_Name (wpAny_storeName_cell (by simp [compEnvC, relabel, hkind]) hx (c := I + 3) (by simp [compEnvC, List.lookup_cons]) hp₂ (fun h₃ hp₃ hs₃ => ?_))
        refine wpAny_tests_nil ?_
        simp only [if_true]
        have k3 : ∀ b o, b ≠ I + 3 → h₂.get? b = some o → h₃.get? b = some o := fun b o hb e => hs₃.extBut _ _ hb e
        obtain ⟨oP, heP, hdP⟩ := hp₃
        obtain ⟨oI, heI, hdI⟩ := st₂.1
        have hn₂ : h₂.Ns (I + 2) m' := hn'.at' fun o e => k2 _ _ (by show I + 2 ≠ I; omega) e
        obtain ⟨oC, heC, hoC⟩ := LCg.ns_obj hn₂
        have k23 : ∀ b o, b ≠ I → b ≠ I + 3 → h'.get? b = some o → h₃.get? b = some o := fun b o b1 b2 e => k3 _ _ b2 (k2 _ _ b1 e)
        have F₃ : Fr h₀ L h₃ m := ⟨F'.ns.at' fun o e => k23 _ _ (Nat.ne_of_lt hLlt) (by intro q; have q' : @Eq Nat L (I + 3) := q; omega) e, fun b o e => k23 _ _ (fun q => by rw [q, fresh₀ _ (Nat.le_refl _)] at e; cases e) (fun q => by rw [q, fresh₀ _ (by omega)] at e; cases e) (F'.keep b o e), F'.above⟩
        have N₃ : News h₀ L h₃ ((I, oI) :: (I + 2, oC) :: (I + 3, oP) :: (I + 1, LCg.lst ys) :: (news ++ tl)) := fun p hp => by
          have neL : ∀ a, I ≤ a → a ≠ L := fun a ha q => by have q' : @Eq Nat a L := q; omega
          rcases List.mem_cons.mp hp with rfl | hp
          · exact ⟨k3 _ _ (by show I ≠ I + 3; omega) heI, neL _ (Nat.le_refl _), fresh₀ _ (Nat.le_refl _)⟩
          rcases List.mem_cons.mp hp with rfl | hp
          · exact ⟨k3 _ _ (by show I + 2 ≠ I + 3; omega) heC, neL _ (by omega), fresh₀ _ (by omega)⟩
          rcases List.mem_cons.mp hp with rfl | hp
          · exact ⟨heP, neL _ (by omega), fresh₀ _ (by omega)⟩
          rcases List.mem_cons.mp hp with rfl | hp
          · exact ⟨k23 _ _ (by show I + 1 ≠ I; omega) (by show I + 1 ≠ I + 3; omega) (N' _ List.mem_cons_self).1, neL _ (by omega), fresh₀ _ (by omega)⟩
          · have z := N' p (List.mem_cons_of_mem _ hp)
            exact ⟨k23 _ _ (off' p hp).1 (off' p hp).2.2.1 z.1, z.2⟩
        refine wpAny_mono (turn kk tt I oI (I + 2) oC (I + 3) oP (I + 1) ys tl h₃ _ _ (List.mem_of_getElem? hk2) hdP F₃ N₃ own' off' ⟨by omega, by omega, by omega, by omega, by omega, by omega⟩) (fun y s₄ h₄ => ?_) fun _ _ e => e
        obtain ⟨T, zs, h₄, tk₄, rfl, rfl, F₄, N₄, hzs, offT⟩ := h₄
        have oT := off1_mem offT
        have zI := (N₄ (I, oI) (.tail _ (.head _))).1
        have zC := (N₄ (I + 2, oC) (.tail _ (.tail _ (.head _)))).1
        have zP := (N₄ (I + 3, oP) (.tail _ (.tail _ (.tail _ (.head _))))).1
        have zD := (N₄ (I + 1, LCg.lst ys) (.tail _ (.tail _ (.tail _ (.tail _ (.head _)))))).1
        have zr : ∀ p ∈ news ++ tl, _ := fun p hp => N₄ p (.tail _ (.tail _ (.tail _ (.tail _ (.tail _ hp)))))
        refine append_at (hsz := by rw [List.size_toArray, hyl]; exact Nat.le_trans hi' hsz) zD fun h₅ hs₅ hD₅ => ?_
        have k5 : ∀ b o, b ≠ I + 1 → h₄.get? b = some o → h₅.get? b = some o := fun b o hb e => hs₅.extBut _ _ hb e
        have tT : T ≠ I + 1 := fun q => oT (I + 1, LCg.lst ys) (.tail _ (.tail _ (.tail _ (.head _)))) q.symm
        refine ⟨vs.length + 1 - (i + 1), by omega, h₅, tk₄, i + 1, ys ++ [.ref T], (T, LCg.lst zs) :: tl, _, _, rfl, hlt, rfl, by rw [List.length_append, List.length_singleton, hyl], ⟨oI, k5 _ _ (by show I ≠ I + 1; omega) zI, hdI⟩,
          F₄.change hs₅ (by intro q; have q' : @Eq Nat (I + 1) L := q; omega) (fresh₀ _ (by omega)), hoC.ns (k5 _ _ (by show I + 2 ≠ I + 1; omega) zC), ⟨oP, k5 _ _ (by show I + 3 ≠ I + 1; omega) zP, hdP⟩, fun p hp => ?_, fun p hp => ?_, ?_, ?_⟩
        · rcases List.mem_cons.mp hp with rfl | hp
          · exact ⟨hD₅.trans (congrArg some (LCg.lst_snoc ys _)), by intro q; have q' : @Eq Nat (I + 1) L := q; omega, fresh₀ _ (by omega)⟩
          · rcases List.mem_append.mp hp with hp | hp
            · have z := zr p (List.mem_append_left _ hp)
              exact ⟨k5 _ _ (off' p (List.mem_append_left _ hp)).2.2.2 z.1, z.2⟩
            · rcases List.mem_cons.mp hp with rfl | hp
              · have z := N₄ (T, LCg.lst zs) (.head _)
                exact ⟨k5 _ _ tT z.1, z.2⟩
              · have z := zr p (List.mem_append_right _ hp)
                exact ⟨k5 _ _ (off' p (List.mem_append_right _ hp)).2.2.2 z.1, z.2⟩
        · rcases List.mem_append.mp hp with hp | hp
          · exact off' p (List.mem_append_left _ hp)
          · rcases List.mem_cons.mp hp with rfl | hp
            · exact ⟨fun q => oT (I, oI) (.head _) q.symm, fun q => oT (I + 2, oC) (.tail _ (.head _)) q.symm, fun q => oT (I + 3, oP) (.tail _ (.tail _ (.head _))) q.symm, tT⟩
            · exact off' p (List.mem_append_right _ hp)
        · exact own_cons (fun p hp => oT p (.tail _ (.tail _ (.tail _ (.tail _ (List.mem_append_left _ hp)))))) own'
        · rw [List.take_add_one, hk2, List.map_append]
          exact rows'.snoc hzs
      · obtain rfl : i = vs.length := Nat.le_antisymm hi' (Nat.not_lt.mp hlt)
        refine W.done _ _ _ ⟨by simpa using hit', hax'⟩ fun h₂ tk₂ hk₂ => ?_
        have k2 : ∀ b o, b ≠ I → h'.get? b = some o → h₂.get? b = some o := fun b o hb e => hk₂ _ _ (by simpa using hb) e
        refine ⟨m', hn'.at' fun o e => k2 _ _ (by show I + 2 ≠ I; omega) e, fun h'' hs'' => ?_⟩
        have k3 : ∀ b o, b ≠ I → b ≠ I + 2 → h'.get? b = some o → h''.get? b = some o := fun b o b1 b2 e => hs''.extBut _ _ b2 (k2 _ _ b1 e)
        refine fin (I + 1) h'' tk₂ ys tl ⟨F'.ns.at' fun o e => k3 _ _ (Nat.ne_of_lt hLlt) (by intro q; have q' : @Eq Nat L (I + 2) := q; omega) e, fun b o e => k3 _ _ (fun q => by rw [q, fresh₀ _ (Nat.le_refl _)] at e; cases e) (fun q => by rw [q, fresh₀ _ (by omega)] at e; cases e) (F'.keep b o e), F'.above⟩
          (fun p hp => ?_) (off1_of fun p hp => (off' p hp).2.2.2) own' (by rw [hi.length, List.take_length] at rows'; exact rows')
        have z := N' p hp
        refine ⟨?_, z.2⟩
        rcases List.mem_cons.mp hp with rfl | hp
        · exact k3 _ _ (by show I + 1 ≠ I; omega) (by show I + 1 ≠ I + 2; omega) z.1
        · exact k3 _ _ (off' p hp).1 (off' p hp).2.1 z.1
    · rw [List.append_nil] at hp
      rcases List.mem_cons.mp hp with rfl | hp
      · exact ⟨hDo, by intro q; have q' : @Eq Nat (I + 1) L := q; omega, fresh₀ _ (by omega)⟩
      · exact ⟨keep _ _ (N p hp).1, (N p hp).2⟩
    · rw [List.append_nil] at hp
      have hlt : @LT.lt Nat _ p.1 I := hI0 ▸ Heap.lt_size (N p hp).1
      exact ⟨Nat.ne_of_lt hlt, by intro q; have q' : @Eq Nat p.1 (I + 2) := q; omega, by intro q; have q' : @Eq Nat p.1 (I + 3) := q; omega, by intro q; have q' : @Eq Nat p.1 (I + 1) := q; omega⟩
  exact codeAny_compStart_list (loop _ rfl) (wpAny_pyIter_listiter (i := 0) (l := ax) ⟨_, hI, rfl, rfl⟩ (loop _ rfl))
end

section
variable {prog : Program} {w : World} {A : Around} {E : Value → Shared → Prop} {s : Shared} {env : Env} {h₀ : Heap} {x : Str} {body : List Stmt} {Q : Flow → Shared → Prop}
/-- a loop over a list of any values that lies in the ledger; it stores into the ledger alone -/
theorem loop_refs {σ : Type} {l : Addr} {vs : List Value} {nn : Nat} {m₀ : Str → Option Value} (Led : σ → List (Addr × Obj)) (P : Nat → σ → Prop) (c₀ : σ)
    (hh : A.handled = none) (hl : ∀ c, (l, listOf vs.toArray nn) ∈ Led c) (hadr : ∀ c, (Led c).map (·.1) = (Led c₀).map (·.1))
    (F : Fr h₀ env.locals s.heap m₀) (N : News h₀ env.locals s.heap (Led c₀)) (hp : P 0 c₀)
    (turn : ∀ i v c h tk own, vs[i]? = some v → OwnOff own ((Led c₀).map (·.1)) → P i c → Fr h₀ env.locals h (fun y => if y = x then some v else m₀ y) → News h₀ env.locals h (Led c ++ own) →
      wpAny (model prog w) A (execs body env) (fun f s₂ => Stop (f = .next ∧ ∃ h' tk' c' news', s₂ = { s with heap := h', toks := tk' } ∧ Fr h₀ env.locals h' (fun y => if y = x then some v else m₀ y) ∧ News h₀ env.locals h' news' ∧ (∀ p ∈ Led c', p ∈ news') ∧ (∀ p ∈ own, p ∈ news') ∧ P (i + 1) c')) E { s with heap := h, toks := tk })
    (done : ∀ c (u : Str → Option Value) h tk, P vs.length c → Fr h₀ env.locals h (fun y => if y = x then u y else m₀ y) → News h₀ env.locals h (Led c) → Q .next { s with heap := h, toks := tk }) :
    wpAny (model prog w) A (pyIter (.ref l)) (fun it s₂ => LoopAtV prog w A h₀ env x body Q E it s₂) E s := by
  have hol : s.heap.get? l = some (listOf vs.toArray nn) := (N _ (hl c₀)).1
  have hlt : @LT.lt Nat _ l s.heap.objs.size := Heap.lt_size hol
  have hls : s.heap.IsList l vs.toArray := ⟨_, hol, rfl, nn, rfl⟩
  refine wpAny_pyIter_list hls ?_
  have led : ∀ c, ∀ p ∈ Led c, @LT.lt Nat _ p.1 s.heap.objs.size := fun c p hp => by
    have h1 : p.1 ∈ (Led c₀).map (·.1) := hadr c ▸ List.mem_map_of_mem hp
    obtain ⟨q, hq, e⟩ := List.mem_map.mp h1
    exact e ▸ Heap.lt_size (N q hq).1
  have W := Walks.list (prog := prog) (w := w) hh s.heap.objs.size l (Nat.ne_of_lt hlt) vs.toArray
  rw [List.size_toArray] at W
  have frame : ∀ {m : Str → Option Value} {v : Value} {h : Heap}, (∀ z, z ≠ x → m z = m₀ z) → Fr h₀ env.locals h (fun y => if y = x then some v else m y) → Fr h₀ env.locals h (fun y => if y = x then some v else m₀ y) := fun {m v h} e F' => by
    have e2 : (fun y => if y = x then some v else m y) = fun y => if y = x then some v else m₀ y := by
      funext y
      by_cases hy : y = x
      · rw [if_pos hy, if_pos hy]
      · rw [if_neg hy, if_neg hy, e y hy]
    exact e2 ▸ F'
  refine ⟨_, _, _, vs.length, _, _, m₀, Led c₀, (fun i m nx => ∃ c, nx = Led c ∧ P i c ∧ ∀ z, z ≠ x → m z = m₀ z), rfl, W, fun hm => ?_, fun b hb => ?_, fun p hp hI => ?_, ⟨⟨_, Heap.get?_push_size _ rfl, rfl, rfl⟩, hls.push _⟩, F.push _,
    (fun p hp => ⟨Heap.get?_push_of_some _ (N p hp).1, (N p hp).2⟩), ⟨c₀, rfl, hp, fun _ _ => rfl⟩, ?_, ?_⟩
  · rcases List.mem_cons.mp hm with e | hm
    · exact Nat.lt_irrefl _ (e ▸ F.ns.lt)
    · exact (N _ (hl c₀)).2.1 (List.mem_singleton.mp hm).symm
  · rw [List.mem_singleton.mp hb]
    exact next_is_new F
  · have := led c₀ p hp
    rw [List.mem_singleton.mp hI] at this
    exact Nat.lt_irrefl _ this
  · rintro i v m₁ _ s₁ own ⟨hh', tk', rfl⟩ hin hP ⟨c, rfl, hPc, hm⟩ hoff hown hget hfp _ F₁ N₁
    have hv : vs[i]? = some v := by simpa using hP
    have offI : ∀ p ∈ Led c, p.1 ≠ s.heap.objs.size := fun p hp => Nat.ne_of_lt (led c p hp)
    have hsep : OwnOff (own.filter fun p => decide (p.1 = s.heap.objs.size)) ((Led c₀).map (·.1)) := fun p hp b hb e => by
      obtain ⟨q, hq, e2⟩ := List.mem_map.mp hb
      have h1 : p.1 = s.heap.objs.size := of_decide_eq_true (List.mem_filter.mp hp).2
      exact Nat.ne_of_lt (led c₀ q hq) (e2.trans (e.symm.trans h1))
    have N₂ : News h₀ env.locals hh' (Led c ++ own.filter fun p => decide (p.1 = s.heap.objs.size)) := fun p hp => by
      rcases List.mem_append.mp hp with h | h
      · exact N₁ p (List.mem_append_right _ h)
      · exact N₁ p (List.mem_append_left _ (List.mem_filter.mp h).1)
    have hlo : hh'.get? l = some (listOf vs.toArray nn) := (N₁ _ (List.mem_append_right _ (hl c))).1
    refine wpAny_mono (turn i v c hh' tk' _ hv hsep hPc (frame hm F₁) N₂) (fun f s₂ p => ?_) fun _ _ e => e
    obtain ⟨rfl, h', tk, c', news', e, F', N', sub, sub2, hP'⟩ := p
    refine .next ⟨rfl, h', tk, _, Led c', e, F', fun p hp => ?_, fun p hp hI => ?_, ⟨c', rfl, hP', fun z hz => if_neg hz⟩⟩
    · rcases List.mem_append.mp hp with h | h
      · rcases List.mem_cons.mp (hown p h) with h1 | h1
        · exact N' p (sub2 p (List.mem_filter.mpr ⟨h, decide_eq_true h1⟩))
        · have h1 := List.mem_singleton.mp h1
          have h2 : hh'.get? p.1 = some p.2 := hget p h
          rw [h1, hlo] at h2
          have h3 : p = (l, listOf vs.toArray nn) := Prod.ext h1 (Option.some.inj h2).symm
          rw [h3]
          exact N' _ (sub _ (hl c'))
      · exact N' p (sub p h)
    · have := led c' p hp
      rw [List.mem_singleton.mp hI] at this
      exact Nat.lt_irrefl _ this
  · rintro h' tk m' _ F' N' _ ⟨c, rfl, hPc, hm⟩
    refine done c m' h' tk hPc ?_ N'
    have e2 : (fun y => if y = x then m' y else m₀ y) = m' := by
      funext y
      by_cases hy : y = x
      · rw [if_pos hy]
      · rw [if_neg hy, hm y hy]
    show Fr h₀ env.locals h' (fun y => if y = x then m' y else m₀ y)
    rw [e2]
    exact F'
end

def dvl (g n : Nat) : List (Int × Int) := (List.range n).map (dvs g)
theorem PairsIn.mono {tl tl' : List (Addr × Obj)} {ys : List Value} {qs : List (Int × Int)} (h : PairsIn tl ys qs) (s : ∀ p ∈ tl, p ∈ tl') : PairsIn tl' ys qs :=
  ⟨h.len, fun i q hq => let ⟨t, t1, t2, e, m⟩ := h.at' i q hq; ⟨t, t1, t2, e, s _ m⟩⟩
theorem PairsIn.pre {tl : List (Addr × Obj)} {ys : List Value} {qs : List (Int × Int)} {t : Addr} {a b : Int} {t1 t2 : Tok} (h : PairsIn tl ys qs) (hm : (t, tupO a t1 b t2) ∈ tl) : PairsIn tl (Value.ref t :: ys) ((a, b) :: qs) := by
  refine ⟨by rw [List.length_cons, List.length_cons, h.len], fun i q hq => ?_⟩
  cases i with
  | zero =>
    simp only [List.getElem?_cons_zero, Option.some.injEq] at hq
    subst hq
    exact ⟨t, t1, t2, rfl, hm⟩
  | succ i =>
    rw [List.getElem?_cons_succ] at hq
    obtain ⟨t', t1', t2', e, m⟩ := h.at' i q hq
    exact ⟨t', t1', t2', by rw [List.getElem?_cons_succ]; exact e, m⟩
theorem dvl_of {g n : Nat} {f : Int → Int × Int} (h : ∀ k : Nat, k < n → f (k : Int) = dvs g k) : (rangeKs 0 n).map f = dvl g n := by
  unfold rangeKs dvl
  rw [List.map_map]
  refine List.map_congr_left fun k hk => ?_
  show f (0 + (k : Int)) = _
  rw [Int.zero_add, h k (List.mem_range.mp hk)]
theorem dvl_two {n : Nat} {f : Int → Int × Int} (h : ∀ k : Nat, f (1 + (k : Int)) = dvs 2 (k + 1)) : ((7 : Int), (5 : Int)) :: (rangeKs 1 n).map f = dvl 2 (n + 1) := by
  unfold rangeKs dvl
  rw [List.range_succ_eq_map, List.map_cons, List.map_map, List.map_map]
  show _ = ((7 : Int), (5 : Int)) :: _
  congr 1
  exact List.map_congr_left fun k _ => h k
theorem rsz1 (n : Nat) : Builtin.Range.rangeSize 1 ((n + 1 : Nat) : Int) 1 = ((n : Nat) : Int) := by rw [rangeSize_nat]; omega
theorem rz0 {ns : List Int} {g : Nat} (hg : g ≤ 2) {t : Tok} : IntsAre (List.replicate ((ns.length : Int)).toNat [Value.int 0 t]).flatten (ns.map fun _ => rz g) := by
  have e : rz g = 0 := if_pos hg
  rw [e, Int.toNat_natCast]
  clear hg e
  induction ns with
  | nil => exact .nil
  | cons x r ih =>
    rw [List.length_cons, List.replicate_succ, List.flatten_cons, List.map_cons]
    exact .cons 0 t ih
theorem rz1 {ns : List Int} {g : Nat} (hg : 2 < g) (hpos : ∀ x ∈ ns, 0 < x) {f : Int → Int} (hf : ∀ x, 0 < x → f x = 1) : ns.map f = ns.map fun _ => rz g := by
  have e : rz g = 1 := if_neg (by omega)
  rw [e]
  exact List.map_congr_left fun x hx => hf x (hpos x hx)
/-- the state behind the choice of the method -/
structure Chosen (h₀ : Heap) (L : Addr) (m : Str → Option Value) (ns : List Int) (g n : Nat) (c1 c2 c3 c4 c5 : Addr) (o3 o4 o5 : Obj) (r D : Addr) (rv ys : List Value) (cr cd : Nat) (oR oD : Obj) (tl : List (Addr × Obj)) (h' : Heap) : Prop where
  fr : Fr h₀ L h' m
  news : News h₀ L h' ((D, listOf ys.toArray cd) :: (r, listOf rv.toArray cr) :: (c5, o5) :: (c4, o4) :: (c3, o3) :: (c2, oD) :: (c1, oR) :: tl)
  off : OwnOff tl [D, r, c5, c4, c3, c2, c1]
  offD : (@Ne Nat r D) ∧ (@Ne Nat c5 D) ∧ (@Ne Nat c4 D) ∧ (@Ne Nat c3 D) ∧ (@Ne Nat c2 D) ∧ (@Ne Nat c1 D)
  offr : (@Ne Nat c5 r) ∧ (@Ne Nat c4 r) ∧ (@Ne Nat c3 r) ∧ (@Ne Nat c2 r) ∧ (@Ne Nat c1 r)
  isD : oD.data = .cell (some (.ref D))
  isR : oR.data = .cell (some (.ref r))
  reps : IntsAre rv (ns.map fun _ => rz g)
  divs : PairsIn tl ys (dvl g n)
theorem join_div {M : Model} {A : Around} {t : Sem Flow} {Q : Flow → Shared → Prop} {E : Value → Shared → Prop} {s : Shared} {h₀ : Heap} {L : Addr} {m : Str → Option Value} {ns : List Int} {g n : Nat} {c1 c2 c3 c4 c5 : Addr} {o1 o2 o3 o4 o5 o6 o7 : Obj} {d l : Addr}
    (_F : Fr h₀ L s.heap m) (_N : News h₀ L s.heap [(d, o6), (l, o7), (c5, o5), (c4, o4), (c3, o3), (c2, o2), (c1, o1)])
    (h1 : ∀ Q' : Flow → Shared → Prop, (∀ r D rv ys cr cd oR oD tl h' tk, Chosen h₀ L m ns g n c1 c2 c3 c4 c5 o3 o4 o5 r D rv ys cr cd oR oD tl h' → Q' .next { s with heap := h', toks := tk }) → wpAny M A t Q' E s)
    (h2 : ∀ r D rv ys cr cd oR oD tl h' tk, Chosen h₀ L m ns g n c1 c2 c3 c4 c5 o3 o4 o5 r D rv ys cr cd oR oD tl h' → Q .next { s with heap := h', toks := tk }) : wpAny M A t Q E s :=
  h1 Q h2
theorem add_refs {prog : Program} {w : World} {A : Around} {E : Value → Shared → Prop} {s : Shared} {h₀ : Heap} {L l b : Addr} {m : Str → Option Value} {news : List (Addr × Obj)} {xs ys : List Value} {c c2 : Nat} {Q : Value → Shared → Prop}
    (F : Fr h₀ L s.heap m) (N : News h₀ L s.heap news) (h1 : (l, listOf xs.toArray c) ∈ news) (h2 : (b, listOf ys.toArray c2) ∈ news) (hz : xs.length + ys.length ≤ sizeLine)
    (h : ∀ D h', Fr h₀ L h' m → News h₀ L h' ((D, listOf (xs ++ ys).toArray 0) :: news) → LCg.Off1 D news → Q (.ref D) { s with heap := h' }) :
    wpAny (model prog w) A (binaryOp .Add (.ref l) (.ref b)) Q E s := by
  refine add_arrays F N (its := xs.toArray) (its2 := ys.toArray) ⟨_, (N _ h1).1, rfl, c, rfl⟩ ⟨_, (N _ h2).1, rfl, c2, rfl⟩ (fun h' F' N' => ?_) (by simpa using hz)
  refine h _ h' F' N' ?_
  have : ∀ p ∈ news, p.1 ≠ s.heap.objs.size := fun p hp => Nat.ne_of_lt (Heap.lt_size (N p hp).1)
  clear h N' h1 h2 N
  induction news with
  | nil => trivial
  | cons q r ih => exact ⟨this q (.head _), ih fun p hp => this p (.tail _ hp)⟩
theorem own_cons2 {t : Addr} {o : Obj} {tl : List (Addr × Obj)} {l : List Addr} (h1 : ∀ b ∈ l, t ≠ b) (h2 : OwnOff tl l) : OwnOff ((t, o) :: tl) l := fun p hp b hb => by
  rcases List.mem_cons.mp hp with rfl | hp
  · exact h1 b hb
  · exact h2 p hp b hb
theorem own_sub {tl : List (Addr × Obj)} {l l' : List Addr} (h : OwnOff tl l) (s : ∀ b ∈ l', b ∈ l) : OwnOff tl l' := fun p hp b hb => h p hp b (s b hb)
theorem news_perm {h₀ h : Heap} {L : Addr} {a b c d e f g i j k : Addr × Obj} {tl : List (Addr × Obj)} (N : News h₀ L h (a :: b :: c :: d :: e :: f :: g :: i :: j :: k :: tl)) : News h₀ L h (a :: e :: f :: g :: i :: j :: k :: d :: tl) := fun p hp => N p (by
  simp only [List.mem_cons] at hp ⊢
  rcases hp with h | h | h | h | h | h | h | h | h <;> simp [h])
theorem com_succ (g n : Nat) : com g (n + 1) = com g n * (dvs g n).1 := by
  unfold com
  rw [List.range_succ, List.map_append, List.foldl_append]
  rfl
theorem com_bd : ∀ g, g < 6 → ∀ n, n < 10 → 0 < com g n ∧ com g n < 1000000000000000 := by decide +kernel
theorem dvs_bd : ∀ g, g < 6 → ∀ n, n < 10 → 0 < (dvs g n).1 ∧ (dvs g n).1 < 1000 ∧ 0 < (dvs g n).2 ∧ (dvs g n).2 < 1000 := by decide +kernel
theorem dvl_at {g n i : Nat} (h : i < n) : (dvl g n)[i]? = some (dvs g i) := by
  unfold dvl
  rw [List.getElem?_map, List.getElem?_range h]; rfl
theorem dvl_len (g n : Nat) : (dvl g n).length = n := by simp [dvl]
theorem divR_ones {ps : List Int} {g n : Nat} (h1 : (n : Int) ≤ (ps.map fun _ => rz g).sum) (h2 : ps.length ≤ n) : DivR ps g n (ps.map fun _ => rz g) := by
  have hz : rz g = 0 ∨ rz g = 1 := by unfold rz; split <;> simp
  refine ⟨List.length_map .., ?_, fun _ => 0, fun _ => Int.le_refl 0, fun k hk => ?_, fun i j k l _ _ hk => ?_⟩
  · rw [sum_map_const] at h1 ⊢
    rcases hz with e | e <;> rw [e] at h1 ⊢ <;> omega
  · rw [map_getD _ ps k hk]; show rz g = rz g + 0; omega
  · exfalso
    have hk : (k : Int) < 0 := hk
    omega
theorem divR_sum {ps : List Int} {g : Nat} : ((ps.map fun _ => rz g).sum = 0 ∨ (ps.map fun _ => rz g).sum = ps.length) ∧ ∀ i, (ps.map fun _ => rz g).getD i 0 = 0 ∨ (ps.map fun _ => rz g).getD i 0 = 1 := by
  have hz : rz g = 0 ∨ rz g = 1 := by unfold rz; split <;> simp
  refine ⟨?_, fun i => ?_⟩
  · rw [sum_map_const]
    rcases hz with e | e <;> rw [e] <;> omega
  · by_cases hi : i < ps.length
    · rw [map_getD _ ps i hi]; exact hz
    · left
      rw [List.getD_eq_getElem?_getD, List.getElem?_eq_none (by rw [List.length_map]; omega)]; rfl
structure Halt (P : Prop) : Prop where
  go ::
  out : P
/-- the weights' part of the walk's state -/
structure Weighed (h₀ : Heap) (L : Addr) (m : Str → Option Value) (ns : List Int) (g n : Nat) (c1 c4 c5 : Addr) (oR o5 : Obj) (r W : Addr) (rv yw : List Value) (cr : Nat) (oW : Obj) (tl : List (Addr × Obj)) (h' : Heap) : Prop where
  fr : Fr h₀ L h' m
  news : News h₀ L h' ((W, LCg.lst yw) :: (r, listOf rv.toArray cr) :: (c5, o5) :: (c4, oW) :: (c1, oR) :: tl)
  off : OwnOff tl [W, r, c5, c4, c1]
  offW : (@Ne Nat r W) ∧ (@Ne Nat c5 W) ∧ (@Ne Nat c4 W) ∧ (@Ne Nat c1 W)
  isW : oW.data = .cell (some (.ref W))
  rows : RowsIn tl yw (ns.map (wts g n))
theorem join_wts {M : Model} {A : Around} {t : Sem Flow} {Q : Flow → Shared → Prop} {E : Value → Shared → Prop} {s : Shared} {h₀ : Heap} {L : Addr} {m : Str → Option Value} {ns : List Int} {g n : Nat} {c1 c2 c3 c4 c5 : Addr} {o1 o2 o3 o4 o5 od : Obj} {d r : Addr} {rv : List Value} {cr : Nat} {tl : List (Addr × Obj)}
    (_F : Fr h₀ L s.heap m) (_N : News h₀ L s.heap ((d, od) :: (r, listOf rv.toArray cr) :: (c5, o5) :: (c4, o4) :: (c3, o3) :: (c2, o2) :: (c1, o1) :: tl))
    (h1 : ∀ Q' : Flow → Shared → Prop, (∀ W yw oW tl h' tk, Weighed h₀ L m ns g n c1 c4 c5 o1 o5 r W rv yw cr oW tl h' → Q' .next { s with heap := h', toks := tk }) → wpAny M A t Q' E s)
    (h2 : ∀ W yw oW tl h' tk, Weighed h₀ L m ns g n c1 c4 c5 o1 o5 r W rv yw cr oW tl h' → Q .next { s with heap := h', toks := tk }) : wpAny M A t Q E s :=
  h1 Q h2
theorem news_wts {h₀ h : Heap} {L : Addr} {W D r c5 c4 c3 c2 c1 : Addr × Obj} {tl0 tl : List (Addr × Obj)} (N : News h₀ L h (W :: D :: r :: c5 :: c4 :: c3 :: c2 :: c1 :: (tl0 ++ tl))) : News h₀ L h (W :: r :: c5 :: c4 :: c1 :: tl) := fun p hp => N p (by
  simp only [List.mem_cons, List.mem_append] at hp ⊢
  rcases hp with h | h | h | h | h | h <;> simp [h])
/-- the values of the rows -/
theorem RowsIn.vals {tl : List (Addr × Obj)} : ∀ {ys : List Value} {rows : List (List Int)}, RowsIn tl ys rows → ∃ vr : List (List Value), ys.length = vr.length ∧ (∀ (i : Nat) (row : List Value), vr[i]? = some row → ∃ t : Addr, ys[i]? = some (Value.ref t) ∧ (t, LCg.lst row) ∈ tl) ∧ IntsAre vr.flatten rows.flatten
  | [], [], _ => ⟨[], rfl, fun i row h => by simp at h, .nil⟩
  | [], _ :: _, h => by have := h.len; simp at this
  | _ :: _, [], h => by have := h.len; simp at this
  | y :: ys, row :: rows, h => by
    obtain ⟨t, zs, e, m, z⟩ := h.at' 0 row rfl
    have hr : RowsIn tl ys rows := ⟨by have := h.len; simpa using this, fun i r hi => by
      obtain ⟨t, zs, e, m, z⟩ := h.at' (i + 1) r (by rw [List.getElem?_cons_succ]; exact hi)
      exact ⟨t, zs, by rw [List.getElem?_cons_succ] at e; exact e, m, z⟩⟩
    obtain ⟨vr, l, a, f⟩ := hr.vals
    refine ⟨zs :: vr, by simp [l], fun i r hi => ?_, by rw [List.flatten_cons, List.flatten_cons]; exact IntsAre.append z f⟩
    cases i with
    | zero =>
      simp only [List.getElem?_cons_zero, Option.some.injEq] at hi
      subst hi
      exact ⟨t, e, m⟩
    | succ i =>
      rw [List.getElem?_cons_succ] at hi
      obtain ⟨t', e', m'⟩ := a i r hi
      exact ⟨t', by rw [List.getElem?_cons_succ]; exact e', m'⟩
theorem off1_app {D : Addr} : ∀ {l l' : List (Addr × Obj)}, LCg.Off1 D (l ++ l') → LCg.Off1 D l'
  | [], _, h => h
  | _ :: r, _, h => off1_app (l := r) h.2
theorem wts_dvl (g n : Nat) (p : Int) : (dvl g n).map (fun q => (sqv g p * q.2 * com g n).fdiv q.1) = wts g n p := by
  unfold dvl wts
  rw [List.map_map]; rfl
theorem dvl_mem {g n : Nat} {q : Int × Int} (h : q ∈ dvl g n) : ∃ k, k < n ∧ q = dvs g k := by
  obtain ⟨k, hk, e⟩ := List.mem_map.mp h
  exact ⟨k, List.mem_range.mp hk, e.symm⟩
section
variable {prog : Program} {w : World} {A : Around} {E : Value → Shared → Prop} {s : Shared}
theorem cell_compF {h₀ : Heap} {L : Addr} {m : Str → Option Value} {env : Env} {iter elt : Expr} {x : Str} {px pos : Pos} {scope : Scope} {cl : List (Str × Addr)} {Q : Value → Shared → Prop} (_F : Fr h₀ L s.heap m)
    (hclos : closureFor scope env = pure cl) (hkind : scope.kind = .function)
    (hnames : ∀ y ∈ scope.names, y.2 = .local → scope.names.lookup y.1 = some .local)
    (hcf : ∀ n, cellsFrom n scope.names cl = (x, n) :: cl) (hpc : ∀ h, pushCells h scope.names = h.push { cls := .type "cell", data := .cell none }) (hx : (relabel scope env).names.lookup x = some .cell)
    (h : wpAny (model prog w) A (eval iter env) (fun xv s₁ => Stop (CellSrc prog w A h₀ L m env elt x scope cl Q xv s₁)) E s)
    (hs : ∀ x, foldedSetIterable iter env x = pure x := by intro _; rfl) :
    wpAny (model prog w) A (eval (.ListComp elt [⟨.Name x px, iter, [], 0⟩] scope pos) env) Q E s := cell_comp hclos hkind hnames hcf hpc hx h hs
theorem flat_compF {h₀ : Heap} {L : Addr} {m : Str → Option Value} {env : Env} {iter : Expr} {wn ln : Str} {p1 p2 p3 p4 pos : Pos} {scope : Scope} {cl : List (Str × Addr)} {Q : Value → Shared → Prop} (_F : Fr h₀ L s.heap m)
    (hclos : closureFor scope env = pure cl) (hcell : ∀ y ∈ scope.names, y.2 ≠ .cell) (hkind : scope.kind = .function)
    (hnames : ∀ y ∈ scope.names, y.2 = .local → scope.names.lookup y.1 = some .local) (hw : scope.names.lookup wn = some .local) (hl : scope.names.lookup ln = some .local)
    (hd : (wn == ("__debug__" : Str)) = false) (hd' : (ln == ("__debug__" : Str)) = false)
    (h : wpAny (model prog w) A (eval iter env) (fun xv s₁ => Stop (FlatSrc A h₀ L m Q xv s₁)) E s)
    (hs : ∀ x, foldedSetIterable iter env x = pure x := by intro _; rfl) :
    wpAny (model prog w) A (eval (.ListComp (.Name wn p1) [⟨.Name ln p2, iter, [], 0⟩, ⟨.Name wn p3, .Name ln p4, [], 0⟩] scope pos) env) Q E s := flat_comp hclos hcell hkind hnames hw hl hd hd' h hs
end
theorem flat_len {ns : List Int} {g n : Nat} : ((ns.map (wts g n)).flatten).length = ns.length * n := by
  induction ns with
  | nil => simp
  | cons x r ih =>
    rw [List.map_cons, List.flatten_cons, List.length_append, ih, List.length_cons, Nat.succ_mul]
    have : (wts g n x).length = n := by simp [wts]
    omega
theorem rows_at {ns : List Int} {g n i : Nat} (h : i < ns.length) : (ns.map (wts g n))[i]? = some (wts g n (ns.getD i 0)) := by
  rw [List.getElem?_map, List.getElem?_eq_getElem h, List.getD_eq_getElem?_getD, List.getElem?_eq_getElem h]; rfl
theorem over_range {ns rs0 : List Int} {g n : Nat} {m : Int} (h0 : rs0 = ns.map fun _ => rz g) :
    (rangeKs 0 ns.length).map (fun i => rs0.getD i.toNat 0 + (((wts g n (ns.getD i.toNat 0)).filter fun w => decide (m < w)).length : Int)) = over ns g n m := by
  refine List.ext_getElem? fun k => ?_
  by_cases h : k < ns.length
  · have e : (rangeKs 0 ns.length)[k]? = some ((k : Nat) : Int) := by simp [rangeKs, h]
    rw [List.getElem?_map, e, over, List.getElem?_map, List.getElem?_eq_getElem h]
    simp only [Option.map_some, Int.toNat_natCast]
    rw [h0, map_getD _ ns k h, List.getD_eq_getElem?_getD, List.getElem?_eq_getElem h]; rfl
  · rw [List.getElem?_eq_none (by rw [List.length_map, rangeKs_length]; omega), List.getElem?_eq_none (by rw [over, List.length_map]; omega)]
theorem wts_len (g n : Nat) (p : Int) : (wts g n p).length = n := by simp [wts]
theorem over_len (ns : List Int) (g n : Nat) (m : Int) : (over ns g n m).length = ns.length := List.length_map ..
theorem over_bd (ns : List Int) (g n : Nat) (m : Int) (i : Nat) : 0 ≤ (over ns g n m).getD i 0 ∧ (over ns g n m).getD i 0 ≤ (n : Int) + 1 := by
  by_cases h : i < ns.length
  · unfold over
    rw [map_getD _ ns i h]
    have h1 := List.length_filter_le (fun w => decide (m < w)) (wts g n (ns.getD i 0))
    rw [wts_len] at h1
    have hz : rz g = 0 ∨ rz g = 1 := by unfold rz; split <;> simp
    omega
  · rw [List.getD_eq_getElem?_getD, List.getElem?_eq_none (by rw [over_len]; omega)]
    simp; omega
theorem any_beq (l : List Int) (m : Int) : decide (m ∈ l) = l.any fun x => x == m := by
  rw [Bool.eq_iff_iff, decide_eq_true_eq, List.any_eq_true]
  constructor
  · exact fun h => ⟨m, h, beq_self_eq_true m⟩
  · rintro ⟨x, hx, e⟩
    rw [beq_iff_eq] at e
    exact e ▸ hx

section
theorem far_ok {w : World} {loose : List Str} {mean : ExcName → Option Value} {mg mb : Str → Option Value} {dp un : Nat} {gd : Option (List Code)} {cn : Str} {cs : Scope} {a : Addr} {ccd : Value} {cl : List (Str × Addr)} {outer : List Env} {A₀ : Around} {base h₀ : Heap} {L : Addr} {m : Str → Option Value} {s : Shared} {Q E : Value → Shared → Prop}
  {lv lw : Addr} {vs ws : List Value} {ns rs : List Int}
  (hB : Below A₀ base outer h₀) (hF : Fr h₀ L s.heap m) (hX : (hd.heap_39 w.params).In h₀) (hT : Top hd.view_39 loose mean mg mb h₀) (hk : cs.kind = .function)
  (hdp : dp + 150 < recursionLimit) (hun : un + 30 < cLine)
  (hl : s.heap.IsList lv vs.toArray) (hi : IntsAre vs ns) (hl2 : s.heap.IsList lw ws.toArray) (hi2 : IntsAre ws rs) (hlen : ns.length ≤ 8) (hn0 : 0 < ns.length) (hrl : rs.length = ns.length)
  (hmul : ∀ i, IntMulOk (rs.getD i 0) ns.sum ∧ IntMulOk (ns.getD i 0) rs.sum)
  (ret : ∀ (r : Addr) (o : Obj) (h' : Heap) (tk' : Nat) (M m : Int) (t1 t2 : Tok), (∀ b o, s.heap.get? b = some o → h'.get? b = some o) → s.heap.get? r = none → h'.get? r = some o → o = { cls := Value.type "tuple", data := Data.seq #[.int M t1, .int m t2] } → Far ns rs M m → Q (.ref r) { s with heap := h', toks := tk' }) :
  wpAny (model PySem.Challenge.rw_jd0003_02.row.prog w) (ktrTop dp un gd cn cs L a ccd cl outer) (call (.ref 86) [.ref lv, .ref lw]) Q E s := by
  ((w_top off); (have hfill : PySem.Challenge.rw_jd0003_02.row.prog = PySem.Challenge.rw_jd0003_02.row.prog ∧ hd.heap_39 = hd.heap_39 := (by k_fill; exact ⟨rfl, rfl⟩); clear hfill))
  refine wpAny_call ?_
  k_dflt (((refine' enterC ?k1Z ?k2Z ?k3Z ?k5Z ?kAZ ?kFZ ?kKZ ?k6Z ?k7Z ?k8Z ?k9Z ?kBZ ?kDZ ?_ ?c2Z ?c3Z ?c4Z; (case kAZ => exact rfl); (case kFZ => exact rfl); (case kKZ => assumption); (case k1Z => k_asm); (case k2Z => k_asm); (case k3Z => k_asm); (case k5Z => k_asm); (case k6Z => k_is); (case k7Z => k_is); (case k8Z => ktr_room); (case k9Z => first | exact Bd.at (by assumption) (by k_is) | exact BindsTo.of_eq rfl | exact binds_K (by k_in) rfl (by k_is) rfl rfl rfl); (case kBZ => exact rfl); (case kDZ => decide +kernel); (case c2Z => exact rfl); (case c3Z => exact rfl); (case c4Z => exact rfl); k_whole; intro _ _ _ _ _ _ _ _ _ _; (rename CellsAre _ _ _ => Y'); k_cells Y'; (rename News _ _ _ _ => N'); (try simp only [List.cons_append, List.nil_append] at N'); revert N'; intro _; (try dsimp only))))
  clear hF hB hX hT
  have hseer : s.heap.NoSeer := Top.seer (by assumption) (by decide +kernel)
  (try k_unmd); (try k_fold)
  (repeat' (first | ((fail_if_success (with_reducible show Stop _)); (first | ((with_reducible show wpAny _ _ (exec _ _) _ _ _); refine cut ?_; intro _ _; walk1) | ((rename Cont _ _ => cq); refine' resume cq ?_; clear cq; (try ((rename (Flow → Shared → Prop) => qq); clear qq)); (try dsimp only)) | (k_unfold; (try dsimp only)) | walk1 | (dsimp only; walk1)))))
  unfold Stop
  (k_dflt (refine' LCg.Assign_ListComp_U ?FZ ?eZ ?swZ ?clZ ?ceZ ?kiZ ?naZ ?hxZ ?hyZ ?hpZ ?_; (case hyZ => rfl); (case FZ => k_asm); (case eZ => exact rfl); (case swZ => with_unfolding_all rfl); (case clZ => with_unfolding_all rfl); (case ceZ => decide); (case kiZ => rfl); (case naZ => decide); (case hxZ => rfl); (case hpZ => rfl)))
  (repeat' (first | ((fail_if_success (with_reducible show Stop _)); (first | ((with_reducible show wpAny _ _ (exec _ _) _ _ _); refine cut ?_; intro _ _; walk1) | ((rename Cont _ _ => cq); refine' resume cq ?_; clear cq; (try ((rename (Flow → Shared → Prop) => qq); clear qq)); (try dsimp only)) | (k_unfold; (try dsimp only)) | walk1 | (dsimp only; walk1)))))
  unfold Stop
  (((rename IsRange _ _ _ _ _ _ _ _ => hR); (rename Fr _ _ _ _ => hF); (rename News _ _ _ _ => hN); refine LCg.CompSrc.range (by rfl) hF hN hR (small_one (by omega) (by omega) (by omega) (by omega)) (rsz _) (by rw [PySem.sizeLine_eq]; omega) ?_; clear hF hN; intro g9))
  refine kcf_range (fun i => rs.getD i.toNat 0 * ns.sum - ns.getD i.toNat 0 * rs.sum) ?t2 ?d2
  case t2 =>
    intro i ti I oI C oC D m₂ ys hh tk E' hlo hhi hC hx hF hN off ne mk
    simp only [LCg.Off3, and_true] at off
    have hm1 := (hmul i.toNat).1
    have hm2 := (hmul i.toNat).2
    refine Mine.cut ?_; intro _ _
    (repeat' (first | ((fail_if_success (with_reducible show Stop _)); (first | ((with_reducible show wpAny _ _ (exec _ _) _ _ _); refine cut ?_; intro _ _; walk1) | ((rename Cont _ _ => cq); refine' resume cq ?_; clear cq; (try ((rename (Flow → Shared → Prop) => qq); clear qq)); (try dsimp only)) | (k_unfold; (try dsimp only)) | walk1 | (dsimp only; walk1)))))
    unfold Stop
    exact LCg.CompEnd.intro (by assumption) (by assumption) _ (by kcf_all) (by first | (simp only [LCg.Off3, and_true]; assumption)) trivial ⟨rfl, _, rfl⟩
  case d2 =>
    intro ys hys
    obtain ⟨qs, hqs⟩ : ∃ qs, qs = offs ns rs := ⟨_, rfl⟩
    have hys : IntsAre ys (offs ns rs) := hys
    rw [← hqs] at hys
    have hql : qs.length = ns.length := by rw [hqs]; simp [offs, rangeKs_length]
    unfold LCg.FinA
    intro D2 h2 tk2 F2 N2 o2
    simp only [LCg.Off1, and_true] at o2
    (repeat' (first | ((fail_if_success (with_reducible show Stop _)); (first | ((with_reducible show wpAny _ _ (exec _ _) _ _ _); refine cut ?_; intro _ _; walk1) | ((rename Cont _ _ => cq); refine' resume cq ?_; clear cq; (try ((rename (Flow → Shared → Prop) => qq); clear qq)); (try dsimp only)) | (k_unfold; (try dsimp only)) | walk1 | (dsimp only; walk1)))))
    rename Fr _ _ _ _ => F9
    rename News _ _ _ _ => N9
    rename (∀ (a : Int), a ∈ qs → a ≤ _) => b1
    rename (∀ (a : Int), a ∈ qs → _ ≤ a) => b2
    subst hqs
    exact ret _ _ _ _ _ _ _ _ F9.keep (N9 _ (.head _)).2.2 (N9 _ (.head _)).1 rfl ⟨by assumption, b1, by assumption, b2⟩

theorem far_use {w : World} {loose : List Str} {mean : ExcName → Option Value} {mg mb : Str → Option Value} {dp un : Nat} {gd : Option (List Code)} {cn : Str} {cs : Scope} {a : Addr} {ccd : Value} {cl : List (Str × Addr)} {outer : List Env} {A₀ : Around} {base h₀ : Heap} {L : Addr} {m : Str → Option Value} {s : Shared} {Q E : Value → Shared → Prop}
  {lv lw : Addr} {vs ws : List Value} {ns rs : List Int} {news : List (Addr × Obj)} {c c2 : Nat}
  (hB : Below A₀ base outer h₀) (hF : Fr h₀ L s.heap m) (hX : (hd.heap_39 w.params).In h₀) (hT : Top hd.view_39 loose mean mg mb h₀) (hN : News h₀ L s.heap news) (hk : cs.kind = .function)
  (hdp : dp + 150 < recursionLimit) (hun : un + 30 < cLine)
  (hm : (lv, listOf vs.toArray c) ∈ news) (hm2 : (lw, listOf ws.toArray c2) ∈ news) (hi : IntsAre vs ns) (hi2 : IntsAre ws rs) (hlen : ns.length ≤ 8) (hn0 : 0 < ns.length) (hrl : rs.length = ns.length)
  (hmul : ∀ i, IntMulOk (rs.getD i 0) ns.sum ∧ IntMulOk (ns.getD i 0) rs.sum)
  (ret : ∀ (r : Addr) (h' : Heap) (tk' : Nat) (M m₁ : Int) (t1 t2 : Tok), Fr h₀ L h' m → News h₀ L h' ((r, { cls := Value.type "tuple", data := Data.seq #[.int M t1, .int m₁ t2] }) :: news) → LCg.Off1 r news → Far ns rs M m₁ → Q (.ref r) { s with heap := h', toks := tk' }) :
  wpAny (model PySem.Challenge.rw_jd0003_02.row.prog w) (ktrTop dp un gd cn cs L a ccd cl outer) (call (.ref 86) [.ref lv, .ref lw]) Q E s := by
  refine far_ok hB hF hX hT hk hdp hun ⟨_, (hN _ hm).1, rfl, c, rfl⟩ hi ⟨_, (hN _ hm2).1, rfl, c2, rfl⟩ hi2 hlen hn0 hrl hmul fun r o h' tk' M m₁ t1 t2 keep fresh get ho hq => ?_
  subst ho
  refine ret r h' tk' M m₁ t1 t2 (hF.keeps keep) ?_ ?_ hq
  · intro p hp
    rcases List.mem_cons.mp hp with rfl | hp
    · refine ⟨get, fun e => ?_, ?_⟩
      · obtain ⟨oL, _, _, hL, _⟩ := hF.ns
        have e' : r = L := e
        rw [e', hL] at fresh; cases fresh
      · cases q : h₀.get? r with
        | none => rfl
        | some o => have := hF.keep _ _ q; rw [fresh] at this; cases this
    · exact ⟨keep _ _ (hN p hp).1, (hN p hp).2⟩
  · clear ret hm hm2
    induction news with
    | nil => trivial
    | cons p news ih =>
      refine ⟨fun e => ?_, ih fun q hq => hN q (.tail _ hq)⟩
      have h1 := (hN p (.head _)).1
      have e' : p.1 = r := e
      rw [e', fresh] at h1; cases h1
end

section
/-- the method's name belongs to group g -/
structure Grp (g : Nat) (x : Str) : Prop where
  a0 : [Str.ofString "dhondt", Str.ofString "jefferson", Str.ofString "greatestdivisors"].any (· == x) = decide (g = 0)
  a1 : [Str.ofString "saintelague", Str.ofString "webster", Str.ofString "majorfractions"].any (· == x) = decide (g = 1)
  a2 : [Str.ofString "modified_saintelague"].any (· == x) = decide (g = 2)
  a3 : [Str.ofString "huntington", Str.ofString "hill", Str.ofString "equalproportions"].any (· == x) = decide (g = 3)
  a4 : [Str.ofString "adams", Str.ofString "smallestdivisor"].any (· == x) = decide (g = 4)
  a5 : [Str.ofString "dean", Str.ofString "harmonicmean"].any (· == x) = decide (g = 5)
theorem in_grp {prog : Program} {w : World} {A : Around} {E : Value → Shared → Prop} {s : Shared} {l : Addr} {vs : List Value} {ys : List Str} {k : Str} {t : Tok} {b : Bool} {Q : Value → Shared → Prop} (hl : s.heap.IsList l vs.toArray) (hi : StrsAre vs ys) (e : ys.any (· == k) = b)
    (h : Q (.bool b) s) : wpAny (model prog w) A (compareOp .In (.str k t) (.ref l)) Q E s := in_list_strs hl hi (e ▸ h)
local macro_rules | `(tactic| walk_at "subscriptTail") => `(tactic| (k_here; (with_reducible show wpAny _ _ (subscriptTail _ _ (Value.ref _) (Value.int _ _)) _ _ _); (with_unfolding_all refine' my_item ?k1 ?k2 ?k3 ?k4 ?_ ?k6; (case k1 => is_list); (case k2 => omega); (case k3 => omega); (case k4 => with_reducible assumption); (case k6 => with_unfolding_all rfl); k_whole)))
local macro_rules | `(tactic| walk_at "compareOp In str ref") => `(tactic| (k_here; (with_reducible show wpAny _ _ (compareOp CmpOp.In (Value.str _ _) (Value.ref _)) _ _ _); (with_unfolding_all refine' in_grp ?k1 ?k2 ?k3 ?_; (case k1 => exact News.isList (by k_asm) (by news_mem)); (case k2 => kde_strs); (case k3 => assumption); k_whole)))
section
theorem flr_bd {ns : List Int} {n : Nat} (hpos : ∀ x ∈ ns, 0 < x) (hT : 0 < ns.sum) (hn : n ≤ 20) (i : Nat) : 0 ≤ (flr ns n).getD i 0 ∧ (flr ns n).getD i 0 ≤ 20 := by
  have h0 : ∀ x ∈ ns, 0 ≤ x := fun x hx => Int.le_of_lt (hpos x hx)
  by_cases hi : i < ns.length
  · rw [flr_getD hi]
    have hp := getD_pos h0 i
    have hx : 0 ≤ ns.getD i 0 * (n : Int) := Int.mul_nonneg hp (by omega)
    refine ⟨Int.fdiv_nonneg hx (Int.le_of_lt hT), ?_⟩
    have hs : ns.getD i 0 ≤ ns.sum := by
      rw [sum_SS]
      exact SS_ge (f := fun k => ns.getD k 0) (fun k _ => getD_pos h0 k) hi
    have h1 : ns.getD i 0 * (n : Int) ≤ ns.sum * (n : Int) := Int.mul_le_mul_of_nonneg_right hs (by omega)
    have h2 := (fdiv_facts (x := ns.getD i 0 * (n : Int)) hT).1
    generalize (ns.getD i 0 * (n : Int)).fdiv ns.sum = q at *
    rw [Int.mul_comm q] at h2
    have h3 := Int.le_of_mul_le_mul_left (show ns.sum * q ≤ ns.sum * (n : Int) by omega) hT
    omega
  · have e : (flr ns n).getD i 0 = 0 := by rw [List.getD_eq_getElem?_getD, List.getElem?_eq_none (by rw [flr, List.length_map]; omega)]; rfl
    rw [e]; omega
theorem rmd_range (ns : List Int) (n : Nat) : rmd ns n = List.map (fun i => ns.getD i.toNat 0 * (n : Int) - (flr ns n).getD i.toNat 0 * ns.sum) (rangeKs 0 ns.length) := by
  refine List.ext_getElem? fun k => ?_
  by_cases h : k < ns.length
  · rw [rmd, List.getElem?_map, List.getElem?_eq_getElem h, List.getElem?_map]
    have e : (rangeKs 0 ns.length)[k]? = some ((k : Nat) : Int) := by simp [rangeKs, h]
    rw [e]
    simp only [Option.map_some, Int.toNat_natCast]
    rw [flr_getD h, List.getD_eq_getElem?_getD, List.getElem?_eq_getElem h]
    rfl
  · rw [List.getElem?_eq_none (by rw [rmd, List.length_map]; omega), List.getElem?_eq_none (by rw [List.length_map, rangeKs_length]; omega)]
theorem lrm_ok {w : World} {loose : List Str} {mean : ExcName → Option Value} {mg mb : Str → Option Value} {dp un : Nat} {gd : Option (List Code)} {cn : Str} {cs : Scope} {a : Addr} {ccd : Value} {cl : List (Str × Addr)} {outer : List Env} {A₀ : Around} {base h₀ : Heap} {L : Addr} {m : Str → Option Value} {s : Shared} {Q E : Value → Shared → Prop}
  {lv : Addr} {vs : List Value} {ns : List Int} {k : Int} {t : Tok} {args : List Value}
  (hB : Below A₀ base outer h₀) (hF : Fr h₀ L s.heap m) (hX : (hd.heap_39 w.params).In h₀) (hT : Top hd.view_39 loose mean mg mb h₀) (hk : cs.kind = .function)
  (hdp : dp + 150 < recursionLimit) (hun : un + 30 < cLine)
  (hl : s.heap.IsList lv vs.toArray) (hi : IntsAre vs ns) (hlen : ns.length ≤ 8) (hn0 : 0 < ns.length) (hpos : ∀ x ∈ ns, 0 < x) (hsum : 0 < ns.sum) (hk0 : 0 < k) (hk8 : k ≤ 20)
  (hbind : Bd (hd.heap_39 w.params) 55 s args [(Str.ofString "votes", .ref lv), (Str.ofString "seats", .int k t), (Str.ofString "tiesallowed", .bool true)])
  (ret : ∀ (r : Addr) (rv : List Value) (rs : List Int) (cap : Nat) (h' : Heap) (tk' : Nat), (∀ b o, s.heap.get? b = some o → h'.get? b = some o) → s.heap.get? r = none → h'.get? r = some (listOf rv.toArray cap) → IntsAre rv rs → LrR ns k.toNat rs → Q (.ref r) { s with heap := h', toks := tk' }) :
  wpAny (model PySem.Challenge.rw_jd0003_02.row.prog w) (ktrTop dp un gd cn cs L a ccd cl outer) (call (.ref 55) args) Q E s := by
  ((w_top off); (have hfill : PySem.Challenge.rw_jd0003_02.row.prog = PySem.Challenge.rw_jd0003_02.row.prog ∧ hd.heap_39 = hd.heap_39 := (by k_fill; exact ⟨rfl, rfl⟩); clear hfill))
  refine wpAny_call ?_
  k_dflt (((refine' enterC ?k1Z ?k2Z ?k3Z ?k5Z ?kAZ ?kFZ ?kKZ ?k6Z ?k7Z ?k8Z ?k9Z ?kBZ ?kDZ ?_ ?c2Z ?c3Z ?c4Z; (case kAZ => exact rfl); (case kFZ => exact rfl); (case kKZ => assumption); (case k1Z => k_asm); (case k2Z => k_asm); (case k3Z => k_asm); (case k5Z => k_asm); (case k6Z => k_is); (case k7Z => k_is); (case k8Z => ktr_room); (case k9Z => first | exact Bd.at (by assumption) (by k_is) | exact BindsTo.of_eq rfl | exact binds_K (by k_in) rfl (by k_is) rfl rfl rfl); (case kBZ => exact rfl); (case kDZ => decide +kernel); (case c2Z => exact rfl); (case c3Z => exact rfl); (case c4Z => exact rfl); k_whole; intro _ _ _ _ _ _ _ _ _ _; (rename CellsAre _ _ _ => Y'); k_cells Y'; (rename News _ _ _ _ => N'); (try simp only [List.cons_append, List.nil_append] at N'); revert N'; intro _; (try dsimp only))))
  clear hF hB hX hT
  have hseer : s.heap.NoSeer := Top.seer (by assumption) (by decide +kernel)
  (try k_unmd); (try k_fold)
  (repeat' (first | ((fail_if_success (with_reducible show Stop _)); (first | ((with_reducible show wpAny _ _ (exec _ _) _ _ _); refine cut ?_; intro _ _; walk1) | ((rename Cont _ _ => cq); refine' resume cq ?_; clear cq; (try ((rename (Flow → Shared → Prop) => qq); clear qq)); (try dsimp only)) | (k_unfold; (try dsimp only)) | walk1 | (dsimp only; walk1)))))
  · exfalso; omega
  unfold Stop
  refine wpAny_Assign_Name ?_
  (repeat' (first | ((fail_if_success (with_reducible show Stop _)); (first | ((with_reducible show wpAny _ _ (exec _ _) _ _ _); refine cut ?_; intro _ _; walk1) | ((rename Cont _ _ => cq); refine' resume cq ?_; clear cq; (try ((rename (Flow → Shared → Prop) => qq); clear qq)); (try dsimp only)) | (k_unfold; (try dsimp only)) | walk1 | (dsimp only; walk1)))))
  unfold Stop
  (k_dflt (refine' LCg.ListComp_U ?FZ ?clZ ?ceZ ?kiZ ?naZ ?hxZ ?_; (case kiZ => rfl); (case FZ => k_asm); (case ceZ => decide); (case clZ => with_unfolding_all rfl); (case naZ => decide); (case hxZ => rfl)))
  (repeat' (first | ((fail_if_success (with_reducible show Stop _)); (first | ((with_reducible show wpAny _ _ (exec _ _) _ _ _); refine cut ?_; intro _ _; walk1) | ((rename Cont _ _ => cq); refine' resume cq ?_; clear cq; (try ((rename (Flow → Shared → Prop) => qq); clear qq)); (try dsimp only)) | (k_unfold; (try dsimp only)) | walk1 | (dsimp only; walk1)))))
  unfold Stop
  (((rename Fr _ _ _ _ => hF); (rename News _ _ _ _ => hN); refine LCg.CompSrc.base (by rfl) hF hN (by assumption) (by size_fits) ?_; clear hF hN; intro g9))
  refine kcp_list (fun p => (p * k, ns.sum)) hi ?t1 ?d1
  case t1 =>
    intro p tp I oI C oC D m₂ ys tl hh tk E' hmem hC hx hF hN off ne
    have mk := kstMark
    refine Mine.cut ?_; intro _ _
    (repeat' (first | ((fail_if_success (with_reducible show Stop _)); (first | ((with_reducible show wpAny _ _ (exec _ _) _ _ _); refine cut ?_; intro _ _; walk1) | ((rename Cont _ _ => cq); refine' resume cq ?_; clear cq; (try ((rename (Flow → Shared → Prop) => qq); clear qq)); (try dsimp only)) | (k_unfold; (try dsimp only)) | walk1 | (dsimp only; walk1)))))
    unfold Stop
    exact pr_end (by assumption) (by assumption) (by assumption) (by assumption) (fun _ => Or.inl (by assumption))
  case d1 =>
    intro ys tl hoff hpr
    obtain ⟨qs, hqs⟩ : ∃ qs, qs = List.map (fun p => (p * k, ns.sum)) ns := ⟨_, rfl⟩
    rw [← hqs] at hpr
    unfold LCg.FinE
    intro D2 h2 tk2 F2 N2 o2
    have mk := kstMark
    have hoff : OwnOff tl [_, _, _, _] := hoff
    have hoff2 : OwnOff tl [D2] := fun p hp b hb => by
      have : ∀ {l : List (Addr × Obj)}, LCg.Off1 D2 l → ∀ p ∈ l, p.1 ≠ D2 := fun {l} => by
        induction l with
        | nil => intro _ p hp; nomatch hp
        | cons q l ih =>
          intro x p hp
          rcases List.mem_cons.mp hp with rfl | hp
          · exact x.1
          · exact ih x.2 p hp
      rw [List.mem_singleton.mp hb]
      exact this o2 p (List.mem_append_right _ hp)
    simp only [List.cons_append, List.nil_append] at N2 o2
    simp only [LCg.Off1, and_true] at o2
    (repeat (obtain ⟨_, o2⟩ := o2))
    (repeat' (first | ((fail_if_success (with_reducible show Stop _)); (first | ((with_reducible show wpAny _ _ (exec _ _) _ _ _); refine cut ?_; intro _ _; walk1) | ((rename Cont _ _ => cq); refine' resume cq ?_; clear cq; (try ((rename (Flow → Shared → Prop) => qq); clear qq)); (try dsimp only)) | (k_unfold; (try dsimp only)) | walk1 | (dsimp only; walk1)))))
    have hyl : ys.length = ns.length := by rw [hpr.len, hqs, List.length_map]
    unfold Stop
    refine wpAny_Assign_Name ?_
    (repeat' (first | ((fail_if_success (with_reducible show Stop _)); (first | ((with_reducible show wpAny _ _ (exec _ _) _ _ _); refine cut ?_; intro _ _; walk1) | ((rename Cont _ _ => cq); refine' resume cq ?_; clear cq; (try ((rename (Flow → Shared → Prop) => qq); clear qq)); (try dsimp only)) | (k_unfold; (try dsimp only)) | walk1 | (dsimp only; walk1)))))
    unfold Stop
    (k_dflt (refine' LCg.ListComp_U ?FZ ?clZ ?ceZ ?kiZ ?naZ ?hxZ ?_; (case kiZ => rfl); (case FZ => k_asm); (case ceZ => decide); (case clZ => with_unfolding_all rfl); (case naZ => decide); (case hxZ => rfl)))
    (repeat' (first | ((fail_if_success (with_reducible show Stop _)); (first | ((with_reducible show wpAny _ _ (exec _ _) _ _ _); refine cut ?_; intro _ _; walk1) | ((rename Cont _ _ => cq); refine' resume cq ?_; clear cq; (try ((rename (Flow → Shared → Prop) => qq); clear qq)); (try dsimp only)) | (k_unfold; (try dsimp only)) | walk1 | (dsimp only; walk1)))))
    unfold Stop
    (((rename Fr _ _ _ _ => hF); (rename News _ _ _ _ => hN); refine LCg.CompSrc.ledger (by rfl) hF hN (by k_mem) (by (simp only [List.size_toArray]; rw [PySem.sizeLine_eq]; omega)) ?_; clear hF hN; intro g9))
    refine kcq_list (fun q => q.1.fdiv q.2) hpr ?t2 ?d2
    case t2 =>
      intro q tq t1 t2 I oI C oC D m₂ ys2 hh tk E' hmem hmt hC hx hF hN off ne
      have hq2 : 0 < q.2 := by
        rw [hqs] at hmem
        obtain ⟨p, _, rfl⟩ := List.mem_map.mp hmem
        exact hsum
      have hN := news_dup hN (by simp only [List.mem_cons]; simp only [hmt, or_true] : (tq, tupO q.1 t1 q.2 t2) ∈ _)
      unfold tupO at hN
      refine Mine.cut ?_; intro _ _
      (repeat' (first | ((fail_if_success (with_reducible show Stop _)); (first | ((with_reducible show wpAny _ _ (exec _ _) _ _ _); refine cut ?_; intro _ _; walk1) | ((rename Cont _ _ => cq); refine' resume cq ?_; clear cq; (try ((rename (Flow → Shared → Prop) => qq); clear qq)); (try dsimp only)) | (k_unfold; (try dsimp only)) | walk1 | (dsimp only; walk1)))))
      unfold Stop
      exact LCg.CompEnd.intro (by assumption) (by assumption) _ (by kcf_all) (by first | (simp only [LCg.Off3, and_true]; assumption) | assumption) (Or.inr ⟨_, .head _, rfl, _, rfl⟩) ⟨rfl, _, rfl⟩
    case d2 =>
      intro ys2 hys2
      have hys2 : IntsAre ys2 (flr ns k.toNat) := by
        have e : flr ns k.toNat = List.map (fun q => q.1.fdiv q.2) qs := by
          rw [hqs, flr, List.map_map]
          refine List.map_congr_left fun p _ => ?_
          have : ((k.toNat : Nat) : Int) = k := by omega
          rw [this]; rfl
        rw [e]; exact hys2
      have hrl : (flr ns k.toNat).length = ns.length := List.length_map ..
      unfold LCg.FinE
      intro D3 h3 tk3 F3 N3 o3
      simp only [LCg.Off1, and_true] at o3
      (repeat (obtain ⟨_, o3⟩ := o3))
      have hkk : ((k.toNat : Nat) : Int) = k := by omega
      have hfle := flr_le (ps := ns) (n := k.toNat) hsum
      (repeat' (first | ((fail_if_success (with_reducible show Stop _)); (first | ((with_reducible show wpAny _ _ (exec _ _) _ _ _); refine cut ?_; intro _ _; walk1) | ((rename Cont _ _ => cq); refine' resume cq ?_; clear cq; (try ((rename (Flow → Shared → Prop) => qq); clear qq)); (try dsimp only)) | (k_unfold; (try dsimp only)) | walk1 | (dsimp only; walk1)))))
      rotate_left
      · rename Fr _ _ _ _ => F9
        rename News _ _ _ _ => N9
        exact ret D3 ys2 (flr ns k.toNat) _ _ _ F9.keep (N9 _ (.head _)).2.2 (N9 _ (.head _)).1 hys2 (flr_ok hsum (by omega))
      unfold Stop
      have hr20 : ∀ i : Nat, 0 ≤ (flr ns k.toNat).getD i 0 ∧ (flr ns k.toNat).getD i 0 ≤ 20 := fun i => flr_bd hpos hsum (by omega) i
      (k_dflt (refine' LCg.Assign_ListComp_U ?FZ ?eZ ?swZ ?clZ ?ceZ ?kiZ ?naZ ?hxZ ?hyZ ?hpZ ?_; (case hyZ => rfl); (case FZ => k_asm); (case eZ => exact rfl); (case swZ => with_unfolding_all rfl); (case clZ => with_unfolding_all rfl); (case ceZ => decide); (case kiZ => rfl); (case naZ => decide); (case hxZ => rfl); (case hpZ => rfl)))
      (repeat' (first | ((fail_if_success (with_reducible show Stop _)); (first | ((with_reducible show wpAny _ _ (exec _ _) _ _ _); refine cut ?_; intro _ _; walk1) | ((rename Cont _ _ => cq); refine' resume cq ?_; clear cq; (try ((rename (Flow → Shared → Prop) => qq); clear qq)); (try dsimp only)) | (k_unfold; (try dsimp only)) | walk1 | (dsimp only; walk1)))))
      unfold Stop
      (((rename IsRange _ _ _ _ _ _ _ _ => hR); (rename Fr _ _ _ _ => hF); (rename News _ _ _ _ => hN); refine LCg.CompSrc.range (by rfl) hF hN hR (small_one (by omega) (by omega) (by omega) (by omega)) (rsz _) (by rw [PySem.sizeLine_eq]; omega) ?_; clear hF hN; intro g9))
      refine kcf_range (fun i => ns.getD i.toNat 0 * k - (flr ns k.toNat).getD i.toNat 0 * ns.sum) ?t3 ?d3
      case t3 =>
        intro i ti I oI C oC D m₂ ys3 hh tk E' hlo hhi hC hx hF hN off ne mk9
        have hqi : qs[i.toNat]? = some (ns.getD i.toNat 0 * k, ns.sum) := by
          rw [hqs, List.getElem?_map, List.getElem?_eq_getElem (show i.toNat < ns.length by omega), Option.map_some, List.getD_eq_getElem?_getD, List.getElem?_eq_getElem (show i.toNat < ns.length by omega)]; rfl
        obtain ⟨tq, t1, t2, hyq, hmt⟩ := hpr.at' _ _ hqi
        have hN := news_dup hN (by simp only [List.mem_cons]; simp only [hmt, or_true] : (tq, tupO (ns.getD i.toNat 0 * k) t1 ns.sum t2) ∈ _)
        unfold tupO at hN
        have hr3 := hr20 i.toNat
        refine Mine.cut ?_; intro _ _
        (repeat' (first | ((fail_if_success (with_reducible show Stop _)); (first | ((with_reducible show wpAny _ _ (exec _ _) _ _ _); refine cut ?_; intro _ _; walk1) | ((rename Cont _ _ => cq); refine' resume cq ?_; clear cq; (try ((rename (Flow → Shared → Prop) => qq); clear qq)); (try dsimp only)) | (k_unfold; (try dsimp only)) | walk1 | (dsimp only; walk1)))))
        unfold Stop
        exact LCg.CompEnd.intro (by assumption) (by assumption) _ (by kcf_all) (by first | (simp only [LCg.Off3, and_true]; assumption) | assumption) trivial ⟨rfl, _, rfl⟩
      case d3 =>
        intro ys3 hys3
        have hys3 : IntsAre ys3 (rmd ns k.toNat) := by
          have e : rmd ns k.toNat = List.map (fun i => ns.getD i.toNat 0 * k - (flr ns k.toNat).getD i.toNat 0 * ns.sum) (rangeKs 0 ns.length) := by
            have hk9 := rmd_range ns k.toNat
            rw [hkk] at hk9
            exact hk9
          rw [e]; exact hys3
        have hml : (rmd ns k.toNat).length = ns.length := List.length_map ..
        have hq9 := lr_q (ps := ns) (n := k.toNat) hsum
        unfold LCg.FinA
        intro D4 h4 tk4 F4 N4 o4
        simp only [LCg.Off1, and_true] at o4
        (repeat (obtain ⟨_, o4⟩ := o4))
        (repeat' (first | ((fail_if_success (with_reducible show Stop _)); (first | ((with_reducible show wpAny _ _ (exec _ _) _ _ _); refine cut ?_; intro _ _; walk1) | ((rename Cont _ _ => cq); refine' resume cq ?_; clear cq; (try ((rename (Flow → Shared → Prop) => qq); clear qq)); (try dsimp only)) | (k_unfold; (try dsimp only)) | walk1 | (dsimp only; walk1)))))
        unfold Stop
        have hoff3 : OwnOff tl [D3] := off1_own o3
        rename List.Perm _ _ => hperm
        rename List.Pairwise _ _ => hsort
        rename Fr _ _ _ _ => F5
        rename List Int => so
        generalize hcut : so.getD ((flr ns k.toNat).sum - k + ↑so.length).toNat 0 = cut at *
        refine For_invVF F5 (by rfl) (by rfl) ?_
        (repeat' (first | ((fail_if_success (with_reducible show Stop _)); (first | ((with_reducible show wpAny _ _ (exec _ _) _ _ _); refine cut ?_; intro _ _; walk1) | ((rename Cont _ _ => cq); refine' resume cq ?_; clear cq; (try ((rename (Flow → Shared → Prop) => qq); clear qq)); (try dsimp only)) | (k_unfold; (try dsimp only)) | walk1 | (dsimp only; walk1)))))
        unfold Stop
        rename Fr _ _ _ _ => F6
        rename News _ _ _ _ => N6
        rename IsRange _ _ _ _ _ _ _ _ => hR
        refine kst_range (σ := List Value × List Int × Nat × Bool) (fun c => (D4, LCg.lst ys3) :: (D3, W.listOf c.1.toArray c.2.2.1) :: (D2, LCg.lst ys) :: (_, _) :: (_, _) :: (_, _) :: (_, _) :: tl)
          (fun c => [(Str.ofString "ties", .bool c.2.2.2)]) (fun c => IntsAre c.1 c.2.1) [Str.ofString "reps_sum"]
          (fun pre c => c.2.1 = tieF (fun i => decide (cut ≤ (rmd ns k.toNat).getD i 0)) k (flr ns k.toNat) pre.length) (ys2, flr ns k.toNat, ys2.length, false)
          (by rfl) hR (small_one (by omega) (by omega) (by omega) (by omega)) (rsz _) F6 (news_tail N6) hys2 ?hk9 rfl ?turn ?done
        case hk9 => kst_all
        case done =>
          rintro ⟨rv, rs, cap, ties⟩ u h tk hri hP F7 N7
          dsimp only at *
          have hlr : LrR ns k.toNat rs := by
            have hsl : so.length = ns.length := hperm.length_eq.trans hml
            have h9 := lr_ok (ps := ns) (n := k.toNat) (l := so) (m := cut) hsum (by omega) hsort hperm (by rw [← hcut]; congr 1; omega)
            rw [hkk] at h9
            rw [hP, rangeKs_length]
            exact h9
          (repeat' (first | ((fail_if_success (with_reducible show Stop _)); (first | ((with_reducible show wpAny _ _ (exec _ _) _ _ _); refine cut ?_; intro _ _; walk1) | ((rename Cont _ _ => cq); refine' resume cq ?_; clear cq; (try ((rename (Flow → Shared → Prop) => qq); clear qq)); (try dsimp only)) | (k_unfold; (try dsimp only)) | walk1 | (dsimp only; walk1)))))
          all_goals
            rename Fr _ _ _ _ => F8
            rename News _ _ _ _ => N8
            exact ret D3 rv rs cap _ _ F8.keep (N8 _ (.tail _ (.head _))).2.2 (N8 _ (.tail _ (.head _))).1 hri hlr
        case turn =>
          rintro ⟨rv, rs, cap, ties⟩ pre i ti u h tk own hki hlt hown hri hP F7 N7
          dsimp only [List.map, List.cons_append, List.nil_append] at *
          have hrsl : rs.length = ns.length := by rw [hP, tieF_len]; exact hrl
          have hst : tieF (fun i => decide (cut ≤ (rmd ns k.toNat).getD i 0)) k (flr ns k.toNat) (pre.length + 1) = if rs.sum < k ∧ cut ≤ (rmd ns k.toNat).getD i.toNat 0 then rs.set i.toNat (rs.getD i.toNat 0 + 1) else rs := by
            have e : i.toNat = pre.length := by omega
            rw [e, hP]
            simp only [tieF, decide_eq_true_eq]
          refine Mine.cut ?_; intro _ _
          (repeat' (first | ((fail_if_success (with_reducible show Stop _)); (first | ((with_reducible show wpAny _ _ (exec _ _) _ _ _); refine cut ?_; intro _ _; walk1) | ((rename Cont _ _ => cq); refine' resume cq ?_; clear cq; (try ((rename (Flow → Shared → Prop) => qq); clear qq)); (try dsimp only)) | (k_unfold; (try dsimp only)) | walk1 | (dsimp only; walk1)))))
          all_goals (unfold Stop)
          all_goals first
            | exact kst_end (σ := List Value × List Int × Nat × Bool) (rv, rs, cap, _) (by assumption) (by assumption) (fun p hp => List.mem_append_left own hp) (fun p hp => List.mem_append_right ([_, _, _, _, _, _, _] ++ tl) hp) rfl hri (fun p hp => by rw [List.mem_singleton.mp hp]; rfl) (by ((intro z h1 h2 h3; have hb := h2 _ (List.mem_cons_self); have h4 := h3; simp only [List.contains_cons, List.contains_nil, Bool.or_false, beq_eq_false_iff_ne, ne_eq] at h4; dsimp only [kstB, mset]; simp only [if_neg h1, if_neg hb, if_neg h4]; exact if_neg (by rw [h3]; decide)))) (by show rs = tieF _ _ _ _; rw [List.length_append, List.length_singleton, hst, if_neg (by omega)])
            | exact kst_end (σ := List Value × List Int × Nat × Bool) (_, _, _, _) (by assumption) (by assumption) (fun p hp => List.mem_append_left own hp) (fun p hp => List.mem_append_right ([_, _, _, _, _, _, _] ++ tl) hp) rfl (by assumption) (fun p hp => by rw [List.mem_singleton.mp hp]; rfl) (by ((intro z h1 h2 h3; have hb := h2 _ (List.mem_cons_self); have h4 := h3; simp only [List.contains_cons, List.contains_nil, Bool.or_false, beq_eq_false_iff_ne, ne_eq] at h4; dsimp only [kstB, mset]; simp only [if_neg h1, if_neg hb, if_neg h4]; exact if_neg (by rw [h3]; decide)))) (by rw [List.length_append, List.length_singleton, hst, if_pos (by omega)])

theorem lrm_use {w : World} {loose : List Str} {mean : ExcName → Option Value} {mg mb : Str → Option Value} {dp un : Nat} {gd : Option (List Code)} {cn : Str} {cs : Scope} {a : Addr} {ccd : Value} {cl : List (Str × Addr)} {outer : List Env} {A₀ : Around} {base h₀ : Heap} {L : Addr} {m : Str → Option Value} {s : Shared} {Q E : Value → Shared → Prop}
  {lv : Addr} {vs : List Value} {ns : List Int} {k : Int} {t : Tok} {args : List Value} {news : List (Addr × Obj)} {c : Nat}
  (hB : Below A₀ base outer h₀) (hF : Fr h₀ L s.heap m) (hX : (hd.heap_39 w.params).In h₀) (hT : Top hd.view_39 loose mean mg mb h₀) (hN : News h₀ L s.heap news) (hk : cs.kind = .function)
  (hdp : dp + 150 < recursionLimit) (hun : un + 30 < cLine)
  (hm : (lv, listOf vs.toArray c) ∈ news) (hi : IntsAre vs ns) (hlen : ns.length ≤ 8) (hn0 : 0 < ns.length) (hpos : ∀ x ∈ ns, 0 < x) (hsum : 0 < ns.sum) (hk0 : 0 < k) (hk8 : k ≤ 20)
  (hbind : Bd (hd.heap_39 w.params) 55 s args [(Str.ofString "votes", .ref lv), (Str.ofString "seats", .int k t), (Str.ofString "tiesallowed", .bool true)])
  (ret : ∀ (r : Addr) (rv : List Value) (rs : List Int) (cap : Nat) (h' : Heap) (tk' : Nat), Fr h₀ L h' m → News h₀ L h' ((r, listOf rv.toArray cap) :: news) → LCg.Off1 r news → IntsAre rv rs → LrR ns k.toNat rs → Q (.ref r) { s with heap := h', toks := tk' }) :
  wpAny (model PySem.Challenge.rw_jd0003_02.row.prog w) (ktrTop dp un gd cn cs L a ccd cl outer) (call (.ref 55) args) Q E s := by
  refine lrm_ok hB hF hX hT hk hdp hun ⟨_, (hN _ hm).1, rfl, c, rfl⟩ hi hlen hn0 hpos hsum hk0 hk8 hbind fun r rv rs cap h' tk' keep fresh get hri hq => ?_
  refine ret r rv rs cap h' tk' (hF.keeps keep) ?_ ?_ hri hq
  · intro p hp
    rcases List.mem_cons.mp hp with rfl | hp
    · refine ⟨get, fun e => ?_, ?_⟩
      · obtain ⟨oL, _, _, hL, _⟩ := hF.ns
        have e' : r = L := e
        rw [e', hL] at fresh; cases fresh
      · cases q : h₀.get? r with
        | none => rfl
        | some o => have := hF.keep _ _ q; rw [fresh] at this; cases this
    · exact ⟨keep _ _ (hN p hp).1, (hN p hp).2⟩
  · clear ret hm
    induction news with
    | nil => trivial
    | cons p news ih =>
      refine ⟨fun e => ?_, ih fun q hq => hN q (.tail _ hq)⟩
      have h1 := (hN p (.head _)).1
      have e' : p.1 = r := e
      rw [e', fresh] at h1; cases h1
end
section
inductive JM : Nat → Prop
  | mk (n : Nat) : JM n
theorem jm (n : Nat) : JM n := .mk n
local macro_rules | `(tactic| walk_at "binaryOp Add ref ref") => `(tactic| ((rename JM 9 => hj); clear hj; refine stop ?_))
local macro_rules | `(tactic| walk_at "exec If Compare cons cons") => `(tactic| ((rename JM 1 => hj); clear hj; refine stop ?_))
theorem dv_ix {n so l : Nat} {x : Int} (h : x = 0 ∨ x = ↑l) (hx : x < n) (hn : n ≤ so) : (-(n : Int) + x + so).toNat = so - (n - x.toNat) := by
  obtain ⟨k, rfl⟩ : ∃ k : Nat, x = k := h.elim (fun e => ⟨0, e⟩) (fun e => ⟨l, e⟩)
  rw [Int.toNat_natCast]
  clear h
  lia
theorem own_two {tl : List (Addr × Obj)} {D : Addr} {l : List Addr} (h1 : OwnOff tl [D]) (h2 : OwnOff tl l) : OwnOff tl (D :: l) := fun p hp b hb => by
  rcases List.mem_cons.mp hb with rfl | hb
  · exact h1 p hp b (.head _)
  · exact h2 p hp b hb
theorem dv_ok {w : World} {loose : List Str} {mean : ExcName → Option Value} {mg mb : Str → Option Value} {dp un : Nat} {gd : Option (List Code)} {cn : Str} {cs : Scope} {a : Addr} {ccd : Value} {cl : List (Str × Addr)} {outer : List Env} {A₀ : Around} {base h₀ : Heap} {L : Addr} {m : Str → Option Value} {s : Shared} {Q E : Value → Shared → Prop}
  {lv : Addr} {vs : List Value} {ns : List Int} {n : Nat} {t : Tok} {args : List Value} {mth : Str} {tm : Tok} {g : Nat}
  (hB : Below A₀ base outer h₀) (hF : Fr h₀ L s.heap m) (hX : (hd.heap_39 w.params).In h₀) (hT : Top hd.view_39 loose mean mg mb h₀) (hk : cs.kind = .function)
  (hdp : dp + 150 < recursionLimit) (hun : un + 30 < cLine) (hg : g < 6) (hG : Grp g mth)
  (hl : s.heap.IsList lv vs.toArray) (hi : IntsAre vs ns) (hlen : ns.length ≤ 4) (hn0 : 0 < ns.length) (hpos : ∀ x ∈ ns, 0 < x) (hsum : 0 < ns.sum) (hbits : ∀ x ∈ ns, PySem.Builtin.Int.intBits x ≤ 2000000) (hk0 : ns.length ≤ n) (hk8 : n < 10)
  (hbind : Bd (hd.heap_39 w.params) 61 s args [(Str.ofString "votes", .ref lv), (Str.ofString "seats", .int (n : Int) t), (Str.ofString "method", .str mth tm), (Str.ofString "tiesallowed", .bool true)])
  (ret : ∀ (r : Addr) (rv : List Value) (rs : List Int) (cap : Nat) (h' : Heap) (tk' : Nat), (∀ b o, s.heap.get? b = some o → h'.get? b = some o) → s.heap.get? r = none → h'.get? r = some (listOf rv.toArray cap) → IntsAre rv rs → DivR ns g n rs → Q (.ref r) { s with heap := h', toks := tk' }) :
  wpAny (model PySem.Challenge.rw_jd0003_02.row.prog w) (ktrTop dp un gd cn cs L a ccd cl outer) (call (.ref 61) args) Q E s := by
  ((w_top off); (have hfill : PySem.Challenge.rw_jd0003_02.row.prog = PySem.Challenge.rw_jd0003_02.row.prog ∧ hd.heap_39 = hd.heap_39 := (by k_fill; exact ⟨rfl, rfl⟩); clear hfill))
  refine wpAny_call ?_
  k_dflt (((refine' enterC ?k1Z ?k2Z ?k3Z ?k5Z ?kAZ ?kFZ ?kKZ ?k6Z ?k7Z ?k8Z ?k9Z ?kBZ ?kDZ ?_ ?c2Z ?c3Z ?c4Z; (case kAZ => exact rfl); (case kFZ => exact rfl); (case kKZ => assumption); (case k1Z => k_asm); (case k2Z => k_asm); (case k3Z => k_asm); (case k5Z => k_asm); (case k6Z => k_is); (case k7Z => k_is); (case k8Z => ktr_room); (case k9Z => first | exact Bd.at (by assumption) (by k_is) | exact BindsTo.of_eq rfl | exact binds_K (by k_in) rfl (by k_is) rfl rfl rfl); (case kBZ => exact rfl); (case kDZ => decide +kernel); (case c2Z => exact rfl); (case c3Z => exact rfl); (case c4Z => exact rfl); k_whole; intro _ _ _ _ _ _ _ _ _ _; (rename CellsAre _ _ _ => Y'); k_cells Y'; (rename News _ _ _ _ => N'); (try simp only [List.cons_append, List.nil_append] at N'); revert N'; intro _; (try dsimp only))))
  clear hF hB hX hT
  have hseer : s.heap.NoSeer := Top.seer (by assumption) (by decide +kernel)
  (try k_unmd); (try k_fold)
  have j1 := jm 1
  (repeat' (first | ((fail_if_success (with_reducible show Stop _)); (first | ((with_reducible show wpAny _ _ (exec _ _) _ _ _); refine cut ?_; intro _ _; walk1) | ((rename Cont _ _ => cq); refine' resume cq ?_; clear cq; (try ((rename (Flow → Shared → Prop) => qq); clear qq)); (try dsimp only)) | (k_unfold; (try dsimp only)) | walk1 | (dsimp only; walk1)))))
  unfold Stop
  rename_i L' hh3 tk0 B' X' T' q5 q4 q3 q2 q1 dd1 dd2 dd3 dd4 dd5 lz hz ltz D' hD iD n1 s1 e1 e2 e3 lt2 hW oR F1 N1 dR qz cz
  refine join_div (ns := ns) (g := g) (n := n) F1 N1 ?_ ?_
  rotate_left
  · intro r D rv ys cr cd oR oD tl h9 tk9 H
    obtain ⟨F1, N1, hoff, hoD, hor, dD, dR9, hri, hpr⟩ := H
    have mk := kstMark
    (repeat (obtain ⟨_, hoD⟩ := hoD))
    (repeat (obtain ⟨_, hor⟩ := hor))
    obtain ⟨rs0, hrs0⟩ : ∃ l, l = ns.map fun _ => rz g := ⟨_, rfl⟩
    rw [← hrs0] at hri
    have hr0l : rs0.length = ns.length := by rw [hrs0, List.length_map]
    obtain ⟨hr0s, hr0i⟩ := divR_sum (ps := ns) (g := g)
    rw [← hrs0] at hr0s hr0i
    have hyl : ys.length = n := by rw [hpr.len, dvl_len]
    (repeat' (first | ((fail_if_success (with_reducible show Stop _)); (first | ((with_reducible show wpAny _ _ (exec _ _) _ _ _); refine cut ?_; intro _ _; walk1) | ((rename Cont _ _ => cq); refine' resume cq ?_; clear cq; (try ((rename (Flow → Shared → Prop) => qq); clear qq)); (try dsimp only)) | (k_unfold; (try dsimp only)) | walk1 | (dsimp only; walk1)))))
    rotate_left
    · rename Fr _ _ _ _ => F9
      rename News _ _ _ _ => N9
      exact ret r rv rs0 cr _ _ F9.keep (N9 _ (.tail _ (.head _))).2.2 (N9 _ (.tail _ (.head _))).1 hri (by rw [hrs0] at *; exact divR_ones (by omega) hk0)
    unfold Stop
    rename Fr _ _ _ _ => F2
    rename News _ _ _ _ => N2
    rename_i hgt oC dC qz2 cz2
    refine For_invVF F2 (by rfl) (by rfl) ?_
    (repeat' (first | ((fail_if_success (with_reducible show Stop _)); (first | ((with_reducible show wpAny _ _ (exec _ _) _ _ _); refine cut ?_; intro _ _; walk1) | ((rename Cont _ _ => cq); refine' resume cq ?_; clear cq; (try ((rename (Flow → Shared → Prop) => qq); clear qq)); (try dsimp only)) | (k_unfold; (try dsimp only)) | walk1 | (dsimp only; walk1)))))
    unfold Stop
    refine loop_refs (σ := Obj) (fun c => (D, listOf ys.toArray cd) :: (r, listOf rv.toArray cr) :: (_, q5) :: (_, q4) :: (L' + 1 + 1 + 1, c) :: (_, oD) :: (_, oR) :: tl) (fun i c => ∃ t, c.data = .cell (some (.int (com g i) t))) oC
      (by rfl) (fun c => .head _) (fun c => rfl) F2 N2 ⟨_, dC⟩ ?turn ?done
    case turn =>
      intro i v c h tk own hv hown hP hF hN
      obtain ⟨tC, dC9⟩ := hP
      have hin : i < n := by
        have := (List.getElem?_eq_some_iff.mp hv).1
        omega
      obtain ⟨tq, t1, t2, hyq, hmt⟩ := hpr.at' i _ (dvl_at (g := g) hin)
      obtain rfl : v = Value.ref tq := Option.some.inj (hv.symm.trans hyq)
      have hq3 : (@Ne Nat tq (L' + 1 + 1 + 1)) := hoff _ hmt _ (by simp)
      have hN := news_dup hN (by simp only [List.mem_cons, List.mem_append]; simp only [hmt, or_true, true_or] : (tq, tupO (dvs g i).1 t1 (dvs g i).2 t2) ∈ _)
      unfold tupO at hN
      have hcb := com_bd g hg i (by omega)
      have hdb := dvs_bd g hg i (by omega)
      have hmo : IntMulOk (com g i) (dvs g i).1 := IntMulOk.of_left (intBits_le_64 (by omega) (by omega))
      dsimp only [List.map, List.cons_append, List.nil_append] at *
      refine Mine.cut ?_; intro _ _
      (repeat' (first | ((fail_if_success (with_reducible show Stop _)); (first | ((with_reducible show wpAny _ _ (exec _ _) _ _ _); refine cut ?_; intro _ _; walk1) | ((rename Cont _ _ => cq); refine' resume cq ?_; clear cq; (try ((rename (Flow → Shared → Prop) => qq); clear qq)); (try dsimp only)) | (k_unfold; (try dsimp only)) | walk1 | (dsimp only; walk1)))))
      unfold Stop
      rename News _ _ _ _ => N5
      exact ⟨rfl, _, _, _, _, rfl, by assumption, N5, fun p hp => .tail _ (List.mem_append_left own hp), fun p hp => .tail _ (List.mem_append_right ([_, _, _, _, _, _, _] ++ tl) hp), ⟨_, by rw [com_succ]; assumption⟩⟩
    case done =>
      intro c u h tk hP hF hN
      obtain ⟨tC, dC9⟩ := hP
      rw [hyl] at dC9
      have hcb := com_bd g hg n (by omega)
      have j1 := jm 1
      (repeat' (first | ((fail_if_success (with_reducible show Stop _)); (first | ((with_reducible show wpAny _ _ (exec _ _) _ _ _); refine cut ?_; intro _ _; walk1) | ((rename Cont _ _ => cq); refine' resume cq ?_; clear cq; (try ((rename (Flow → Shared → Prop) => qq); clear qq)); (try dsimp only)) | (k_unfold; (try dsimp only)) | walk1 | (dsimp only; walk1)))))
      unfold Stop
      rename Fr _ _ _ _ => F3
      rename News _ _ _ _ => N3
      refine join_wts (ns := ns) (g := g) (n := n) F3 N3 ?_ ?_
      · intro Q8 kont
        have G3 := hG.a3
        (repeat' (first | ((fail_if_success (with_reducible show Stop _)); (first | ((with_reducible show wpAny _ _ (exec _ _) _ _ _); refine cut ?_; intro _ _; walk1) | ((rename Cont _ _ => cq); refine' resume cq ?_; clear cq; (try ((rename (Flow → Shared → Prop) => qq); clear qq)); (try dsimp only)) | (k_unfold; (try dsimp only)) | walk1 | (dsimp only; walk1)))))
        · unfold Stop
          rename News _ _ _ _ => N4
          have N5 := news_tail N4
          clear N4
          refine wpAny_Assign_Name ?_
          (repeat' (first | ((fail_if_success (with_reducible show Stop _)); (first | ((with_reducible show wpAny _ _ (exec _ _) _ _ _); refine cut ?_; intro _ _; walk1) | ((rename Cont _ _ => cq); refine' resume cq ?_; clear cq; (try ((rename (Flow → Shared → Prop) => qq); clear qq)); (try dsimp only)) | (k_unfold; (try dsimp only)) | walk1 | (dsimp only; walk1)))))
          unfold Stop
          (k_dflt (refine' cell_compF ?FZ ?clZ ?kiZ ?naZ ?cfZ ?pcZ ?hxZ ?_; (case kiZ => rfl); (case FZ => k_asm); (case clZ => with_unfolding_all rfl); (case naZ => decide); (case cfZ => (intro n; rfl)); (case pcZ => (intro h; rfl)); (case hxZ => with_unfolding_all rfl)))
          (repeat' (first | ((fail_if_success (with_reducible show Stop _)); (first | ((with_reducible show wpAny _ _ (exec _ _) _ _ _); refine cut ?_; intro _ _; walk1) | ((rename Cont _ _ => cq); refine' resume cq ?_; clear cq; (try ((rename (Flow → Shared → Prop) => qq); clear qq)); (try dsimp only)) | (k_unfold; (try dsimp only)) | walk1 | (dsimp only; walk1)))))
          unfold Stop
          rename Fr _ _ _ _ => F6
          rename News _ _ _ _ => N6
          refine CellSrc.intro (wts g n) (by rfl) F6 N6 hl hi (by have := hi.length; rw [PySem.sizeLine_eq]; omega) ?turn ?fin
          case turn =>
            intro p tp I oI C oC P oP D9 yw tl9 h tk E' hmem hP9 hF hN hown9 hoff9 hne9
            clear F6 N6
            have mk := kstMark
            have hbp := hbits p hmem
            simp only [List.cons_append, List.nil_append] at hN
            refine Mine.cut ?_; intro _ _
            (k_dflt (refine' LCg.ListComp_U ?FZ ?clZ ?ceZ ?kiZ ?naZ ?hxZ ?_; (case kiZ => rfl); (case FZ => k_asm); (case ceZ => decide); (case clZ => with_unfolding_all rfl); (case naZ => decide); (case hxZ => rfl)))
            (repeat' (first | ((fail_if_success (with_reducible show Stop _)); (first | ((with_reducible show wpAny _ _ (exec _ _) _ _ _); refine cut ?_; intro _ _; walk1) | ((rename Cont _ _ => cq); refine' resume cq ?_; clear cq; (try ((rename (Flow → Shared → Prop) => qq); clear qq)); (try dsimp only)) | (k_unfold; (try dsimp only)) | walk1 | (dsimp only; walk1)))))
            unfold Stop
            (((rename Fr _ _ _ _ => hF); (rename News _ _ _ _ => hN); refine LCg.CompSrc.ledger (by rfl) hF hN (by k_mem) (by (simp only [List.size_toArray]; rw [PySem.sizeLine_eq]; omega)) ?_; clear hF hN; intro g9))
            refine kcq_list (fun q => (sqv g p * q.2 * com g n).fdiv q.1) hpr ?t7 ?d7
            case t7 =>
              intro q tq t1 t2 I oI C oC D m₂ ys2 hh tk E' hmq hmt hC hx hF hN off ne
              obtain ⟨k, hkn, hqk⟩ := dvl_mem hmq
              have hdb := dvs_bd g hg k (by omega)
              rw [← hqk] at hdb
              have hN := news_dup hN (by simp only [List.mem_cons, List.mem_append]; simp only [hmt, or_true, true_or] : (tq, tupO q.1 t1 q.2 t2) ∈ _)
              unfold tupO at hN
              have hm3 : ∀ x, IntMulOk x (com g n) := fun x => IntMulOk.of_right (intBits_le_64 (by omega) (by omega))
              have hm2 : ∀ x, IntMulOk x q.2 := fun x => IntMulOk.of_right (intBits_le_64 (by omega) (by omega))
              have hm1 : IntMulOk p p := mulOk_of_bits hbp hbp (by decide)
              have e9 : sqv g p = p * p := if_pos (by assumption)
              rw [e9]
              have hm4 := hm2 (p * p)
              have hm5 := hm3 (p * p * q.2)
              refine Mine.cut ?_; intro _ _
              (repeat' (first | ((fail_if_success (with_reducible show Stop _)); (first | ((with_reducible show wpAny _ _ (exec _ _) _ _ _); refine cut ?_; intro _ _; walk1) | ((rename Cont _ _ => cq); refine' resume cq ?_; clear cq; (try ((rename (Flow → Shared → Prop) => qq); clear qq)); (try dsimp only)) | (k_unfold; (try dsimp only)) | walk1 | (dsimp only; walk1)))))
              unfold Stop
              exact LCg.CompEnd.intro (by assumption) (by assumption) _ (fun p hp => .tail _ hp) off (Or.inr ⟨_, by k_mem, rfl, _, rfl⟩) ⟨rfl, _, rfl⟩
            case d7 =>
              intro ys8 hys8
              rw [wts_dvl] at hys8
              unfold LCg.FinE
              intro D8 h8 tk8 F8 N8 o8
              refine resume (by assumption) ?_
              exact ⟨D8, ys8, h8, tk8, rfl, rfl, F8, N8, hys8, o8⟩
          case fin =>
            intro W h tk yw tlw hF hN o1 hown hrows
            clear F6 N6
            have mk := kstMark
            have hown : OwnOff tlw (_ :: _ :: _ :: _ :: _ :: _ :: _ :: _) := hown
            simp only [List.cons_append, List.nil_append] at hN o1
            simp only [LCg.Off1] at o1
            have hoW : OwnOff tlw [W] := off1_own (off1_app o1.2.2.2.2.2.2.2)
            have hoW0 : OwnOff tl [W] := fun p hp b hb => by
              rw [List.mem_singleton.mp hb]; exact off1_mem o1.2.2.2.2.2.2.2 p (List.mem_append_left _ hp)
            have kw9 := And.intro o1.2.1 (And.intro o1.2.2.1 (And.intro o1.2.2.2.1 o1.2.2.2.2.2.2.1))
            (repeat (obtain ⟨_, o1⟩ := o1))
            (repeat' (first | ((fail_if_success (with_reducible show Stop _)); (first | ((with_reducible show wpAny _ _ (exec _ _) _ _ _); refine cut ?_; intro _ _; walk1) | ((rename Cont _ _ => cq); refine' resume cq ?_; clear cq; (try ((rename (Flow → Shared → Prop) => qq); clear qq)); (try dsimp only)) | (k_unfold; (try dsimp only)) | walk1 | (dsimp only; walk1)))))
            rename News _ _ _ _ => N7
            refine kont W yw _ tlw _ _ ⟨?kf, news_wts N7, ?ko, ?kw, ?ki, hrows⟩
            case kf => assumption
            case ko => exact own_two hoW (own_sub hown fun b hb => by simp only [List.mem_cons, List.not_mem_nil, or_false] at hb ⊢; rcases hb with h | h | h | h <;> simp [h])
            case kw => exact kw9
            case ki => assumption
        · unfold Stop
          rename News _ _ _ _ => N4
          have N5 := news_tail N4
          clear N4
          refine wpAny_Assign_Name ?_
          (repeat' (first | ((fail_if_success (with_reducible show Stop _)); (first | ((with_reducible show wpAny _ _ (exec _ _) _ _ _); refine cut ?_; intro _ _; walk1) | ((rename Cont _ _ => cq); refine' resume cq ?_; clear cq; (try ((rename (Flow → Shared → Prop) => qq); clear qq)); (try dsimp only)) | (k_unfold; (try dsimp only)) | walk1 | (dsimp only; walk1)))))
          unfold Stop
          (k_dflt (refine' cell_compF ?FZ ?clZ ?kiZ ?naZ ?cfZ ?pcZ ?hxZ ?_; (case kiZ => rfl); (case FZ => k_asm); (case clZ => with_unfolding_all rfl); (case naZ => decide); (case cfZ => (intro n; rfl)); (case pcZ => (intro h; rfl)); (case hxZ => with_unfolding_all rfl)))
          (repeat' (first | ((fail_if_success (with_reducible show Stop _)); (first | ((with_reducible show wpAny _ _ (exec _ _) _ _ _); refine cut ?_; intro _ _; walk1) | ((rename Cont _ _ => cq); refine' resume cq ?_; clear cq; (try ((rename (Flow → Shared → Prop) => qq); clear qq)); (try dsimp only)) | (k_unfold; (try dsimp only)) | walk1 | (dsimp only; walk1)))))
          unfold Stop
          rename Fr _ _ _ _ => F6
          rename News _ _ _ _ => N6
          refine CellSrc.intro (wts g n) (by rfl) F6 N6 hl hi (by have := hi.length; rw [PySem.sizeLine_eq]; omega) ?turn ?fin
          case turn =>
            intro p tp I oI C oC P oP D9 yw tl9 h tk E' hmem hP9 hF hN hown9 hoff9 hne9
            clear F6 N6
            have mk := kstMark
            have hbp := hbits p hmem
            simp only [List.cons_append, List.nil_append] at hN
            refine Mine.cut ?_; intro _ _
            (k_dflt (refine' LCg.ListComp_U ?FZ ?clZ ?ceZ ?kiZ ?naZ ?hxZ ?_; (case kiZ => rfl); (case FZ => k_asm); (case ceZ => decide); (case clZ => with_unfolding_all rfl); (case naZ => decide); (case hxZ => rfl)))
            (repeat' (first | ((fail_if_success (with_reducible show Stop _)); (first | ((with_reducible show wpAny _ _ (exec _ _) _ _ _); refine cut ?_; intro _ _; walk1) | ((rename Cont _ _ => cq); refine' resume cq ?_; clear cq; (try ((rename (Flow → Shared → Prop) => qq); clear qq)); (try dsimp only)) | (k_unfold; (try dsimp only)) | walk1 | (dsimp only; walk1)))))
            unfold Stop
            (((rename Fr _ _ _ _ => hF); (rename News _ _ _ _ => hN); refine LCg.CompSrc.ledger (by rfl) hF hN (by k_mem) (by (simp only [List.size_toArray]; rw [PySem.sizeLine_eq]; omega)) ?_; clear hF hN; intro g9))
            refine kcq_list (fun q => (sqv g p * q.2 * com g n).fdiv q.1) hpr ?t7 ?d7
            case t7 =>
              intro q tq t1 t2 I oI C oC D m₂ ys2 hh tk E' hmq hmt hC hx hF hN off ne
              obtain ⟨k, hkn, hqk⟩ := dvl_mem hmq
              have hdb := dvs_bd g hg k (by omega)
              rw [← hqk] at hdb
              have hN := news_dup hN (by simp only [List.mem_cons, List.mem_append]; simp only [hmt, or_true, true_or] : (tq, tupO q.1 t1 q.2 t2) ∈ _)
              unfold tupO at hN
              have hm3 : ∀ x, IntMulOk x (com g n) := fun x => IntMulOk.of_right (intBits_le_64 (by omega) (by omega))
              have hm2 : ∀ x, IntMulOk x q.2 := fun x => IntMulOk.of_right (intBits_le_64 (by omega) (by omega))
              have hm1 : IntMulOk p p := mulOk_of_bits hbp hbp (by decide)
              have e9 : sqv g p = p := if_neg (by assumption)
              rw [e9]
              have hm4 := hm2 p
              have hm5 := hm3 (p * q.2)
              refine Mine.cut ?_; intro _ _
              (repeat' (first | ((fail_if_success (with_reducible show Stop _)); (first | ((with_reducible show wpAny _ _ (exec _ _) _ _ _); refine cut ?_; intro _ _; walk1) | ((rename Cont _ _ => cq); refine' resume cq ?_; clear cq; (try ((rename (Flow → Shared → Prop) => qq); clear qq)); (try dsimp only)) | (k_unfold; (try dsimp only)) | walk1 | (dsimp only; walk1)))))
              unfold Stop
              exact LCg.CompEnd.intro (by assumption) (by assumption) _ (fun p hp => .tail _ hp) off (Or.inr ⟨_, by k_mem, rfl, _, rfl⟩) ⟨rfl, _, rfl⟩
            case d7 =>
              intro ys8 hys8
              rw [wts_dvl] at hys8
              unfold LCg.FinE
              intro D8 h8 tk8 F8 N8 o8
              refine resume (by assumption) ?_
              exact ⟨D8, ys8, h8, tk8, rfl, rfl, F8, N8, hys8, o8⟩
          case fin =>
            intro W h tk yw tlw hF hN o1 hown hrows
            clear F6 N6
            have mk := kstMark
            have hown : OwnOff tlw (_ :: _ :: _ :: _ :: _ :: _ :: _ :: _) := hown
            simp only [List.cons_append, List.nil_append] at hN o1
            simp only [LCg.Off1] at o1
            have hoW : OwnOff tlw [W] := off1_own (off1_app o1.2.2.2.2.2.2.2)
            have hoW0 : OwnOff tl [W] := fun p hp b hb => by
              rw [List.mem_singleton.mp hb]; exact off1_mem o1.2.2.2.2.2.2.2 p (List.mem_append_left _ hp)
            have kw9 := And.intro o1.2.1 (And.intro o1.2.2.1 (And.intro o1.2.2.2.1 o1.2.2.2.2.2.2.1))
            (repeat (obtain ⟨_, o1⟩ := o1))
            (repeat' (first | ((fail_if_success (with_reducible show Stop _)); (first | ((with_reducible show wpAny _ _ (exec _ _) _ _ _); refine cut ?_; intro _ _; walk1) | ((rename Cont _ _ => cq); refine' resume cq ?_; clear cq; (try ((rename (Flow → Shared → Prop) => qq); clear qq)); (try dsimp only)) | (k_unfold; (try dsimp only)) | walk1 | (dsimp only; walk1)))))
            rename News _ _ _ _ => N7
            refine kont W yw _ tlw _ _ ⟨?kf, news_wts N7, ?ko, ?kw, ?ki, hrows⟩
            case kf => assumption
            case ko => exact own_two hoW (own_sub hown fun b hb => by simp only [List.mem_cons, List.not_mem_nil, or_false] at hb ⊢; rcases hb with h | h | h | h <;> simp [h])
            case kw => exact kw9
            case ki => assumption
      clear F3 N3
      intro W yw oW tlw h4 tk4 H
      obtain ⟨F4, N4, hoff4, hoW4, dW, hrw⟩ := H
      clear hoff hpr
      have mk := kstMark
      (repeat (obtain ⟨_, hoW4⟩ := hoW4))
      have hywl : yw.length = ns.length := by rw [hrw.len, List.length_map]
      (repeat' (first | ((fail_if_success (with_reducible show Stop _)); (first | ((with_reducible show wpAny _ _ (exec _ _) _ _ _); refine cut ?_; intro _ _; walk1) | ((rename Cont _ _ => cq); refine' resume cq ?_; clear cq; (try ((rename (Flow → Shared → Prop) => qq); clear qq)); (try dsimp only)) | (k_unfold; (try dsimp only)) | walk1 | (dsimp only; walk1)))))
      unfold Stop
      (k_dflt (refine' flat_compF ?FZ ?clZ ?ceZ ?kiZ ?naZ ?hwZ ?hlZ ?hdZ ?heZ ?_; (case kiZ => rfl); (case FZ => k_asm); (case ceZ => decide); (case clZ => with_unfolding_all rfl); (case naZ => decide); (case hwZ => rfl); (case hlZ => rfl); (case hdZ => decide); (case heZ => decide)))
      (repeat' (first | ((fail_if_success (with_reducible show Stop _)); (first | ((with_reducible show wpAny _ _ (exec _ _) _ _ _); refine cut ?_; intro _ _; walk1) | ((rename Cont _ _ => cq); refine' resume cq ?_; clear cq; (try ((rename (Flow → Shared → Prop) => qq); clear qq)); (try dsimp only)) | (k_unfold; (try dsimp only)) | walk1 | (dsimp only; walk1)))))
      unfold Stop
      rename Fr _ _ _ _ => F5
      rename News _ _ _ _ => N5
      obtain ⟨vr, hvl, hvr, hvi⟩ := hrw.vals
      have hfl := flat_len (ns := ns) (g := g) (n := n)
      have hfl1 : n ≤ ns.length * n := Nat.le_mul_of_pos_left n hn0
      have hfl2 : ns.length * n ≤ 4 * n := Nat.mul_le_mul_right n hlen
      refine FlatSrc.intro (by rfl) F5 N5 (vs := yw) (rows := vr) ⟨_, (N5 (W, LCg.lst yw) (.head _)).1, rfl, _, rfl⟩ ⟨hvl, fun i row hr => let ⟨t, e, mm⟩ := hvr i row hr; ⟨t, e, ⟨_, (N5 (t, LCg.lst row) (by simp only [List.mem_cons, mm, or_true])).1, rfl, _, rfl⟩⟩⟩ (by have := hvi.length; rw [PySem.sizeLine_eq]; omega) ?_
      intro D5 h5 tk5 F6 N6 o6
      clear F5 N5
      generalize hfv : vr.flatten = fv at hvi N6
      generalize hff : (ns.map (wts g n)).flatten = fl at hvi hfl
      simp only [LCg.Off1] at o6
      have o7 : OwnOff tlw [D5] := off1_own o6.2.2.2.2.2
      (repeat (obtain ⟨_, o6⟩ := o6))
      (repeat' (first | ((fail_if_success (with_reducible show Stop _)); (first | ((with_reducible show wpAny _ _ (exec _ _) _ _ _); refine cut ?_; intro _ _; walk1) | ((rename Cont _ _ => cq); refine' resume cq ?_; clear cq; (try ((rename (Flow → Shared → Prop) => qq); clear qq)); (try dsimp only)) | (k_unfold; (try dsimp only)) | walk1 | (dsimp only; walk1)))))
      unfold Stop
      rename List.Perm _ _ => hperm
      rename List.Pairwise _ _ => hsort
      rename News _ _ _ _ => N7
      have N8 := news_tail (news_tail N7)
      clear N7
      rename List Int => so
      generalize hmw : so.getD (-(n : Int) + rs0.sum + ↑so.length).toNat 0 = mw at *
      have hso : n ≤ so.length := by rw [hperm.length_eq, hfl]; exact hfl1
      obtain ⟨hov, hdiv⟩ := div_ok (ps := ns) (l := so) (g := g) (n := n) (m := mw) hg hk8 (fun k hk => by rw [List.getD_eq_getElem?_getD, List.getElem?_eq_getElem hk]; exact hpos _ (List.getElem_mem hk)) (r0 := rs0.sum.toNat)
        (by rw [← sum_map_const, ← hrs0]; omega) (by omega) (Nat.le_trans (Nat.sub_le _ _) hso) hsort (by rw [hff]; exact hperm) (by rw [← hmw]; congr 1; exact dv_ix hr0s (by assumption) hso)
      refine wpAny_Assign_Name ?_
      (repeat' (first | ((fail_if_success (with_reducible show Stop _)); (first | ((with_reducible show wpAny _ _ (exec _ _) _ _ _); refine cut ?_; intro _ _; walk1) | ((rename Cont _ _ => cq); refine' resume cq ?_; clear cq; (try ((rename (Flow → Shared → Prop) => qq); clear qq)); (try dsimp only)) | (k_unfold; (try dsimp only)) | walk1 | (dsimp only; walk1)))))
      unfold Stop
      (k_dflt (refine' LCg.ListComp_U ?FZ ?clZ ?ceZ ?kiZ ?naZ ?hxZ ?_; (case kiZ => rfl); (case FZ => k_asm); (case ceZ => decide); (case clZ => with_unfolding_all rfl); (case naZ => decide); (case hxZ => rfl)))
      (repeat' (first | ((fail_if_success (with_reducible show Stop _)); (first | ((with_reducible show wpAny _ _ (exec _ _) _ _ _); refine cut ?_; intro _ _; walk1) | ((rename Cont _ _ => cq); refine' resume cq ?_; clear cq; (try ((rename (Flow → Shared → Prop) => qq); clear qq)); (try dsimp only)) | (k_unfold; (try dsimp only)) | walk1 | (dsimp only; walk1)))))
      unfold Stop
      (((rename IsRange _ _ _ _ _ _ _ _ => hR); (rename Fr _ _ _ _ => hF); (rename News _ _ _ _ => hN); refine LCg.CompSrc.range (by rfl) hF hN hR (small_one (by omega) (by omega) (by omega) (by omega)) (rsz _) (by rw [PySem.sizeLine_eq]; omega) ?_; clear hF hN; intro g9))
      refine kcf_range (fun i => rs0.getD i.toNat 0 + (((wts g n (ns.getD i.toNat 0)).filter fun w => decide (mw < w)).length : Int)) ?t8 ?d8
      case t8 =>
        intro i ti I oI C oC D m₂ ys3 hh tk E' hlo hhi hC hx hF hN off ne mk9
        obtain ⟨tz, zs, hyi, hmz, hzi⟩ := hrw.at' i.toNat _ (rows_at (ns := ns) (by omega))
        have hN := news_dup hN (by simp only [List.mem_cons]; simp only [hmz, or_true] : (tz, LCg.lst zs) ∈ _)
        have hzl : zs.length = n := by have := hzi.length; rw [wts_len] at this; exact this
        refine Mine.cut ?_; intro _ _
        (repeat' (first | ((fail_if_success (with_reducible show Stop _)); (first | ((with_reducible show wpAny _ _ (exec _ _) _ _ _); refine cut ?_; intro _ _; walk1) | ((rename Cont _ _ => cq); refine' resume cq ?_; clear cq; (try ((rename (Flow → Shared → Prop) => qq); clear qq)); (try dsimp only)) | (k_unfold; (try dsimp only)) | walk1 | (dsimp only; walk1)))))
        unfold Stop
        (k_dflt (refine' LCt.ListComp_T ?FZ ?clZ ?ceZ ?kiZ ?naZ ?hxZ ?_; (case kiZ => rfl); (case FZ => k_asm); (case ceZ => decide); (case clZ => with_unfolding_all rfl); (case naZ => decide); (case hxZ => rfl)))
        (repeat' (first | ((fail_if_success (with_reducible show Stop _)); (first | ((with_reducible show wpAny _ _ (exec _ _) _ _ _); refine cut ?_; intro _ _; walk1) | ((rename Cont _ _ => cq); refine' resume cq ?_; clear cq; (try ((rename (Flow → Shared → Prop) => qq); clear qq)); (try dsimp only)) | (k_unfold; (try dsimp only)) | walk1 | (dsimp only; walk1)))))
        unfold Stop
        (((rename Fr _ _ _ _ => hF); (rename News _ _ _ _ => hN); refine LCt.CompSrcT.ledger (by rfl) hF hN (by k_mem) (by (simp only [List.size_toArray]; rw [PySem.sizeLine_eq]; omega)) ?_; clear hF hN; intro g9))
        refine kci_list (fun l w => if mw < w then l ++ [w] else l) hzi ?t9 ?d9 ?g9
        case g9 => intro l i; dsimp only; split <;> simp
        case t9 =>
          intro w tw I9 oI9 C9 oC9 D9 m9 ys9 l9 hh9 tk9 E9 hmw9 hys9 hC9 hx9 hF9 hN9 off9 ne9 mk9
          refine Mine.cut ?_; intro _ _
          (repeat' (first | ((fail_if_success (with_reducible show Stop _)); (first | ((with_reducible show wpAny _ _ (exec _ _) _ _ _); refine cut ?_; intro _ _; walk1) | ((rename Cont _ _ => cq); refine' resume cq ?_; clear cq; (try ((rename (Flow → Shared → Prop) => qq); clear qq)); (try dsimp only)) | (k_unfold; (try dsimp only)) | walk1 | (dsimp only; walk1)))))
          all_goals (unfold Stop; refine LCg.CompEnd.intro (by assumption) (by assumption) _ (by kcf_all) off9 (Or.inr ⟨_, by k_mem, rfl, _, rfl⟩) ?_)
          · exact ⟨rfl, w, tw, rfl, by rw [if_pos (by omega)]⟩
          · exact ⟨rfl, by rw [if_neg (by omega)]⟩
        case d9 =>
          intro ys9 hys9 hl9
          rw [foldl_filt, List.nil_append] at hys9
          unfold LCg.FinE
          intro D9 h9 tk9 F9 N9 o9
          simp only [LCg.Off1] at o9
          have hfl9 := List.length_filter_le (fun i => decide (mw < i)) (wts g n (ns.getD i.toNat 0))
          rw [wts_len] at hfl9
          (repeat' (first | ((fail_if_success (with_reducible show Stop _)); (first | ((with_reducible show wpAny _ _ (exec _ _) _ _ _); refine cut ?_; intro _ _; walk1) | ((rename Cont _ _ => cq); refine' resume cq ?_; clear cq; (try ((rename (Flow → Shared → Prop) => qq); clear qq)); (try dsimp only)) | (k_unfold; (try dsimp only)) | walk1 | (dsimp only; walk1)))))
          unfold Stop
          exact LCg.CompEnd.intro (by assumption) (by assumption) _ (fun p hp => .tail _ (.tail _ hp)) off trivial ⟨rfl, _, rfl⟩
      case d8 =>
        intro ys4 hys4
        rw [over_range hrs0] at hys4
        unfold LCg.FinE
        intro D2 h2 tk2 F2 N2 o2
        simp only [LCg.Off1] at o2
        have o22 : OwnOff tlw [D2] := off1_own o2.2.2.2.2.2
        (repeat (obtain ⟨_, o2⟩ := o2))
        (repeat' (first | ((fail_if_success (with_reducible show Stop _)); (first | ((with_reducible show wpAny _ _ (exec _ _) _ _ _); refine cut ?_; intro _ _; walk1) | ((rename Cont _ _ => cq); refine' resume cq ?_; clear cq; (try ((rename (Flow → Shared → Prop) => qq); clear qq)); (try dsimp only)) | (k_unfold; (try dsimp only)) | walk1 | (dsimp only; walk1)))))
        unfold Stop
        rename Fr _ _ _ _ => F5
        refine For_invVF F5 (by rfl) (by rfl) ?_
        have hovl := over_len ns g n mw
        have hovb := over_bd ns g n mw
        have hwl := fun i => wts_len g n (ns.getD i 0)
        (repeat' (first | ((fail_if_success (with_reducible show Stop _)); (first | ((with_reducible show wpAny _ _ (exec _ _) _ _ _); refine cut ?_; intro _ _; walk1) | ((rename Cont _ _ => cq); refine' resume cq ?_; clear cq; (try ((rename (Flow → Shared → Prop) => qq); clear qq)); (try dsimp only)) | (k_unfold; (try dsimp only)) | walk1 | (dsimp only; walk1)))))
        unfold Stop
        rename Fr _ _ _ _ => F6
        rename News _ _ _ _ => N6
        rename IsRange _ _ _ _ _ _ _ _ => hR
        refine kst_range (σ := List Value × List Int × Nat × Bool) (fun c => (D2, PySem.W.listOf c.1.toArray c.2.2.1) :: (W, LCg.lst yw) :: (_, _) :: (_, _) :: (_, _) :: (_, _) :: tlw)
          (fun c => [(Str.ofString "ties", .bool c.2.2.2)]) (fun c => IntsAre c.1 c.2.1) []
          (fun pre c => c.2.1 = tieF (fun i => decide (mw ∈ wts g n (ns.getD i 0))) n (over ns g n mw) pre.length) (ys4, over ns g n mw, ys4.length, false)
          (by rfl) hR (small_one (by omega) (by omega) (by omega) (by omega)) (rsz _) F6 N6 hys4 ?hk9 rfl ?turn ?done
        case hk9 => kst_all
        case done =>
          rintro ⟨rv9, rs9, cap9, ties⟩ u h tk hri9 hP F7 N7
          dsimp only at *
          have hlr : DivR ns g n rs9 := by
            rw [hP, rangeKs_length]
            exact hdiv
          (repeat' (first | ((fail_if_success (with_reducible show Stop _)); (first | ((with_reducible show wpAny _ _ (exec _ _) _ _ _); refine cut ?_; intro _ _; walk1) | ((rename Cont _ _ => cq); refine' resume cq ?_; clear cq; (try ((rename (Flow → Shared → Prop) => qq); clear qq)); (try dsimp only)) | (k_unfold; (try dsimp only)) | walk1 | (dsimp only; walk1)))))
          all_goals
            rename Fr _ _ _ _ => F8
            rename News _ _ _ _ => N8
            exact ret D2 rv9 rs9 cap9 _ _ F8.keep (N8 _ (.head _)).2.2 (N8 _ (.head _)).1 hri9 hlr
        case turn =>
          rintro ⟨rv9, rs9, cap9, ties⟩ pre i ti u h tk own hki hlt hown hri9 hP F7 N7
          dsimp only [List.map, List.cons_append, List.nil_append] at *
          have hrsl : rs9.length = ns.length := by rw [hP, tieF_len]; exact hovl
          have hst : tieF (fun i => decide (mw ∈ wts g n (ns.getD i 0))) n (over ns g n mw) (pre.length + 1) = if rs9.sum < n ∧ ((wts g n (ns.getD i.toNat 0)).any fun x => x == mw) = true then rs9.set i.toNat (rs9.getD i.toNat 0 + 1) else rs9 := by
            have e : i.toNat = pre.length := by omega
            rw [e, hP]
            simp only [tieF, any_beq]
          obtain ⟨tz, zs, hyi, hmz, hzi⟩ := hrw.at' i.toNat _ (rows_at (ns := ns) (by omega))
          have hz2 : (@Ne Nat tz D2) := o22 _ hmz _ (.head _)
          have hN := news_dup N7 (by simp only [List.mem_cons, List.mem_append]; simp only [hmz, true_or, or_true] : (tz, LCg.lst zs) ∈ _)
          clear N7
          refine Mine.cut ?_; intro _ _
          (repeat' (first | ((fail_if_success (with_reducible show Stop _)); (first | ((with_reducible show wpAny _ _ (exec _ _) _ _ _); refine cut ?_; intro _ _; walk1) | ((rename Cont _ _ => cq); refine' resume cq ?_; clear cq; (try ((rename (Flow → Shared → Prop) => qq); clear qq)); (try dsimp only)) | (k_unfold; (try dsimp only)) | walk1 | (dsimp only; walk1)))))
          all_goals (unfold Stop)
          all_goals first
            | exact kst_end (σ := List Value × List Int × Nat × Bool) (rv9, rs9, cap9, _) (by assumption) (by assumption) (fun p hp => .tail _ (List.mem_append_left own hp)) (fun p hp => .tail _ (List.mem_append_right ([_, _, _, _, _, _] ++ tlw) hp)) rfl hri9 (fun p hp => by rw [List.mem_singleton.mp hp]; rfl) (by ((intro z h1 h2 h3; have hb := h2 _ (List.mem_cons_self); dsimp only [kstB, mset]; simp only [if_neg h1, if_neg hb]; exact if_neg (by rw [h3]; decide)))) (by show rs9 = tieF _ _ _ _; rw [List.length_append, List.length_singleton, hst, if_neg (fun h => by first | (have h1 := h.1; omega) | exact absurd (h.2.symm.trans (show ((wts g n (ns.getD i.toNat 0)).any fun x => x == mw) = false by assumption)) (by decide))])
            | exact kst_end (σ := List Value × List Int × Nat × Bool) (_, _, _, _) (by assumption) (by assumption) (fun p hp => .tail _ (List.mem_append_left own hp)) (fun p hp => .tail _ (List.mem_append_right ([_, _, _, _, _, _] ++ tlw) hp)) rfl (by assumption) (fun p hp => by rw [List.mem_singleton.mp hp]; rfl) (by ((intro z h1 h2 h3; have hb := h2 _ (List.mem_cons_self); dsimp only [kstB, mset]; simp only [if_neg h1, if_neg hb]; exact if_neg (by rw [h3]; decide)))) (by rw [List.length_append, List.length_singleton, hst, if_pos ⟨by omega, by assumption⟩])
  intro Q9 kont
  obtain ⟨G0, G1, G2, G3, G4, G5⟩ := hG
  (repeat' (first | ((fail_if_success (with_reducible show Stop _)); (first | ((with_reducible show wpAny _ _ (exec _ _) _ _ _); refine cut ?_; intro _ _; walk1) | ((rename Cont _ _ => cq); refine' resume cq ?_; clear cq; (try ((rename (Flow → Shared → Prop) => qq); clear qq)); (try dsimp only)) | (k_unfold; (try dsimp only)) | walk1 | (dsimp only; walk1)))))
  · have hg0 : g = 0 := by omega
    subst hg0
    rename News _ _ _ _ => N8
    have N9 : News _ _ _ [(D', _), (L' + 1 + 1 + 1 + 1 + 1, q5), (L' + 1 + 1 + 1 + 1, q4), (L' + 1 + 1 + 1, q3), (L' + 1 + 1, q2), (L' + 1, oR)] := kst_newsOf N8 (by (first | kst_in | kst_inAny | (intro p hp; kst_mem) | kst_anyIn))
    clear N8
    unfold Stop
    refine wpAny_Assign_Name ?_
    (repeat' (first | ((fail_if_success (with_reducible show Stop _)); (first | ((with_reducible show wpAny _ _ (exec _ _) _ _ _); refine cut ?_; intro _ _; walk1) | ((rename Cont _ _ => cq); refine' resume cq ?_; clear cq; (try ((rename (Flow → Shared → Prop) => qq); clear qq)); (try dsimp only)) | (k_unfold; (try dsimp only)) | walk1 | (dsimp only; walk1)))))
    unfold Stop
    (k_dflt (refine' LCg.ListComp_U ?FZ ?clZ ?ceZ ?kiZ ?naZ ?hxZ ?_; (case kiZ => rfl); (case FZ => k_asm); (case ceZ => decide); (case clZ => with_unfolding_all rfl); (case naZ => decide); (case hxZ => rfl)))
    (repeat' (first | ((fail_if_success (with_reducible show Stop _)); (first | ((with_reducible show wpAny _ _ (exec _ _) _ _ _); refine cut ?_; intro _ _; walk1) | ((rename Cont _ _ => cq); refine' resume cq ?_; clear cq; (try ((rename (Flow → Shared → Prop) => qq); clear qq)); (try dsimp only)) | (k_unfold; (try dsimp only)) | walk1 | (dsimp only; walk1)))))
    unfold Stop
    (((rename IsRange _ _ _ _ _ _ _ _ => hR); (rename Fr _ _ _ _ => hF); (rename News _ _ _ _ => hN); refine LCg.CompSrc.range (by rfl) hF hN hR (small_one (by omega) (by omega) (by omega) (by omega)) (rsz _) (by rw [PySem.sizeLine_eq]; omega) ?_; clear hF hN; intro g9))
    refine kcp_range (fun i => (i + 1, 1)) ?t1 ?d1
    case t1 =>
      intro p tp I oI C oC D m₂ ys tl hh tk E' hlo hhi hC hx hF hN off ne
      have mk := kstMark
      refine Mine.cut ?_; intro _ _
      (repeat' (first | ((fail_if_success (with_reducible show Stop _)); (first | ((with_reducible show wpAny _ _ (exec _ _) _ _ _); refine cut ?_; intro _ _; walk1) | ((rename Cont _ _ => cq); refine' resume cq ?_; clear cq; (try ((rename (Flow → Shared → Prop) => qq); clear qq)); (try dsimp only)) | (k_unfold; (try dsimp only)) | walk1 | (dsimp only; walk1)))))
      unfold Stop
      exact pr_end (by assumption) (by assumption) (by assumption) (by assumption) (fun _ => trivial)
    case d1 =>
      intro ys tl hoff hpr
      unfold LCg.FinE
      intro D2 h2 tk2 F2 N2 o2
      have mk := kstMark
      have hoff : OwnOff tl [_, _, _, _, _, _] := hoff
      simp only [List.cons_append, List.nil_append] at N2 o2
      simp only [LCg.Off1] at o2
      have hoff2 : OwnOff tl [D2] := off1_own o2.2.2.2.2.2.2
      (repeat (obtain ⟨_, o2⟩ := o2))
      (repeat' (first | ((fail_if_success (with_reducible show Stop _)); (first | ((with_reducible show wpAny _ _ (exec _ _) _ _ _); refine cut ?_; intro _ _; walk1) | ((rename Cont _ _ => cq); refine' resume cq ?_; clear cq; (try ((rename (Flow → Shared → Prop) => qq); clear qq)); (try dsimp only)) | (k_unfold; (try dsimp only)) | walk1 | (dsimp only; walk1)))))
      exact kont _ _ _ ys _ _ _ _ tl _ _ ⟨by assumption, by assumption, own_two hoff2 hoff, ⟨by k_ne, by k_ne, by k_ne, by k_ne, by k_ne, by k_ne⟩, ⟨by k_ne, by k_ne, by k_ne, by k_ne, by k_ne⟩, by assumption, dR, rz0 (g := 0) (by decide), dvl_of (g := 0) (n := n) (f := fun i => (i + 1, 1)) (fun k _ => rfl) ▸ hpr⟩
  · have hg0 : g = 1 := by omega
    subst hg0
    rename News _ _ _ _ => N8
    have N9 : News _ _ _ [(D', _), (L' + 1 + 1 + 1 + 1 + 1, q5), (L' + 1 + 1 + 1 + 1, q4), (L' + 1 + 1 + 1, q3), (L' + 1 + 1, q2), (L' + 1, oR)] := kst_newsOf N8 (by (first | kst_in | kst_inAny | (intro p hp; kst_mem) | kst_anyIn))
    clear N8
    unfold Stop
    refine wpAny_Assign_Name ?_
    (repeat' (first | ((fail_if_success (with_reducible show Stop _)); (first | ((with_reducible show wpAny _ _ (exec _ _) _ _ _); refine cut ?_; intro _ _; walk1) | ((rename Cont _ _ => cq); refine' resume cq ?_; clear cq; (try ((rename (Flow → Shared → Prop) => qq); clear qq)); (try dsimp only)) | (k_unfold; (try dsimp only)) | walk1 | (dsimp only; walk1)))))
    unfold Stop
    (k_dflt (refine' LCg.ListComp_U ?FZ ?clZ ?ceZ ?kiZ ?naZ ?hxZ ?_; (case kiZ => rfl); (case FZ => k_asm); (case ceZ => decide); (case clZ => with_unfolding_all rfl); (case naZ => decide); (case hxZ => rfl)))
    (repeat' (first | ((fail_if_success (with_reducible show Stop _)); (first | ((with_reducible show wpAny _ _ (exec _ _) _ _ _); refine cut ?_; intro _ _; walk1) | ((rename Cont _ _ => cq); refine' resume cq ?_; clear cq; (try ((rename (Flow → Shared → Prop) => qq); clear qq)); (try dsimp only)) | (k_unfold; (try dsimp only)) | walk1 | (dsimp only; walk1)))))
    unfold Stop
    (((rename IsRange _ _ _ _ _ _ _ _ => hR); (rename Fr _ _ _ _ => hF); (rename News _ _ _ _ => hN); refine LCg.CompSrc.range (by rfl) hF hN hR (small_one (by omega) (by omega) (by omega) (by omega)) (rsz _) (by rw [PySem.sizeLine_eq]; omega) ?_; clear hF hN; intro g9))
    refine kcp_range (fun i => (2 * i + 1, 1)) ?t1 ?d1
    case t1 =>
      intro p tp I oI C oC D m₂ ys tl hh tk E' hlo hhi hC hx hF hN off ne
      have mk := kstMark
      refine Mine.cut ?_; intro _ _
      (repeat' (first | ((fail_if_success (with_reducible show Stop _)); (first | ((with_reducible show wpAny _ _ (exec _ _) _ _ _); refine cut ?_; intro _ _; walk1) | ((rename Cont _ _ => cq); refine' resume cq ?_; clear cq; (try ((rename (Flow → Shared → Prop) => qq); clear qq)); (try dsimp only)) | (k_unfold; (try dsimp only)) | walk1 | (dsimp only; walk1)))))
      unfold Stop
      exact pr_end (by assumption) (by assumption) (by assumption) (by assumption) (fun _ => trivial)
    case d1 =>
      intro ys tl hoff hpr
      unfold LCg.FinE
      intro D2 h2 tk2 F2 N2 o2
      have mk := kstMark
      have hoff : OwnOff tl [_, _, _, _, _, _] := hoff
      simp only [List.cons_append, List.nil_append] at N2 o2
      simp only [LCg.Off1] at o2
      have hoff2 : OwnOff tl [D2] := off1_own o2.2.2.2.2.2.2
      (repeat (obtain ⟨_, o2⟩ := o2))
      (repeat' (first | ((fail_if_success (with_reducible show Stop _)); (first | ((with_reducible show wpAny _ _ (exec _ _) _ _ _); refine cut ?_; intro _ _; walk1) | ((rename Cont _ _ => cq); refine' resume cq ?_; clear cq; (try ((rename (Flow → Shared → Prop) => qq); clear qq)); (try dsimp only)) | (k_unfold; (try dsimp only)) | walk1 | (dsimp only; walk1)))))
      exact kont _ _ _ ys _ _ _ _ tl _ _ ⟨by assumption, by assumption, own_two hoff2 hoff, ⟨by k_ne, by k_ne, by k_ne, by k_ne, by k_ne, by k_ne⟩, ⟨by k_ne, by k_ne, by k_ne, by k_ne, by k_ne⟩, by assumption, dR, rz0 (g := 1) (by decide), dvl_of (g := 1) (n := n) (f := fun i => (2 * i + 1, 1)) (fun k _ => rfl) ▸ hpr⟩
  · rename (g = 2) => hg0
    subst hg0
    rename_i D0 h0q lq0 l0 h1q F8 N8 lq1 gq0 gq1
    have j9 := jm 9
    obtain ⟨n, rfl⟩ : ∃ j, n = j + 1 := ⟨n - 1, by omega⟩
    have N9 : News _ _ _ [(l0, _), (D0, _), (D', _), (L' + 1 + 1 + 1 + 1 + 1, q5), (L' + 1 + 1 + 1 + 1, q4), (L' + 1 + 1 + 1, q3), (L' + 1 + 1, q2), (L' + 1, oR)] := kst_newsOf N8 (by (first | kst_in | kst_inAny | (intro p hp; kst_mem) | kst_anyIn))
    clear N8
    unfold Stop
    (k_dflt (refine' LCg.ListComp_U ?FZ ?clZ ?ceZ ?kiZ ?naZ ?hxZ ?_; (case kiZ => rfl); (case FZ => k_asm); (case ceZ => decide); (case clZ => with_unfolding_all rfl); (case naZ => decide); (case hxZ => rfl)))
    (repeat' (first | ((fail_if_success (with_reducible show Stop _)); (first | ((with_reducible show wpAny _ _ (exec _ _) _ _ _); refine cut ?_; intro _ _; walk1) | ((rename Cont _ _ => cq); refine' resume cq ?_; clear cq; (try ((rename (Flow → Shared → Prop) => qq); clear qq)); (try dsimp only)) | (k_unfold; (try dsimp only)) | walk1 | (dsimp only; walk1)))))
    unfold Stop
    (((rename IsRange _ _ _ _ _ _ _ _ => hR); (rename Fr _ _ _ _ => hF); (rename News _ _ _ _ => hN); refine LCg.CompSrc.range (by rfl) hF hN hR (small_one (by omega) (by omega) (by omega) (by omega)) (rsz1 _) (by rw [PySem.sizeLine_eq]; omega) ?_; clear hF hN; intro g9))
    refine kcp_range (fun i => (2 * i + 1, 1)) ?t1 ?d1
    case t1 =>
      intro p tp I oI C oC D m₂ ys tl hh tk E' hlo hhi hC hx hF hN off ne
      have mk := kstMark
      refine Mine.cut ?_; intro _ _
      (repeat' (first | ((fail_if_success (with_reducible show Stop _)); (first | ((with_reducible show wpAny _ _ (exec _ _) _ _ _); refine cut ?_; intro _ _; walk1) | ((rename Cont _ _ => cq); refine' resume cq ?_; clear cq; (try ((rename (Flow → Shared → Prop) => qq); clear qq)); (try dsimp only)) | (k_unfold; (try dsimp only)) | walk1 | (dsimp only; walk1)))))
      unfold Stop
      exact pr_end (by assumption) (by assumption) (by assumption) (by assumption) (fun _ => trivial)
    case d1 =>
      intro ys tl hoff hpr
      unfold LCg.FinE
      intro D2 h2 tk2 F2 N2 o2
      have mk := kstMark
      have hoff : OwnOff tl [_, _, _, _, _, _, _, _] := hoff
      simp only [List.cons_append, List.nil_append] at N2 o2
      simp only [LCg.Off1] at o2
      have hoff2 : OwnOff tl [D2] := off1_own o2.2.2.2.2.2.2.2.2
      (repeat (obtain ⟨_, o2⟩ := o2))
      (repeat' (first | ((fail_if_success (with_reducible show Stop _)); (first | ((with_reducible show wpAny _ _ (exec _ _) _ _ _); refine cut ?_; intro _ _; walk1) | ((rename Cont _ _ => cq); refine' resume cq ?_; clear cq; (try ((rename (Flow → Shared → Prop) => qq); clear qq)); (try dsimp only)) | (k_unfold; (try dsimp only)) | walk1 | (dsimp only; walk1)))))
      unfold Stop
      refine add_refs (by assumption) (by assumption) (xs := [Value.ref D0]) (c := 0) (.tail _ (.head _)) (.head _) (by rw [hpr.len, PySem.sizeLine_eq, List.length_map, rangeKs_length]; simp only [List.length_cons, List.length_nil]; omega) ?_
      intro D3 h3 F3 N3 o3
      simp only [LCg.Off1] at o3
      have hoff3 : OwnOff tl [D3] := off1_own o3.2.2.2.2.2.2.2.2.2
      (repeat (obtain ⟨_, o3⟩ := o3))
      (repeat' (first | ((fail_if_success (with_reducible show Stop _)); (first | ((with_reducible show wpAny _ _ (exec _ _) _ _ _); refine cut ?_; intro _ _; walk1) | ((rename Cont _ _ => cq); refine' resume cq ?_; clear cq; (try ((rename (Flow → Shared → Prop) => qq); clear qq)); (try dsimp only)) | (k_unfold; (try dsimp only)) | walk1 | (dsimp only; walk1)))))
      rename News _ _ _ _ => N4
      exact kont _ _ _ _ _ _ _ _ _ _ _ ⟨by assumption, news_perm N4,
        own_cons2 (fun b hb => by simp only [List.mem_cons, List.not_mem_nil, or_false] at hb; rcases hb with h | h | h | h | h | h | h <;> (rw [h]; k_ne)) (own_two hoff3 (own_sub hoff fun b hb => .tail _ (.tail _ hb))),
        ⟨by k_ne, by k_ne, by k_ne, by k_ne, by k_ne, by k_ne⟩, ⟨by k_ne, by k_ne, by k_ne, by k_ne, by k_ne⟩, by assumption, dR, rz0 (g := 2) (by decide),
        dvl_two (n := n) (f := fun i => (2 * i + 1, 1)) (fun k => by show (2 * (1 + (k : Int)) + 1, (1 : Int)) = (2 * ((k + 1 : Nat) : Int) + 1, 1); rw [show (1 : Int) + (k : Int) = ((k + 1 : Nat) : Int) from by omega]) ▸ (hpr.mono fun p hp => .tail _ hp).pre (.head _)⟩
  · have hg0 : g = 3 := by omega
    subst hg0
    rename News _ _ _ _ => N8
    have N9 : News _ _ _ [(L' + 1 + 1 + 1 + 1 + 1, q5), (L' + 1 + 1 + 1 + 1, q4), (L' + 1 + 1 + 1, q3), (L' + 1 + 1, q2), (L' + 1, oR)] := kst_newsOf N8 (by (first | kst_in | kst_inAny | (intro p hp; kst_mem) | kst_anyIn))
    clear N8
    unfold Stop
    refine wpAny_Assign_Name ?_
    (repeat' (first | ((fail_if_success (with_reducible show Stop _)); (first | ((with_reducible show wpAny _ _ (exec _ _) _ _ _); refine cut ?_; intro _ _; walk1) | ((rename Cont _ _ => cq); refine' resume cq ?_; clear cq; (try ((rename (Flow → Shared → Prop) => qq); clear qq)); (try dsimp only)) | (k_unfold; (try dsimp only)) | walk1 | (dsimp only; walk1)))))
    unfold Stop
    (k_dflt (refine' LCg.ListComp_U ?FZ ?clZ ?ceZ ?kiZ ?naZ ?hxZ ?_; (case kiZ => rfl); (case FZ => k_asm); (case ceZ => decide); (case clZ => with_unfolding_all rfl); (case naZ => decide); (case hxZ => rfl)))
    (repeat' (first | ((fail_if_success (with_reducible show Stop _)); (first | ((with_reducible show wpAny _ _ (exec _ _) _ _ _); refine cut ?_; intro _ _; walk1) | ((rename Cont _ _ => cq); refine' resume cq ?_; clear cq; (try ((rename (Flow → Shared → Prop) => qq); clear qq)); (try dsimp only)) | (k_unfold; (try dsimp only)) | walk1 | (dsimp only; walk1)))))
    unfold Stop
    (((rename Fr _ _ _ _ => hF); (rename News _ _ _ _ => hN); refine LCg.CompSrc.base (by rfl) hF hN (by assumption) (by size_fits) ?_; clear hF hN; intro g9))
    refine kcf_list (fun _ => 1) hi ?t0 ?d0
    case t0 =>
      intro i ti I oI C oC D m₂ ys hh tk E' hmem hC hx hF hN off ne mk9
      have hp9 := hpos i hmem
      simp only [LCg.Off3, and_true] at off
      refine Mine.cut ?_; intro _ _
      (repeat' (first | ((fail_if_success (with_reducible show Stop _)); (first | ((with_reducible show wpAny _ _ (exec _ _) _ _ _); refine cut ?_; intro _ _; walk1) | ((rename Cont _ _ => cq); refine' resume cq ?_; clear cq; (try ((rename (Flow → Shared → Prop) => qq); clear qq)); (try dsimp only)) | (k_unfold; (try dsimp only)) | walk1 | (dsimp only; walk1)))))
      unfold Stop
      exact LCg.CompEnd.intro (by assumption) (by assumption) _ (by kcf_all) (by first | (simp only [LCg.Off3, and_true]; assumption)) (Or.inl (by assumption)) ⟨rfl, _, rfl⟩
    case d0 =>
      intro ys1 hys1
      unfold LCg.FinE
      intro D1 h1 tk1 F1 N1 o1
      simp only [LCg.Off1, and_true] at o1
      (repeat (obtain ⟨_, o1⟩ := o1))
      (repeat' (first | ((fail_if_success (with_reducible show Stop _)); (first | ((with_reducible show wpAny _ _ (exec _ _) _ _ _); refine cut ?_; intro _ _; walk1) | ((rename Cont _ _ => cq); refine' resume cq ?_; clear cq; (try ((rename (Flow → Shared → Prop) => qq); clear qq)); (try dsimp only)) | (k_unfold; (try dsimp only)) | walk1 | (dsimp only; walk1)))))
      unfold Stop
      refine wpAny_Assign_Name ?_
      (repeat' (first | ((fail_if_success (with_reducible show Stop _)); (first | ((with_reducible show wpAny _ _ (exec _ _) _ _ _); refine cut ?_; intro _ _; walk1) | ((rename Cont _ _ => cq); refine' resume cq ?_; clear cq; (try ((rename (Flow → Shared → Prop) => qq); clear qq)); (try dsimp only)) | (k_unfold; (try dsimp only)) | walk1 | (dsimp only; walk1)))))
      unfold Stop
      (k_dflt (refine' LCg.ListComp_U ?FZ ?clZ ?ceZ ?kiZ ?naZ ?hxZ ?_; (case kiZ => rfl); (case FZ => k_asm); (case ceZ => decide); (case clZ => with_unfolding_all rfl); (case naZ => decide); (case hxZ => rfl)))
      (repeat' (first | ((fail_if_success (with_reducible show Stop _)); (first | ((with_reducible show wpAny _ _ (exec _ _) _ _ _); refine cut ?_; intro _ _; walk1) | ((rename Cont _ _ => cq); refine' resume cq ?_; clear cq; (try ((rename (Flow → Shared → Prop) => qq); clear qq)); (try dsimp only)) | (k_unfold; (try dsimp only)) | walk1 | (dsimp only; walk1)))))
      unfold Stop
      (((rename IsRange _ _ _ _ _ _ _ _ => hR); (rename Fr _ _ _ _ => hF); (rename News _ _ _ _ => hN); refine LCg.CompSrc.range (by rfl) hF hN hR (small_one (by omega) (by omega) (by omega) (by omega)) (rsz _) (by rw [PySem.sizeLine_eq]; omega) ?_; clear hF hN; intro g9))
      refine kcp_range (fun i => ((i + 1) * (i + 2), 1)) ?t1 ?d1
      case t1 =>
        intro p tp I oI C oC D m₂ ys tl hh tk E' hlo hhi hC hx hF hN off ne
        have mk := kstMark
        refine Mine.cut ?_; intro _ _
        (repeat' (first | ((fail_if_success (with_reducible show Stop _)); (first | ((with_reducible show wpAny _ _ (exec _ _) _ _ _); refine cut ?_; intro _ _; walk1) | ((rename Cont _ _ => cq); refine' resume cq ?_; clear cq; (try ((rename (Flow → Shared → Prop) => qq); clear qq)); (try dsimp only)) | (k_unfold; (try dsimp only)) | walk1 | (dsimp only; walk1)))))
        unfold Stop
        exact pr_end (by assumption) (by assumption) (by assumption) (by assumption) (fun _ => trivial)
      case d1 =>
        intro ys tl hoff hpr
        unfold LCg.FinE
        intro D2 h2 tk2 F2 N2 o2
        have mk := kstMark
        have hoff : OwnOff tl [_, _, _, _, _, _] := hoff
        simp only [List.cons_append, List.nil_append] at N2 o2
        simp only [LCg.Off1] at o2
        have hoff2 : OwnOff tl [D2] := off1_own o2.2.2.2.2.2.2
        (repeat (obtain ⟨_, o2⟩ := o2))
        (repeat' (first | ((fail_if_success (with_reducible show Stop _)); (first | ((with_reducible show wpAny _ _ (exec _ _) _ _ _); refine cut ?_; intro _ _; walk1) | ((rename Cont _ _ => cq); refine' resume cq ?_; clear cq; (try ((rename (Flow → Shared → Prop) => qq); clear qq)); (try dsimp only)) | (k_unfold; (try dsimp only)) | walk1 | (dsimp only; walk1)))))
        exact kont _ _ _ ys _ _ _ _ tl _ _ ⟨by assumption, by assumption, own_two hoff2 hoff, ⟨by k_ne, by k_ne, by k_ne, by k_ne, by k_ne, by k_ne⟩, ⟨by k_ne, by k_ne, by k_ne, by k_ne, by k_ne⟩, by assumption, by assumption, rz1 (g := 3) (by decide) hpos (f := fun _ => 1) (fun _ _ => rfl) ▸ hys1, dvl_of (g := 3) (n := n) (f := fun i => ((i + 1) * (i + 2), 1)) (fun k _ => rfl) ▸ hpr⟩
  · have hg0 : g = 4 := by omega
    subst hg0
    rename News _ _ _ _ => N8
    have N9 : News _ _ _ [(L' + 1 + 1 + 1 + 1 + 1, q5), (L' + 1 + 1 + 1 + 1, q4), (L' + 1 + 1 + 1, q3), (L' + 1 + 1, q2), (L' + 1, oR)] := kst_newsOf N8 (by (first | kst_in | kst_inAny | (intro p hp; kst_mem) | kst_anyIn))
    clear N8
    unfold Stop
    refine wpAny_Assign_Name ?_
    (repeat' (first | ((fail_if_success (with_reducible show Stop _)); (first | ((with_reducible show wpAny _ _ (exec _ _) _ _ _); refine cut ?_; intro _ _; walk1) | ((rename Cont _ _ => cq); refine' resume cq ?_; clear cq; (try ((rename (Flow → Shared → Prop) => qq); clear qq)); (try dsimp only)) | (k_unfold; (try dsimp only)) | walk1 | (dsimp only; walk1)))))
    unfold Stop
    (k_dflt (refine' LCg.ListComp_U ?FZ ?clZ ?ceZ ?kiZ ?naZ ?hxZ ?_; (case kiZ => rfl); (case FZ => k_asm); (case ceZ => decide); (case clZ => with_unfolding_all rfl); (case naZ => decide); (case hxZ => rfl)))
    (repeat' (first | ((fail_if_success (with_reducible show Stop _)); (first | ((with_reducible show wpAny _ _ (exec _ _) _ _ _); refine cut ?_; intro _ _; walk1) | ((rename Cont _ _ => cq); refine' resume cq ?_; clear cq; (try ((rename (Flow → Shared → Prop) => qq); clear qq)); (try dsimp only)) | (k_unfold; (try dsimp only)) | walk1 | (dsimp only; walk1)))))
    unfold Stop
    (((rename Fr _ _ _ _ => hF); (rename News _ _ _ _ => hN); refine LCg.CompSrc.base (by rfl) hF hN (by assumption) (by size_fits) ?_; clear hF hN; intro g9))
    refine kcf_list (fun _ => 1) hi ?t0 ?d0
    case t0 =>
      intro i ti I oI C oC D m₂ ys hh tk E' hmem hC hx hF hN off ne mk9
      have hp9 := hpos i hmem
      simp only [LCg.Off3, and_true] at off
      refine Mine.cut ?_; intro _ _
      (repeat' (first | ((fail_if_success (with_reducible show Stop _)); (first | ((with_reducible show wpAny _ _ (exec _ _) _ _ _); refine cut ?_; intro _ _; walk1) | ((rename Cont _ _ => cq); refine' resume cq ?_; clear cq; (try ((rename (Flow → Shared → Prop) => qq); clear qq)); (try dsimp only)) | (k_unfold; (try dsimp only)) | walk1 | (dsimp only; walk1)))))
      unfold Stop
      exact LCg.CompEnd.intro (by assumption) (by assumption) _ (by kcf_all) (by first | (simp only [LCg.Off3, and_true]; assumption)) (Or.inl (by assumption)) ⟨rfl, _, rfl⟩
    case d0 =>
      intro ys1 hys1
      unfold LCg.FinE
      intro D1 h1 tk1 F1 N1 o1
      simp only [LCg.Off1, and_true] at o1
      (repeat (obtain ⟨_, o1⟩ := o1))
      (repeat' (first | ((fail_if_success (with_reducible show Stop _)); (first | ((with_reducible show wpAny _ _ (exec _ _) _ _ _); refine cut ?_; intro _ _; walk1) | ((rename Cont _ _ => cq); refine' resume cq ?_; clear cq; (try ((rename (Flow → Shared → Prop) => qq); clear qq)); (try dsimp only)) | (k_unfold; (try dsimp only)) | walk1 | (dsimp only; walk1)))))
      unfold Stop
      refine wpAny_Assign_Name ?_
      (repeat' (first | ((fail_if_success (with_reducible show Stop _)); (first | ((with_reducible show wpAny _ _ (exec _ _) _ _ _); refine cut ?_; intro _ _; walk1) | ((rename Cont _ _ => cq); refine' resume cq ?_; clear cq; (try ((rename (Flow → Shared → Prop) => qq); clear qq)); (try dsimp only)) | (k_unfold; (try dsimp only)) | walk1 | (dsimp only; walk1)))))
      unfold Stop
      (k_dflt (refine' LCg.ListComp_U ?FZ ?clZ ?ceZ ?kiZ ?naZ ?hxZ ?_; (case kiZ => rfl); (case FZ => k_asm); (case ceZ => decide); (case clZ => with_unfolding_all rfl); (case naZ => decide); (case hxZ => rfl)))
      (repeat' (first | ((fail_if_success (with_reducible show Stop _)); (first | ((with_reducible show wpAny _ _ (exec _ _) _ _ _); refine cut ?_; intro _ _; walk1) | ((rename Cont _ _ => cq); refine' resume cq ?_; clear cq; (try ((rename (Flow → Shared → Prop) => qq); clear qq)); (try dsimp only)) | (k_unfold; (try dsimp only)) | walk1 | (dsimp only; walk1)))))
      unfold Stop
      (((rename IsRange _ _ _ _ _ _ _ _ => hR); (rename Fr _ _ _ _ => hF); (rename News _ _ _ _ => hN); refine LCg.CompSrc.range (by rfl) hF hN hR (small_one (by omega) (by omega) (by omega) (by omega)) (rsz _) (by rw [PySem.sizeLine_eq]; omega) ?_; clear hF hN; intro g9))
      refine kcp_range (fun i => (i + 1, 1)) ?t1 ?d1
      case t1 =>
        intro p tp I oI C oC D m₂ ys tl hh tk E' hlo hhi hC hx hF hN off ne
        have mk := kstMark
        refine Mine.cut ?_; intro _ _
        (repeat' (first | ((fail_if_success (with_reducible show Stop _)); (first | ((with_reducible show wpAny _ _ (exec _ _) _ _ _); refine cut ?_; intro _ _; walk1) | ((rename Cont _ _ => cq); refine' resume cq ?_; clear cq; (try ((rename (Flow → Shared → Prop) => qq); clear qq)); (try dsimp only)) | (k_unfold; (try dsimp only)) | walk1 | (dsimp only; walk1)))))
        unfold Stop
        exact pr_end (by assumption) (by assumption) (by assumption) (by assumption) (fun _ => trivial)
      case d1 =>
        intro ys tl hoff hpr
        unfold LCg.FinE
        intro D2 h2 tk2 F2 N2 o2
        have mk := kstMark
        have hoff : OwnOff tl [_, _, _, _, _, _] := hoff
        simp only [List.cons_append, List.nil_append] at N2 o2
        simp only [LCg.Off1] at o2
        have hoff2 : OwnOff tl [D2] := off1_own o2.2.2.2.2.2.2
        (repeat (obtain ⟨_, o2⟩ := o2))
        (repeat' (first | ((fail_if_success (with_reducible show Stop _)); (first | ((with_reducible show wpAny _ _ (exec _ _) _ _ _); refine cut ?_; intro _ _; walk1) | ((rename Cont _ _ => cq); refine' resume cq ?_; clear cq; (try ((rename (Flow → Shared → Prop) => qq); clear qq)); (try dsimp only)) | (k_unfold; (try dsimp only)) | walk1 | (dsimp only; walk1)))))
        exact kont _ _ _ ys _ _ _ _ tl _ _ ⟨by assumption, by assumption, own_two hoff2 hoff, ⟨by k_ne, by k_ne, by k_ne, by k_ne, by k_ne, by k_ne⟩, ⟨by k_ne, by k_ne, by k_ne, by k_ne, by k_ne⟩, by assumption, by assumption, rz1 (g := 4) (by decide) hpos (f := fun _ => 1) (fun _ _ => rfl) ▸ hys1, dvl_of (g := 4) (n := n) (f := fun i => (i + 1, 1)) (fun k _ => rfl) ▸ hpr⟩
  · have hg0 : g = 5 := by omega
    subst hg0
    rename News _ _ _ _ => N8
    have N9 : News _ _ _ [(L' + 1 + 1 + 1 + 1 + 1, q5), (L' + 1 + 1 + 1 + 1, q4), (L' + 1 + 1 + 1, q3), (L' + 1 + 1, q2), (L' + 1, oR)] := kst_newsOf N8 (by (first | kst_in | kst_inAny | (intro p hp; kst_mem) | kst_anyIn))
    clear N8
    unfold Stop
    refine wpAny_Assign_Name ?_
    (repeat' (first | ((fail_if_success (with_reducible show Stop _)); (first | ((with_reducible show wpAny _ _ (exec _ _) _ _ _); refine cut ?_; intro _ _; walk1) | ((rename Cont _ _ => cq); refine' resume cq ?_; clear cq; (try ((rename (Flow → Shared → Prop) => qq); clear qq)); (try dsimp only)) | (k_unfold; (try dsimp only)) | walk1 | (dsimp only; walk1)))))
    unfold Stop
    (k_dflt (refine' LCg.ListComp_U ?FZ ?clZ ?ceZ ?kiZ ?naZ ?hxZ ?_; (case kiZ => rfl); (case FZ => k_asm); (case ceZ => decide); (case clZ => with_unfolding_all rfl); (case naZ => decide); (case hxZ => rfl)))
    (repeat' (first | ((fail_if_success (with_reducible show Stop _)); (first | ((with_reducible show wpAny _ _ (exec _ _) _ _ _); refine cut ?_; intro _ _; walk1) | ((rename Cont _ _ => cq); refine' resume cq ?_; clear cq; (try ((rename (Flow → Shared → Prop) => qq); clear qq)); (try dsimp only)) | (k_unfold; (try dsimp only)) | walk1 | (dsimp only; walk1)))))
    unfold Stop
    (((rename Fr _ _ _ _ => hF); (rename News _ _ _ _ => hN); refine LCg.CompSrc.base (by rfl) hF hN (by assumption) (by size_fits) ?_; clear hF hN; intro g9))
    refine kcf_list (fun _ => 1) hi ?t0 ?d0
    case t0 =>
      intro i ti I oI C oC D m₂ ys hh tk E' hmem hC hx hF hN off ne mk9
      have hp9 := hpos i hmem
      simp only [LCg.Off3, and_true] at off
      refine Mine.cut ?_; intro _ _
      (repeat' (first | ((fail_if_success (with_reducible show Stop _)); (first | ((with_reducible show wpAny _ _ (exec _ _) _ _ _); refine cut ?_; intro _ _; walk1) | ((rename Cont _ _ => cq); refine' resume cq ?_; clear cq; (try ((rename (Flow → Shared → Prop) => qq); clear qq)); (try dsimp only)) | (k_unfold; (try dsimp only)) | walk1 | (dsimp only; walk1)))))
      unfold Stop
      exact LCg.CompEnd.intro (by assumption) (by assumption) _ (by kcf_all) (by first | (simp only [LCg.Off3, and_true]; assumption)) (Or.inl (by assumption)) ⟨rfl, _, rfl⟩
    case d0 =>
      intro ys1 hys1
      unfold LCg.FinE
      intro D1 h1 tk1 F1 N1 o1
      simp only [LCg.Off1, and_true] at o1
      (repeat (obtain ⟨_, o1⟩ := o1))
      (repeat' (first | ((fail_if_success (with_reducible show Stop _)); (first | ((with_reducible show wpAny _ _ (exec _ _) _ _ _); refine cut ?_; intro _ _; walk1) | ((rename Cont _ _ => cq); refine' resume cq ?_; clear cq; (try ((rename (Flow → Shared → Prop) => qq); clear qq)); (try dsimp only)) | (k_unfold; (try dsimp only)) | walk1 | (dsimp only; walk1)))))
      unfold Stop
      refine wpAny_Assign_Name ?_
      (repeat' (first | ((fail_if_success (with_reducible show Stop _)); (first | ((with_reducible show wpAny _ _ (exec _ _) _ _ _); refine cut ?_; intro _ _; walk1) | ((rename Cont _ _ => cq); refine' resume cq ?_; clear cq; (try ((rename (Flow → Shared → Prop) => qq); clear qq)); (try dsimp only)) | (k_unfold; (try dsimp only)) | walk1 | (dsimp only; walk1)))))
      unfold Stop
      (k_dflt (refine' LCg.ListComp_U ?FZ ?clZ ?ceZ ?kiZ ?naZ ?hxZ ?_; (case kiZ => rfl); (case FZ => k_asm); (case ceZ => decide); (case clZ => with_unfolding_all rfl); (case naZ => decide); (case hxZ => rfl)))
      (repeat' (first | ((fail_if_success (with_reducible show Stop _)); (first | ((with_reducible show wpAny _ _ (exec _ _) _ _ _); refine cut ?_; intro _ _; walk1) | ((rename Cont _ _ => cq); refine' resume cq ?_; clear cq; (try ((rename (Flow → Shared → Prop) => qq); clear qq)); (try dsimp only)) | (k_unfold; (try dsimp only)) | walk1 | (dsimp only; walk1)))))
      unfold Stop
      (((rename IsRange _ _ _ _ _ _ _ _ => hR); (rename Fr _ _ _ _ => hF); (rename News _ _ _ _ => hN); refine LCg.CompSrc.range (by rfl) hF hN hR (small_one (by omega) (by omega) (by omega) (by omega)) (rsz _) (by rw [PySem.sizeLine_eq]; omega) ?_; clear hF hN; intro g9))
      refine kcp_range (fun i => (2 * (i + 1) * (i + 2), 2 * (i + 1) + 1)) ?t1 ?d1
      case t1 =>
        intro p tp I oI C oC D m₂ ys tl hh tk E' hlo hhi hC hx hF hN off ne
        have mk := kstMark
        refine Mine.cut ?_; intro _ _
        (repeat' (first | ((fail_if_success (with_reducible show Stop _)); (first | ((with_reducible show wpAny _ _ (exec _ _) _ _ _); refine cut ?_; intro _ _; walk1) | ((rename Cont _ _ => cq); refine' resume cq ?_; clear cq; (try ((rename (Flow → Shared → Prop) => qq); clear qq)); (try dsimp only)) | (k_unfold; (try dsimp only)) | walk1 | (dsimp only; walk1)))))
        unfold Stop
        exact pr_end (by assumption) (by assumption) (by assumption) (by assumption) (fun _ => trivial)
      case d1 =>
        intro ys tl hoff hpr
        unfold LCg.FinE
        intro D2 h2 tk2 F2 N2 o2
        have mk := kstMark
        have hoff : OwnOff tl [_, _, _, _, _, _] := hoff
        simp only [List.cons_append, List.nil_append] at N2 o2
        simp only [LCg.Off1] at o2
        have hoff2 : OwnOff tl [D2] := off1_own o2.2.2.2.2.2.2
        (repeat (obtain ⟨_, o2⟩ := o2))
        (repeat' (first | ((fail_if_success (with_reducible show Stop _)); (first | ((with_reducible show wpAny _ _ (exec _ _) _ _ _); refine cut ?_; intro _ _; walk1) | ((rename Cont _ _ => cq); refine' resume cq ?_; clear cq; (try ((rename (Flow → Shared → Prop) => qq); clear qq)); (try dsimp only)) | (k_unfold; (try dsimp only)) | walk1 | (dsimp only; walk1)))))
        exact kont _ _ _ ys _ _ _ _ tl _ _ ⟨by assumption, by assumption, own_two hoff2 hoff, ⟨by k_ne, by k_ne, by k_ne, by k_ne, by k_ne, by k_ne⟩, ⟨by k_ne, by k_ne, by k_ne, by k_ne, by k_ne⟩, by assumption, by assumption, rz1 (g := 5) (by decide) hpos (f := fun _ => 1) (fun _ _ => rfl) ▸ hys1, dvl_of (g := 5) (n := n) (f := fun i => (2 * (i + 1) * (i + 2), 2 * (i + 1) + 1)) (fun k _ => rfl) ▸ hpr⟩
theorem dv_use {w : World} {loose : List Str} {mean : ExcName → Option Value} {mg mb : Str → Option Value} {dp un : Nat} {gd : Option (List Code)} {cn : Str} {cs : Scope} {a : Addr} {ccd : Value} {cl : List (Str × Addr)} {outer : List Env} {A₀ : Around} {base h₀ : Heap} {L : Addr} {m : Str → Option Value} {s : Shared} {Q E : Value → Shared → Prop}
  {lv : Addr} {vs : List Value} {ns : List Int} {k : Int} {t : Tok} {args : List Value} {news : List (Addr × Obj)} {c : Nat} {mth : Str} {tm : Tok} {g : Nat}
  (hB : Below A₀ base outer h₀) (hF : Fr h₀ L s.heap m) (hX : (hd.heap_39 w.params).In h₀) (hT : Top hd.view_39 loose mean mg mb h₀) (hN : News h₀ L s.heap news) (hk : cs.kind = .function)
  (hdp : dp + 150 < recursionLimit) (hun : un + 30 < cLine) (hg : g < 6) (hG : Grp g mth)
  (hm : (lv, listOf vs.toArray c) ∈ news) (hi : IntsAre vs ns) (hlen : ns.length ≤ 4) (hn0 : 0 < ns.length) (hpos : ∀ x ∈ ns, 0 < x) (hsum : 0 < ns.sum) (hbits : ∀ x ∈ ns, PySem.Builtin.Int.intBits x ≤ 2000000) (hk0 : (ns.length : Int) ≤ k) (hk8 : k < 10)
  (hbind : Bd (hd.heap_39 w.params) 61 s args [(Str.ofString "votes", .ref lv), (Str.ofString "seats", .int k t), (Str.ofString "method", .str mth tm), (Str.ofString "tiesallowed", .bool true)])
  (ret : ∀ (r : Addr) (rv : List Value) (rs : List Int) (cap : Nat) (h' : Heap) (tk' : Nat), Fr h₀ L h' m → News h₀ L h' ((r, listOf rv.toArray cap) :: news) → LCg.Off1 r news → IntsAre rv rs → DivR ns g k.toNat rs → Q (.ref r) { s with heap := h', toks := tk' }) :
  wpAny (model PySem.Challenge.rw_jd0003_02.row.prog w) (ktrTop dp un gd cn cs L a ccd cl outer) (call (.ref 61) args) Q E s := by
  obtain ⟨n, rfl⟩ : ∃ n : Nat, k = (n : Int) := ⟨k.toNat, by omega⟩
  refine dv_ok (n := n) hB hF hX hT hk hdp hun hg hG ⟨_, (hN _ hm).1, rfl, c, rfl⟩ hi hlen hn0 hpos hsum hbits (by omega) (by omega) hbind fun r rv rs cap h' tk' keep fresh get hri hq => ?_
  refine ret r rv rs cap h' tk' (hF.keeps keep) ?_ ?_ hri hq
  · intro p hp
    rcases List.mem_cons.mp hp with rfl | hp
    · refine ⟨get, fun e => ?_, ?_⟩
      · obtain ⟨oL, _, _, hL, _⟩ := hF.ns
        have e' : r = L := e
        rw [e', hL] at fresh; cases fresh
      · cases q : h₀.get? r with
        | none => rfl
        | some o => have := hF.keep _ _ q; rw [fresh] at this; cases this
    · exact ⟨keep _ _ (hN p hp).1, (hN p hp).2⟩
  · clear ret hm
    induction news with
    | nil => trivial
    | cons p news ih =>
      refine ⟨fun e => ?_, ih fun q hq => hN q (.tail _ hq)⟩
      have h1 := (hN p (.head _)).1
      have e' : p.1 = r := e
      rw [e', fresh] at h1; cases h1
end
section
structure GrpC (g : Nat) (x : Str) : Prop extends Grp g x where
  nq : (x == Str.ofString "quota") = false
  nl : [Str.ofString "lrm", Str.ofString "hamilton", Str.ofString "largest_remainder"].any (· == x) = false
  al : [Str.ofString "dhondt", Str.ofString "jefferson", Str.ofString "saintelague", Str.ofString "webster", Str.ofString "modified_saintelague", Str.ofString "huntington", Str.ofString "hill", Str.ofString "adams", Str.ofString "dean", Str.ofString "smallestdivisor", Str.ofString "harmonicmean", Str.ofString "equalproportions", Str.ofString "majorfractions", Str.ofString "greatestdivisors"].any (· == x) = true
theorem eq_known {prog : Program} {w : World} {A : Around} {E : Value → Shared → Prop} {s : Shared} {x y : Str} {t u : Tok} {b : Bool} {Q : Value → Shared → Prop} (e : (x == y) = b)
    (h : Q (.bool b) s) : wpAny (model prog w) A (compareOp .Eq (.str x t) (.str y u)) Q E s := eq_str (e ▸ h)
local macro_rules | `(tactic| walk_at "compareOp Eq str str") => `(tactic| (refine eq_known (by assumption) ?_))
local macro_rules | `(tactic| walk_at "call ref") => `(tactic| ((with_reducible show wpAny _ _ (call (Value.ref 61) _) _ _ _); refine stop ?_))
local macro_rules | `(tactic| walk_at "call ref") => `(tactic| ((with_reducible show wpAny _ _ (call (Value.ref 55) _) _ _ _); refine stop ?_))
local macro_rules | `(tactic| walk_at "call ref") => `(tactic| ((with_reducible show wpAny _ _ (call (Value.ref 74) _) _ _ _); refine stop ?_))
theorem ap_ok {w : World} {loose : List Str} {mean : ExcName → Option Value} {mg mb : Str → Option Value} {dp un : Nat} {gd : Option (List Code)} {cn : Str} {cs : Scope} {a : Addr} {ccd : Value} {cl : List (Str × Addr)} {outer : List Env} {A₀ : Around} {base h₀ : Heap} {L : Addr} {m : Str → Option Value} {s : Shared} {Q E : Value → Shared → Prop} {lv : Addr}
  (hB : Below A₀ base outer h₀) (hF : Fr h₀ L s.heap m) (hX : (hd.heap_39 w.params).In h₀) (hT : Top hd.view_39 loose mean mg mb h₀) (hk : cs.kind = .function)
  (hdp : dp + 150 < recursionLimit) (hun : un + 30 < cLine)
  (ret : ∀ (h' : Heap) (tk' : Nat), Fr h₀ L h' m → (∀ b o, s.heap.get? b = some o → h'.get? b = some o) → Q (.ref lv) { s with heap := h', toks := tk' }) :
  wpAny (model PySem.Challenge.rw_jd0003_02.row.prog w) (ktrTop dp un gd cn cs L a ccd cl outer) (call (.ref 42) [.ref lv, .none]) Q E s := by
  ((w_top off); (have hfill : PySem.Challenge.rw_jd0003_02.row.prog = PySem.Challenge.rw_jd0003_02.row.prog ∧ hd.heap_39 = hd.heap_39 := (by k_fill; exact ⟨rfl, rfl⟩); clear hfill))
  have hF0 := hF
  refine wpAny_call ?_
  k_dflt (((refine' enterP ?k1Z ?k2Z ?k3Z ?k5Z ?kAZ ?kFZ ?kKZ ?k6Z ?k7Z ?k8Z ?k9Z ?kBZ ?_ ?c2Z ?c3Z ?c4Z ?c5Z; (case kAZ => exact rfl); (case kFZ => exact rfl); (case kKZ => assumption); (case k1Z => k_asm); (case k2Z => k_asm); (case k3Z => k_asm); (case k5Z => k_asm); (case k6Z => k_is); (case k7Z => k_is); (case k8Z => ktr_room); (case k9Z => first | exact Bd.at (by assumption) (by k_is) | exact BindsTo.of_eq rfl | exact binds_K (by k_in) rfl (by k_is) rfl rfl rfl); (case kBZ => exact locs rfl); (case c5Z => decide); (case c2Z => exact rfl); (case c3Z => exact rfl); (case c4Z => exact rfl); k_whole; intro _ _ _ _ _ _ _; (try dsimp only))))
  clear hF hB hX hT
  (try k_unmd); (try k_fold)
  (repeat' (first | ((fail_if_success (with_reducible show Stop _)); (first | (k_unfold; (try dsimp only)) | walk1 | (dsimp only; walk1)))))
  rename Fr _ _ _ _ => F9
  exact ret _ _ (hF0.keeps F9.keep) F9.keep
theorem comp_div {w : World} {loose : List Str} {mean : ExcName → Option Value} {mg mb : Str → Option Value} {dp un : Nat} {gd : Option (List Code)} {cn : Str} {cs : Scope} {a : Addr} {ccd : Value} {cl : List (Str × Addr)} {outer : List Env} {A₀ : Around} {base h₀ : Heap} {L : Addr} {m : Str → Option Value} {s : Shared} {Q E : Value → Shared → Prop}
  {lv : Addr} {vs : List Value} {ns : List Int} {n : Nat} {t : Tok} {args : List Value} {mth : Str} {tm : Tok} {g : Nat}
  (hB : Below A₀ base outer h₀) (hF : Fr h₀ L s.heap m) (hX : (hd.heap_39 w.params).In h₀) (hT : Top hd.view_39 loose mean mg mb h₀) (hk : cs.kind = .function)
  (hdp : dp + 200 < recursionLimit) (hun : un + 60 < cLine) (hg : g < 6) (hG : GrpC g mth)
  (hl : s.heap.IsList lv vs.toArray) (hi : IntsAre vs ns) (hlen : ns.length ≤ 4) (hn0 : 0 < ns.length) (hpos : ∀ x ∈ ns, 0 < x) (hsum : 0 < ns.sum) (hbits : ∀ x ∈ ns, PySem.Builtin.Int.intBits x ≤ 2000000) (hk0 : ns.length ≤ n) (hk8 : n < 10)
  (hbind : Bd (hd.heap_39 w.params) 35 s args [(Str.ofString "method", .str mth tm), (Str.ofString "votes", .ref lv), (Str.ofString "seats", .int (n : Int) t), (Str.ofString "threshold", .none), (Str.ofString "tiesallowed", .bool true)])
  (ret : ∀ (r : Addr) (rv : List Value) (rs : List Int) (cap : Nat) (h' : Heap) (tk' : Nat), (∀ b o, s.heap.get? b = some o → h'.get? b = some o) → s.heap.get? r = none → h'.get? r = some (listOf rv.toArray cap) → IntsAre rv rs → DivR ns g n rs → Q (.ref r) { s with heap := h', toks := tk' }) :
  wpAny (model PySem.Challenge.rw_jd0003_02.row.prog w) (ktrTop dp un gd cn cs L a ccd cl outer) (call (.ref 35) args) Q E s := by
  ((w_top off); (have hfill : PySem.Challenge.rw_jd0003_02.row.prog = PySem.Challenge.rw_jd0003_02.row.prog ∧ hd.heap_39 = hd.heap_39 := (by k_fill; exact ⟨rfl, rfl⟩); clear hfill))
  refine wpAny_call ?_
  k_dflt (((refine' enterP ?k1Z ?k2Z ?k3Z ?k5Z ?kAZ ?kFZ ?kKZ ?k6Z ?k7Z ?k8Z ?k9Z ?kBZ ?_ ?c2Z ?c3Z ?c4Z ?c5Z; (case kAZ => exact rfl); (case kFZ => exact rfl); (case kKZ => assumption); (case k1Z => k_asm); (case k2Z => k_asm); (case k3Z => k_asm); (case k5Z => k_asm); (case k6Z => k_is); (case k7Z => k_is); (case k8Z => ktr_room); (case k9Z => first | exact Bd.at (by assumption) (by k_is) | exact BindsTo.of_eq rfl | exact binds_K (by k_in) rfl (by k_is) rfl rfl rfl); (case kBZ => exact locs rfl); (case c5Z => decide); (case c2Z => exact rfl); (case c3Z => exact rfl); (case c4Z => exact rfl); k_whole; intro _ _ _ _ _ _ _; (try dsimp only))))
  clear hF hB hX hT
  have hseer : s.heap.NoSeer := Top.seer (by assumption) (by decide +kernel)
  (try k_unmd); (try k_fold)
  have c1 := hG.nq
  have c2 := hG.nl
  have c3 := hG.al
  (repeat' (first | ((fail_if_success (with_reducible show Stop _)); (first | (k_unfold; (try dsimp only)) | walk1 | (dsimp only; walk1)))))
  rename News _ _ _ _ => N8
  with_unfolding_all refine ap_ok (by k_asm) (by k_asm) (by k_asm) (by k_asm) rfl (by ktr_room) (by ktr_units) ?_
  intro h9 tk9 F9 keep9
  have N9 := N8.grown keep9
  clear N8
  (repeat' (first | ((fail_if_success (with_reducible show Stop _)); (first | (k_unfold; (try dsimp only)) | walk1 | (dsimp only; walk1)))))
  unfold Stop
  rename News _ _ _ _ => N10
  rename Fr _ _ _ _ => F10
  with_unfolding_all refine dv_ok (n := n) (by k_asm) F10 (by k_asm) (by k_asm) rfl (by ktr_room) (by ktr_units) hg hG.toGrp (by obtain ⟨o, e, q⟩ := hl; exact ⟨o, F10.keep _ _ e, q⟩) hi hlen hn0 hpos hsum hbits hk0 hk8 (Bd.of (by k_is) (by first | exact BindsTo.of_eq rfl | exact binds_K (by k_in) rfl (by k_is) rfl rfl rfl)) ?_
  intro r rv rs cap h' tk' keep fresh get hri hq
  refine ret r rv rs cap h' tk' (fun b o e => keep b o (F10.keep b o e)) ?_ get hri hq
  cases e : s.heap.get? r with
  | none => rfl
  | some o => rw [F10.keep r o e] at fresh; cases fresh
theorem comp_lr {w : World} {loose : List Str} {mean : ExcName → Option Value} {mg mb : Str → Option Value} {dp un : Nat} {gd : Option (List Code)} {cn : Str} {cs : Scope} {a : Addr} {ccd : Value} {cl : List (Str × Addr)} {outer : List Env} {A₀ : Around} {base h₀ : Heap} {L : Addr} {m : Str → Option Value} {s : Shared} {Q E : Value → Shared → Prop}
  {lv : Addr} {vs : List Value} {ns : List Int} {n : Nat} {t : Tok} {args : List Value} {tm : Tok}
  (hB : Below A₀ base outer h₀) (hF : Fr h₀ L s.heap m) (hX : (hd.heap_39 w.params).In h₀) (hT : Top hd.view_39 loose mean mg mb h₀) (hk : cs.kind = .function)
  (hdp : dp + 200 < recursionLimit) (hun : un + 60 < cLine)
  (hl : s.heap.IsList lv vs.toArray) (hi : IntsAre vs ns) (hlen : ns.length ≤ 4) (hn0 : 0 < ns.length) (hpos : ∀ x ∈ ns, 0 < x) (hsum : 0 < ns.sum) (hbits : ∀ x ∈ ns, PySem.Builtin.Int.intBits x ≤ 2000000) (hk0 : ns.length ≤ n) (hk8 : n < 10)
  (hbind : Bd (hd.heap_39 w.params) 35 s args [(Str.ofString "method", .str (Str.ofString "largest_remainder") tm), (Str.ofString "votes", .ref lv), (Str.ofString "seats", .int (n : Int) t), (Str.ofString "threshold", .none), (Str.ofString "tiesallowed", .bool true)])
  (ret : ∀ (r : Addr) (rv : List Value) (rs : List Int) (cap : Nat) (h' : Heap) (tk' : Nat), (∀ b o, s.heap.get? b = some o → h'.get? b = some o) → s.heap.get? r = none → h'.get? r = some (listOf rv.toArray cap) → IntsAre rv rs → LrR ns n rs → Q (.ref r) { s with heap := h', toks := tk' }) :
  wpAny (model PySem.Challenge.rw_jd0003_02.row.prog w) (ktrTop dp un gd cn cs L a ccd cl outer) (call (.ref 35) args) Q E s := by
  ((w_top off); (have hfill : PySem.Challenge.rw_jd0003_02.row.prog = PySem.Challenge.rw_jd0003_02.row.prog ∧ hd.heap_39 = hd.heap_39 := (by k_fill; exact ⟨rfl, rfl⟩); clear hfill))
  refine wpAny_call ?_
  k_dflt (((refine' enterP ?k1Z ?k2Z ?k3Z ?k5Z ?kAZ ?kFZ ?kKZ ?k6Z ?k7Z ?k8Z ?k9Z ?kBZ ?_ ?c2Z ?c3Z ?c4Z ?c5Z; (case kAZ => exact rfl); (case kFZ => exact rfl); (case kKZ => assumption); (case k1Z => k_asm); (case k2Z => k_asm); (case k3Z => k_asm); (case k5Z => k_asm); (case k6Z => k_is); (case k7Z => k_is); (case k8Z => ktr_room); (case k9Z => first | exact Bd.at (by assumption) (by k_is) | exact BindsTo.of_eq rfl | exact binds_K (by k_in) rfl (by k_is) rfl rfl rfl); (case kBZ => exact locs rfl); (case c5Z => decide); (case c2Z => exact rfl); (case c3Z => exact rfl); (case c4Z => exact rfl); k_whole; intro _ _ _ _ _ _ _; (try dsimp only))))
  clear hF hB hX hT
  have hseer : s.heap.NoSeer := Top.seer (by assumption) (by decide +kernel)
  (try k_unmd); (try k_fold)
  have c1 : (Str.ofString "largest_remainder" == Str.ofString "quota") = false := by decide +kernel
  have c2 : [Str.ofString "lrm", Str.ofString "hamilton", Str.ofString "largest_remainder"].any (· == Str.ofString "largest_remainder") = true := by decide +kernel
  (repeat' (first | ((fail_if_success (with_reducible show Stop _)); (first | (k_unfold; (try dsimp only)) | walk1 | (dsimp only; walk1)))))
  rename News _ _ _ _ => N8
  with_unfolding_all refine ap_ok (by k_asm) (by k_asm) (by k_asm) (by k_asm) rfl (by ktr_room) (by ktr_units) ?_
  intro h9 tk9 F9 keep9
  have N9 := N8.grown keep9
  clear N8
  (repeat' (first | ((fail_if_success (with_reducible show Stop _)); (first | (k_unfold; (try dsimp only)) | walk1 | (dsimp only; walk1)))))
  unfold Stop
  rename News _ _ _ _ => N10
  rename Fr _ _ _ _ => F10
  with_unfolding_all refine lrm_ok (k := (n : Int)) (by k_asm) F10 (by k_asm) (by k_asm) rfl (by ktr_room) (by ktr_units)  (by obtain ⟨o, e, q⟩ := hl; exact ⟨o, F10.keep _ _ e, q⟩) hi (by omega) hn0 hpos hsum (by omega) (by omega) (Bd.of (by k_is) (by first | exact BindsTo.of_eq rfl | exact binds_K (by k_in) rfl (by k_is) rfl rfl rfl)) ?_
  intro r rv rs cap h' tk' keep fresh get hri hq
  refine ret r rv rs cap h' tk' (fun b o e => keep b o (F10.keep b o e)) ?_ get hri hq
  cases e : s.heap.get? r with
  | none => rfl
  | some o => rw [F10.keep r o e] at fresh; cases fresh
theorem comp_qt {w : World} {loose : List Str} {mean : ExcName → Option Value} {mg mb : Str → Option Value} {dp un : Nat} {gd : Option (List Code)} {cn : Str} {cs : Scope} {a : Addr} {ccd : Value} {cl : List (Str × Addr)} {outer : List Env} {A₀ : Around} {base h₀ : Heap} {L : Addr} {m : Str → Option Value} {s : Shared} {Q E : Value → Shared → Prop}
  {lv : Addr} {vs : List Value} {ns : List Int} {n : Nat} {t : Tok} {args : List Value} {tm : Tok}
  (hB : Below A₀ base outer h₀) (hF : Fr h₀ L s.heap m) (hX : (hd.heap_39 w.params).In h₀) (hT : Top hd.view_39 loose mean mg mb h₀) (hk : cs.kind = .function)
  (hdp : dp + 200 < recursionLimit) (hun : un + 60 < cLine)
  (hl : s.heap.IsList lv vs.toArray) (hi : IntsAre vs ns) (hlen : ns.length ≤ 4) (hn0 : 0 < ns.length) (hpos : ∀ x ∈ ns, 0 < x) (hsum : 0 < ns.sum) (hbits : ∀ x ∈ ns, PySem.Builtin.Int.intBits x ≤ 2000000) (hk0 : ns.length ≤ n) (hk8 : n < 10)
  (hbind : Bd (hd.heap_39 w.params) 35 s args [(Str.ofString "method", .str (Str.ofString "quota") tm), (Str.ofString "votes", .ref lv), (Str.ofString "seats", .int (n : Int) t), (Str.ofString "threshold", .none), (Str.ofString "tiesallowed", .bool true)])
  (ret : ∀ (r : Addr) (rv : List Value) (rs : List Int) (cap : Nat) (h' : Heap) (tk' : Nat), (∀ b o, s.heap.get? b = some o → h'.get? b = some o) → s.heap.get? r = none → h'.get? r = some (listOf rv.toArray cap) → IntsAre rv rs → QR ns n rs → Q (.ref r) { s with heap := h', toks := tk' }) :
  wpAny (model PySem.Challenge.rw_jd0003_02.row.prog w) (ktrTop dp un gd cn cs L a ccd cl outer) (call (.ref 35) args) Q E s := by
  ((w_top off); (have hfill : PySem.Challenge.rw_jd0003_02.row.prog = PySem.Challenge.rw_jd0003_02.row.prog ∧ hd.heap_39 = hd.heap_39 := (by k_fill; exact ⟨rfl, rfl⟩); clear hfill))
  refine wpAny_call ?_
  k_dflt (((refine' enterP ?k1Z ?k2Z ?k3Z ?k5Z ?kAZ ?kFZ ?kKZ ?k6Z ?k7Z ?k8Z ?k9Z ?kBZ ?_ ?c2Z ?c3Z ?c4Z ?c5Z; (case kAZ => exact rfl); (case kFZ => exact rfl); (case kKZ => assumption); (case k1Z => k_asm); (case k2Z => k_asm); (case k3Z => k_asm); (case k5Z => k_asm); (case k6Z => k_is); (case k7Z => k_is); (case k8Z => ktr_room); (case k9Z => first | exact Bd.at (by assumption) (by k_is) | exact BindsTo.of_eq rfl | exact binds_K (by k_in) rfl (by k_is) rfl rfl rfl); (case kBZ => exact locs rfl); (case c5Z => decide); (case c2Z => exact rfl); (case c3Z => exact rfl); (case c4Z => exact rfl); k_whole; intro _ _ _ _ _ _ _; (try dsimp only))))
  clear hF hB hX hT
  have hseer : s.heap.NoSeer := Top.seer (by assumption) (by decide +kernel)
  (try k_unmd); (try k_fold)
  have c1 : (Str.ofString "quota" == Str.ofString "quota") = true := by decide +kernel
  (repeat' (first | ((fail_if_success (with_reducible show Stop _)); (first | (k_unfold; (try dsimp only)) | walk1 | (dsimp only; walk1)))))
  rename News _ _ _ _ => N8
  with_unfolding_all refine ap_ok (by k_asm) (by k_asm) (by k_asm) (by k_asm) rfl (by ktr_room) (by ktr_units) ?_
  intro h9 tk9 F9 keep9
  have N9 := N8.grown keep9
  clear N8
  (repeat' (first | ((fail_if_success (with_reducible show Stop _)); (first | (k_unfold; (try dsimp only)) | walk1 | (dsimp only; walk1)))))
  unfold Stop
  rename News _ _ _ _ => N10
  rename Fr _ _ _ _ => F10
  with_unfolding_all refine quota_ok (k := (n : Int)) (by k_asm) F10 (by k_asm) (by k_asm) rfl (by ktr_room) (by ktr_units)  (by obtain ⟨o, e, q⟩ := hl; exact ⟨o, F10.keep _ _ e, q⟩) hi (by omega) hn0 (fun x hx => Int.le_of_lt (hpos x hx)) hsum (by omega) (by omega) (Bd.of (by k_is) (by first | exact BindsTo.of_eq rfl | exact binds_K (by k_in) rfl (by k_is) rfl rfl rfl)) ?_
  intro r rv rs cap h' tk' keep fresh get hri hq
  refine ret r rv rs cap h' tk' (fun b o e => keep b o (F10.keep b o e)) ?_ get hri hq
  cases e : s.heap.get? r with
  | none => rfl
  | some o => rw [F10.keep r o e] at fresh; cases fresh
end
end

section
local macro_rules | `(tactic| walk_at "eval IfExp") => `(tactic| ((rename JM 1 => hj); clear hj; refine stop ?_))
local macro_rules | `(tactic| walk_at "eval BoolOp") => `(tactic| ((rename JM 2 => hj); clear hj; refine stop ?_))
local macro_rules | `(tactic| walk_at "exec If Compare cons nil") => `(tactic| ((rename JM 3 => hj); clear hj; refine stop ?_))
local macro_rules | `(tactic| walk_at "exec If BoolOp cons nil") => `(tactic| ((rename JM 4 => hj); clear hj; refine stop ?_))
inductive JInt (s : Shared) (h₀ : Heap) (L : Addr) (m : Str → Option Value) (news : List (Addr × Obj)) (P : Int → Prop) (v : Value) (s' : Shared) : Prop
  | mk (i : Int) (t : Tok) (h' : Heap) (tk : Nat) (e : v = .int i t) (e' : s' = { s with heap := h', toks := tk }) (F : Fr h₀ L h' m) (N : News h₀ L h' news) (p : P i)
inductive JStr (s : Shared) (h₀ : Heap) (L : Addr) (m : Str → Option Value) (news : List (Addr × Obj)) (P : Str → Prop) (v : Value) (s' : Shared) : Prop
  | mk (x : Str) (t : Tok) (h' : Heap) (tk : Nat) (e : v = .str x t) (e' : s' = { s with heap := h', toks := tk }) (F : Fr h₀ L h' m) (N : News h₀ L h' news) (p : P x)
inductive JList (s : Shared) (h₀ : Heap) (L : Addr) (m : Str → Option Value) (news : List (Addr × Obj)) (P : List Int → Prop) (v : Value) (s' : Shared) : Prop
  | mk (l : Addr) (c : Nat) (vs : List Value) (ns : List Int) (h' : Heap) (tk : Nat) (e : v = .ref l) (e' : s' = { s with heap := h', toks := tk }) (F : Fr h₀ L h' m) (N : News h₀ L h' ((l, listOf vs.toArray c) :: news)) (i : IntsAre vs ns) (p : P ns)
inductive JUpd (s : Shared) (h₀ : Heap) (L : Addr) (m : Str → Option Value) (news : List (Addr × Obj)) (l : Addr) (P : List Int → Prop) (f : Flow) (s' : Shared) : Prop
  | mk (e : f = .next) (c : Nat) (vs : List Value) (ns : List Int) (h' : Heap) (tk : Nat) (e' : s' = { s with heap := h', toks := tk }) (F : Fr h₀ L h' m) (N : News h₀ L h' ((l, listOf vs.toArray c) :: news)) (i : IntsAre vs ns) (p : P ns)
inductive JKeep (s : Shared) (h₀ : Heap) (L : Addr) (m : Str → Option Value) (news : List (Addr × Obj)) (f : Flow) (s' : Shared) : Prop
  | mk (e : f = .next) (h' : Heap) (tk : Nat) (e' : s' = { s with heap := h', toks := tk }) (F : Fr h₀ L h' m) (N : News h₀ L h' news)
theorem join_int {M : Model} {A : Around} {t : Sem Value} {Q E : Value → Shared → Prop} {s : Shared} {h₀ : Heap} {L : Addr} {m : Str → Option Value} {news : List (Addr × Obj)} (_F : Fr h₀ L s.heap m) (_N : News h₀ L s.heap news)
    (h1 : wpAny M A t (fun v s' => Stop (JInt s h₀ L m news (fun _ => True) v s')) E s)
    (h2 : ∀ (i : Int) (t : Tok) (h' : Heap) (tk : Nat), Fr h₀ L h' m → News h₀ L h' news → Q (.int i t) { s with heap := h', toks := tk }) : wpAny M A t Q E s :=
  wpAny_mono h1 (fun v s' h => by obtain ⟨i, t, h', tk, rfl, rfl, F', N', _⟩ : JInt _ _ _ _ _ _ _ _ := h; exact h2 i t h' tk F' N') fun _ _ e => e
theorem join_list {M : Model} {A : Around} {t : Sem Value} {Q E : Value → Shared → Prop} {s : Shared} {h₀ : Heap} {L : Addr} {m : Str → Option Value} {news : List (Addr × Obj)} (P : List Int → Prop) (_F : Fr h₀ L s.heap m) (_N : News h₀ L s.heap news)
    (h1 : wpAny M A t (fun v s' => Stop (JList s h₀ L m news P v s')) E s)
    (h2 : ∀ (l : Addr) (c : Nat) (vs : List Value) (ns : List Int) (h' : Heap) (tk : Nat), Fr h₀ L h' m → News h₀ L h' ((l, listOf vs.toArray c) :: news) → IntsAre vs ns → P ns → Q (.ref l) { s with heap := h', toks := tk }) : wpAny M A t Q E s :=
  wpAny_mono h1 (fun v s' h => by obtain ⟨l, c, vs, ns, h', tk, rfl, rfl, F', N', hi, hP⟩ : JList _ _ _ _ _ _ _ _ := h; exact h2 l c vs ns h' tk F' N' hi hP) fun _ _ e => e
theorem join_upd {M : Model} {A : Around} {t : Sem Flow} {Q : Flow → Shared → Prop} {E : Value → Shared → Prop} {s : Shared} {h₀ : Heap} {L l : Addr} {m : Str → Option Value} {o : Obj} {news : List (Addr × Obj)} (P : List Int → Prop) (_F : Fr h₀ L s.heap m) (_N : News h₀ L s.heap ((l, o) :: news))
    (h1 : wpAny M A t (fun f s' => Stop (JUpd s h₀ L m news l P f s')) E s)
    (h2 : ∀ (c : Nat) (vs : List Value) (ns : List Int) (h' : Heap) (tk : Nat), Fr h₀ L h' m → News h₀ L h' ((l, listOf vs.toArray c) :: news) → IntsAre vs ns → P ns → Q .next { s with heap := h', toks := tk }) : wpAny M A t Q E s :=
  wpAny_mono h1 (fun v s' h => by obtain ⟨rfl, c, vs, ns, h', tk, rfl, F', N', hi, hP⟩ : JUpd _ _ _ _ _ _ _ _ _ := h; exact h2 c vs ns h' tk F' N' hi hP) fun _ _ e => e
theorem join_keep {M : Model} {A : Around} {t : Sem Flow} {Q : Flow → Shared → Prop} {E : Value → Shared → Prop} {s : Shared} {h₀ : Heap} {L : Addr} {m : Str → Option Value} {news : List (Addr × Obj)} (_F : Fr h₀ L s.heap m) (_N : News h₀ L s.heap news)
    (h1 : wpAny M A t (fun f s' => Stop (JKeep s h₀ L m news f s')) E s)
    (h2 : ∀ (h' : Heap) (tk : Nat), Fr h₀ L h' m → News h₀ L h' news → Q .next { s with heap := h', toks := tk }) : wpAny M A t Q E s :=
  wpAny_mono h1 (fun v s' h => by obtain ⟨rfl, h', tk, rfl, F', N'⟩ : JKeep _ _ _ _ _ _ _ := h; exact h2 h' tk F' N') fun _ _ e => e
local macro_rules | `(tactic| walk_at "leaving ref") => `(tactic| (k_here; (refine' leave_any ?k1 ?k0 ?k2 ?k3 ?kf ?kk ?_; (case k0 => assumption); (case kf => rfl); (case kk => rfl); (case k1 => assumption); (case k2 => assumption); (case k3 => k_asm); k_whole; intro h' R' U'; (try dsimp only at R' U' ⊢))))
/-MORE-/
local macro_rules | `(tactic| walk_at "eval Call") => `(tactic| ((rename JM 6 => hj); clear hj; refine stop ?_))
theorem join_intP {M : Model} {A : Around} {t : Sem Value} {Q E : Value → Shared → Prop} {s : Shared} {h₀ : Heap} {L : Addr} {m : Str → Option Value} {news : List (Addr × Obj)} (P : Int → Prop) (_F : Fr h₀ L s.heap m) (_N : News h₀ L s.heap news)
    (h1 : wpAny M A t (fun v s' => Halt (JInt s h₀ L m news P v s')) E s)
    (h2 : ∀ (i : Int) (t : Tok) (h' : Heap) (tk : Nat), Fr h₀ L h' m → News h₀ L h' news → P i → Q (.int i t) { s with heap := h', toks := tk }) : wpAny M A t Q E s :=
  wpAny_mono h1 (fun v s' h => by obtain ⟨i, t, h', tk, rfl, rfl, F', N', p⟩ : JInt _ _ _ _ _ _ _ _ := h.1; exact h2 i t h' tk F' N' p) fun _ _ e => e
def small (x : Int) : Prop := PySem.Builtin.Int.intBits x ≤ 2000000
theorem bits_abs1 {x : Int} (h : PySem.Builtin.Int.intBits x ≤ 1048576) : small ((if x < 0 then -x else x) + 1) := by
  have h1 : PySem.Builtin.Int.intBits (if x < 0 then -x else x) ≤ 1048576 := by
    split
    · exact bits_neg h
    · exact h
  exact Nat.le_trans (bits_add h1 (intBits_le_64 (k := 1) (by decide) (by decide))) (by decide)
theorem take_le (l : List Int) (k j : Nat) : ((l.drop j).take k).length ≤ k := by rw [List.length_take]; omega
theorem take_le2 {l : List Int} {k j : Nat} {P : Int} (h : (k : Int) ≤ P) (hl : (PyData.list (l.map .int)).layable0 = true) : (((l.drop j).take k).length : Int) ≤ P ∧ ∀ x ∈ (l.drop j).take k, PySem.Builtin.Int.intBits x ≤ 1048576 :=
  ⟨by rw [List.length_take]; omega, fun x hx => PyData.bits_item_of_ints hl (List.mem_of_mem_drop (List.mem_of_mem_take hx))⟩
theorem sum_pos' : ∀ {l : List Int}, (∀ x ∈ l, 0 < x) → 0 < l.length → 0 < l.sum
  | [x], h, _ => by simp only [List.sum_cons, List.sum_nil]; have := h x (.head _); omega
  | x :: y :: r, h, _ => by
    rw [List.sum_cons]
    have := h x (.head _)
    have := sum_pos' (l := y :: r) (fun z hz => h z (.tail _ hz)) (Nat.succ_pos _)
    omega
theorem pad_len {ns vt : List Int} {P : Int} (h : (ns.length : Int) ≤ P) (e : vt = ns ++ (List.replicate (P - ↑ns.length).toNat [1]).flatten) : (vt.length : Int) = P ∧ ∀ x ∈ vt, x ∈ ns ∨ x = 1 := by
  have e1 : ∀ k : Nat, ((List.replicate k [(1 : Int)]).flatten).length = k := fun k => by
    induction k with
    | zero => rfl
    | succ k ih => rw [List.replicate_succ, List.flatten_cons, List.length_append, ih]; simp; omega
  refine ⟨by rw [e, List.length_append, e1]; omega, fun x hx => ?_⟩
  rw [e] at hx
  rcases List.mem_append.mp hx with h | h
  · exact .inl h
  · obtain ⟨l, hl, hm⟩ := List.mem_flatten.mp h
    rw [(List.mem_replicate.mp hl).2] at hm
    exact .inr (List.mem_singleton.mp hm)
theorem small_one' : small 1 := by unfold small; decide
theorem small_sum : ∀ {l : List Int}, (∀ x ∈ l, small x) → PySem.Builtin.Int.intBits l.sum ≤ 2000000 + l.length
  | [], _ => by decide
  | x :: r, h => by
    rw [List.sum_cons]
    have h1 := h x (.head _)
    have h2 := small_sum (l := r) fun z hz => h z (.tail _ hz)
    refine Nat.le_trans (bits_add h1 h2) ?_
    rw [List.length_cons]
    omega
theorem small_getD {l : List Int} (h : ∀ x ∈ l, small x) (i : Nat) : small (l.getD i 0) := by
  rw [List.getD_eq_getElem?_getD]
  cases e : l[i]? with
  | none => unfold small; decide
  | some x => exact h x (List.mem_of_getElem? e)
theorem mul_small {ns rs : List Int} (h1 : ∀ x ∈ ns, small x) (h2 : ∀ x ∈ rs, small x) (l1 : ns.length ≤ 4) (l2 : rs.length = ns.length) :
    (∀ i, IntMulOk (rs.getD i 0) ns.sum ∧ IntMulOk (ns.getD i 0) rs.sum) ∧ ∀ i, IntMulOk (-ns.getD i 0) rs.sum ∧ IntMulOk (ns.getD i 0) rs.sum := by
  have s1 : PySem.Builtin.Int.intBits ns.sum ≤ 3000000 := Nat.le_trans (small_sum h1) (by omega)
  have s2 : PySem.Builtin.Int.intBits rs.sum ≤ 3000000 := Nat.le_trans (small_sum h2) (by omega)
  refine ⟨fun i => ⟨mulOk_of_bits (small_getD h2 i) s1 (by decide), mulOk_of_bits (small_getD h1 i) s2 (by decide)⟩, fun i => ⟨mulOk_of_bits (bits_neg (small_getD h1 i)) s2 (by decide), mulOk_of_bits (small_getD h1 i) s2 (by decide)⟩⟩
theorem bits_oth {x h : Int} (hx : PySem.Builtin.Int.intBits x ≤ 1048576) : small (if h.fmod 2 = 0 then (if x < 0 then -x else x).fmod 5 else (if x < 0 then -x else x)) := by
  split
  · have := fdiv_fmod_facts (if x < 0 then -x else x) 5
    have g := this.2.2.1 (by decide)
    exact Nat.le_trans (intBits_le_64 (by omega) (by omega)) (by decide)
  · split
    · exact Nat.le_trans (bits_neg hx) (by decide)
    · exact Nat.le_trans hx (by decide)
theorem small_of {x : Int} (h0 : 0 ≤ x) (h1 : x ≤ 100) : small x := Nat.le_trans (intBits_le_64 (by omega) (by omega)) (by decide)
local macro_rules | `(tactic| walk_at "call ref") => `(tactic| ((with_reducible show wpAny _ _ (call (Value.ref 35) _) _ _ _); refine stop ?_))
theorem news_keep1 {h₀ h : Heap} {L : Addr} {a b c d e f g : Addr × Obj} (N : News h₀ L h [a, b, c, d, e, f, g]) : News h₀ L h [a, e, f, g] := fun p hp => N p (by
  simp only [List.mem_cons, List.not_mem_nil, or_false] at hp ⊢
  rcases hp with h | h | h | h <;> simp [h])
local macro_rules | `(tactic| walk_at "call ref") => `(tactic| ((with_reducible show wpAny _ _ (call (Value.ref 86) _) _ _ _); refine stop ?_))
local macro_rules | `(tactic| walk_at "call ref") => `(tactic| ((with_reducible show wpAny _ _ (call (Value.ref 49) _) _ _ _); refine stop ?_))
theorem news_keep2 {h₀ h : Heap} {L : Addr} {a b c d e f g i j : Addr × Obj} (N : News h₀ L h [a, b, c, d, e, f, g, i, j]) : News h₀ L h [a, f, g, i, j] := fun p hp => N p (by
  simp only [List.mem_cons, List.not_mem_nil, or_false] at hp ⊢
  rcases hp with h | h | h | h | h <;> simp [h])

theorem fmod5 (x : Int) : 0 ≤ x.fmod 5 ∧ x.fmod 5 ≤ 4 := by
  have f := fdiv_fmod_facts x 5
  have g := f.2.2.1 (by decide)
  omega
theorem fmod8 (x : Int) : 0 ≤ x.fmod 8 ∧ x.fmod 8 ≤ 7 := by
  have f := fdiv_fmod_facts x 8
  have g := f.2.2.1 (by decide)
  omega

local macro_rules | `(tactic| walk_at "eval BinOp") => `(tactic| ((rename JM 7 => hj); clear hj; refine stop ?_))
local macro_rules | `(tactic| walk_at "eval Subscript") => `(tactic| ((rename JM 8 => hj); clear hj; refine stop ?_))
theorem join_str {M : Model} {A : Around} {t : Sem Value} {Q E : Value → Shared → Prop} {s : Shared} {h₀ : Heap} {L : Addr} {m : Str → Option Value} {news : List (Addr × Obj)} (P : Str → Prop) (_F : Fr h₀ L s.heap m) (_N : News h₀ L s.heap news)
    (h1 : wpAny M A t (fun v s' => Halt (JStr s h₀ L m news P v s')) E s)
    (h2 : ∀ (x : Str) (t : Tok) (h' : Heap) (tk : Nat), Fr h₀ L h' m → News h₀ L h' news → P x → Q (.str x t) { s with heap := h', toks := tk }) : wpAny M A t Q E s :=
  wpAny_mono h1 (fun v s' h => by obtain ⟨x, t, h', tk, rfl, rfl, F', N', p⟩ : JStr _ _ _ _ _ _ _ _ := h.1; exact h2 x t h' tk F' N' p) fun _ _ e => e
def grpB (g : Nat) (x : Str) : Bool :=
  [Str.ofString "dhondt", Str.ofString "jefferson", Str.ofString "greatestdivisors"].any (· == x) == decide (g = 0) &&
  ([Str.ofString "saintelague", Str.ofString "webster", Str.ofString "majorfractions"].any (· == x) == decide (g = 1) &&
  ([Str.ofString "modified_saintelague"].any (· == x) == decide (g = 2) &&
  ([Str.ofString "huntington", Str.ofString "hill", Str.ofString "equalproportions"].any (· == x) == decide (g = 3) &&
  ([Str.ofString "adams", Str.ofString "smallestdivisor"].any (· == x) == decide (g = 4) &&
  ([Str.ofString "dean", Str.ofString "harmonicmean"].any (· == x) == decide (g = 5) &&
  ((x == Str.ofString "quota") == false &&
  ([Str.ofString "lrm", Str.ofString "hamilton", Str.ofString "largest_remainder"].any (· == x) == false &&
  [Str.ofString "dhondt", Str.ofString "jefferson", Str.ofString "saintelague", Str.ofString "webster", Str.ofString "modified_saintelague", Str.ofString "huntington", Str.ofString "hill", Str.ofString "adams", Str.ofString "dean", Str.ofString "smallestdivisor", Str.ofString "harmonicmean", Str.ofString "equalproportions", Str.ofString "majorfractions", Str.ofString "greatestdivisors"].any (· == x) == true)))))))
theorem grpC_of {g : Nat} {x : Str} (h : grpB g x = true) : GrpC g x := by
  unfold grpB at h
  simp only [Bool.and_eq_true, beq_iff_eq] at h
  obtain ⟨a0, a1, a2, a3, a4, a5, a6, a7, a8⟩ := h
  exact ⟨⟨a0, a1, a2, a3, a4, a5⟩, a6, a7, a8⟩
theorem use_of {h₀ h h' : Heap} {L r : Addr} {m : Str → Option Value} {news : List (Addr × Obj)} {o : Obj} (hF : Fr h₀ L h m) (hN : News h₀ L h news) (keep : ∀ b o, h.get? b = some o → h'.get? b = some o) (fresh : h.get? r = none) (get : h'.get? r = some o) :
    Fr h₀ L h' m ∧ News h₀ L h' ((r, o) :: news) ∧ LCg.Off1 r news := by
  refine ⟨hF.keeps keep, fun p hp => ?_, off1_of fun p hp e => ?_⟩
  · rcases List.mem_cons.mp hp with rfl | hp
    · refine ⟨get, fun e => ?_, ?_⟩
      · obtain ⟨oL, _, _, hL, _⟩ := hF.ns
        have e' : r = L := e
        rw [e', hL] at fresh; cases fresh
      · cases q : h₀.get? r with
        | none => rfl
        | some o => have := hF.keep _ _ q; rw [fresh] at this; cases this
    · exact ⟨keep _ _ (hN p hp).1, (hN p hp).2⟩
  · have h1 := (hN p hp).1
    rw [e, fresh] at h1; cases h1
theorem nn_small {rs : List Int} {n : Nat} (h : ∀ i, i < rs.length → 0 ≤ rs.getD i 0) (hs : rs.sum = (n : Int)) (hn : n ≤ 9) : ∀ x ∈ rs, small x := fun x hx => by
  obtain ⟨i, hi, e⟩ := List.mem_iff_getElem.mp hx
  have e1 : rs.getD i 0 = x := by rw [List.getD_eq_getElem?_getD, List.getElem?_eq_getElem hi, e]; rfl
  have h1 := h i hi
  have h2 : rs.getD i 0 ≤ rs.sum := by
    rw [sum_SS]
    exact SS_ge (f := fun k => rs.getD k 0) (fun k hk => h k hk) hi
  rw [e1] at h1 h2
  exact small_of h1 (by omega)
theorem lr_nn {ns rs : List Int} {n : Nat} (q : LrR ns n rs) (hv : ∀ x ∈ ns, 0 < x) (hT : 0 < ns.sum) : ∀ i, i < rs.length → 0 ≤ rs.getD i 0 := fun i hi => by
  have h := q.low i (by rw [← q.len]; exact hi)
  rw [q.sum] at h
  have hp : 0 ≤ ns.getD i 0 := getD_pos (fun x hx => Int.le_of_lt (hv x hx)) i
  have h2 : 0 ≤ ns.getD i 0 * (n : Int) := Int.mul_nonneg hp (by omega)
  refine Int.not_lt.mp fun hn => ?_
  have h3 : rs.getD i 0 * ns.sum ≤ (-1) * ns.sum := Int.mul_le_mul_of_nonneg_right (by omega) (Int.le_of_lt hT)
  omega
theorem div_nn {ns rs : List Int} {g n : Nat} (q : DivR ns g n rs) : ∀ i, i < rs.length → 0 ≤ rs.getD i 0 := fun i hi => by
  obtain ⟨c, c0, hc, _⟩ := q.opt
  rw [hc i (by rw [← q.len]; exact hi)]
  have := c0 i
  have hz : rz g = 0 ∨ rz g = 1 := by unfold rz; split <;> simp
  omega
theorem foldl_id (l : List Int) (a : List Int) : l.foldl (fun l _ => l) a = a := by
  induction l generalizing a with
  | nil => rfl
  | cons x r ih => exact ih a
theorem low_of {ns rs : List Int} {n : Nat} {r M m : Int} (h : DivR ns r.toNat n rs) (f : Far ns rs M m) (h0 : 0 ≤ r) (h6 : r < 6) (hv : ∀ x ∈ ns, 0 < x) (hl : 0 < ns.length) : r = 0 ∨ ns.length < 3 ∨ (r = 1 ∧ ns.length = 3) → -ns.sum < m := fun c => by
  have hv' : ∀ k, k < ns.length → 0 < ns.getD k 0 := fun k hk => by rw [List.getD_eq_getElem?_getD, List.getElem?_eq_getElem hk]; exact hv _ (List.getElem_mem hk)
  rcases c with c | c | ⟨c, d⟩
  · subst c; exact f.low (DivR.jeff h hv' hl)
  · exact f.low (h.two (by omega) hv' hl c).1
  · subst c; exact f.low (DivR.web h hv' d).1
theorem up_of {ns rs : List Int} {n : Nat} {r M m : Int} (h : DivR ns r.toNat n rs) (f : Far ns rs M m) (h0 : 0 ≤ r) (h6 : r < 6) (hv : ∀ x ∈ ns, 0 < x) (hl : 0 < ns.length) : r = 4 ∨ ns.length < 3 ∨ (r = 1 ∧ ns.length = 3) → M < ns.sum := fun c => by
  have hv' : ∀ k, k < ns.length → 0 < ns.getD k 0 := fun k hk => by rw [List.getD_eq_getElem?_getD, List.getElem?_eq_getElem hk]; exact hv _ (List.getElem_mem hk)
  rcases c with c | c | ⟨c, d⟩
  · subst c; exact f.up (DivR.adams h hv' hl)
  · exact f.up (h.two (by omega) hv' hl c).2
  · subst c; exact f.up (DivR.web h hv' d).2

theorem news_keep3 {h₀ h : Heap} {L : Addr} {a b c d e : Addr × Obj} (N : News h₀ L h [a, b, c, d, e]) : News h₀ L h [b, c, d, e] := fun p hp => N p (.tail _ hp)


theorem item_fmod {prog : Program} {w : World} {A : Around} {E : Value → Shared → Prop} {s : Shared} {value slice : PySem.Expr} {l : Addr} {vs : List Value} {x m : Int} {u : Tok} {Q : Value → Shared → Prop}
    (hl : s.heap.IsList l vs.toArray) (hm : 0 < m) (h6 : m < 100) (hn : m = (vs.length : Int)) (h : ∀ v, v ∈ vs → Q v s)
    (hs : subscripted slice false (.ref l) (.int (x.fmod m) u) = operate [.ref l, .int (x.fmod m) u] (getItem (.ref l) (.int (x.fmod m) u))) :
    wpAny (model prog w) A (subscriptTail value slice (.ref l) (.int (x.fmod m) u)) Q E s := by
  have f := (fdiv_fmod_facts x m).2.2.1 hm
  have hlt : (x.fmod m).toNat < vs.length := by omega
  exact my_item hl (by omega) (by omega) (List.getElem?_eq_getElem hlt) (h _ (List.getElem_mem hlt)) hs
theorem top_list {h₀ h : Heap} {L t : Addr} {m : Str → Option Value} {K : Frag} {items : Array Value} {n : Nat} {d : Option Addr} {sl : Array (Option Value)} (F : Fr h₀ L h m) (X : K.In h₀) (ho : K.lookup t = some { cls := .type "list", dict := d, data := .seq items n, slots := sl }) : h.IsList t items :=
  ⟨_, (X.keeps F.keep) _ _ ho, rfl, _, rfl⟩
theorem six {r : Int} (h0 : 0 ≤ r) (h6 : r < 6) : r = 0 ∨ r = 1 ∨ r = 2 ∨ r = 3 ∨ r = 4 ∨ r = 5 := by lia
theorem names_at {h₀ h : Heap} {L : Addr} {m : Str → Option Value} {w : World} (F : Fr h₀ L h m) (X : (hd.heap_39 w.params).In h₀) {r : Int} (h0 : 0 ≤ r) (h6 : r < 6) :
    ∃ vs : List Value, h.IsList (75 + r.toNat) vs.toArray ∧ 0 < vs.length ∧ vs.length ≤ 3 ∧ ∀ v ∈ vs, ∃ x t, v = .str x t ∧ GrpC r.toNat x := by
  ((w_top off); (have hfill : PySem.Challenge.rw_jd0003_02.row.prog = PySem.Challenge.rw_jd0003_02.row.prog ∧ hd.heap_39 = hd.heap_39 := (by k_fill; exact ⟨rfl, rfl⟩); clear hfill))
  obtain rfl | rfl | rfl | rfl | rfl | rfl : r = 0 ∨ r = 1 ∨ r = 2 ∨ r = 3 ∨ r = 4 ∨ r = 5 := six h0 h6
  · exact ⟨_, top_list (t := 75) F X (by k_is), by decide, by decide, fun v hv => by simp only [List.mem_cons, List.not_mem_nil, or_false] at hv; rcases hv with rfl | rfl | rfl <;> exact ⟨_, _, rfl, grpC_of (by decide +kernel)⟩⟩
  · exact ⟨_, top_list (t := 76) F X (by k_is), by decide, by decide, fun v hv => by simp only [List.mem_cons, List.not_mem_nil, or_false] at hv; rcases hv with rfl | rfl | rfl <;> exact ⟨_, _, rfl, grpC_of (by decide +kernel)⟩⟩
  · exact ⟨_, top_list (t := 77) F X (by k_is), by decide, by decide, fun v hv => by simp only [List.mem_cons, List.not_mem_nil, or_false] at hv; rcases hv with rfl; exact ⟨_, _, rfl, grpC_of (by decide +kernel)⟩⟩
  · exact ⟨_, top_list (t := 78) F X (by k_is), by decide, by decide, fun v hv => by simp only [List.mem_cons, List.not_mem_nil, or_false] at hv; rcases hv with rfl | rfl | rfl <;> exact ⟨_, _, rfl, grpC_of (by decide +kernel)⟩⟩
  · exact ⟨_, top_list (t := 79) F X (by k_is), by decide, by decide, fun v hv => by simp only [List.mem_cons, List.not_mem_nil, or_false] at hv; rcases hv with rfl | rfl <;> exact ⟨_, _, rfl, grpC_of (by decide +kernel)⟩⟩
  · exact ⟨_, top_list (t := 80) F X (by k_is), by decide, by decide, fun v hv => by simp only [List.mem_cons, List.not_mem_nil, or_false] at hv; rcases hv with rfl | rfl <;> exact ⟨_, _, rfl, grpC_of (by decide +kernel)⟩⟩
def nmA : List Value := [.ref 75, .ref 76, .ref 77, .ref 78, .ref 79, .ref 80]
theorem names_top {s : Shared} {h₀ : Heap} {L : Addr} {m : Str → Option Value} {w : World} (F : Fr h₀ L s.heap m) (X : (hd.heap_39 w.params).In h₀) : s.heap.IsList 81 nmA.toArray := by
  ((w_top off); (have hfill : PySem.Challenge.rw_jd0003_02.row.prog = PySem.Challenge.rw_jd0003_02.row.prog ∧ hd.heap_39 = hd.heap_39 := (by k_fill; exact ⟨rfl, rfl⟩); clear hfill))
  exact top_list F X (by k_is)
theorem nm_at {r : Int} (h0 : 0 ≤ r) (h6 : r < 6) : nmA[r.toNat]? = some (Value.ref (75 + r.toNat)) := by
  obtain rfl | rfl | rfl | rfl | rfl | rfl : r = 0 ∨ r = 1 ∨ r = 2 ∨ r = 3 ∨ r = 4 ∨ r = 5 := six h0 h6
  all_goals rfl
theorem my_len {prog : Program} {w : World} {A : Around} {E : Value → Shared → Prop} {s : Shared} {l : Addr} {vs : List Value} {Q : Value → Shared → Prop} (hl : s.heap.IsList l vs.toArray) (hz : vs.length ≤ 3)
    (h : Q (.int (vs.length : Int) (s.toks + 1)) { s with toks := s.toks + 1 + 1 }) : wpAny (model prog w) A (call (.builtin "len") [.ref l]) Q E s :=
  len_list hl (by rw [List.size_toArray]; omega) (by rw [List.size_toArray]; exact h)
local macro_rules | `(tactic| walk_at "subscriptTail") => `(tactic| (k_here; (with_reducible show wpAny _ _ (subscriptTail _ _ (Value.ref _) (Value.int (Int.fmod _ _) _)) _ _ _); (with_unfolding_all refine' item_fmod ?k1 ?k2 ?k4 ?k3 ?_ ?k6; (case k1 => assumption); (case k2 => omega); (case k4 => omega); (case k3 => rfl); (case k6 => with_unfolding_all rfl); k_whole; intro v9 hv9)))
local macro_rules | `(tactic| walk_at "subscriptTail") => `(tactic| (k_here; (with_reducible show wpAny _ _ (subscriptTail _ _ (Value.ref 81) _) _ _ _); (with_unfolding_all refine' my_item ?k1 ?k2 ?k3 ?k4 ?_ ?k6; (case k1 => exact names_top (by k_asm) (by k_asm)); (case k2 => omega); (case k3 => omega); (case k4 => assumption); (case k6 => with_unfolding_all rfl); k_whole)))
local macro_rules | `(tactic| walk_at "call builtin:len") => `(tactic| (k_here; (with_reducible show wpAny _ _ (call (Value.builtin "len") [Value.ref (75 + _)]) _ _ _); (refine my_len (by assumption) (by assumption) ?_)))
theorem holds : PySem.Challenge.rw_jd0003_02.Holds := hd (by
  k_go0
  (try k_unmd); (try k_fold)
  rename Fr _ _ _ _ => F00
  have F0 : Fr _ _ _ (mset (Str.ofString "script") _ mnone) := F00
  clear F00
  have j1 := jm 1
  (repeat' (first | ((fail_if_success (with_reducible show Stop _)); (fail_if_success (with_reducible show Halt _)); (first | (k_unfold; (try dsimp only)) | walk1 | (dsimp only; walk1)))))
  refine unstop ?_
  rename Fr _ _ _ _ => F1
  rename News _ _ _ _ => N1
  refine join_int F1 N1 ?_ ?_
  ·
    (repeat' (first | ((fail_if_success (with_reducible show Stop _)); (fail_if_success (with_reducible show Halt _)); (first | (k_unfold; (try dsimp only)) | walk1 | (dsimp only; walk1)))))
    all_goals (refine unstop ?_; exact ⟨_, _, _, _, rfl, rfl, by assumption, by assumption, trivial⟩)
  clear F1 N1
  intro hd1 thd hh1 tk1 F1 N1
  have j6 := jm 6
  (repeat' (first | ((fail_if_success (with_reducible show Stop _)); (fail_if_success (with_reducible show Halt _)); (first | (k_unfold; (try dsimp only)) | walk1 | (dsimp only; walk1)))))
  refine unstop ?_
  rename Fr _ _ _ _ => F1
  rename News _ _ _ _ => N1
  refine join_intP (fun i => 1 ≤ i ∧ i ≤ 4) F1 N1 ?_ ?_
  ·
    (repeat' (first | ((fail_if_success (with_reducible show Stop _)); (fail_if_success (with_reducible show Halt _)); (first | (k_unfold; (try dsimp only)) | walk1 | (dsimp only; walk1)))))
    all_goals (exact ⟨_, _, _, _, rfl, rfl, by assumption, by assumption, by first | omega | (split <;> (try split) <;> omega)⟩)
  clear F1 N1
  intro P tP hh2 tk2 F1 N1 hP
  have j2 := jm 2
  (repeat' (first | ((fail_if_success (with_reducible show Stop _)); (fail_if_success (with_reducible show Halt _)); (first | (k_unfold; (try dsimp only)) | walk1 | (dsimp only; walk1)))))
  refine unstop ?_
  rename Fr _ _ _ _ => F1
  rename News _ _ _ _ => N1
  refine join_list (fun ns => 0 < ns.length ∧ (ns.length : Int) ≤ P ∧ ∀ x ∈ ns, 0 < x ∧ small x) F1 N1 ?_ ?_
  ·
    (repeat' (first | ((fail_if_success (with_reducible show Stop _)); (fail_if_success (with_reducible show Halt _)); (first | (k_unfold; (try dsimp only)) | walk1 | (dsimp only; walk1)))))
    refine unstop ?_
    (k_dflt (refine' LCg.ListComp_U ?FZ ?clZ ?ceZ ?kiZ ?naZ ?hxZ ?_; (case kiZ => rfl); (case FZ => k_asm); (case ceZ => decide); (case clZ => with_unfolding_all rfl); (case naZ => decide); (case hxZ => rfl)))
    (repeat' (first | ((fail_if_success (with_reducible show Stop _)); (fail_if_success (with_reducible show Halt _)); (first | (k_unfold; (try dsimp only)) | walk1 | (dsimp only; walk1)))))
    refine unstop ?_
    rename IntsAre _ (List.take _ _) => hI0
    rename PyData.layable0 _ = true => hlay
    obtain ⟨sl, hI, hl5, hb5⟩ : ∃ sl, IntsAre _ sl ∧ (sl.length : Int) ≤ P ∧ ∀ x ∈ sl, PySem.Builtin.Int.intBits x ≤ 1048576 := ⟨_, hI0, take_le2 (by omega) hlay⟩
    have hln := hI.length
    clear hI0 hlay
    (((rename Fr _ _ _ _ => hF); (rename News _ _ _ _ => hN); refine LCg.CompSrc.ledger (by rfl) hF hN (by k_mem) (by (simp only [List.size_toArray]; rw [PySem.sizeLine_eq]; omega)) ?_; clear hF hN; intro g9))
    refine kcf_list (fun n => (if n < 0 then -n else n) + 1) hI ?t1 ?d1
    case t1 =>
      intro i ti I oI C oC D m₂ ys hh tk E' hmem hC hx hF hN off ne mk
      refine Mine.cut ?_; intro _ _
      (repeat' (first | ((fail_if_success (with_reducible show Stop _)); (fail_if_success (with_reducible show Halt _)); (first | (k_unfold; (try dsimp only)) | walk1 | (dsimp only; walk1)))))
      refine resume (by assumption) ?_
      exact LCg.CompEnd.intro (by assumption) (by assumption) _ (by kcf_all) off (Or.inr ⟨_, .head _, rfl, _, rfl⟩) ⟨rfl, _, rfl⟩
    case d1 =>
      intro ys hys
      obtain ⟨qs, hqs⟩ : ∃ qs, qs = List.map (fun n : Int => (if n < 0 then -n else n) + 1) sl := ⟨_, rfl⟩
      rw [← hqs] at hys
      have hql : (qs.length : Int) ≤ P := by rw [hqs, List.length_map]; exact hl5
      have hq0 : ∀ x ∈ qs, 0 < x ∧ small x := by
        intro x hx
        rw [hqs] at hx
        obtain ⟨y, hy, rfl⟩ := List.mem_map.mp hx
        exact ⟨by split <;> omega, bits_abs1 (hb5 y hy)⟩
      unfold LCg.FinE
      intro D2 h2 tk2 F2 N2 o2
      simp only [LCg.Off1, and_true] at o2
      (repeat (obtain ⟨_, o2⟩ := o2))
      (repeat' (first | ((fail_if_success (with_reducible show Stop _)); (fail_if_success (with_reducible show Halt _)); (first | (k_unfold; (try dsimp only)) | walk1 | (dsimp only; walk1)))))
      · exact unstop ⟨D2, _, ys, qs, _, _, rfl, rfl, by assumption, kst_newsOf N2 (by (first | kst_in | kst_inAny | (intro p hp; kst_mem) | kst_anyIn)), hys, by assumption, hql, hq0⟩
      · rename_i l9 h9 F9 N9 lt9
        exact unstop ⟨l9, 0, [Value.int 1 _], [1], _, _, rfl, rfl, F9, kst_newsOf N9 (by (first | kst_in | kst_inAny | (intro p hp; kst_mem) | kst_anyIn)), .cons _ _ .nil, by decide, by simp only [List.length_cons, List.length_nil]; omega, fun x hx => by rw [List.mem_singleton.mp hx]; exact ⟨by decide, by unfold small; decide⟩⟩
  clear F1 N1
  intro lv cv vs ns hh3 tk3 F1 N1 hi hP2
  obtain ⟨hp1, hp2, hp3⟩ := hP2
  (repeat' (first | ((fail_if_success (with_reducible show Stop _)); (fail_if_success (with_reducible show Halt _)); (first | (k_unfold; (try dsimp only)) | walk1 | (dsimp only; walk1)))))
  refine unstop ?_
  rename IntsAre _ (ns ++ _) => hv
  rename Fr _ _ _ _ => F2
  rename News _ _ _ _ => N2
  obtain ⟨vt, hvt⟩ : ∃ vt, vt = ns ++ (List.replicate (P - ↑ns.length).toNat [1]).flatten := ⟨_, rfl⟩
  rw [← hvt] at hv F2
  obtain ⟨hvl, hvm⟩ := pad_len hp2 hvt
  have hvp : ∀ x ∈ vt, 0 < x ∧ small x := fun x hx => by
    rcases hvm x hx with h | h
    · exact hp3 x h
    · rw [h]; exact ⟨by decide, small_one'⟩
  have hvs := sum_pos' (fun x hx => (hvp x hx).1) (show 0 < vt.length by omega)
  have N3 := news_keep1 N2
  clear N2 hvt hvm hp1 hp2 hp3 hi
  rename (_ < _ ∧ _) => hlv
  have nl1 := Nat.ne_of_lt hlv.2.2.2.1
  have nl2 := Nat.ne_of_lt hlv.2.2.2.2.1
  have nl3 := Nat.ne_of_lt hlv.2.2.2.2.2
  clear hlv
  (repeat (rename (_ < _ ∧ _ < _) => q9; clear q9))
  (repeat (rename (_ < _ ∧ _ < _ ∧ _) => q9; clear q9))
  (try (rename (_ < 0 → _) => q9; clear q9))
  (try (rename (0 ≤ _ → _) => q9; clear q9))
  (k_dflt (refine' LCg.Assign_ListComp_U ?FZ ?eZ ?swZ ?clZ ?ceZ ?kiZ ?naZ ?hxZ ?hyZ ?hpZ ?_; (case hyZ => rfl); (case FZ => k_asm); (case eZ => exact rfl); (case swZ => with_unfolding_all rfl); (case clZ => with_unfolding_all rfl); (case ceZ => decide); (case kiZ => rfl); (case naZ => decide); (case hxZ => rfl); (case hpZ => rfl)))
  (repeat' (first | ((fail_if_success (with_reducible show Stop _)); (fail_if_success (with_reducible show Halt _)); (first | (k_unfold; (try dsimp only)) | walk1 | (dsimp only; walk1)))))
  refine unstop ?_
  rename IntsAre _ (List.take _ _) => hI0
  rename PyData.layable0 _ = true => hlay
  obtain ⟨sl, hI, hl5, hb5⟩ : ∃ sl, IntsAre _ sl ∧ (sl.length : Int) ≤ P ∧ ∀ x ∈ sl, PySem.Builtin.Int.intBits x ≤ 1048576 := ⟨_, hI0, take_le2 (by omega) hlay⟩
  have hln := hI.length
  clear hI0 hlay
  (((rename Fr _ _ _ _ => hF); (rename News _ _ _ _ => hN); refine LCg.CompSrc.ledger (by rfl) hF hN (by k_mem) (by (simp only [List.size_toArray]; rw [PySem.sizeLine_eq]; omega)) ?_; clear hF hN; intro g9))
  refine kcf_list (fun n => if hd1.fmod 2 = 0 then (if n < 0 then -n else n).fmod 5 else (if n < 0 then -n else n)) hI ?t2 ?d2
  case t2 =>
    intro i ti I oI C oC D m₂ ys hh tk E' hmem hC hx hF hN off ne mk
    refine Mine.cut ?_; intro _ _
    (repeat' (first | ((fail_if_success (with_reducible show Stop _)); (fail_if_success (with_reducible show Halt _)); (first | (k_unfold; (try dsimp only)) | walk1 | (dsimp only; walk1)))))
    all_goals (refine resume (by assumption) ?_; refine LCg.CompEnd.intro (by assumption) (by assumption) _ (by kcf_all) off (Or.inr ⟨_, .head _, rfl, _, rfl⟩) ⟨rfl, ?_⟩)
    all_goals first
      | exact ⟨_, by rw [if_neg (show ¬ hd1.fmod 2 = 0 by assumption)]⟩
      | exact ⟨_, by rw [if_pos (show hd1.fmod 2 = 0 by assumption)]⟩
  case d2 =>
    intro ys hys
    obtain ⟨qs, hqs⟩ : ∃ qs, qs = List.map (fun n : Int => if hd1.fmod 2 = 0 then (if n < 0 then -n else n).fmod 5 else (if n < 0 then -n else n)) sl := ⟨_, rfl⟩
    rw [← hqs] at hys
    have hql : (qs.length : Int) ≤ P := by rw [hqs, List.length_map]; exact hl5
    have hq0 : ∀ x ∈ qs, small x := by
      intro x hx
      rw [hqs] at hx
      obtain ⟨y, hy, rfl⟩ := List.mem_map.mp hx
      exact bits_oth (hb5 y hy)
    unfold LCg.FinA
    intro D2 h2 tk2 F2 N2 o2
    simp only [LCg.Off1, and_true] at o2
    (repeat (obtain ⟨_, o2⟩ := o2))
    (repeat' (first | ((fail_if_success (with_reducible show Stop _)); (fail_if_success (with_reducible show Halt _)); (first | (k_unfold; (try dsimp only)) | walk1 | (dsimp only; walk1)))))
    refine unstop ?_
    rename IntsAre _ (qs ++ _) => hov
    rename News _ _ _ _ => N4
    obtain ⟨ot, hot⟩ : ∃ ot, ot = qs ++ (List.replicate (P - ↑qs.length).toNat [1]).flatten := ⟨_, rfl⟩
    rw [← hot] at hov
    obtain ⟨hol, hom⟩ := pad_len hql hot
    have hos : ∀ x ∈ ot, small x := fun x hx => by
      rcases hom x hx with h | h
      · exact hq0 x h
      · rw [h]; exact small_one'
    have hrl : ot.length = vt.length := by omega
    obtain ⟨hmul1, hmul2⟩ := mul_small (fun x hx => (hvp x hx).2) hos (by omega) hrl
    have N5 := news_keep2 N4
    clear N4 hot hom hq0 hql hqs hb5 hl5
    (repeat (rename (_ < _ ∧ _ < _ ∧ _) => q9; clear q9))
    (try (rename (_ < 0 → _) => q9; clear q9))
    (try (rename (0 ≤ _ → _) => q9; clear q9))
    (try (rename (List.length (List.take _ _) = _) => q9; clear q9))
    (try (rename (List.length (List.take _ _) ≤ _) => q9; clear q9))
    (try (rename (List.length (List.flatten _) = _) => q9; clear q9))
    (((with_reducible show wpAny _ _ (call (Value.ref 86) [_, _]) _ _ _); (k_dflt (refine' far_use ?k1Z ?k2Z ?k3Z ?k5Z ?k4Z ?kKZ ?kdZ ?kuZ ?kmZ ?knZ ?kiZ ?kjZ ?klZ ?k0Z ?kpZ ?kzZ ?_; (case k1Z => k_asm); (case k2Z => k_asm); (case k3Z => k_asm); (case k5Z => k_asm); (case k4Z => k_asm); (case kKZ => exact rfl); (case kdZ => ktr_room); (case kuZ => ktr_units); (case kmZ => k_mem); (case knZ => k_mem); (case kiZ => assumption); (case kjZ => assumption); (case klZ => omega); (case k0Z => omega); (case kpZ => assumption); (case kzZ => assumption)))))
    intro r9 h9 tk9 M9 m9 t1 t2 F9 N9 o9 hfar
    (try dsimp only)
    have j3 := jm 3
    (repeat' (first | ((fail_if_success (with_reducible show Stop _)); (fail_if_success (with_reducible show Halt _)); (first | (k_unfold; (try dsimp only)) | walk1 | (dsimp only; walk1)))))
    refine unstop ?_
    rename Fr _ _ _ _ => F2
    rename News _ _ _ _ => N2
    have N3 := news_tail N2
    clear N2
    refine join_keep F2 N3 ?_ ?_
    ·
      (repeat' (first | ((fail_if_success (with_reducible show Stop _)); (fail_if_success (with_reducible show Halt _)); (first | (k_unfold; (try dsimp only)) | walk1 | (dsimp only; walk1)))))
      refine unstop ?_
      (((with_reducible show wpAny _ _ (call (Value.ref 49) [_, _]) _ _ _); (k_dflt (refine' within_use ?k1Z ?k2Z ?k3Z ?k5Z ?k4Z ?kKZ ?kdZ ?kuZ ?kmZ ?knZ ?kiZ ?kjZ ?klZ ?k0Z ?kpZ ?ksZ ?kzZ ?_; (case k1Z => k_asm); (case k2Z => k_asm); (case k3Z => k_asm); (case k5Z => k_asm); (case k4Z => k_asm); (case kKZ => exact rfl); (case kdZ => ktr_room); (case kuZ => ktr_units); (case kmZ => k_mem); (case knZ => k_mem); (case kiZ => assumption); (case kjZ => assumption); (case klZ => omega); (case k0Z => omega); (case kpZ => assumption); (case ksZ => assumption); (case kzZ => assumption)))))
      intro h8 tk8 F8 N8
      rw [hfar.within hvs]
      (try dsimp only)
      (repeat' (first | ((fail_if_success (with_reducible show Stop _)); (fail_if_success (with_reducible show Halt _)); (first | (k_unfold; (try dsimp only)) | walk1 | (dsimp only; walk1)))))
      all_goals first
        | exact unstop ⟨rfl, _, _, rfl, by assumption, by assumption⟩
        | (exfalso; rename (_ != _) = true => e; first
            | (rw [decide_eq_true (by assumption), Bool.true_and, bne_self_eq_false] at e; cases e)
            | (rw [decide_eq_false (by assumption), Bool.false_and] at e; cases e))
    clear F2 N3
    intro h2 tk2 F2 N2
    clear hos hmul1 hmul2 hfar hov hrl hol
    have j1 := jm 1
    (repeat' (first | ((fail_if_success (with_reducible show Stop _)); (fail_if_success (with_reducible show Halt _)); (first | (k_unfold; (try dsimp only)) | walk1 | (dsimp only; walk1)))))
    refine unstop ?_
    rename Fr _ _ _ _ => F3
    rename News _ _ _ _ => N3
    refine join_intP (fun i => 0 ≤ i ∧ i ≤ 4) F3 N3 ?_ ?_
    ·
      (repeat' (first | ((fail_if_success (with_reducible show Stop _)); (fail_if_success (with_reducible show Halt _)); (first | (k_unfold; (try dsimp only)) | walk1 | (dsimp only; walk1)))))
      all_goals first
        | exact ⟨_, _, _, _, rfl, rfl, by assumption, by assumption, by omega⟩
        | exact ⟨_, _, _, _, rfl, rfl, by assumption, by assumption, fmod5 _⟩
    clear F3 N3
    intro sx tsx h3 tk3 F3 N3 hsx
    have j7 := jm 7
    (repeat' (first | ((fail_if_success (with_reducible show Stop _)); (fail_if_success (with_reducible show Halt _)); (first | (k_unfold; (try dsimp only)) | walk1 | (dsimp only; walk1)))))
    refine unstop ?_
    rename Fr _ _ _ _ => F4
    rename News _ _ _ _ => N4
    obtain ⟨n, hn⟩ : ∃ n : Nat, P + sx = (n : Int) := ⟨(P + sx).toNat, by omega⟩
    have hvn : vt.length ≤ n ∧ n ≤ 8 := by omega
    rw [hn] at F4
    clear hn hsx
    have N5 := news_keep3 N4
    clear N4
    refine join_intP (fun i => 0 ≤ i ∧ i ≤ 7) F4 N5 ?_ ?_
    · (repeat' (first | ((fail_if_success (with_reducible show Stop _)); (fail_if_success (with_reducible show Halt _)); (first | (k_unfold; (try dsimp only)) | walk1 | (dsimp only; walk1)))))
      exact ⟨_, _, _, _, rfl, rfl, by assumption, by assumption, fmod8 _⟩
    clear F4 N5
    intro r tr h4 tk4 F4 N4 hr
    have hvv : ∀ x ∈ vt, 0 < x := fun x hx => (hvp x hx).1
    have hvb : ∀ x ∈ vt, small x := fun x hx => (hvp x hx).2
    have j8 := jm 8
    (repeat' (first | ((fail_if_success (with_reducible show Stop _)); (fail_if_success (with_reducible show Halt _)); (first | (k_unfold; (try dsimp only)) | walk1 | (dsimp only; walk1)))))
    ·
      refine unstop ?_
      (repeat' (first | ((fail_if_success (with_reducible show Stop _)); (fail_if_success (with_reducible show Halt _)); (first | (k_unfold; (try dsimp only)) | walk1 | (dsimp only; walk1)))))
      · refine unstop ?_
        rename Fr _ _ _ _ => F5
        rename News _ _ _ _ => N5
        with_unfolding_all refine comp_lr (n := n) (by k_asm) (by k_asm) (by k_asm) (by k_asm) rfl (by ktr_room) (by ktr_units)  (News.isList (by k_asm) (by k_mem)) hv (by omega) (by omega) hvv hvs hvb (by omega) (by omega) (Bd.of (by k_is) (by first | exact BindsTo.of_eq rfl | exact binds_K (by k_in) rfl (by k_is) rfl rfl rfl)) ?_
        intro r5 rv5 rs cp5 h5 tk5 keep5 fresh5 get5 hri hq
        have hq : LrR vt n rs := hq
        obtain ⟨F6, N6, o6⟩ := use_of F5 N5 keep5 fresh5 get5
        clear F5 N5 keep5 fresh5 get5
        simp only [LCg.Off1, and_true] at o6
        (repeat (obtain ⟨_, o6⟩ := o6))
        have hrsum := hq.sum
        have hrl : rs.length = vt.length := hq.len
        obtain ⟨hmul1, hmul2⟩ := mul_small hvb (nn_small (lr_nn hq hvv hvs) hq.sum (by omega)) (by omega) hrl
        (try dsimp only)
        (repeat' (first | ((fail_if_success (with_reducible show Stop _)); (fail_if_success (with_reducible show Halt _)); (first | (k_unfold; (try dsimp only)) | walk1 | (dsimp only; walk1)))))
        refine unstop ?_
        (((with_reducible show wpAny _ _ (call (Value.ref 86) [_, _]) _ _ _); (k_dflt (refine' far_use ?k1Z ?k2Z ?k3Z ?k5Z ?k4Z ?kKZ ?kdZ ?kuZ ?kmZ ?knZ ?kiZ ?kjZ ?klZ ?k0Z ?kpZ ?kzZ ?_; (case k1Z => k_asm); (case k2Z => k_asm); (case k3Z => k_asm); (case k5Z => k_asm); (case k4Z => k_asm); (case kKZ => exact rfl); (case kdZ => ktr_room); (case kuZ => ktr_units); (case kmZ => k_mem); (case knZ => k_mem); (case kiZ => assumption); (case kjZ => assumption); (case klZ => omega); (case k0Z => omega); (case kpZ => assumption); (case kzZ => assumption)))))
        intro r9 h9 tk9 M9 m9 t1 t2 F9 N9 o9 hfar
        have hM := hfar.up hq.up
        have hm := hfar.low hq.low
        (try dsimp only)
        (repeat' (first | ((fail_if_success (with_reducible show Stop _)); (fail_if_success (with_reducible show Halt _)); (first | (k_unfold; (try dsimp only)) | walk1 | (dsimp only; walk1)))))
        refine unstop ?_
        (((with_reducible show wpAny _ _ (call (Value.ref 49) [_, _]) _ _ _); (k_dflt (refine' within_use ?k1Z ?k2Z ?k3Z ?k5Z ?k4Z ?kKZ ?kdZ ?kuZ ?kmZ ?knZ ?kiZ ?kjZ ?klZ ?k0Z ?kpZ ?ksZ ?kzZ ?_; (case k1Z => k_asm); (case k2Z => k_asm); (case k3Z => k_asm); (case k5Z => k_asm); (case k4Z => k_asm); (case kKZ => exact rfl); (case kdZ => ktr_room); (case kuZ => ktr_units); (case kmZ => k_mem); (case knZ => k_mem); (case kiZ => assumption); (case kjZ => assumption); (case klZ => omega); (case k0Z => omega); (case kpZ => assumption); (case ksZ => assumption); (case kzZ => assumption)))))
        intro h8 tk8 F8 N8
        rw [hfar.within hvs, decide_eq_true hM, decide_eq_true hm]
        (try dsimp only)
        (repeat' (first | ((fail_if_success (with_reducible show Stop _)); (fail_if_success (with_reducible show Halt _)); (first | (k_unfold; (try dsimp only)) | walk1 | (dsimp only; walk1)))))
        all_goals first
          | (exfalso; omega)
          | (((try dsimp only); (try k_unfold); (try dsimp only); (try simp only [Bool.and_self, beq_self_eq_true]); w_end; exact goodW_bool (by assumption) (by assumption) (raisesW_false (by wrow_none_raised)) (postW_of rfl (w_eq_bool (w_res rfl) w_lit) rfl)))
      · refine unstop ?_
        rename Fr _ _ _ _ => F5
        rename News _ _ _ _ => N5
        with_unfolding_all refine comp_qt (n := n) (by k_asm) (by k_asm) (by k_asm) (by k_asm) rfl (by ktr_room) (by ktr_units)  (News.isList (by k_asm) (by k_mem)) hv (by omega) (by omega) hvv hvs hvb (by omega) (by omega) (Bd.of (by k_is) (by first | exact BindsTo.of_eq rfl | exact binds_K (by k_in) rfl (by k_is) rfl rfl rfl)) ?_
        intro r5 rv5 rs cp5 h5 tk5 keep5 fresh5 get5 hri hq
        have hq : LrR vt n rs := QR.lr hq (fun x hx => Int.le_of_lt (hvv x hx)) hvs
        obtain ⟨F6, N6, o6⟩ := use_of F5 N5 keep5 fresh5 get5
        clear F5 N5 keep5 fresh5 get5
        simp only [LCg.Off1, and_true] at o6
        (repeat (obtain ⟨_, o6⟩ := o6))
        have hrsum := hq.sum
        have hrl : rs.length = vt.length := hq.len
        obtain ⟨hmul1, hmul2⟩ := mul_small hvb (nn_small (lr_nn hq hvv hvs) hq.sum (by omega)) (by omega) hrl
        (try dsimp only)
        (repeat' (first | ((fail_if_success (with_reducible show Stop _)); (fail_if_success (with_reducible show Halt _)); (first | (k_unfold; (try dsimp only)) | walk1 | (dsimp only; walk1)))))
        refine unstop ?_
        (((with_reducible show wpAny _ _ (call (Value.ref 86) [_, _]) _ _ _); (k_dflt (refine' far_use ?k1Z ?k2Z ?k3Z ?k5Z ?k4Z ?kKZ ?kdZ ?kuZ ?kmZ ?knZ ?kiZ ?kjZ ?klZ ?k0Z ?kpZ ?kzZ ?_; (case k1Z => k_asm); (case k2Z => k_asm); (case k3Z => k_asm); (case k5Z => k_asm); (case k4Z => k_asm); (case kKZ => exact rfl); (case kdZ => ktr_room); (case kuZ => ktr_units); (case kmZ => k_mem); (case knZ => k_mem); (case kiZ => assumption); (case kjZ => assumption); (case klZ => omega); (case k0Z => omega); (case kpZ => assumption); (case kzZ => assumption)))))
        intro r9 h9 tk9 M9 m9 t1 t2 F9 N9 o9 hfar
        have hM := hfar.up hq.up
        have hm := hfar.low hq.low
        (try dsimp only)
        (repeat' (first | ((fail_if_success (with_reducible show Stop _)); (fail_if_success (with_reducible show Halt _)); (first | (k_unfold; (try dsimp only)) | walk1 | (dsimp only; walk1)))))
        refine unstop ?_
        (((with_reducible show wpAny _ _ (call (Value.ref 49) [_, _]) _ _ _); (k_dflt (refine' within_use ?k1Z ?k2Z ?k3Z ?k5Z ?k4Z ?kKZ ?kdZ ?kuZ ?kmZ ?knZ ?kiZ ?kjZ ?klZ ?k0Z ?kpZ ?ksZ ?kzZ ?_; (case k1Z => k_asm); (case k2Z => k_asm); (case k3Z => k_asm); (case k5Z => k_asm); (case k4Z => k_asm); (case kKZ => exact rfl); (case kdZ => ktr_room); (case kuZ => ktr_units); (case kmZ => k_mem); (case knZ => k_mem); (case kiZ => assumption); (case kjZ => assumption); (case klZ => omega); (case k0Z => omega); (case kpZ => assumption); (case ksZ => assumption); (case kzZ => assumption)))))
        intro h8 tk8 F8 N8
        rw [hfar.within hvs, decide_eq_true hM, decide_eq_true hm]
        (try dsimp only)
        (repeat' (first | ((fail_if_success (with_reducible show Stop _)); (fail_if_success (with_reducible show Halt _)); (first | (k_unfold; (try dsimp only)) | walk1 | (dsimp only; walk1)))))
        all_goals first
          | (exfalso; omega)
          | (((try dsimp only); (try k_unfold); (try dsimp only); (try simp only [Bool.and_self, beq_self_eq_true]); w_end; exact goodW_bool (by assumption) (by assumption) (raisesW_false (by wrow_none_raised)) (postW_of rfl (w_eq_bool (w_res rfl) w_lit) rfl)))
    · refine unstop ?_
      have hr5 : r < 6 := by omega
      rename Fr _ _ _ _ => F5
      rename News _ _ _ _ => N5
      refine join_str (fun x => GrpC r.toNat x) F5 N5 ?_ ?_
      ·
        obtain ⟨nv, hnl, hn1, hn2, hnv⟩ := names_at F5 (by k_asm) hr.1 hr5
        have hnm := nm_at hr.1 hr5
        (repeat' (first | ((fail_if_success (with_reducible show Stop _)); (fail_if_success (with_reducible show Halt _)); (first | (k_unfold; (try dsimp only)) | walk1 | (dsimp only; walk1)))))
        rename (_ ∈ nv) => hv9
        obtain ⟨x, t, rfl, hg⟩ := hnv _ hv9
        exact ⟨x, t, _, _, rfl, rfl, by assumption, by assumption, hg⟩
      clear F5 N5
      intro x tx h5 tk5 F5 N5 hx
      (repeat' (first | ((fail_if_success (with_reducible show Stop _)); (fail_if_success (with_reducible show Halt _)); (first | (k_unfold; (try dsimp only)) | walk1 | (dsimp only; walk1)))))
      refine unstop ?_
      rename Fr _ _ _ _ => F5
      rename News _ _ _ _ => N5
      with_unfolding_all refine comp_div (n := n) (by k_asm) (by k_asm) (by k_asm) (by k_asm) rfl (by ktr_room) (by ktr_units) (by omega) hx (News.isList (by k_asm) (by k_mem)) hv (by omega) (by omega) hvv hvs hvb (by omega) (by omega) (Bd.of (by k_is) (by first | exact BindsTo.of_eq rfl | exact binds_K (by k_in) rfl (by k_is) rfl rfl rfl)) ?_
      intro r5 rv5 rs cp5 h5 tk5 keep5 fresh5 get5 hri hq
      obtain ⟨F6, N6, o6⟩ := use_of F5 N5 keep5 fresh5 get5
      clear F5 N5 keep5 fresh5 get5
      simp only [LCg.Off1, and_true] at o6
      (repeat (obtain ⟨_, o6⟩ := o6))
      have hrsum := hq.sum
      have hrl : rs.length = vt.length := hq.len
      obtain ⟨hmul1, hmul2⟩ := mul_small hvb (nn_small (div_nn hq) hq.sum (by omega)) (by omega) hrl
      (try dsimp only)
      (repeat' (first | ((fail_if_success (with_reducible show Stop _)); (fail_if_success (with_reducible show Halt _)); (first | (k_unfold; (try dsimp only)) | walk1 | (dsimp only; walk1)))))
      refine unstop ?_
      (((with_reducible show wpAny _ _ (call (Value.ref 86) [_, _]) _ _ _); (k_dflt (refine' far_use ?k1Z ?k2Z ?k3Z ?k5Z ?k4Z ?kKZ ?kdZ ?kuZ ?kmZ ?knZ ?kiZ ?kjZ ?klZ ?k0Z ?kpZ ?kzZ ?_; (case k1Z => k_asm); (case k2Z => k_asm); (case k3Z => k_asm); (case k5Z => k_asm); (case k4Z => k_asm); (case kKZ => exact rfl); (case kdZ => ktr_room); (case kuZ => ktr_units); (case kmZ => k_mem); (case knZ => k_mem); (case kiZ => assumption); (case kjZ => assumption); (case klZ => omega); (case k0Z => omega); (case kpZ => assumption); (case kzZ => assumption)))))
      intro r9 h9 tk9 M9 m9 t1 t2 F9 N9 o9 hfar
      (try dsimp only)
      have j4 := jm 4
      (repeat' (first | ((fail_if_success (with_reducible show Stop _)); (fail_if_success (with_reducible show Halt _)); (first | (k_unfold; (try dsimp only)) | walk1 | (dsimp only; walk1)))))
      refine unstop ?_
      rename Fr _ _ _ _ => F7
      rename News _ _ _ _ => N7
      have N8 := news_tail N7
      clear N7
      refine join_keep F7 N8 ?_ ?_
      ·
        (repeat' (first | ((fail_if_success (with_reducible show Stop _)); (fail_if_success (with_reducible show Halt _)); (first | (k_unfold; (try dsimp only)) | walk1 | (dsimp only; walk1)))))
        · exfalso; omega
        refine unstop ?_
        (((with_reducible show wpAny _ _ (call (Value.ref 49) [_, _]) _ _ _); (k_dflt (refine' within_use ?k1Z ?k2Z ?k3Z ?k5Z ?k4Z ?kKZ ?kdZ ?kuZ ?kmZ ?knZ ?kiZ ?kjZ ?klZ ?k0Z ?kpZ ?ksZ ?kzZ ?_; (case k1Z => k_asm); (case k2Z => k_asm); (case k3Z => k_asm); (case k5Z => k_asm); (case k4Z => k_asm); (case kKZ => exact rfl); (case kdZ => ktr_room); (case kuZ => ktr_units); (case kmZ => k_mem); (case knZ => k_mem); (case kiZ => assumption); (case kjZ => assumption); (case klZ => omega); (case k0Z => omega); (case kpZ => assumption); (case ksZ => assumption); (case kzZ => assumption)))))
        intro h8 tk8 F8 N9
        rw [hfar.within hvs]
        (try dsimp only)
        (repeat' (first | ((fail_if_success (with_reducible show Stop _)); (fail_if_success (with_reducible show Halt _)); (first | (k_unfold; (try dsimp only)) | walk1 | (dsimp only; walk1)))))
        all_goals first
          | exact unstop ⟨rfl, _, _, rfl, by assumption, by assumption⟩
          | (exfalso; rename (_ != _) = true => e; first
              | (rw [decide_eq_true (by assumption), Bool.true_and, bne_self_eq_false] at e; cases e)
              | (rw [decide_eq_false (by assumption), Bool.false_and] at e; cases e))
      clear F7 N8
      intro h7 tk7 F7 N7
      have hM := up_of hq hfar hr.1 hr5 hvv (by omega)
      have hm := low_of hq hfar hr.1 hr5 hvv (by omega)
      clear hfar hmul1 hmul2
      have j8 := jm 8
      (repeat' (first | ((fail_if_success (with_reducible show Stop _)); (fail_if_success (with_reducible show Halt _)); (first | (k_unfold; (try dsimp only)) | walk1 | (dsimp only; walk1)))))
      refine unstop ?_
      rename Fr _ _ _ _ => F8
      rename News _ _ _ _ => N8
      refine join_str (fun x => GrpC r.toNat x) F8 N8 ?_ ?_
      ·
        obtain ⟨nv, hnl, hn1, hn2, hnv⟩ := names_at F8 (by k_asm) hr.1 hr5
        have hnm := nm_at hr.1 hr5
        (repeat' (first | ((fail_if_success (with_reducible show Stop _)); (fail_if_success (with_reducible show Halt _)); (first | (k_unfold; (try dsimp only)) | walk1 | (dsimp only; walk1)))))
        rename (_ ∈ nv) => hv9
        obtain ⟨x, t, rfl, hg⟩ := hnv _ hv9
        exact ⟨x, t, _, _, rfl, rfl, by assumption, by assumption, hg⟩
      clear F8 N8
      intro x2 tx2 h8 tk8 F8 N8 hx2
      (repeat' (first | ((fail_if_success (with_reducible show Stop _)); (fail_if_success (with_reducible show Halt _)); (first | (k_unfold; (try dsimp only)) | walk1 | (dsimp only; walk1)))))
      refine unstop ?_
      rename Fr _ _ _ _ => F8
      rename News _ _ _ _ => N8
      rw [show (n : Int) + 1 = ((n + 1 : Nat) : Int) from rfl]
      with_unfolding_all refine comp_div (n := n + 1) (by k_asm) (by k_asm) (by k_asm) (by k_asm) rfl (by ktr_room) (by ktr_units) (by omega) hx2 (News.isList (by k_asm) (by k_mem)) hv (by omega) (by omega) hvv hvs hvb (by omega) (by omega) (Bd.of (by k_is) (by first | exact BindsTo.of_eq rfl | exact binds_K (by k_in) rfl (by k_is) rfl rfl rfl)) ?_
      intro r6 rv6 rs6 cp6 h6 tk6 keep6 fresh6 get6 hri6 hq6
      obtain ⟨F9, N9, o9⟩ := use_of F8 N8 keep6 fresh6 get6
      clear F8 N8 keep6 fresh6 get6
      simp only [LCg.Off1, and_true] at o9
      (repeat (obtain ⟨_, o9⟩ := o9))
      have hrl6 : rs6.length = vt.length := hq6.len
      have hmo : ∀ i, i < vt.length → rs.getD i 0 ≤ rs6.getD i 0 := hq.mono hq6
      (try dsimp only)
      have j3 := jm 3
      (repeat' (first | ((fail_if_success (with_reducible show Stop _)); (fail_if_success (with_reducible show Halt _)); (first | (k_unfold; (try dsimp only)) | walk1 | (dsimp only; walk1)))))
      refine unstop ?_
      rename Fr _ _ _ _ => F1
      rename News _ _ _ _ => N1
      refine join_keep F1 N1 ?_ ?_
      · (repeat' (first | ((fail_if_success (with_reducible show Stop _)); (fail_if_success (with_reducible show Halt _)); (first | (k_unfold; (try dsimp only)) | walk1 | (dsimp only; walk1)))))
        refine unstop ?_
        (k_dflt (refine' LCt.ListComp_T ?FZ ?clZ ?ceZ ?kiZ ?naZ ?hxZ ?_; (case kiZ => rfl); (case FZ => k_asm); (case ceZ => decide); (case clZ => with_unfolding_all rfl); (case naZ => decide); (case hxZ => rfl)))
        (repeat' (first | ((fail_if_success (with_reducible show Stop _)); (fail_if_success (with_reducible show Halt _)); (first | (k_unfold; (try dsimp only)) | walk1 | (dsimp only; walk1)))))
        refine unstop ?_
        rename IsRange _ _ _ _ _ _ _ _ => hR
        rename Fr _ _ _ _ => hF9
        rename News _ _ _ _ => hN9
        refine LCt.CompSrcT.range (by rfl) hF9 hN9 hR (small_one (by omega) (by omega) (by omega) (by omega)) (n := vt.length) (by rw [← hvl]; exact rsz _) (by rw [PySem.sizeLine_eq]; omega) ?_
        clear hF9 hN9
        intro g9
        refine kci_range (fun l _ => l) ?t5 ?d5 ?g5
        case g5 => intro l i; dsimp only; omega
        case t5 =>
          intro i ti I oI C oC D m₂ ys l hh tk E' hlo hhi hys hC hx9 hF hN off ne mk
          have hmi := hmo i.toNat (by omega)
          (repeat' (first | ((fail_if_success (with_reducible show Stop _)); (fail_if_success (with_reducible show Halt _)); (first | (k_unfold; (try dsimp only)) | walk1 | (dsimp only; walk1)))))
          refine unstop ?_
          exact LCg.CompEnd.intro (by assumption) (by assumption) _ (by kcf_all) off trivial ⟨rfl, rfl⟩
        case d5 =>
          intro ys5 hys5 hl5
          rw [foldl_id] at hys5
          cases hys5
          unfold LCg.FinE
          intro D5 h5 tk5 F5 N5 o5
          (repeat' (first | ((fail_if_success (with_reducible show Stop _)); (fail_if_success (with_reducible show Halt _)); (first | (k_unfold; (try dsimp only)) | walk1 | (dsimp only; walk1)))))
          rename News _ _ _ _ => N6
          exact unstop ⟨rfl, _, _, rfl, by assumption, kst_newsOf N6 (by (first | kst_in | kst_inAny | (intro p hp; kst_mem) | kst_anyIn))⟩
      clear F1 N1
      intro h1 tk1 F1 N1
      have j4 := jm 4
      (repeat' (first | ((fail_if_success (with_reducible show Stop _)); (fail_if_success (with_reducible show Halt _)); (first | (k_unfold; (try dsimp only)) | walk1 | (dsimp only; walk1)))))
      refine unstop ?_
      rename Fr _ _ _ _ => F2
      rename News _ _ _ _ => N2
      refine join_keep F2 N2 ?_ ?_
      · (repeat' (first | ((fail_if_success (with_reducible show Stop _)); (fail_if_success (with_reducible show Halt _)); (first | (k_unfold; (try dsimp only)) | walk1 | (dsimp only; walk1)))))
        all_goals first
          | exact unstop ⟨rfl, _, _, rfl, by assumption, by assumption⟩
          | (exfalso; have hm := hm (by omega); omega)
      clear F2 N2
      intro h2 tk2 F2 N2
      (repeat' (first | ((fail_if_success (with_reducible show Stop _)); (fail_if_success (with_reducible show Halt _)); (first | (k_unfold; (try dsimp only)) | walk1 | (dsimp only; walk1)))))
      all_goals (try rw [decide_eq_true (hM (by omega))])
      all_goals (((try dsimp only); (try k_unfold); (try dsimp only); (try simp only [Bool.and_self, beq_self_eq_true]); w_end; exact goodW_bool (by assumption) (by assumption) (raisesW_false (by wrow_none_raised)) (postW_of rfl (w_eq_bool (w_res rfl) w_lit) rfl))))
end
end Mine
theorem PySem.Challenge.cw_jd0003_02_holds : PySem.Challenge.rw_jd0003_02.Holds :=
  Mine.holds
