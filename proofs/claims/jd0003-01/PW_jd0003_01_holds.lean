import PyProof.Rows.All
import Wide.All
import OpenK.AllK
import Wide.FinOn
import PySem.Challenge.RW_jd0003_01
open PySem PySem.W PySem.Spec PySem.Calls PyProof.Rows
set_option Elab.async false
set_option maxRecDepth 100000
set_option maxHeartbeats 8000000
namespace Mine
open_top hd for PySem.Challenge.rw_jd0003_01
section
variable {prog : Program} {w : World} {A₀ A : Around} {s : Shared} {base h₀ : Heap} {outer : List Env} {L : Addr} {m : Str → Option Value} {env : Env} {K : Frag}
  {mean : ExcName → Option Value} {mg mb : Str → Option Value} {p : Program} {loose : List Str}
  {R : Result → Shared → Prop} {name qual : Str} {params : Arguments} {body : List Stmt} {scope : Scope} {dV kV doc pm cdv ct oc : Value} {an od : Option Addr} {osl : Array (Option Value)} {f : Addr} {args : Args} {binds : List (Str × Value)}

theorem enterC (B : Below A₀ base outer h₀) (F : Fr h₀ L s.heap m) (X₀ : K.In h₀) (T : Top p loose mean mg mb h₀) (hA : A.frames = some (env :: outer)) (hf : env.frame = some L) (hke : env.scope.kind = .function)
    (ho : K.lookup f = some ⟨oc, od, .func (fnOf name qual params body scope dV kV doc pm an cdv ct), osl⟩) (hcd : codeIn K cdv qual = true) (hroom : A.depth < recursionLimit)
    (hbind : BindsTo s (fnOf name qual params body scope dV kV doc pm an cdv ct) args binds) (hkind : (binds.all fun y => scope.names.lookup y.1 == some .local || scope.names.lookup y.1 == some .cell) = true)
    (hnd : ((cellsFrom 0 scope.names []).map (·.1)).Nodup)
    (h : ∀ L' h₁ tk cells, Fr s.heap L' h₁ (bindL (envOfC qual scope L' f cdv).kindOf binds fun _ => none) → News s.heap L' h₁ cells →
      CellsAre (bindC (envOfC qual scope L' f cdv).kindOf binds fun _ => none) (cellsFrom (L' + 1) scope.names []) cells → Below A base (env :: outer) s.heap → K.In s.heap → Top p loose mean mg mb s.heap →
      wpAny (model prog w) (A.deeper (envOfC qual scope L' f cdv)) (execs body (envOfC qual scope L' f cdv))
        (fun fl s' => R (.ok (.ret (match fl with | .ret v => v | _ => .none))) s')
        (fun e s' => wpAny (model prog w) (A.deeper (envOfC qual scope L' f cdv)) (leaving (envOfC qual scope L' f cdv) e) (fun _ s'' => R (.error e) s'') (fun e' s'' => R (.error e') s'') s')
        { s with heap := h₁, toks := tk })
    (hco : scope.isCoroutine = false) (hgen : scope.isGenerator = false) (hk : scope.kind = .function) : codeAny (model prog w) A (.call (.ref f) args) R s := by
  have B₁ := pushX B F hf hke
  have B₂ : Below A base (env :: outer) s.heap := ⟨hA, fun b o e => F.keep b o (B.stays b o e), B₁.frames⟩
  have hlim : s.heap.NoLimit := T.nolimit.keeps F.keep
  refine codeAny_call_function hroom (F.keep _ _ (X₀ _ _ ho)) rfl hco hgen rfl (codeRec_of (X₀.keeps F.keep) hcd) (hbind _ _ _ _ ?_)
  refine wpAny_newFunctionEnv_cells hk (kindsX hkind _) fun env' he s' x => ?_
  subst he
  refine ⟨hlim.keeps x.toInCall.keep, codeAny_func ?_⟩
  obtain ⟨h₁, tk, rfl, _⟩ := x.done
  obtain ⟨cells, NC, Y⟩ := Cl.news (h₀ := s.heap) (Nat.le_refl _) fun n c hm => ⟨x.cell n c (lookup_of_mem_nodup (cellsFrom_names scope.names 0 (s.heap.objs.size + 1) [] [] rfl ▸ hnd) hm), x.above n c hm⟩
  exact h s.heap.objs.size h₁ tk cells ⟨x.toInCall.ns, x.toInCall.keep, Nat.le_refl _⟩ NC Y B₂ (X₀.keeps F.keep) (T.keeps F.keep)

theorem enterP (B : Below A₀ base outer h₀) (F : Fr h₀ L s.heap m) (X₀ : K.In h₀) (T : Top p loose mean mg mb h₀) (hA : A.frames = some (env :: outer)) (hf : env.frame = some L) (hke : env.scope.kind = .function)
    (ho : K.lookup f = some ⟨oc, od, .func (fnOf name qual params body scope dV kV doc pm an cdv ct), osl⟩) (hcd : codeIn K cdv qual = true) (hroom : A.depth < recursionLimit)
    (hbind : BindsTo s (fnOf name qual params body scope dV kV doc pm an cdv ct) args binds) (hloc : ∀ y ∈ binds, scope.names.lookup y.1 = some .local)
    (h : ∀ L' h₁, Fr s.heap L' h₁ (fun y => binds.reverse.lookup y) → News s.heap L' h₁ [] → Below A base (env :: outer) s.heap → K.In s.heap → Top p loose mean mg mb s.heap →
      wpAny (model prog w) (A.deeper (envOf qual scope L' f cdv)) (execs body (envOf qual scope L' f cdv))
        (fun fl s' => R (.ok (.ret (match fl with | .ret v => v | _ => .none))) s')
        (fun e s' => wpAny (model prog w) (A.deeper (envOf qual scope L' f cdv)) (leaving (envOf qual scope L' f cdv) e) (fun _ s'' => R (.error e) s'') (fun e' s'' => R (.error e') s'') s')
        { s with heap := h₁, toks := s.toks + binds.length })
    (hco : scope.isCoroutine = false) (hgen : scope.isGenerator = false) (hk : scope.kind = .function)
    (hcell : ∀ x ∈ scope.names, x.2 ≠ .cell) : codeAny (model prog w) A (.call (.ref f) args) R s := by
  have B₁ := pushX B F hf hke
  have B₂ : Below A base (env :: outer) s.heap := ⟨hA, fun b o e => F.keep b o (B.stays b o e), B₁.frames⟩
  have hlim : s.heap.NoLimit := T.nolimit.keeps F.keep
  refine codeAny_call_def (fd := fnOf name qual params body scope dV kV doc pm an cdv ct) (body := body) (binds := binds) hroom (F.keep _ _ (X₀ _ _ ho)) rfl hlim (codeRec_of (X₀.keeps F.keep) hcd) rfl hbind hcell hloc (fun h₁ hns hk₁ => ?_) hco hgen hk
  exact h s.heap.objs.size h₁ ⟨hns, hk₁, Nat.le_refl _⟩ News.nil B₂ (X₀.keeps F.keep) (T.keeps F.keep)
end

def Stop (P : Prop) : Prop := P
theorem stop {P : Prop} (h : Stop P) : P := h
theorem unstop {P : Prop} (h : P) : Stop P := h
def Bd (K : Frag) (f : Addr) (s : Shared) (args : List Value) (binds : List (Str × Value)) : Prop := ∀ fd oc od osl, K.lookup f = some ⟨oc, od, .func fd, osl⟩ → BindsTo s fd ⟨args, []⟩ binds
theorem Bd.at {K : Frag} {f : Addr} {s : Shared} {args : List Value} {binds : List (Str × Value)} {fd : FuncData} {oc : Value} {od : Option Addr} {osl : Array (Option Value)} (h : Bd K f s args binds) (e : K.lookup f = some ⟨oc, od, .func fd, osl⟩) : BindsTo s fd ⟨args, []⟩ binds := h _ _ _ _ e
theorem Bd.of {K : Frag} {f : Addr} {s : Shared} {args : List Value} {binds : List (Str × Value)} {fd : FuncData} {oc : Value} {od : Option Addr} {osl : Array (Option Value)} (e : K.lookup f = some ⟨oc, od, .func fd, osl⟩) (h : BindsTo s fd ⟨args, []⟩ binds) : Bd K f s args binds := by
  intro fd' oc' od' osl' e'
  rw [e] at e'
  cases e'
  exact h
theorem rsz (n : Nat) : Builtin.Range.rangeSize 0 (n : Int) 1 = ((n : Nat) : Int) := by rw [rangeSize_nat]; omega
theorem room_of {M : Model} {A A₀ : Around} {base h₀ h : Heap} {L : Addr} {m : Str → Option Value} {gens drawn tk os} {outer : List Env} {env : Env} (hs : h₀.NoSeer) (hl : h₀.NoLimit) (F : Fr h₀ L h m) (B : Below A₀ base outer h₀) (ht : M.prog.given.tree = none) (hA : A = A₀.deeper env)
    (hd : A.depth + Builtin.pylongFrames < recursionLimit) (hgen : env.scope.isGenerator = false) (hco : env.scope.isCoroutine = false) (hb : env.builtins = builtinsNs) (hg : env.globals = mainGlobals) :
    PylongRoom M A { heap := h, gens := gens, drawn := drawn, toks := tk, os := os } :=
  PylongRoom.of (Heap.NoLimit.keeps hl F.keep) hd (SeerAt.of (Heap.NoSeer.keeps hs F.keep) ht (by rw [hA]; exact Around.frames_deeper B.stack) hgen hco hb hg)

theorem leave_any {M : Model} {A : Around} {base g h : Heap} {outer : List Env} {env : Env} {L e : Addr} {m : Str → Option Value} {cls : String} {Q : Unit → Shared → Prop} {E : Value → Shared → Prop} {s' : Shared} {news : List (Addr × Obj)}
    (B : Below A base outer g) (hx : Heap.NewExc h s'.heap e cls) (F : Fr g L h m) (N : News g L h news) (hf : env.frame = some L) (hke : env.scope.kind = .function)
    (hQ : ∀ h', RaisedN base outer e (.type cls) news h' → g.UpToSlots h' → Q () { s' with heap := h' }) : wpAny M (A.deeper env) (leaving env (.ref e)) Q E s' := by
  have B' := pushX B F hf hke
  let fs := (env :: outer).filterMap (·.frame)
  have inF : ∀ en ∈ env :: outer, ∀ b, en.frame = some b → b ∈ fs := fun en he b hb => List.mem_filterMap.mpr ⟨en, he, hb⟩
  have s1 : base.StaysIn (hideAll h fs) := fun b o q => hideAll_get _ (B'.stays b o q) fun hm => by
    rw [(B'.frames.mem hm).1] at q
    exact nomatch q
  have s2 : ∀ q ∈ news, (hideAll h fs).get? q.1 = some q.2 ∧ base.get? q.1 = none := fun q hq => by
    obtain ⟨n1, n2, n3⟩ := N q hq
    refine ⟨hideAll_get _ n1 fun hm => ?_, fresh_of_stays B.stays n3⟩
    obtain ⟨en, he, hfe⟩ := List.mem_filterMap.mp hm
    rcases List.mem_cons.mp he with e1 | he
    · rw [e1, hf] at hfe
      exact n2 (Option.some.inj hfe).symm
    · obtain ⟨o, ho, _⟩ := (B.frames.mem (List.mem_filterMap.mpr ⟨en, he, hfe⟩)).2
      rw [n3] at ho
      exact nomatch ho
  have s3 : (hideAll h fs).get? e = none := by
    cases q : (hideAll h fs).get? e with
    | none => rfl
    | some o => have := of_hideAll _ q; rw [hx.new] at this; exact nomatch this
  obtain ⟨ob, tp, he, hcls, hd⟩ := hx.there
  refine wpAny_leaving_firstW (a0 := tp) B'.stack ((funFrames_hide B'.frames inF).of_keeps fun b o hb _ => ⟨o, hx.keeps b o hb, rfl⟩) hf he (fun b o hb => hx.keeps b o (of_hideAll _ hb)) s3 hd rfl rfl fun h' hL => ?_
  obtain ⟨k1, ⟨_, _, k2⟩, k3, k4⟩ := hL
  rw [hcls] at k3
  exact hQ h' ⟨hideAll h fs, tp, s1, s2, k1, s3, k2, k3⟩ ((Heap.UpToSlots.of_keeps F.keep).trans ((Heap.UpToSlots.of_keeps hx.keeps).trans k4))

def SS (f : Nat → Int) : Nat → Int
  | 0 => 0
  | n + 1 => SS f n + f n
theorem SS_congr {f g : Nat → Int} : ∀ {n : Nat}, (∀ k, k < n → f k = g k) → SS f n = SS g n
  | 0, _ => rfl
  | n + 1, h => by simp only [SS]; rw [SS_congr fun k hk => h k (Nat.lt_succ_of_lt hk), h n (Nat.lt_succ_self n)]
theorem SS_shift (f : Nat → Int) : ∀ n, SS f (n + 1) = f 0 + SS (fun k => f (k + 1)) n
  | 0 => by simp [SS]
  | n + 1 => by
    have := SS_shift f n
    simp only [SS] at this ⊢
    omega
theorem sum_SS : ∀ l : List Int, l.sum = SS (fun k => l.getD k 0) l.length
  | [] => rfl
  | x :: r => by
    rw [List.sum_cons, List.length_cons, SS_shift, sum_SS r]
    simp
theorem SS_le {f g : Nat → Int} : ∀ {n : Nat}, (∀ k, k < n → f k ≤ g k) → SS f n ≤ SS g n
  | 0, _ => Int.le_refl _
  | n + 1, h => by
    have a := SS_le fun k hk => h k (Nat.lt_succ_of_lt hk)
    have b := h n (Nat.lt_succ_self n)
    simp only [SS]; omega
theorem SS_gap {f g : Nat → Int} {i : Nat} {T : Int} : ∀ {n : Nat}, i < n → (∀ k, k < n → f k ≤ g k) → f i + T ≤ g i → SS f n + T ≤ SS g n
  | n + 1, hi, h, hT => by
    simp only [SS]
    by_cases e : i = n
    · subst e
      have a := SS_le (n := i) fun k hk => h k (Nat.lt_succ_of_lt hk)
      omega
    · have a := SS_gap (n := n) (by omega) (fun k hk => h k (Nat.lt_succ_of_lt hk)) hT
      have b := h n (Nat.lt_succ_self n)
      omega
theorem SS_mul {f : Nat → Int} {c : Int} : ∀ n, SS (fun k => f k * c) n = SS f n * c
  | 0 => by simp [SS]
  | n + 1 => by simp only [SS]; rw [SS_mul n, Int.add_mul]
theorem SS_sub {f g : Nat → Int} : ∀ n, SS (fun k => f k - g k) n = SS f n - SS g n
  | 0 => by simp [SS]
  | n + 1 => by simp only [SS]; rw [SS_sub n]; omega
theorem SS_nonneg {f : Nat → Int} : ∀ {n : Nat}, (∀ k, k < n → 0 ≤ f k) → 0 ≤ SS f n
  | 0, _ => Int.le_refl _
  | n + 1, h => by
    have a := SS_nonneg fun k hk => h k (Nat.lt_succ_of_lt hk)
    have b := h n (Nat.lt_succ_self n)
    simp only [SS]; omega
theorem SS_ge {f : Nat → Int} {i : Nat} : ∀ {n : Nat}, (∀ k, k < n → 0 ≤ f k) → i < n → f i ≤ SS f n
  | n + 1, h, hi => by
    simp only [SS]
    by_cases e : i = n
    · subst e
      have a := SS_nonneg fun k hk => h k (Nat.lt_succ_of_lt hk)
      omega
    · have a := SS_ge (fun k hk => h k (Nat.lt_succ_of_lt hk)) (show i < n by omega)
      have b := h n (Nat.lt_succ_self n)
      omega
theorem getD_set (l : List Int) (i k : Nat) (x : Int) (hi : i < l.length) : (l.set i x).getD k 0 = if k = i then x else l.getD k 0 := by
  simp only [List.getD_eq_getElem?_getD, List.getElem?_set]
  by_cases h : i = k
  · subst h; simp [hi]
  · rw [if_neg h, if_neg (Ne.symm h)]
theorem SS_set {f : Nat → Int} {i : Nat} {x : Int} : ∀ {n : Nat}, i < n → SS (fun k => if k = i then x else f k) n = SS f n - f i + x
  | n + 1, hi => by
    simp only [SS]
    by_cases e : i = n
    · subst e
      rw [SS_congr (f := fun k => if k = i then x else f k) (g := f) fun k hk => if_neg (Nat.ne_of_lt hk)]
      simp
    · rw [SS_set (n := n) (by omega), if_neg (Ne.symm e)]; omega

def Elig (ns rs : List Int) (h : Int) (i : Nat) : Prop := rs.getD i 0 * ns.sum < ns.getD i 0 * h
structure IsNext (ns rs : List Int) (h : Int) (i : Nat) : Prop where
  lt : i < ns.length
  elig : Elig ns rs h i
  max : ∀ j, j < ns.length → Elig ns rs h j → ns.getD j 0 * (rs.getD i 0 + 1) ≤ ns.getD i 0 * (rs.getD j 0 + 1)
  first : ∀ j, j < i → Elig ns rs h j → ns.getD j 0 * (rs.getD i 0 + 1) < ns.getD i 0 * (rs.getD j 0 + 1)
theorem IsNext.unique {ns rs : List Int} {h : Int} {i j : Nat} (a : IsNext ns rs h i) (b : IsNext ns rs h j) : i = j := by
  rcases Nat.lt_trichotomy i j with c | c | c
  · have x := b.first i c a.elig
    have y := a.max j b.lt b.elig
    omega
  · exact c
  · have x := a.first j c b.elig
    have y := b.max i a.lt a.elig
    omega
inductive QR (ns : List Int) : Nat → List Int → Prop
  | zero : QR ns 0 (List.replicate ns.length 0)
  | succ {j : Nat} {rs : List Int} {i : Nat} : QR ns j rs → IsNext ns rs ((j : Int) + 1) i → QR ns (j + 1) (rs.set i (rs.getD i 0 + 1))
theorem QR.unique {ns : List Int} {j : Nat} {a b : List Int} (ha : QR ns j a) (hb : QR ns j b) : a = b := by
  induction ha generalizing b with
  | zero => cases hb; rfl
  | succ q n ih =>
    cases hb with
    | succ q' n' =>
      have e := ih q'
      subst e
      have e2 := n.unique n'
      subst e2
      rfl
theorem QR.len {ns : List Int} {j : Nat} {a : List Int} (h : QR ns j a) : a.length = ns.length := by
  induction h with
  | zero => simp
  | succ q n ih => simp [ih]
theorem QR.nonneg {ns : List Int} {j : Nat} {a : List Int} (h : QR ns j a) : ∀ k, 0 ≤ a.getD k 0 := by
  induction h with
  | zero => intro k; simp [List.getD_eq_getElem?_getD, List.getElem?_replicate]; split <;> simp
  | @succ j rs i q n ih =>
    intro k
    rw [getD_set _ _ _ _ (by rw [q.len]; exact n.lt)]
    split
    · have := ih i; omega
    · exact ih k
theorem QR.sum {ns : List Int} {j : Nat} {a : List Int} (h : QR ns j a) : a.sum = j := by
  induction h with
  | zero => simp
  | succ q n ih =>
    have hl := q.len
    rw [sum_SS, List.length_set]
    rw [sum_SS] at ih
    rename_i rs i
    rw [SS_congr (g := fun k => if k = i then rs.getD i 0 + 1 else rs.getD k 0) fun k _ => getD_set _ _ _ _ (by rw [hl]; exact n.lt), SS_set (by rw [hl]; exact n.lt), ih]
    simp; omega
theorem QR.le {ns : List Int} {j : Nat} {a : List Int} (h : QR ns j a) (k : Nat) : a.getD k 0 ≤ j := by
  by_cases hk : k < a.length
  · have := SS_ge (f := fun k => a.getD k 0) (fun k _ => h.nonneg k) hk
    rw [← sum_SS, h.sum] at this
    exact this
  · rw [List.getD_eq_getElem?_getD, List.getElem?_eq_none (by omega)]; simp

theorem rk_getD (f : Int → Int) (n k : Nat) (h : k < n) : ((rangeKs 0 n).map f).getD k 0 = f (k : Int) := by
  simp [rangeKs, List.getD_eq_getElem?_getD, h]
theorem map_getD (f : Int → Int) (l : List Int) (k : Nat) (h : k < l.length) : (l.map f).getD k 0 = f (l.getD k 0) := by
  simp [List.getD_eq_getElem?_getD, h]
theorem foldl_filt {α : Type} (p : α → Prop) [DecidablePred p] : ∀ (xs acc : List α), xs.foldl (fun l i => if p i then l ++ [i] else l) acc = acc ++ xs.filter (fun i => decide (p i))
  | [], acc => by simp
  | x :: r, acc => by
    rw [List.foldl_cons, foldl_filt p r]
    by_cases h : p x
    · simp [h]
    · simp [h]
theorem first_filt (p : Nat → Prop) [DecidablePred p] : ∀ n, ((List.range n).filter (fun i => decide (p i)) = [] ∧ ∀ k, k < n → ¬ p k) ∨ ∃ i, i < n ∧ p i ∧ (∀ k, k < i → ¬ p k) ∧ ((List.range n).filter (fun i => decide (p i))).head? = some i
  | 0 => .inl ⟨rfl, fun k h => absurd h (Nat.not_lt_zero k)⟩
  | n + 1 => by
    rw [List.range_succ, List.filter_append]
    rcases first_filt p n with ⟨e, h⟩ | ⟨i, hi, hp, hk, he⟩
    · by_cases hn : p n
      · refine .inr ⟨n, Nat.lt_succ_self n, hn, h, ?_⟩
        rw [e]; simp [hn]
      · refine .inl ⟨by rw [e]; simp [hn], fun k hk => ?_⟩
        by_cases e2 : k = n
        · rw [e2]; exact hn
        · exact h k (by omega)
    · refine .inr ⟨i, by omega, hp, hk, ?_⟩
      rw [List.head?_append, he]; rfl
theorem prod_from : ∀ (l : List Int) (c : Int), l.foldl (fun c r => c * (r + 1)) c = c * l.foldl (fun c r => c * (r + 1)) 1
  | [], c => by simp
  | r :: l, c => by
    rw [List.foldl_cons, List.foldl_cons, prod_from l (c * (r + 1)), prod_from l (1 * (r + 1)), Int.one_mul, Int.mul_assoc]
def prodInc (rs : List Int) : Int := rs.foldl (fun c r => c * (r + 1)) 1
theorem prodInc_snoc (pre : List Int) (r : Int) : prodInc (pre ++ [r]) = prodInc pre * (r + 1) := by simp [prodInc, List.foldl_append]
theorem prodInc_cons (r : Int) (l : List Int) : prodInc (r :: l) = (r + 1) * prodInc l := by
  unfold prodInc
  rw [List.foldl_cons, prod_from, Int.one_mul]
theorem prodInc_pos : ∀ {l : List Int}, (∀ x ∈ l, 0 ≤ x) → 0 < prodInc l
  | [], _ => by decide
  | r :: l, h => by
    rw [prodInc_cons]
    exact Int.mul_pos (by have := h r (by simp); omega) (prodInc_pos fun x hx => h x (by simp [hx]))
theorem prodInc_le : ∀ {l : List Int}, (∀ x ∈ l, 0 ≤ x ∧ x ≤ 20) → prodInc l ≤ (21 : Int) ^ l.length
  | [], _ => by decide
  | r :: l, h => by
    rw [prodInc_cons, List.length_cons, Int.pow_succ, Int.mul_comm]
    have h1 := h r (by simp)
    have h2 := prodInc_le (l := l) fun x hx => h x (by simp [hx])
    have h3 := prodInc_pos (l := l) fun x hx => (h x (by simp [hx])).1
    exact Int.mul_le_mul h2 (by omega) (by omega) (by omega)
theorem prodInc_div : ∀ {l : List Int} {i : Nat}, (∀ x ∈ l, 0 ≤ x) → i < l.length → ∃ P, prodInc l = (l.getD i 0 + 1) * P ∧ 0 < P
  | r :: l, 0, h, _ => ⟨prodInc l, by rw [prodInc_cons]; simp, prodInc_pos fun x hx => h x (by simp [hx])⟩
  | r :: l, i + 1, h, hi => by
    obtain ⟨P, e, hP⟩ := prodInc_div (l := l) (i := i) (fun x hx => h x (by simp [hx])) (by simpa using hi)
    refine ⟨(r + 1) * P, ?_, Int.mul_pos (by have := h r (by simp); omega) hP⟩
    rw [prodInc_cons, e]
    simp only [List.getD_cons_succ]
    rw [Int.mul_left_comm]
theorem cmp_le {a b x y P Px Py : Int} (hP : 0 < P) (hx : P = x * Px) (hy : P = y * Py) (x0 : 0 < x) (y0 : 0 < y) : a * Px ≤ b * Py ↔ a * y ≤ b * x := by
  have e1 : a * Px * (x * y) = a * y * P := by rw [hx]; simp only [Int.mul_comm, Int.mul_left_comm, Int.mul_assoc]
  have e2 : b * Py * (x * y) = b * x * P := by rw [hy]; simp only [Int.mul_comm, Int.mul_left_comm, Int.mul_assoc]
  have xy := Int.mul_pos x0 y0
  constructor
  · intro h
    have := Int.mul_le_mul_of_nonneg_right h (Int.le_of_lt xy)
    rw [e1, e2] at this
    exact Int.le_of_mul_le_mul_right this hP
  · intro h
    have := Int.mul_le_mul_of_nonneg_right h (Int.le_of_lt hP)
    rw [← e1, ← e2] at this
    exact Int.le_of_mul_le_mul_right this xy
theorem ceil_lt {r x T : Int} (hT : 0 < T) : r < -((-x).fdiv T) ↔ r * T < x := by
  have h1 : T * (-x).fdiv T ≤ -x := by rw [Int.fdiv_eq_ediv_of_nonneg _ (Int.le_of_lt hT)]; exact Int.mul_ediv_self_le (Int.ne_of_gt hT)
  have h2 : -x < T * (-x).fdiv T + T := by rw [Int.fdiv_eq_ediv_of_nonneg _ (Int.le_of_lt hT)]; exact Int.lt_mul_ediv_self_add hT
  generalize (-x).fdiv T = q at *
  constructor
  · intro h
    have h3 : T * (r + 1) ≤ T * (-q) := Int.mul_le_mul_of_nonneg_left (by omega) (Int.le_of_lt hT)
    rw [Int.mul_neg, Int.mul_add, Int.mul_one] at h3
    rw [Int.mul_comm r T]
    omega
  · intro h
    rw [Int.mul_comm r T] at h
    by_cases hc : r < -q
    · exact hc
    · exfalso
      have h3 : T * (-q) ≤ T * r := Int.mul_le_mul_of_nonneg_left (by omega) (Int.le_of_lt hT)
      rw [Int.mul_neg] at h3
      omega
theorem SS_exists {f : Nat → Int} : ∀ {n : Nat}, 0 < SS f n → ∃ i, i < n ∧ 0 < f i
  | 0, h => absurd h (by simp [SS])
  | n + 1, h => by
    simp only [SS] at h
    by_cases hn : 0 < f n
    · exact ⟨n, Nat.lt_succ_self n, hn⟩
    · obtain ⟨i, hi, e⟩ := SS_exists (f := f) (n := n) (by omega)
      exact ⟨i, by omega, e⟩
theorem elig_exists {ns rs : List Int} {j : Nat} (hq : QR ns j rs) (hsum : 0 < ns.sum) : ∃ i, i < ns.length ∧ Elig ns rs ((j : Int) + 1) i := by
  have h : 0 < SS (fun k => ns.getD k 0 * ((j : Int) + 1) - rs.getD k 0 * ns.sum) ns.length := by
    rw [SS_sub, SS_mul, SS_mul, ← sum_SS]
    have e := sum_SS rs
    rw [hq.sum, hq.len] at e
    rw [← e, Int.mul_add, Int.mul_one, Int.mul_comm]
    omega
  obtain ⟨i, hi, h⟩ := SS_exists h
  exact ⟨i, hi, by unfold Elig; omega⟩
theorem getD_pos {ns : List Int} (hpos : ∀ x ∈ ns, 0 ≤ x) (i : Nat) : 0 ≤ ns.getD i 0 := by
  rw [List.getD_eq_getElem?_getD]
  cases h : ns[i]? with
  | none => simp
  | some x => exact hpos x (List.mem_of_getElem? h)
theorem mem_of_getD {rs : List Int} (h : ∀ k, 0 ≤ rs.getD k 0) : ∀ x ∈ rs, 0 ≤ x := fun x hx => by
  obtain ⟨i, hi, rfl⟩ := List.mem_iff_getElem.mp hx
  have := h i
  rw [List.getD_eq_getElem?_getD, List.getElem?_eq_getElem hi] at this
  exact this
theorem step_next {ns rs : List Int} {j : Nat} (hq : QR ns j rs) (hpos : ∀ x ∈ ns, 0 ≤ x) (hsum : 0 < ns.sum) {qs us q2 mqs : List Int} {M : Int}
    (hqs : qs = List.map (fun i => (ns.getD i.toNat 0 * prodInc rs).fdiv (rs.getD i.toNat 0 + 1)) (rangeKs 0 ns.length))
    (hus : us = List.map (fun p => -(((-p) * (rs.sum + 1)).fdiv ns.sum)) ns)
    (hq2 : q2 = List.map (fun i => if us.getD i.toNat 0 ≤ rs.getD i.toNat 0 then 0 else qs.getD i.toNat 0) (rangeKs 0 ns.length))
    (hM : M ∈ q2) (hx : ∀ a, a ∈ q2 → a ≤ M)
    (hmqs : mqs = List.foldl (fun l i => if q2.getD i.toNat 0 = M then l ++ [i] else l) [] (rangeKs 0 ns.length)) :
    0 < mqs.length ∧ 0 ≤ mqs.getD (Int.toNat 0) 0 ∧ IsNext ns rs ((j : Int) + 1) (mqs.getD (Int.toNat 0) 0).toNat := by
  have hrp := mem_of_getD hq.nonneg
  have hP := prodInc_pos hrp
  have hl := hq.len
  have q2l : q2.length = ns.length := by rw [hq2]; simp [rangeKs_length]
  have gq2 : ∀ k, k < ns.length → q2.getD k 0 = if us.getD k 0 ≤ rs.getD k 0 then 0 else qs.getD k 0 := fun k hk => by
    rw [hq2, rk_getD _ _ _ hk]; simp
  have gqs : ∀ k, k < ns.length → ∃ P, prodInc rs = (rs.getD k 0 + 1) * P ∧ 0 < P ∧ qs.getD k 0 = ns.getD k 0 * P := fun k hk => by
    obtain ⟨P, e, h⟩ := prodInc_div (i := k) hrp (by omega)
    refine ⟨P, e, h, ?_⟩
    rw [hqs, rk_getD _ _ _ hk]
    simp only [Int.toNat_natCast]
    have h0 := hq.nonneg k
    rw [Int.fdiv_eq_ediv_of_nonneg _ (by omega), e, Int.mul_left_comm, Int.mul_ediv_cancel_left _ (by omega)]
  have gel : ∀ k, k < ns.length → (Elig ns rs ((j : Int) + 1) k ↔ ¬ us.getD k 0 ≤ rs.getD k 0) := fun k hk => by
    rw [hus, map_getD _ _ _ hk, hq.sum]
    unfold Elig
    rw [← ceil_lt hsum, Int.neg_mul]
    omega
  have gpos : ∀ k, k < ns.length → Elig ns rs ((j : Int) + 1) k → 0 < q2.getD k 0 := fun k hk he => by
    rw [gq2 k hk, if_neg ((gel k hk).mp he)]
    obtain ⟨P, e, h, e2⟩ := gqs k hk
    rw [e2]
    refine Int.mul_pos ?_ h
    unfold Elig at he
    have h0 := Int.mul_nonneg (hq.nonneg k) (Int.le_of_lt hsum)
    have h1 := getD_pos hpos k
    rcases Int.lt_or_eq_of_le h1 with h2 | h2
    · exact h2
    · rw [← h2] at he; omega
  obtain ⟨i₀, hi₀, he₀⟩ := elig_exists hq hsum
  have memD : ∀ k, k < ns.length → q2.getD k 0 ∈ q2 := fun k hk => by
    rw [List.getD_eq_getElem?_getD, List.getElem?_eq_getElem (by omega)]; exact List.getElem_mem _
  have M0 : 0 < M := Int.lt_of_lt_of_le (gpos i₀ hi₀ he₀) (hx _ (memD i₀ hi₀))
  have elM : ∀ k, k < ns.length → q2.getD k 0 = M → Elig ns rs ((j : Int) + 1) k := fun k hk e => by
    rw [gel k hk]
    intro h
    rw [gq2 k hk, if_pos h] at e
    omega
  have emq : mqs = ((List.range ns.length).filter (fun k => decide (q2.getD k 0 = M))).map (fun k : Nat => (k : Int)) := by
    rw [hmqs, foldl_filt (fun i : Int => q2.getD i.toNat 0 = M), List.nil_append, rangeKs, List.filter_map]
    simp only [Int.zero_add]
    rfl
  rcases first_filt (fun k => q2.getD k 0 = M) ns.length with ⟨_, hno⟩ | ⟨i, hi, hiM, hik, he⟩
  · exfalso
    obtain ⟨k, hk, e⟩ := List.mem_iff_getElem.mp hM
    refine hno k (by omega) ?_
    rw [List.getD_eq_getElem?_getD, List.getElem?_eq_getElem hk, e]; rfl
  · obtain ⟨r, hr⟩ : ∃ r, (List.range ns.length).filter (fun k => decide (q2.getD k 0 = M)) = i :: r := by
      cases h : (List.range ns.length).filter (fun k => decide (q2.getD k 0 = M)) with
      | nil => rw [h] at he; cases he
      | cons a r => rw [h] at he; cases he; exact ⟨r, rfl⟩
    have em : mqs.getD (Int.toNat 0) 0 = (i : Int) := by rw [emq, hr]; simp
    refine ⟨by rw [emq, hr]; simp, by rw [em]; omega, ?_⟩
    rw [em, Int.toNat_natCast]
    have hei := elM i hi hiM
    obtain ⟨Pi, ei, hPi, qi⟩ := gqs i hi
    have hri := hq.nonneg i
    refine ⟨hi, hei, fun k hk hek => ?_, fun k hk hek => ?_⟩
    · obtain ⟨Pk, ek, hPk, qk⟩ := gqs k hk
      have hrk := hq.nonneg k
      have h1 := hx _ (memD k hk)
      rw [← hiM, gq2 k hk, if_neg ((gel k hk).mp hek), gq2 i hi, if_neg ((gel i hi).mp hei), qk, qi] at h1
      exact (cmp_le hP ek ei (by omega) (by omega)).mp h1
    · have hkn : k < ns.length := by omega
      obtain ⟨Pk, ek, hPk, qk⟩ := gqs k hkn
      have hrk := hq.nonneg k
      have h1 := hx _ (memD k hkn)
      have h2 := hik k hk
      rw [← hiM] at h1 h2
      rw [gq2 k hkn, if_neg ((gel k hkn).mp hek), gq2 i hi, if_neg ((gel i hi).mp hei), qk, qi] at h1 h2
      refine Int.not_le.mp fun h3 => h2 (Int.le_antisymm h1 ?_)
      exact (cmp_le hP ei ek (by omega) (by omega)).mpr h3

theorem QR.upper {ns : List Int} {h : Nat} {rs : List Int} (q : QR ns h rs) (hpos : ∀ x ∈ ns, 0 ≤ x) (hsum : 0 < ns.sum) : ∀ k, rs.getD k 0 * ns.sum < ns.getD k 0 * (h : Int) + ns.sum := by
  induction q with
  | zero =>
    intro k
    rw [show (List.replicate ns.length (0 : Int)).getD k 0 = 0 by simp [List.getD_eq_getElem?_getD, List.getElem?_replicate]; split <;> simp]
    simp; exact hsum
  | @succ j rs i q n ih =>
    intro k
    rw [getD_set _ _ _ _ (by rw [q.len]; exact n.lt)]
    have e : (((j + 1 : Nat) : Int)) = (j : Int) + 1 := by omega
    rw [e]
    split
    · rename_i e2
      subst e2
      have := n.elig
      unfold Elig at this
      rw [Int.add_mul, Int.one_mul]
      omega
    · have h1 := ih k
      have h2 := getD_pos hpos k
      rw [Int.mul_add, Int.mul_one]
      omega
theorem QR.hist {ns : List Int} {h : Nat} {rs : List Int} (q : QR ns h rs) : ∃ A : Nat → List Int, A h = rs ∧ (∀ t, t ≤ h → QR ns t (A t)) ∧ ∀ t, t < h → ∃ i, IsNext ns (A t) ((t : Int) + 1) i ∧ A (t + 1) = (A t).set i ((A t).getD i 0 + 1) := by
  induction q with
  | zero => exact ⟨fun _ => List.replicate ns.length 0, rfl, fun t ht => by cases Nat.le_zero.mp ht; exact .zero, fun t ht => absurd ht (Nat.not_lt_zero t)⟩
  | @succ j rs i q n ih =>
    obtain ⟨A, e, h1, h2⟩ := ih
    refine ⟨fun t => if t ≤ j then A t else rs.set i (rs.getD i 0 + 1), if_neg (by omega), fun t ht => ?_, fun t ht => ?_⟩
    · by_cases c : t ≤ j
      · simp only [if_pos c]; exact h1 t c
      · have : t = j + 1 := by omega
        subst this
        simp only [if_neg c]
        exact .succ q n
    · by_cases c : t = j
      · subst c
        exact ⟨i, by simp only [Nat.le_refl, if_true]; rw [e]; exact n, by dsimp only; rw [if_pos (Nat.le_refl t), e, if_neg (by omega)]⟩
      · have c1 : t ≤ j := by omega
        have c2 : t + 1 ≤ j := by omega
        simp only [if_pos c1, if_pos c2]
        exact h2 t (by omega)
theorem QR.lower {ns : List Int} {h : Nat} {rs : List Int} (q : QR ns h rs) (hpos : ∀ x ∈ ns, 0 ≤ x) (hsum : 0 < ns.sum) (i : Nat) (hi : i < ns.length) : ns.getD i 0 * (h : Int) < rs.getD i 0 * ns.sum + ns.sum := by
  refine Int.not_le.mp fun bad => ?_
  obtain ⟨A, eA, hA, hstep⟩ := q.hist
  have hT : ns.sum = SS (fun k => ns.getD k 0) ns.length := sum_SS ns
  have sA : ∀ t, t ≤ h → SS (fun k => (A t).getD k 0) ns.length = (t : Int) := fun t ht => by
    have := (hA t ht).sum
    rw [sum_SS, (hA t ht).len] at this
    exact this
  have p0 : ∀ k, 0 ≤ ns.getD k 0 := getD_pos hpos
  have a0 : ∀ t, t ≤ h → ∀ k, 0 ≤ (A t).getD k 0 := fun t ht => (hA t ht).nonneg
  rw [← eA] at bad
  have ai0 := a0 h (Nat.le_refl h) i
  -- the party's own votes are over nought
  have pi : 0 < ns.getD i 0 := by
    rcases Int.lt_or_eq_of_le (p0 i) with h2 | h2
    · exact h2
    · rw [← h2] at bad
      have := Int.mul_nonneg ai0 (Int.le_of_lt hsum)
      omega
  have bad' : ((A h).getD i 0 + 1) * ns.sum ≤ ns.getD i 0 * (h : Int) := by rw [Int.add_mul, Int.one_mul]; exact bad
  -- parties that are not heavy lie at or under their share
  have light : ∀ k, ¬ (ns.getD k 0 * ((A h).getD i 0 + 1) < ns.getD i 0 * (A h).getD k 0) → (A h).getD k 0 * ns.sum ≤ ns.getD k 0 * (h : Int) := fun k hk => by
    have h1 : ns.getD i 0 * (A h).getD k 0 ≤ ns.getD k 0 * ((A h).getD i 0 + 1) := Int.not_lt.mp hk
    have h2 := Int.mul_le_mul_of_nonneg_right h1 (Int.le_of_lt hsum)
    have h3 := Int.mul_le_mul_of_nonneg_left bad' (p0 k)
    rw [Int.mul_assoc, Int.mul_assoc] at h2
    have h4 := Int.le_trans h2 h3
    rw [Int.mul_left_comm (ns.getD k 0)] at h4
    exact Int.le_of_mul_le_mul_left h4 pi
  have mono : ∀ t, t < h → ∀ k, (A t).getD k 0 ≤ (A (t + 1)).getD k 0 := fun t ht k => by
    obtain ⟨g, n, e⟩ := hstep t ht
    rw [e, getD_set _ _ _ _ (by rw [(hA t (Nat.le_of_lt ht)).len]; exact n.lt)]
    split
    · rename_i e2; subst e2; omega
    · exact Int.le_refl _
  have monoh : ∀ d t, t + d = h → ∀ k, (A t).getD k 0 ≤ (A h).getD k 0 := fun d => by
    induction d with
    | zero => intro t e k; have : t = h := by omega
              subst this; exact Int.le_refl _
    | succ d ih => intro t e k; exact Int.le_trans (mono t (by omega) k) (ih (t + 1) (by omega) k)
  have notO : ¬ (ns.getD i 0 * ((A h).getD i 0 + 1) < ns.getD i 0 * (A h).getD i 0) := fun x => by
    rw [Int.mul_add, Int.mul_one] at x; omega
  -- no seat ever went to a heavy party
  have claim : ∀ d t, t + d = h → ∀ k, ns.getD k 0 * ((A h).getD i 0 + 1) < ns.getD i 0 * (A h).getD k 0 → (A t).getD k 0 = (A h).getD k 0 := fun d => by
    induction d with
    | zero => intro t e k _; have : t = h := by omega
              subst this; rfl
    | succ d ih =>
      intro t e k hk
      have ih' := ih (t + 1) (by omega)
      obtain ⟨g, n, eS⟩ := hstep t (by omega)
      have hlen := (hA t (by omega)).len
      have eD : ∀ k, (A (t + 1)).getD k 0 = if k = g then (A t).getD g 0 + 1 else (A t).getD k 0 := fun k => by
        rw [eS, getD_set _ _ _ _ (by rw [hlen]; exact n.lt)]
      by_cases hg : ns.getD g 0 * ((A h).getD i 0 + 1) < ns.getD i 0 * (A h).getD g 0
      · exfalso
        have g1 := ih' g hg
        have g2 := eD g
        rw [if_pos rfl] at g2
        have g3 : (A t).getD g 0 + 1 = (A h).getD g 0 := by rw [← g2]; exact g1
        have hig : i ≠ g := fun x => notO (x ▸ hg)
        have mi := monoh (d + 1) t e i
        -- i was not eligible
        have ni : ns.getD i 0 * ((t : Int) + 1) ≤ (A t).getD i 0 * ns.sum := Int.not_lt.mp fun el => by
          have h1 := n.max i hi el
          rw [g3] at h1
          have h2 : ns.getD g 0 * ((A t).getD i 0 + 1) ≤ ns.getD g 0 * ((A h).getD i 0 + 1) := Int.mul_le_mul_of_nonneg_left (by omega) (p0 g)
          omega
        have key : SS (fun k => ((A h).getD k 0 - (A (t + 1)).getD k 0) * ns.sum) ns.length + ns.sum ≤ SS (fun k => ns.getD k 0 * ((h : Int) - ((t : Int) + 1))) ns.length := by
          refine SS_gap hi (fun k hkn => ?_) ?_
          · have hd : (0 : Int) ≤ (h : Int) - ((t : Int) + 1) := by omega
            have pk := Int.mul_nonneg (p0 k) hd
            by_cases ho : ns.getD k 0 * ((A h).getD i 0 + 1) < ns.getD i 0 * (A h).getD k 0
            · rw [ih' k ho, Int.sub_self, Int.zero_mul]; exact pk
            · by_cases hs : (A (t + 1)).getD k 0 = (A h).getD k 0
              · rw [hs, Int.sub_self, Int.zero_mul]; exact pk
              · have hkg : k ≠ g := fun x => ho (x ▸ hg)
                have e1 := eD k
                rw [if_neg hkg] at e1
                have mk := monoh d (t + 1) (by omega) k
                have nk : ns.getD k 0 * ((t : Int) + 1) ≤ (A t).getD k 0 * ns.sum := Int.not_lt.mp fun el => by
                  have h1 := n.max k hkn el
                  rw [g3] at h1
                  have h2 : ns.getD g 0 * ((A t).getD k 0 + 1) ≤ ns.getD g 0 * (A h).getD k 0 := Int.mul_le_mul_of_nonneg_left (by omega) (p0 g)
                  have h3 : ns.getD k 0 * (A h).getD g 0 ≤ ns.getD g 0 * (A h).getD k 0 := Int.le_trans h1 h2
                  have ak : 0 < (A h).getD k 0 := by have := a0 (t + 1) (by omega) k; omega
                  have ai1 : 0 < (A h).getD i 0 + 1 := by omega
                  have h4 := Int.mul_le_mul_of_nonneg_right h3 (Int.le_of_lt ai1)
                  have h5 := Int.mul_lt_mul_of_pos_right hg ak
                  have h6 := Int.mul_le_mul_of_nonneg_right (Int.not_lt.mp ho) (a0 h (Nat.le_refl h) g)
                  have x1 : ns.getD k 0 * (A h).getD g 0 * ((A h).getD i 0 + 1) = ns.getD k 0 * ((A h).getD i 0 + 1) * (A h).getD g 0 := Int.mul_right_comm _ _ _
                  have x2 : ns.getD g 0 * (A h).getD k 0 * ((A h).getD i 0 + 1) = ns.getD g 0 * ((A h).getD i 0 + 1) * (A h).getD k 0 := Int.mul_right_comm _ _ _
                  have x3 : ns.getD i 0 * (A h).getD g 0 * (A h).getD k 0 = ns.getD i 0 * (A h).getD k 0 * (A h).getD g 0 := Int.mul_right_comm _ _ _
                  omega
                have lk := light k ho
                rw [e1, Int.sub_mul, Int.mul_sub]
                omega
          · have e1 := eD i
            rw [if_neg hig] at e1
            rw [e1, Int.sub_mul, Int.mul_sub]
            omega
        rw [SS_mul, SS_mul, SS_sub, sA h (Nat.le_refl h), sA (t + 1) (by omega), ← hT, Int.mul_comm ns.sum] at key
        have e2 : (((t + 1 : Nat)) : Int) = (t : Int) + 1 := by omega
        rw [e2] at key
        omega
      · have hkg : k ≠ g := fun x => hg (x ▸ hk)
        have e1 := eD k
        rw [if_neg hkg] at e1
        rw [← e1]
        exact ih' k hk
  have none : ∀ k, ¬ (ns.getD k 0 * ((A h).getD i 0 + 1) < ns.getD i 0 * (A h).getD k 0) := fun k hk => by
    have h1 := claim h 0 (by omega) k hk
    have h2 := sA 0 (Nat.zero_le h)
    have h3 : (A 0).getD k 0 = 0 := by
      have z := hA 0 (Nat.zero_le h)
      generalize A 0 = z0 at z
      cases z
      simp [List.getD_eq_getElem?_getD, List.getElem?_replicate]; split <;> simp
    rw [← h1, h3, Int.mul_zero] at hk
    have := Int.mul_nonneg (p0 k) (show (0 : Int) ≤ (A h).getD i 0 + 1 by omega)
    omega
  have key : SS (fun k => (A h).getD k 0 * ns.sum) ns.length + ns.sum ≤ SS (fun k => ns.getD k 0 * (h : Int)) ns.length :=
    SS_gap hi (fun k _ => light k (none k)) bad
  rw [SS_mul, SS_mul, sA h (Nat.le_refl h), ← hT, Int.mul_comm ns.sum] at key
  omega

structure Best (ns rs : List Int) (h : Int) (n b : Nat) : Prop where
  lt : b < n
  elig : Elig ns rs h b
  max : ∀ k, k < n → Elig ns rs h k → ns.getD k 0 * (rs.getD b 0 + 1) ≤ ns.getD b 0 * (rs.getD k 0 + 1)
  first : ∀ k, k < b → Elig ns rs h k → ns.getD k 0 * (rs.getD b 0 + 1) < ns.getD b 0 * (rs.getD k 0 + 1)
theorem Best.next {ns rs : List Int} {h : Int} {b : Nat} (x : Best ns rs h ns.length b) : IsNext ns rs h b := ⟨x.lt, x.elig, x.max, x.first⟩
theorem Best.keep {ns rs : List Int} {h : Int} {n b : Nat} (x : Best ns rs h n b) (hn : Elig ns rs h n → ns.getD n 0 * (rs.getD b 0 + 1) ≤ ns.getD b 0 * (rs.getD n 0 + 1)) : Best ns rs h (n + 1) b :=
  ⟨Nat.lt_succ_of_lt x.lt, x.elig, fun k hk e => by
    by_cases c : k = n
    · subst c; exact hn e
    · exact x.max k (by omega) e, x.first⟩
theorem Best.one {ns rs : List Int} {h : Int} {n : Nat} (x : ∀ k, k < n → ¬ Elig ns rs h k) (e : Elig ns rs h n) : Best ns rs h (n + 1) n :=
  ⟨Nat.lt_succ_self n, e, fun k hk ek => by
    by_cases c : k = n
    · subst c; exact Int.le_refl _
    · exact absurd ek (x k (by omega)), fun k hk ek => absurd ek (x k hk)⟩
theorem Best.take {ns rs : List Int} {h : Int} {n b : Nat} (r0 : ∀ k, 0 ≤ rs.getD k 0) (x : Best ns rs h n b) (e : Elig ns rs h n) (g : ns.getD b 0 * (rs.getD n 0 + 1) < ns.getD n 0 * (rs.getD b 0 + 1)) : Best ns rs h (n + 1) n := by
  have key : ∀ k, k < n → Elig ns rs h k → ns.getD k 0 * (rs.getD n 0 + 1) < ns.getD n 0 * (rs.getD k 0 + 1) := fun k hk ek => by
    have h1 := x.max k hk ek
    have rk := r0 k
    have rb := r0 b
    have rn := r0 n
    have h2 := Int.mul_le_mul_of_nonneg_right h1 (show 0 ≤ rs.getD n 0 + 1 by omega)
    have h3 := Int.mul_lt_mul_of_pos_right g (show 0 < rs.getD k 0 + 1 by omega)
    have x1 : ns.getD b 0 * (rs.getD k 0 + 1) * (rs.getD n 0 + 1) = ns.getD b 0 * (rs.getD n 0 + 1) * (rs.getD k 0 + 1) := Int.mul_right_comm _ _ _
    have x2 : ns.getD k 0 * (rs.getD b 0 + 1) * (rs.getD n 0 + 1) = ns.getD k 0 * (rs.getD n 0 + 1) * (rs.getD b 0 + 1) := Int.mul_right_comm _ _ _
    have x3 : ns.getD n 0 * (rs.getD b 0 + 1) * (rs.getD k 0 + 1) = ns.getD n 0 * (rs.getD k 0 + 1) * (rs.getD b 0 + 1) := Int.mul_right_comm _ _ _
    refine Int.lt_of_mul_lt_mul_right (a := rs.getD b 0 + 1) ?_ (by omega)
    omega
  exact ⟨Nat.lt_succ_self n, e, fun k hk ek => by
    by_cases c : k = n
    · subst c; exact Int.le_refl _
    · exact Int.le_of_lt (key k (by omega) ek), key⟩
local macro_rules | `(tactic| walk_at "m fill") => `(tactic| (have hfill : PySem.Challenge.rw_jd0003_01.row.prog = PySem.Challenge.rw_jd0003_01.row.prog ∧ hd.heap_39 = hd.heap_39 := (by k_fill; exact ⟨rfl, rfl⟩); clear hfill))
local macro_rules | `(tactic| walk_at "m steps") => `(tactic| repeat' (first | ((fail_if_success (with_reducible show Stop _)); (first | (k_unfold; (try dsimp only)) | walk1 | (dsimp only; walk1)))))
local macro_rules | `(tactic| walk_at "m enterC") => `(tactic| (refine' enterC ?k1 ?k2 ?k3 ?k5 ?kA ?kF ?kK ?k6 ?k7 ?k8 ?k9 ?kB ?kD ?_ ?c2 ?c3 ?c4; (case kA => exact rfl); (case kF => exact rfl); (case kK => assumption); (case k1 => k_asm); (case k2 => k_asm); (case k3 => k_asm); (case k5 => k_asm); (case k6 => k_is); (case k7 => k_is); (case k8 => ktr_room); (case k9 => first | exact Bd.at (by assumption) (by k_is) | exact BindsTo.of_eq rfl | exact binds_K (by k_in) rfl (by k_is) rfl rfl rfl); (case kB => exact rfl); (case kD => decide +kernel); (case c2 => exact rfl); (case c3 => exact rfl); (case c4 => exact rfl); k_whole; intro L' h' tk' cells' F' N' Y' B' X' T'; k_cells Y'; (try simp only [List.cons_append, List.nil_append] at N'); (try dsimp only)))
local macro_rules | `(tactic| walk_at "m enterP") => `(tactic| (refine' enterP ?k1 ?k2 ?k3 ?k5 ?kA ?kF ?kK ?k6 ?k7 ?k8 ?k9 ?kB ?_ ?c2 ?c3 ?c4 ?c5; (case kA => exact rfl); (case kF => exact rfl); (case kK => assumption); (case k1 => k_asm); (case k2 => k_asm); (case k3 => k_asm); (case k5 => k_asm); (case k6 => k_is); (case k7 => k_is); (case k8 => ktr_room); (case k9 => first | exact Bd.at (by assumption) (by k_is) | exact BindsTo.of_eq rfl | exact binds_K (by k_in) rfl (by k_is) rfl rfl rfl); (case kB => exact locs rfl); (case c5 => decide); (case c2 => exact rfl); (case c3 => exact rfl); (case c4 => exact rfl); k_whole; intro L' h' F' N' B' X' T'; (try dsimp only)))
local macro_rules | `(tactic| walk_at "exec While Compare cons nil") => `(tactic| refine stop ?_)
local macro_rules | `(tactic| walk_at "exec For Name Name cons nil") => `(tactic| refine stop ?_)
local macro_rules | `(tactic| walk_at "exec For Name Call cons nil") => `(tactic| refine stop ?_)
local macro_rules | `(tactic| walk_at "exec Assign cons ListComp") => `(tactic| refine stop ?_)
local macro_rules | `(tactic| walk_at "eval ListComp") => `(tactic| refine stop ?_)
local macro_rules | `(tactic| walk_at "m comp") => `(tactic| k_dflt (refine' LCg.ListComp_U ?F ?cl ?ce ?ki ?na ?hx ?_; (case ki => rfl); (case F => k_asm); (case ce => decide); (case cl => with_unfolding_all rfl); (case na => decide); (case hx => rfl)))
local macro_rules | `(tactic| walk_at "m compT") => `(tactic| k_dflt (refine' LCt.ListComp_T ?F ?cl ?ce ?ki ?na ?hx ?_; (case ki => rfl); (case F => k_asm); (case ce => decide); (case cl => with_unfolding_all rfl); (case na => decide); (case hx => rfl)))
local macro_rules | `(tactic| walk_at "m compA") => `(tactic| k_dflt (refine' LCg.Assign_ListComp_U ?F ?e ?sw ?cl ?ce ?ki ?na ?hx ?hy ?hp ?_; (case hy => rfl); (case F => k_asm); (case e => exact rfl); (case sw => with_unfolding_all rfl); (case cl => with_unfolding_all rfl); (case ce => decide); (case ki => rfl); (case na => decide); (case hx => rfl); (case hp => rfl)))
local macro_rules | `(tactic| walk_at "m compAT") => `(tactic| k_dflt (refine' LCt.Assign_ListComp_T ?F ?e ?sw ?cl ?ce ?ki ?na ?hx ?hy ?hp ?_; (case hy => rfl); (case F => k_asm); (case e => exact rfl); (case sw => with_unfolding_all rfl); (case cl => with_unfolding_all rfl); (case ce => decide); (case ki => rfl); (case na => decide); (case hx => rfl); (case hp => rfl)))
local macro_rules | `(tactic| walk_at "CompSrc") => `(tactic| refine stop ?_)
local macro_rules | `(tactic| walk_at "CompSrcT") => `(tactic| refine stop ?_)
local macro_rules | `(tactic| walk_at "pyIter ref") => `(tactic| refine stop ?_)
local macro_rules | `(tactic| walk_at "InvEndN") => `(tactic| refine stop ?_)
local macro_rules | `(tactic| walk_at "KswEnd") => `(tactic| refine stop ?_)
local macro_rules | `(tactic| walk_at "m in") => `(tactic| first | kst_in | kst_inAny | (intro p hp; kst_mem) | kst_anyIn)
local macro_rules | `(tactic| walk_at "m same1") => `(tactic| (intro z h1 _ _; (show (if z = _ then _ else _) = _); rw [if_neg h1]; rfl))
local macro_rules | `(tactic| walk_at "m srcR") => `(tactic| ((rename IsRange _ _ _ _ _ _ _ _ => hR); (rename Fr _ _ _ _ => hF); (rename News _ _ _ _ => hN); refine LCg.CompSrc.range (by rfl) hF hN hR (small_one (by omega) (by omega) (by omega) (by omega)) (rsz _) (by rw [PySem.sizeLine_eq]; omega) ?_; clear hF hN; intro g9))
local macro_rules | `(tactic| walk_at "m srcB") => `(tactic| ((rename Fr _ _ _ _ => hF); (rename News _ _ _ _ => hN); refine LCg.CompSrc.base (by rfl) hF hN (by assumption) (by size_fits) ?_; clear hF hN; intro g9))
local macro_rules | `(tactic| walk_at "CompEnd") => `(tactic| refine stop ?_)
local macro_rules | `(tactic| walk_at "m depth") => `(tactic| ((have e100 : Builtin.pylongFrames = 100 := rfl); (have e1000 : recursionLimit = 1000 := rfl); (simp only [depth_deeper, depth_in1, depth_under_kw, depth_under_make] at *); (dsimp only [ktrTop] at *); omega))
local macro_rules | `(tactic| walk_at "binaryOp FloorDiv int int") => `(tactic| (refine floordiv_int ?hb ?_ ?hp; (case hb => omega); (case hp => exact Or.inr (room_of (by assumption) (PyProof.Rows.Top.nolimit (by assumption)) (by assumption) (by assumption) (by rfl) (by rfl) (by walk_at "m depth") (by rfl) (by rfl) (by rfl) (by rfl)))))
local macro_rules | `(tactic| walk_at "m srcRT") => `(tactic| ((rename IsRange _ _ _ _ _ _ _ _ => hR); (rename Fr _ _ _ _ => hF); (rename News _ _ _ _ => hN); refine LCt.CompSrcT.range (by rfl) hF hN hR (small_one (by omega) (by omega) (by omega) (by omega)) (rsz _) (by rw [PySem.sizeLine_eq]; omega) ?_; clear hF hN; intro g9))
local macro_rules | `(tactic| walk_at "binaryOp Mult int int") => `(tactic| refine mul_int ?_ (by assumption))
local macro_rules | `(tactic| walk_at "m srcL") => `(tactic| ((rename Fr _ _ _ _ => hF); (rename News _ _ _ _ => hN); refine LCg.CompSrc.ledger (by rfl) hF hN (by k_mem) (by (simp only [List.size_toArray]; rw [PySem.sizeLine_eq]; omega)) ?_; clear hF hN; intro g9))
local macro_rules | `(tactic| walk_at "call type:range") => `(tactic| ((rename Fr _ _ _ _ => F'); (rename News _ _ _ _ => N'); first | (with_unfolding_all refine range1_rows F' N' ?_; intro _ _ _ _ _ _ _ _ _) | (with_unfolding_all refine range2_rows F' N' ?_; intro _ _ _ _ _ _ _ _ _)))
local macro_rules | `(tactic| walk_at "exec Raise some none") => `(tactic| refine Raise_new rfl ?_)
theorem prodInc_bd {rs : List Int} (h : ∀ r ∈ rs, 0 ≤ r ∧ r ≤ 20) (hl : rs.length ≤ 8) : 0 < prodInc rs ∧ prodInc rs < 1000000000000 := by
  refine ⟨prodInc_pos fun x hx => (h x hx).1, ?_⟩
  have h1 := prodInc_le h
  have h2 : (21 : Int) ^ rs.length ≤ 21 ^ 8 := by
    have : rs.length = 0 ∨ rs.length = 1 ∨ rs.length = 2 ∨ rs.length = 3 ∨ rs.length = 4 ∨ rs.length = 5 ∨ rs.length = 6 ∨ rs.length = 7 ∨ rs.length = 8 := by omega
    rcases this with e | e | e | e | e | e | e | e | e <;> rw [e] <;> decide
  have h3 : (21 : Int) ^ 8 < 1000000000000 := by decide
  omega
abbrev QSt := List Value × List Int × Nat × Obj × Obj × Obj × Obj
theorem quota_ok {w : World} {loose : List Str} {mean : ExcName → Option Value} {mg mb : Str → Option Value} {dp un : Nat} {gd : Option (List Code)} {cn : Str} {cs : Scope} {a : Addr} {ccd : Value} {cl : List (Str × Addr)} {outer : List Env} {A₀ : Around} {base h₀ : Heap} {L : Addr} {m : Str → Option Value} {s : Shared} {Q E : Value → Shared → Prop}
  {lv : Addr} {vs : List Value} {ns : List Int} {k : Int} {t : Tok} {args : List Value}
  (hB : Below A₀ base outer h₀) (hF : Fr h₀ L s.heap m) (hX : (hd.heap_39 w.params).In h₀) (hT : Top hd.view_39 loose mean mg mb h₀) (hk : cs.kind = .function)
  (hdp : dp + 150 < recursionLimit) (hun : un + 30 < cLine)
  (hl : s.heap.IsList lv vs.toArray) (hi : IntsAre vs ns) (hlen : ns.length ≤ 8) (hn0 : 0 < ns.length) (hpos : ∀ x ∈ ns, 0 ≤ x) (hsum : 0 < ns.sum) (hk0 : 0 ≤ k) (hk8 : k ≤ 20)
  (hbind : Bd (hd.heap_39 w.params) 74 s args [(Str.ofString "votes", .ref lv), (Str.ofString "seats", .int k t), (Str.ofString "tiesallowed", .bool true)])
  (ret : ∀ (r : Addr) (rv : List Value) (rs : List Int) (cap : Nat) (h' : Heap) (tk' : Nat), (∀ b o, s.heap.get? b = some o → h'.get? b = some o) → s.heap.get? r = none → h'.get? r = some (listOf rv.toArray cap) → IntsAre rv rs → QR ns k.toNat rs → Q (.ref r) { s with heap := h', toks := tk' }) :
  wpAny (model PySem.Challenge.rw_jd0003_01.row.prog w) (ktrTop dp un gd cn cs L a ccd cl outer) (call (.ref 74) args) Q E s := by
  walk_at "m fill"
  refine wpAny_call ?_
  k_dflt (walk_at "m enterC")
  clear hF hB hX hT
  have hseer : s.heap.NoSeer := Top.seer (by assumption) (by decide +kernel)
  (try k_unmd); (try k_fold)
  walk_at "m steps"
  rename_i L' hh3 tk0 B' X' T' oM oU oQ oC oR0 oV d1 d2 d3 d4 d5 d6 lz hz lt1 D' hD iD n1 s1 e1 e2 e3 lt2 hW oR F' N' dR
  unfold Stop
  have dV : oV.data = .cell (some (.ref lv)) := d6
  refine ksw_while (σ := QSt) (fun c => [(D', listOf c.1.toArray c.2.2.1), (L' + 1 + 1 + 1 + 1 + 1 + 1, c.2.2.2.2.2.2), (L' + 1 + 1 + 1 + 1 + 1, c.2.2.2.2.2.1), (L' + 1 + 1 + 1 + 1, c.2.2.2.2.1), (L' + 1 + 1 + 1, c.2.2.2.1), (L' + 1 + 1, oR), (L' + 1, oV)])
    (fun _ => []) (fun c => IntsAre c.1 c.2.1 ∧ (∃ v, c.2.2.2.1.data = .cell v) ∧ (∃ v, c.2.2.2.2.1.data = .cell v) ∧ (∃ v, c.2.2.2.2.2.1.data = .cell v) ∧ (∃ v, c.2.2.2.2.2.2.data = .cell v)) [Str.ofString "r", Str.ofString "maxquotas", Str.ofString "nextrep"]
    (fun c => ∃ j : Nat, QR ns j c.2.1 ∧ (j : Int) ≤ k) (fun c => (k - c.2.1.sum).toNat)
    ((List.replicate (ns.length : Int).toNat [Value.int 0 tk0]).flatten, (List.replicate (ns.length : Int).toNat [(0 : Int)]).flatten, 0, oC, oQ, oU, oM) F' ?hn ⟨iD, ⟨_, d4⟩, ⟨_, d3⟩, ⟨_, d2⟩, ⟨_, d1⟩⟩ (fun _ h => nomatch h) ?hp ?turn
  case hn => exact fun p hp => N' p (by simp only [List.mem_cons, List.not_mem_nil, or_false] at hp ⊢; rcases hp with h | h | h | h | h | h | h <;> simp [h])
  case hp => exact ⟨0, by have z := QR.zero (ns := ns); simpa using z, hk0⟩
  clear F' N' iD s1 e1 e2 e3 d1 d2 d3 d4 d5 d6
  rintro ⟨rv, rs, cap, oC, oQ, oU, oM⟩ u h tk ⟨hri, ⟨vC, hC⟩, ⟨vQ, hQ⟩, ⟨vU, hU⟩, ⟨vM, hM⟩⟩ ⟨j, hj, hjk⟩ hFr hNw
  dsimp only at *
  walk_at "m steps"
  rotate_left
  · rename_i F9 N9 hge
    have hjs := hj.sum
    have ejk : j = k.toNat := by omega
    exact ret D' rv rs cap _ _ F9.keep (N9 _ (.head _)).2.2 (N9 _ (.head _)).1 hri (ejk ▸ hj)
  have hrs : ∀ r ∈ rs, 0 ≤ r ∧ r ≤ 20 := fun r hr => by
    obtain ⟨i, hi, e⟩ := List.mem_iff_getElem.mp hr
    have a1 := hj.nonneg i
    have a2 := hj.le i
    rw [List.getD_eq_getElem?_getD, List.getElem?_eq_getElem hi, e] at a1 a2
    simp only [Option.getD_some] at a1 a2
    omega
  have hrl : rs.length = ns.length := hj.len
  have hp1 : 0 < prodInc rs ∧ prodInc rs < 1000000000000 := prodInc_bd hrs (by omega)
  have hrg : ∀ i : Nat, 0 ≤ rs.getD i 0 ∧ rs.getD i 0 ≤ 20 := fun i => ⟨hj.nonneg i, Int.le_trans (hj.le i) (by omega)⟩
  have hrsum : 0 ≤ rs.sum ∧ rs.sum ≤ 20 := by rw [hj.sum]; omega
  rename_i hh1 tk1 t1 hlt hh2 oC2 F2 N2 dC2
  unfold Stop
  refine For_invVF F2 (by rfl) (by rfl) ?_
  walk_at "m steps"
  unfold Stop
  refine kst_listL (σ := Obj) (fun c => [(D', listOf rv.toArray cap), (L' + 1 + 1 + 1 + 1 + 1 + 1, oM), (L' + 1 + 1 + 1 + 1 + 1, oU), (L' + 1 + 1 + 1 + 1, oQ), (L' + 1 + 1 + 1, c), (L' + 1 + 1, oR), (L' + 1, oV)])
    (fun _ => []) (fun _ => True) [] (fun pre c => ∃ t, c.data = .cell (some (.int (prodInc pre) t))) oC2 (by rfl) (fun c => List.Mem.head _) hri F2 N2 trivial (fun _ h => nomatch h) ⟨_, dC2⟩ ?turn1 ?done1
  case turn1 =>
    intro c pre post r tr u1 h1 tk1 own hpre hmem hoff _ hP F3 N3
    obtain ⟨tc, dc⟩ := hP
    have hr := hrs r hmem
    dsimp only [List.map, List.cons_append, List.nil_append] at *
    walk_at "m steps"
    rename_i _ hh4 oC4 F4 N4 dC4
    unfold Stop
    exact kst_end oC4 F4 N4 (fun p hp => List.mem_append_left own hp) (fun p hp => List.mem_append_right [_, _, _, _, _, _, _] hp) rfl trivial (fun _ h => nomatch h) (by walk_at "m same1") ⟨_, by rw [dC4, prodInc_snoc]⟩
  case done1 =>
    intro c u1 h1 tk1 _ hP F3 N3
    obtain ⟨tc, dc⟩ := hP
    dsimp only at *
    walk_at "m steps"
    unfold Stop
    refine wpAny_Assign_Name ?_
    walk_at "m steps"
    unfold Stop
    walk_at "m comp"
    walk_at "m steps"
    unfold Stop
    walk_at "m srcR"
    refine kcf_range (fun i => (ns.getD i.toNat 0 * prodInc rs).fdiv (rs.getD i.toNat 0 + 1)) ?t2 ?d2
    case t2 =>
      intro i ti I oI C oC D m₂ ys hh tk E' hlo hhi hC hx hF hN off ne mk
      simp only [LCg.Off3, and_true] at off
      have hri := hrg i.toNat
      walk_at "m steps"
      unfold Stop
      exact LCg.CompEnd.intro (by assumption) (by assumption) _ (by kcf_all) (by first | (simp only [LCg.Off3, and_true]; assumption)) trivial ⟨rfl, _, rfl⟩
    case d2 =>
      intro ys hys
      obtain ⟨qs, hqs⟩ : ∃ qs, qs = List.map (fun i => (ns.getD i.toNat 0 * prodInc rs).fdiv (rs.getD i.toNat 0 + 1)) (rangeKs 0 ns.length) := ⟨_, rfl⟩
      rw [← hqs] at hys
      have hql : qs.length = ns.length := by rw [hqs]; simp [rangeKs_length]
      unfold LCg.FinE
      intro D2 h2 tk2 F2 N2 o2
      simp only [LCg.Off1, and_true] at o2
      walk_at "m steps"
      rotate_left
      · exfalso; omega
      unfold Stop
      refine wpAny_Assign_Name ?_
      walk_at "m steps"
      unfold Stop
      walk_at "m comp"
      walk_at "m steps"
      unfold Stop
      walk_at "m srcB"
      refine kcf_list (fun p => -(((-p) * (rs.sum + 1)).fdiv ns.sum)) hi ?t3 ?d3
      case t3 =>
        intro i ti I oI C oC D m₂ ys hh tk E' hmem hC hx hF hN off ne mk
        simp only [LCg.Off3, and_true] at off
        walk_at "m steps"
        unfold Stop
        exact LCg.CompEnd.intro (by assumption) (by assumption) _ (by kcf_all) (by first | (simp only [LCg.Off3, and_true]; assumption)) (Or.inl (by assumption)) ⟨rfl, _, rfl⟩
      case d3 =>
        intro ys3 hys3
        obtain ⟨us, hus⟩ : ∃ us, us = List.map (fun p => -(((-p) * (rs.sum + 1)).fdiv ns.sum)) ns := ⟨_, rfl⟩
        rw [← hus] at hys3
        have hul : us.length = ns.length := by rw [hus]; simp
        unfold LCg.FinE
        intro D3 h3 tk3 F3 N3 o3
        simp only [LCg.Off1, and_true] at o3
        walk_at "m steps"
        unfold Stop
        refine wpAny_Assign_Name ?_
        walk_at "m steps"
        unfold Stop
        walk_at "m comp"
        walk_at "m steps"
        unfold Stop
        walk_at "m srcR"
        refine kcf_range (fun i => if us.getD i.toNat 0 ≤ rs.getD i.toNat 0 then 0 else qs.getD i.toNat 0) ?t4 ?d4
        case t4 =>
          intro i ti I oI C oC D m₂ ys hh tk E' hlo hhi hC hx hF hN off ne mk
          simp only [LCg.Off3, and_true] at off
          walk_at "m steps"
          all_goals (unfold Stop; refine LCg.CompEnd.intro (by assumption) (by assumption) _ (by kcf_all) (by first | (simp only [LCg.Off3, and_true]; assumption)) trivial ⟨rfl, ?_⟩)
          · exact ⟨_, by rw [if_pos (by omega)]⟩
          · exact ⟨_, by rw [if_neg (by omega)]⟩
        case d4 =>
          intro ys4 hys4
          obtain ⟨q2, hq2⟩ : ∃ q2, q2 = List.map (fun i => if us.getD i.toNat 0 ≤ rs.getD i.toNat 0 then 0 else qs.getD i.toNat 0) (rangeKs 0 ns.length) := ⟨_, rfl⟩
          rw [← hq2] at hys4
          have hq2l : q2.length = ns.length := by rw [hq2]; simp [rangeKs_length]
          unfold LCg.FinE
          intro D4 h4 tk4 F4 N4 o4
          simp only [LCg.Off1, and_true] at o4
          walk_at "m steps"
          unfold Stop
          walk_at "m compAT"
          walk_at "m steps"
          unfold Stop
          rename Int => M
          rename (M ∈ q2) => hMq
          rename (∀ a, a ∈ q2 → a ≤ M) => hMx
          walk_at "m srcRT"
          refine kci_range (fun l i => if q2.getD i.toNat 0 = M then l ++ [i] else l) ?t5 ?d5 ?g5
          case g5 => intro l i; dsimp only; split <;> simp
          case t5 =>
            intro i ti I oI C oC D m₂ ys l hh tk E' hlo hhi hys hC hx hF hN off ne mk
            simp only [LCg.Off3, and_true] at off
            walk_at "m steps"
            all_goals (unfold Stop; refine LCg.CompEnd.intro (by assumption) (by assumption) _ (by kcf_all) (by first | (simp only [LCg.Off3, and_true]; assumption)) trivial ?_)
            · exact ⟨rfl, i, ti, rfl, by rw [if_pos (by omega)]⟩
            · exact ⟨rfl, by rw [if_neg (by omega)]⟩
          case d5 =>
            intro ys5 hys5 hy5l
            obtain ⟨mqs, hmqs⟩ : ∃ mqs, mqs = List.foldl (fun l i => if q2.getD i.toNat 0 = M then l ++ [i] else l) [] (rangeKs 0 ns.length) := ⟨_, rfl⟩
            rw [← hmqs] at hys5
            obtain ⟨hmq0, hmq1, hnx⟩ := step_next hj hpos hsum hqs hus hq2 hMq hMx hmqs
            have hmqi : 0 ≤ mqs.getD (Int.toNat 0) 0 ∧ mqs.getD (Int.toNat 0) 0 < rs.length := by have := hnx.lt; omega
            clear hmqs hq2 hqs hus hMq hMx
            unfold LCg.FinA
            intro D5 h5 tk5 F5 N5 o5
            simp only [LCg.Off1, and_true] at o5
            walk_at "m steps"
            unfold Stop
            rename_i hi9 hl9 hs9
            have hjs := hj.sum
            have hq9 := QR.succ hj hnx
            have hs10 := hq9.sum
            refine ksw_end (σ := QSt) (_, _, _, _, _, _, _) (by assumption) (by assumption) (by walk_at "m in") ⟨hi9, ⟨_, by assumption⟩, ⟨_, by assumption⟩, ⟨_, by assumption⟩, ⟨_, by assumption⟩⟩ (fun _ h => nomatch h) ?same ⟨j + 1, hq9, by omega⟩ (by dsimp only; omega)
            case same => (intro z _ h3; have h4 := h3; simp only [List.contains_cons, List.contains_nil, Bool.or_false, Bool.or_eq_false_iff, beq_eq_false_iff_ne, ne_eq] at h4; obtain ⟨a1, a2, a3⟩ := h4; dsimp only; rw [if_neg a3, if_neg a2, if_neg a1]; exact if_neg (by rw [h3]; decide))

theorem quota_use {w : World} {loose : List Str} {mean : ExcName → Option Value} {mg mb : Str → Option Value} {dp un : Nat} {gd : Option (List Code)} {cn : Str} {cs : Scope} {a : Addr} {ccd : Value} {cl : List (Str × Addr)} {outer : List Env} {A₀ : Around} {base h₀ : Heap} {L : Addr} {m : Str → Option Value} {s : Shared} {Q E : Value → Shared → Prop}
  {lv : Addr} {vs : List Value} {ns : List Int} {k : Int} {t : Tok} {args : List Value} {news : List (Addr × Obj)} {c : Nat}
  (hB : Below A₀ base outer h₀) (hF : Fr h₀ L s.heap m) (hX : (hd.heap_39 w.params).In h₀) (hT : Top hd.view_39 loose mean mg mb h₀) (hN : News h₀ L s.heap news) (hk : cs.kind = .function)
  (hdp : dp + 150 < recursionLimit) (hun : un + 30 < cLine)
  (hm : (lv, listOf vs.toArray c) ∈ news) (hi : IntsAre vs ns) (hlen : ns.length ≤ 8) (hn0 : 0 < ns.length) (hpos : ∀ x ∈ ns, 0 ≤ x) (hsum : 0 < ns.sum) (hk0 : 0 ≤ k) (hk8 : k ≤ 20)
  (hbind : Bd (hd.heap_39 w.params) 74 s args [(Str.ofString "votes", .ref lv), (Str.ofString "seats", .int k t), (Str.ofString "tiesallowed", .bool true)])
  (ret : ∀ (r : Addr) (rv : List Value) (rs : List Int) (cap : Nat) (h' : Heap) (tk' : Nat), Fr h₀ L h' m → News h₀ L h' ((r, listOf rv.toArray cap) :: news) → LCg.Off1 r news → IntsAre rv rs → QR ns k.toNat rs → Q (.ref r) { s with heap := h', toks := tk' }) :
  wpAny (model PySem.Challenge.rw_jd0003_01.row.prog w) (ktrTop dp un gd cn cs L a ccd cl outer) (call (.ref 74) args) Q E s := by
  refine quota_ok hB hF hX hT hk hdp hun ⟨_, (hN _ hm).1, rfl, c, rfl⟩ hi hlen hn0 hpos hsum hk0 hk8 hbind fun r rv rs cap h' tk' keep fresh get hri hq => ?_
  refine ret r rv rs cap h' tk' (hF.keeps keep) ?_ ?_ hri hq
  · intro p hp
    rcases List.mem_cons.mp hp with rfl | hp
    · refine ⟨get, fun e => ?_, ?_⟩
      · obtain ⟨oL, _, _, hL, _⟩ := hF.ns
        have e' : r = L := e
        rw [e', hL] at fresh; cases fresh
      · cases q : h₀.get? r with
        | none => rfl
        | some o => have := hF.keep _ _ q; rw [fresh] at this; cases this
    · exact ⟨keep _ _ (hN p hp).1, (hN p hp).2⟩
  · clear ret hm
    induction news with
    | nil => trivial
    | cons p news ih =>
      refine ⟨fun e => ?_, ih fun q hq => hN q (.tail _ hq)⟩
      have h1 := (hN p (.head _)).1
      have e' : p.1 = r := e
      rw [e', fresh] at h1; cases h1
def wF (ns rs : List Int) (i : Int) : Bool := decide (rs.getD i.toNat 0 ≤ -(((-ns.getD i.toNat 0) * rs.sum).fdiv ns.sum)) && decide ((ns.getD i.toNat 0 * rs.sum).fdiv ns.sum ≤ rs.getD i.toNat 0)
theorem all_snoc (f : Int → Bool) (l : List Int) (x : Int) : (l ++ [x]).all f = (l.all f && f x) := by simp [List.all_append]
theorem within_ok {w : World} {loose : List Str} {mean : ExcName → Option Value} {mg mb : Str → Option Value} {dp un : Nat} {gd : Option (List Code)} {cn : Str} {cs : Scope} {a : Addr} {ccd : Value} {cl : List (Str × Addr)} {outer : List Env} {A₀ : Around} {base h₀ : Heap} {L : Addr} {m : Str → Option Value} {s : Shared} {Q E : Value → Shared → Prop}
  {lv lw : Addr} {vs ws : List Value} {ns rs : List Int}
  (hB : Below A₀ base outer h₀) (hF : Fr h₀ L s.heap m) (hX : (hd.heap_39 w.params).In h₀) (hT : Top hd.view_39 loose mean mg mb h₀) (hk : cs.kind = .function)
  (hdp : dp + 150 < recursionLimit) (hun : un + 30 < cLine)
  (hl : s.heap.IsList lv vs.toArray) (hi : IntsAre vs ns) (hl2 : s.heap.IsList lw ws.toArray) (hi2 : IntsAre ws rs) (hlen : ns.length ≤ 8) (hn0 : 0 < ns.length) (hrl : rs.length = ns.length) (hsum : 0 < ns.sum)
  (hmul : ∀ i, IntMulOk (-ns.getD i 0) rs.sum ∧ IntMulOk (ns.getD i 0) rs.sum)
  (ret : ∀ (h' : Heap) (tk' : Nat), (∀ b o, s.heap.get? b = some o → h'.get? b = some o) → Q (.bool ((rangeKs 0 ns.length).all (wF ns rs))) { s with heap := h', toks := tk' }) :
  wpAny (model PySem.Challenge.rw_jd0003_01.row.prog w) (ktrTop dp un gd cn cs L a ccd cl outer) (call (.ref 49) [.ref lv, .ref lw]) Q E s := by
  walk_at "m fill"
  refine wpAny_call ?_
  k_dflt (walk_at "m enterP")
  clear hF hB hX hT
  have hseer : s.heap.NoSeer := Top.seer (by assumption) (by decide +kernel)
  (try k_unmd); (try k_fold)
  walk_at "m steps"
  unfold Stop
  rename Fr _ _ _ _ => F2
  refine For_invVF F2 (by rfl) (by rfl) ?_
  walk_at "m steps"
  unfold Stop
  rename Fr _ _ _ _ => F3
  rename News _ _ _ _ => N3
  rename IsRange _ _ _ _ _ _ _ _ => hR
  refine kst_range (σ := Bool) (fun _ => []) (fun c => [(Str.ofString "within", .bool c)]) (fun _ => True) [Str.ofString "upperquota", Str.ofString "lowerquota"] (fun pre c => c = pre.all (wF ns rs)) true
    (by rfl) hR (small_one (by omega) (by omega) (by omega) (by omega)) (rsz _) F3 N3 trivial ?hk9 rfl ?turn ?done
  case hk9 => kst_all
  case done =>
    intro c u h tk _ hP F4 N4
    dsimp only at *
    walk_at "m steps"
    rw [hP]
    exact ret _ _ F4.keep
  case turn =>
    intro c pre i ti u h tk own hk hlt hoff _ hP F4 N4
    have hm1 := (hmul i.toNat).1
    have hm2 := (hmul i.toNat).2
    dsimp only [kstB, List.map, List.cons_append, List.nil_append] at *
    walk_at "m steps"
    all_goals (unfold Stop; first
      | (have e9 : wF ns rs i = false := (by unfold wF; rw [Bool.and_eq_false_iff]; first | exact .inl (decide_eq_false (by omega)) | exact .inr (decide_eq_false (by omega)))
         refine kst_end (σ := Bool) false (by assumption) (by assumption) (fun _ h => nomatch h) (fun p hp => hp) rfl trivial (fun p hp => by rw [List.mem_singleton.mp hp]; rfl) (by intro z h1 h2 h3; have hb := h2 _ (List.mem_cons_self); have h4 := h3; simp only [List.contains_cons, List.contains_nil, Bool.or_false, Bool.or_eq_false_iff, beq_eq_false_iff_ne, ne_eq] at h4; obtain ⟨a1, a2⟩ := h4; simp only [if_neg h1, if_neg hb, if_neg a1, if_neg a2]; exact if_neg (by rw [h3]; decide)) (by rw [all_snoc, e9, Bool.and_false]))
      | (have e9 : wF ns rs i = true := (by unfold wF; rw [decide_eq_true (by omega), decide_eq_true (by omega)]; rfl)
         refine kst_end (σ := Bool) c (by assumption) (by assumption) (fun _ h => nomatch h) (fun p hp => hp) rfl trivial (fun p hp => by rw [List.mem_singleton.mp hp]; rfl) (by intro z h1 h2 h3; have hb := h2 _ (List.mem_cons_self); have h4 := h3; simp only [List.contains_cons, List.contains_nil, Bool.or_false, Bool.or_eq_false_iff, beq_eq_false_iff_ne, ne_eq] at h4; obtain ⟨a1, a2⟩ := h4; simp only [if_neg h1, if_neg hb, if_neg a1, if_neg a2]; exact if_neg (by rw [h3]; decide)) (by rw [all_snoc, e9, Bool.and_true]; exact hP)))

theorem within_use {w : World} {loose : List Str} {mean : ExcName → Option Value} {mg mb : Str → Option Value} {dp un : Nat} {gd : Option (List Code)} {cn : Str} {cs : Scope} {a : Addr} {ccd : Value} {cl : List (Str × Addr)} {outer : List Env} {A₀ : Around} {base h₀ : Heap} {L : Addr} {m : Str → Option Value} {s : Shared} {Q E : Value → Shared → Prop}
  {lv lw : Addr} {vs ws : List Value} {ns rs : List Int} {news : List (Addr × Obj)} {c c2 : Nat}
  (hB : Below A₀ base outer h₀) (hF : Fr h₀ L s.heap m) (hX : (hd.heap_39 w.params).In h₀) (hT : Top hd.view_39 loose mean mg mb h₀) (hN : News h₀ L s.heap news) (hk : cs.kind = .function)
  (hdp : dp + 150 < recursionLimit) (hun : un + 30 < cLine)
  (hm : (lv, listOf vs.toArray c) ∈ news) (hm2 : (lw, listOf ws.toArray c2) ∈ news) (hi : IntsAre vs ns) (hi2 : IntsAre ws rs) (hlen : ns.length ≤ 8) (hn0 : 0 < ns.length) (hrl : rs.length = ns.length) (hsum : 0 < ns.sum)
  (hmul : ∀ i, IntMulOk (-ns.getD i 0) rs.sum ∧ IntMulOk (ns.getD i 0) rs.sum)
  (ret : ∀ (h' : Heap) (tk' : Nat), Fr h₀ L h' m → News h₀ L h' news → Q (.bool ((rangeKs 0 ns.length).all (wF ns rs))) { s with heap := h', toks := tk' }) :
  wpAny (model PySem.Challenge.rw_jd0003_01.row.prog w) (ktrTop dp un gd cn cs L a ccd cl outer) (call (.ref 49) [.ref lv, .ref lw]) Q E s :=
  within_ok hB hF hX hT hk hdp hun ⟨_, (hN _ hm).1, rfl, c, rfl⟩ hi ⟨_, (hN _ hm2).1, rfl, c2, rfl⟩ hi2 hlen hn0 hrl hsum hmul fun h' tk' keep => ret h' tk' (hF.keeps keep) fun p hp => ⟨keep _ _ (hN p hp).1, (hN p hp).2⟩
inductive JM : Nat → Prop
  | mk (n : Nat) : JM n
theorem jm (n : Nat) : JM n := .mk n
local macro_rules | `(tactic| walk_at "eval IfExp") => `(tactic| ((rename JM 1 => hj); clear hj; refine stop ?_))
local macro_rules | `(tactic| walk_at "eval BoolOp") => `(tactic| ((rename JM 2 => hj); clear hj; refine stop ?_))
local macro_rules | `(tactic| walk_at "exec If Compare cons nil") => `(tactic| ((rename JM 3 => hj); clear hj; refine stop ?_))
local macro_rules | `(tactic| walk_at "exec If BoolOp cons nil") => `(tactic| ((rename JM 4 => hj); clear hj; refine stop ?_))
theorem join_int {M : Model} {A : Around} {t : Sem Value} {Q E : Value → Shared → Prop} {s : Shared} {h₀ : Heap} {L : Addr} {m : Str → Option Value} {news : List (Addr × Obj)} (_F : Fr h₀ L s.heap m) (_N : News h₀ L s.heap news)
    (h1 : wpAny M A t (fun v s' => Stop (∃ (i : Int) (t : Tok) (h' : Heap) (tk : Nat), v = .int i t ∧ s' = { s with heap := h', toks := tk } ∧ Fr h₀ L h' m ∧ News h₀ L h' news)) E s)
    (h2 : ∀ (i : Int) (t : Tok) (h' : Heap) (tk : Nat), Fr h₀ L h' m → News h₀ L h' news → Q (.int i t) { s with heap := h', toks := tk }) : wpAny M A t Q E s :=
  wpAny_mono h1 (fun v s' ⟨i, t, h', tk, e, e', F', N'⟩ => by subst e; subst e'; exact h2 i t h' tk F' N') fun _ _ e => e
theorem join_list {M : Model} {A : Around} {t : Sem Value} {Q E : Value → Shared → Prop} {s : Shared} {h₀ : Heap} {L : Addr} {m : Str → Option Value} {news : List (Addr × Obj)} (P : List Int → Prop) (_F : Fr h₀ L s.heap m) (_N : News h₀ L s.heap news)
    (h1 : wpAny M A t (fun v s' => Stop (∃ (l : Addr) (c : Nat) (vs : List Value) (ns : List Int) (h' : Heap) (tk : Nat), v = .ref l ∧ s' = { s with heap := h', toks := tk } ∧ Fr h₀ L h' m ∧ News h₀ L h' ((l, listOf vs.toArray c) :: news) ∧ IntsAre vs ns ∧ P ns)) E s)
    (h2 : ∀ (l : Addr) (c : Nat) (vs : List Value) (ns : List Int) (h' : Heap) (tk : Nat), Fr h₀ L h' m → News h₀ L h' ((l, listOf vs.toArray c) :: news) → IntsAre vs ns → P ns → Q (.ref l) { s with heap := h', toks := tk }) : wpAny M A t Q E s :=
  wpAny_mono h1 (fun v s' ⟨l, c, vs, ns, h', tk, e, e', F', N', hi, hP⟩ => by subst e; subst e'; exact h2 l c vs ns h' tk F' N' hi hP) fun _ _ e => e
theorem join_upd {M : Model} {A : Around} {t : Sem Flow} {Q : Flow → Shared → Prop} {E : Value → Shared → Prop} {s : Shared} {h₀ : Heap} {L l : Addr} {m : Str → Option Value} {o : Obj} {news : List (Addr × Obj)} (P : List Int → Prop) (_F : Fr h₀ L s.heap m) (_N : News h₀ L s.heap ((l, o) :: news))
    (h1 : wpAny M A t (fun f s' => Stop (f = .next ∧ ∃ (c : Nat) (vs : List Value) (ns : List Int) (h' : Heap) (tk : Nat), s' = { s with heap := h', toks := tk } ∧ Fr h₀ L h' m ∧ News h₀ L h' ((l, listOf vs.toArray c) :: news) ∧ IntsAre vs ns ∧ P ns)) E s)
    (h2 : ∀ (c : Nat) (vs : List Value) (ns : List Int) (h' : Heap) (tk : Nat), Fr h₀ L h' m → News h₀ L h' ((l, listOf vs.toArray c) :: news) → IntsAre vs ns → P ns → Q .next { s with heap := h', toks := tk }) : wpAny M A t Q E s :=
  wpAny_mono h1 (fun v s' ⟨e, c, vs, ns, h', tk, e', F', N', hi, hP⟩ => by subst e; subst e'; exact h2 c vs ns h' tk F' N' hi hP) fun _ _ e => e
theorem join_keep {M : Model} {A : Around} {t : Sem Flow} {Q : Flow → Shared → Prop} {E : Value → Shared → Prop} {s : Shared} {h₀ : Heap} {L : Addr} {m : Str → Option Value} {news : List (Addr × Obj)} (_F : Fr h₀ L s.heap m) (_N : News h₀ L s.heap news)
    (h1 : wpAny M A t (fun f s' => Stop (f = .next ∧ ∃ (h' : Heap) (tk : Nat), s' = { s with heap := h', toks := tk } ∧ Fr h₀ L h' m ∧ News h₀ L h' news)) E s)
    (h2 : ∀ (h' : Heap) (tk : Nat), Fr h₀ L h' m → News h₀ L h' news → Q .next { s with heap := h', toks := tk }) : wpAny M A t Q E s :=
  wpAny_mono h1 (fun v s' ⟨e, h', tk, e', F', N'⟩ => by subst e; subst e'; exact h2 h' tk F' N') fun _ _ e => e
local macro_rules | `(tactic| walk_at "m quota") => `(tactic| (k_dflt (refine' quota_use ?k1 ?k2 ?k3 ?k5 ?k4 ?kK ?kd ?ku ?km ?ki ?kl ?k0 ?kp ?ks ?kz ?k8 ?kb ?_; (case kb => exact Bd.of (by k_is) (by first | exact BindsTo.of_eq rfl | exact binds_K (by k_in) rfl (by k_is) rfl rfl rfl)); (case k1 => k_asm); (case k2 => k_asm); (case k3 => k_asm); (case k5 => k_asm); (case k4 => k_asm); (case kK => exact rfl); (case kd => ktr_room); (case ku => ktr_units); (case km => k_mem); (case ki => assumption); (case kl => omega); (case k0 => omega); (case kp => assumption); (case ks => assumption); (case kz => omega); (case k8 => omega); intro r9 rv9 rs9 cp9 h9 tk9 F9 N9 o9 hi9 hq9; (simp only [LCg.Off1, and_true] at o9); (try dsimp only); refine stop ?_)))
local macro_rules | `(tactic| walk_at "call ref") => `(tactic| ((with_reducible show wpAny _ _ (call (Value.ref 74) [_, _, Value.bool true]) _ _ _); walk_at "m quota"))
local macro_rules | `(tactic| walk_at "call ref") => `(tactic| ((with_reducible show wpAny _ _ (call (Value.ref 74) [_, _]) _ _ _); walk_at "m quota"))
local macro_rules | `(tactic| walk_at "call ref") => `(tactic| ((with_reducible show wpAny _ _ (call (Value.ref 49) [_, _]) _ _ _); (k_dflt (refine' within_use ?k1 ?k2 ?k3 ?k5 ?k4 ?kK ?kd ?ku ?km ?kn ?ki ?kj ?kl ?k0 ?kp ?ks ?kz ?_; (case k1 => k_asm); (case k2 => k_asm); (case k3 => k_asm); (case k5 => k_asm); (case k4 => k_asm); (case kK => exact rfl); (case kd => ktr_room); (case ku => ktr_units); (case km => k_mem); (case kn => k_mem); (case ki => assumption); (case kj => assumption); (case kl => omega); (case k0 => omega); (case kp => assumption); (case ks => assumption); (case kz => assumption); intro h9 tk9 F9 N9; (try dsimp only); refine stop ?_))))
local macro_rules | `(tactic| walk_at "leaving ref") => `(tactic| (k_here; (refine' leave_any ?k1 ?k0 ?k2 ?k3 ?kf ?kk ?_; (case k0 => assumption); (case kf => rfl); (case kk => rfl); (case k1 => assumption); (case k2 => assumption); (case k3 => k_asm); k_whole; intro h' R' U'; (try dsimp only at R' U' ⊢))))
theorem withinF_true {ns rs : List Int} {h : Nat} (q : QR ns h rs) (hpos : ∀ x ∈ ns, 0 ≤ x) (hsum : 0 < ns.sum) : (rangeKs 0 ns.length).all (wF ns rs) = true := by
  rw [List.all_eq_true]
  intro x hx
  obtain ⟨x0, x1⟩ := mem_rangeKs hx
  have hi : x.toNat < ns.length := by omega
  have up := q.upper hpos hsum x.toNat
  have lo := q.lower hpos hsum x.toNat hi
  unfold wF
  rw [q.sum]
  have e1 : rs.getD x.toNat 0 ≤ -((-ns.getD x.toNat 0 * (h : Int)).fdiv ns.sum) := by
    have := (ceil_lt (r := rs.getD x.toNat 0 - 1) (x := ns.getD x.toNat 0 * (h : Int)) hsum).mpr (by rw [Int.sub_mul, Int.one_mul]; omega)
    rw [Int.neg_mul]
    omega
  have e2 : (ns.getD x.toNat 0 * (h : Int)).fdiv ns.sum ≤ rs.getD x.toNat 0 := by
    have h1 : ns.sum * (ns.getD x.toNat 0 * (h : Int)).fdiv ns.sum ≤ ns.getD x.toNat 0 * (h : Int) := by rw [Int.fdiv_eq_ediv_of_nonneg _ (Int.le_of_lt hsum)]; exact Int.mul_ediv_self_le (Int.ne_of_gt hsum)
    generalize (ns.getD x.toNat 0 * (h : Int)).fdiv ns.sum = d at *
    have h2 : ns.sum * d < ns.sum * (rs.getD x.toNat 0 + 1) := by rw [Int.mul_add, Int.mul_one, Int.mul_comm ns.sum (rs.getD _ 0)]; omega
    have h3 := Int.lt_of_mul_lt_mul_left h2 (Int.le_of_lt hsum)
    omega
  rw [decide_eq_true e1, decide_eq_true e2]
  rfl
abbrev bv : Option (Nat × Tok) → Value
  | none => .none
  | some (b, t) => .int (b : Int) t
def BP (ns rs : List Int) (h : Int) (n : Nat) : Option (Nat × Tok) → Prop
  | none => ∀ k, k < n → ¬ Elig ns rs h k
  | some (b, _) => Best ns rs h n b
local macro_rules | `(tactic| walk_at "noteFrame ref") => `(tactic| (k_here; (rename RaisedN _ _ _ _ _ _ => rkX); (refine caught_N0 (T' := "NotImplementedError") (by assumption) (by assumption) (by assumption) (by assumption) (by k_asm) PyProof.Rows.Boot.«NotImplementedError» PySem.F.isExc_NotImplementedError PySem.F.notTuple_NotImplementedError (by rw [isSubtype_type]; kernel_rfl) ?_); intro h' F' N'; (try k_sweep); (rename Frag.In _ _ => hXq; clear hXq); (rename Below _ _ _ _ => hBq; clear hBq); (rename Top _ _ _ _ _ _ => hTq; clear hTq)))
theorem take5 (l : List Int) : (List.take (min 6 l.length - 1) (List.drop 1 l)).length ≤ 5 := by rw [List.length_take]; omega
theorem getD_le_sum {ns : List Int} (h : ∀ x ∈ ns, 0 ≤ x) (hl : 0 < ns.length) : ns.getD (Int.toNat 0) 0 ≤ ns.sum := by
  rw [sum_SS]
  exact SS_ge (f := fun k => ns.getD k 0) (fun k _ => getD_pos h k) (by simpa using hl)
theorem holds : PySem.Challenge.rw_jd0003_01.Holds := hd (by
  k_go0
  (try (rename Glob .. => hq9; clear hq9))
  (try (rename BMod .. => hq9; clear hq9))
  (try (rename Heap.CodeRec .. => hq9; clear hq9))
  (try (rename Dflts .. => hq9; clear hq9))
  (try (rename PySem.Flt.MathXP .. => hq9; clear hq9))
  (try (rename LooseAre .. => hq9; clear hq9))
  (try (rename Tables .. => hq9; clear hq9))
  (try (rename TopE .. => hq9; clear hq9))
  (try (rename TopW .. => hq9; clear hq9))
  (try (rename ReadsAll .. => hq9; clear hq9))
  (try k_unmd); (try k_fold)
  have j1 := jm 1
  have j2 := jm 2
  walk_at "m steps"
  refine unstop ?_
  rename Fr _ _ _ _ => F1
  rename News _ _ _ _ => N1
  refine join_int F1 N1 ?_ ?_
  · clear j2
    walk_at "m steps"
    all_goals (refine unstop ?_; exact ⟨_, _, _, _, rfl, rfl, by assumption, by assumption⟩)
  clear F1 N1
  intro hd1 thd hh1 tk1 F1 N1
  walk_at "m steps"
  refine unstop ?_
  rename Fr _ _ _ _ => F1
  rename News _ _ _ _ => N1
  refine join_list (fun ns => 0 < ns.length ∧ ns.length ≤ 5 ∧ ∀ x ∈ ns, 0 ≤ x) F1 N1 ?_ ?_
  · walk_at "m steps"
    refine unstop ?_
    walk_at "m comp"
    walk_at "m steps"
    refine unstop ?_
    rename IntsAre _ (List.take _ _) => hI0
    obtain ⟨sl, hI, hl5⟩ : ∃ sl, IntsAre _ sl ∧ sl.length ≤ 5 := ⟨_, hI0, take5 _⟩
    have hln := hI.length
    clear hI0
    walk_at "m srcL"
    refine kcf_list (fun n => if n < 0 then -n else n) hI ?t1 ?d1
    case t1 =>
      intro i ti I oI C oC D m₂ ys hh tk E' hmem hC hx hF hN off ne mk
      simp only [LCg.Off3, and_true] at off
      walk_at "m steps"
      refine unstop ?_
      exact LCg.CompEnd.intro (by assumption) (by assumption) _ (by kcf_all) (by first | (simp only [LCg.Off3, and_true]; assumption)) (Or.inr ⟨_, .head _, rfl, _, rfl⟩) ⟨rfl, _, rfl⟩
    case d1 =>
      intro ys hys
      obtain ⟨qs, hqs⟩ : ∃ qs, qs = List.map (fun n : Int => if n < 0 then -n else n) sl := ⟨_, rfl⟩
      rw [← hqs] at hys
      have hql : qs.length ≤ 5 := by rw [hqs, List.length_map]; exact hl5
      have hq0 : ∀ x ∈ qs, 0 ≤ x := by
        intro x hx
        rw [hqs] at hx
        obtain ⟨y, _, rfl⟩ := List.mem_map.mp hx
        split <;> omega
      unfold LCg.FinE
      intro D2 h2 tk2 F2 N2 o2
      simp only [LCg.Off1, and_true] at o2
      walk_at "m steps"
      · exact unstop ⟨D2, _, ys, qs, _, _, rfl, rfl, by assumption, kst_newsOf N2 (fun p hp => by rw [List.mem_singleton.mp hp]; exact .head _), hys, by assumption, hql, hq0⟩
      · rename_i l9 h9 F9 N9 lt9
        exact unstop ⟨l9, 0, [Value.int 1 _], [1], _, _, rfl, rfl, F9, kst_newsOf N9 (fun p hp => by rw [List.mem_singleton.mp hp]; exact .head _), .cons _ _ .nil, by decide, by decide, by decide⟩
  clear F1 N1
  intro lv cv vs ns hh2 tk2 F1 N1 hi hP
  have j3 := jm 3
  walk_at "m steps"
  refine unstop ?_
  rename Fr _ _ _ _ => F1
  rename News _ _ _ _ => N1
  obtain ⟨hP1, hP2, hP3⟩ := hP
  refine join_upd (fun ns => 0 < ns.length ∧ ns.length ≤ 5 ∧ (∀ x ∈ ns, 0 ≤ x) ∧ 0 < ns.sum) F1 N1 ?_ ?_
  · walk_at "m steps"
    · rename_i F9 N9 hi9 hl9 hs9
      have z1 := getD_le_sum hP3 hP1
      have z2 := getD_pos hP3 (Int.toNat 0)
      refine unstop ⟨rfl, _, _, _, _, _, rfl, F9, N9, hi9, by omega, by omega, fun x hx => ?_, by omega⟩
      rcases List.mem_or_eq_of_mem_set hx with h | h
      · exact hP3 x h
      · omega
    · rename_i F9 N9 hs9
      have z1 : 0 ≤ ns.sum := by
        have := getD_le_sum hP3 hP1
        have := getD_pos hP3 (Int.toNat 0)
        omega
      exact unstop ⟨rfl, _, _, _, _, _, rfl, F9, N9, hi, by omega, by omega, hP3, by omega⟩
  clear F1 N1
  intro cv vs ns hh3 tk3 F1 N1 hi hP
  obtain ⟨hP1, hP2, hP3, hP4⟩ := hP
  walk_at "m steps"
  refine unstop ?_
  rename_i tk0 lz hz ltz D' hD iD n1 s1 e1 e2 e3 lt2 hW1 hW F' N'
  refine ksw_while (σ := List Value × List Int × Nat × Int × Tok) (fun c => [(D', listOf c.1.toArray c.2.2.1), (lv, listOf vs.toArray cv)])
    (fun c => [(Str.ofString "house", .int c.2.2.2.1 c.2.2.2.2)]) (fun c => IntsAre c.1 c.2.1) [Str.ofString "told", Str.ofString "i", Str.ofString "best"]
    (fun c => ∃ j : Nat, QR ns j c.2.1 ∧ (j : Int) = c.2.2.2.1 ∧ j ≤ 8) (fun c => (8 - c.2.2.2.1).toNat)
    ((List.replicate (ns.length : Int).toNat [Value.int 0 tk0]).flatten, (List.replicate (ns.length : Int).toNat [(0 : Int)]).flatten, 0, 0, tk) F' ?hn iD ?hk ?hp ?turn
  case hn => exact fun p hp => N' p (by simp only [List.mem_cons, List.not_mem_nil, or_false] at hp ⊢; rcases hp with h | h <;> simp [h])
  case hk => kst_all
  case hp => exact ⟨0, by have z := QR.zero (ns := ns); simpa using z, rfl, by decide⟩
  clear F' N' iD s1 e1 e2 e3
  rintro ⟨av, as, cap, hs, ths⟩ u h tk hai ⟨j, hj, hjh, hj8⟩ hFr hNw
  dsimp only [kstB] at *
  walk_at "m steps"
  rotate_left
  · dsimp only
    k_unfold
    try dsimp only
    w_end
    exact goodW_bool (by assumption) (by assumption) (raisesW_false (by wrow_none_raised)) (postW_of rfl (w_eq_bool (w_res rfl) w_lit) rfl)
  refine unstop ?_
  rename_i r9 rv9 rs9 cp9 h9 tk9 F9 N9 hi9 hq9 o9
  have e9 : rs9 = as := QR.unique hq9 (by rw [← hjh]; exact hj)
  subst e9
  have hal := hj.len
  have j4 := jm 4
  walk_at "m steps"
  refine unstop ?_
  rename Fr _ _ _ _ => F2
  rename News _ _ _ _ => N2
  refine join_keep F2 N2 ?_ ?_
  · walk_at "m steps"
    · refine unstop ?_
      rename QR _ _ _ => hq10
      have e10 := QR.unique hq10 hq9
      subst e10
      walk_at "m steps"
      rename Fr _ _ _ _ => F3
      rename News _ _ _ _ => N3
      exact unstop ⟨rfl, _, _, rfl, F3, kst_newsOf N3 (by walk_at "m in")⟩
    · exact unstop ⟨rfl, _, _, rfl, by assumption, by assumption⟩
  clear F2 N2
  intro h2 tk2 F2 N2
  walk_at "m steps"
  refine unstop ?_
  have hu9 := hj.upper hP3 hP4
  have hl9 := hj.lower hP3 hP4
  have hg9 : ∀ i, 0 ≤ rs9.getD i 0 ∧ rs9.getD i 0 ≤ 8 := fun i => ⟨hj.nonneg i, Int.le_trans (hj.le i) (by omega)⟩
  rename Fr _ _ _ _ => F2
  refine For_invVF F2 (by rfl) (by rfl) ?_
  walk_at "m steps"
  refine unstop ?_
  rename Fr _ _ _ _ => F3
  rename News _ _ _ _ => N3
  rename IsRange _ _ _ _ _ _ _ _ => hR
  refine kst_range (σ := Unit) (fun _ => [(r9, listOf rv9.toArray cp9), (D', listOf av.toArray cap), (lv, listOf vs.toArray cv)]) (fun _ => []) (fun _ => True) [] (fun _ _ => True) ()
    (by rfl) hR (small_one (by omega) (by omega) (by omega) (by omega)) (rsz _) F3 N3 trivial (fun _ h => nomatch h) trivial ?turn1 ?done1
  case turn1 =>
    intro c pre i ti u h tk own hk hlt hoff _ _ F4 N4
    have f1 := hu9 i.toNat
    have f2 := hl9 i.toNat (by omega)
    have f3 := hg9 i.toNat
    rw [hjh] at f1 f2
    dsimp only [kstB, List.map, List.cons_append, List.nil_append] at *
    walk_at "m steps"
    refine unstop ?_
    exact kst_end (σ := Unit) () (by assumption) (by assumption) (fun p hp => List.mem_append_left own hp) (fun p hp => List.mem_append_right [_, _, _] hp) rfl trivial (fun _ h => nomatch h) (by intro z h1 _ _; simp only [if_neg h1]; rfl) trivial
  case done1 =>
    intro c u h tk _ _ F4 N4
    dsimp only [kstB] at *
    have hmul : ∀ i, IntMulOk (-ns.getD i 0) rs9.sum ∧ IntMulOk (ns.getD i 0) rs9.sum := fun i => by
      have := hj.sum
      exact ⟨IntMulOk.of_right (intBits_le_64 (by omega) (by omega)), IntMulOk.of_right (intBits_le_64 (by omega) (by omega))⟩
    walk_at "m steps"
    refine unstop ?_
    rw [withinF_true hj hP3 hP4]
    clear F4 N4
    walk_at "m steps"
    refine unstop ?_
    rename Fr _ _ _ _ => F5
    refine For_invVF F5 (by rfl) (by rfl) ?_
    walk_at "m steps"
    refine unstop ?_
    rename Fr _ _ _ _ => F6
    rename News _ _ _ _ => N6
    rename IsRange _ _ _ _ _ _ _ _ => hR2
    refine kst_range (σ := Option (Nat × Tok)) (fun _ => [(r9, listOf rv9.toArray cp9), (D', listOf av.toArray cap), (lv, listOf vs.toArray cv)]) (fun c => [(Str.ofString "best", bv c)]) (fun _ => True) [] (fun pre c => BP ns rs9 ((j : Int) + 1) pre.length c) none
      (by rfl) hR2 (small_one (by omega) (by omega) (by omega) (by omega)) (rsz _) F6 N6 trivial ?hk6 (fun k hk => absurd hk (Nat.not_lt_zero k)) ?turn2 ?done2
    case hk6 => kst_all
    case turn2 =>
      intro c pre i ti u h tk own hk hlt hoff _ hP F4 N4
      obtain rfl : i = (pre.length : Int) := by omega
      have f3 := hg9 (pre.length : Int).toNat
      have eE : Elig ns rs9 ((j : Int) + 1) pre.length ↔ rs9.getD (pre.length : Int).toNat 0 * ns.sum < ns.getD (pre.length : Int).toNat 0 * (hs + 1) := by rw [← hjh]; exact Iff.rfl
      have el : (pre ++ [(pre.length : Int)]).length = pre.length + 1 := by simp
      rcases c with _ | ⟨b, tb⟩
      · dsimp only [kstB, List.map, List.cons_append, List.nil_append, bv] at *
        walk_at "m steps"
        · refine unstop ?_
          have e9 := eE.mpr (by assumption)
          exact kst_end (σ := Option (Nat × Tok)) (some (pre.length, ti)) (by assumption) (by assumption) (fun p hp => List.mem_append_left own hp) (fun p hp => List.mem_append_right [_, _, _] hp) rfl trivial (fun p hp => by rw [List.mem_singleton.mp hp]; rfl) (by intro z h1 h2 _; have hb := h2 _ (List.mem_cons_self); simp only [if_neg h1, if_neg hb]; rfl) (by rw [el]; exact Best.one hP e9)
        · refine unstop ?_
          have e9 := mt eE.mp (by assumption)
          refine kst_end (σ := Option (Nat × Tok)) none (by assumption) (by assumption) (fun p hp => List.mem_append_left own hp) (fun p hp => List.mem_append_right [_, _, _] hp) rfl trivial (fun p hp => by rw [List.mem_singleton.mp hp]; rfl) (by intro z h1 h2 _; have hb := h2 _ (List.mem_cons_self); simp only [if_neg h1, if_neg hb]; rfl) ?_
          rw [el]
          intro k hk
          by_cases c : k = pre.length
          · subst c; exact e9
          · exact hP k (by omega)
      · have f4 := hg9 (b : Int).toNat
        have f5 : b < ns.length := Nat.lt_trans (Best.lt hP) hlt
        have eG : ns.getD b 0 * (rs9.getD pre.length 0 + 1) < ns.getD pre.length 0 * (rs9.getD b 0 + 1) ↔ ns.getD (b : Int).toNat 0 * (rs9.getD (pre.length : Int).toNat 0 + 1) < ns.getD (pre.length : Int).toNat 0 * (rs9.getD (b : Int).toNat 0 + 1) := Iff.rfl
        dsimp only [kstB, List.map, List.cons_append, List.nil_append, bv] at *
        walk_at "m steps"
        · refine unstop ?_
          have e9 := eE.mpr (by assumption)
          have g9 := eG.mpr (by assumption)
          exact kst_end (σ := Option (Nat × Tok)) (some (pre.length, ti)) (by assumption) (by assumption) (fun p hp => List.mem_append_left own hp) (fun p hp => List.mem_append_right [_, _, _] hp) rfl trivial (fun p hp => by rw [List.mem_singleton.mp hp]; rfl) (by intro z h1 h2 _; have hb := h2 _ (List.mem_cons_self); simp only [if_neg h1, if_neg hb]; rfl) (by rw [el]; exact Best.take hj.nonneg hP e9 g9)
        · refine unstop ?_
          have g9 := mt eG.mp (by assumption)
          exact kst_end (σ := Option (Nat × Tok)) (some (b, tb)) (by assumption) (by assumption) (fun p hp => List.mem_append_left own hp) (fun p hp => List.mem_append_right [_, _, _] hp) rfl trivial (fun p hp => by rw [List.mem_singleton.mp hp]; rfl) (by intro z h1 h2 _; have hb := h2 _ (List.mem_cons_self); simp only [if_neg h1, if_neg hb]; rfl) (by rw [el]; exact Best.keep hP fun _ => Int.not_lt.mp g9)
        · refine unstop ?_
          have e9 := mt eE.mp (by assumption)
          exact kst_end (σ := Option (Nat × Tok)) (some (b, tb)) (by assumption) (by assumption) (fun p hp => List.mem_append_left own hp) (fun p hp => List.mem_append_right [_, _, _] hp) rfl trivial (fun p hp => by rw [List.mem_singleton.mp hp]; rfl) (by intro z h1 h2 _; have hb := h2 _ (List.mem_cons_self); simp only [if_neg h1, if_neg hb]; rfl) (by rw [el]; exact Best.keep hP fun e => absurd e e9)
    case done2 =>
      intro c u h tk _ hP F4 N4
      rw [rangeKs_length] at hP
      rcases c with _ | ⟨b, tb⟩
      · obtain ⟨k, hk, ek⟩ := elig_exists hj hP4
        exact absurd ek (hP k hk)
      · have hnx := Best.next hP
        have f5 := hnx.lt
        have f4 := hg9 (b : Int).toNat
        dsimp only [kstB, bv] at *
        walk_at "m steps"
        refine unstop ?_
        rename_i F8 N8 hi8 hl8 hs8
        exact ksw_end (σ := List Value × List Int × Nat × Int × Tok) (_, _, _, _, _) F8 N8 (by walk_at "m in") hi8 (by kst_all) (by ksw_same) ⟨j + 1, QR.succ hj hnx, by dsimp only; omega, by omega⟩ (by dsimp only; omega))
end Mine
theorem PySem.Challenge.cw_jd0003_01_holds : PySem.Challenge.rw_jd0003_01.Holds :=
  Mine.holds
