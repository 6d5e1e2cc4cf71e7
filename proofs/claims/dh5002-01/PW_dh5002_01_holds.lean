import PyProof.Rows.All
import Wide.All
import OpenK.AllK
import Wide.FinOn
import PySem.Challenge.RW_dh5002_01
set_option Elab.async false
set_option maxRecDepth 100000
section
open PySem PySem.W PyProof.Rows
namespace Mine
set_option maxRecDepth 100000 in
set_option maxHeartbeats 8000000 in
open_top hd for PySem.Challenge.rw_dh5002_01
end Mine

end
section
open PySem PySem.W PySem.Calls PyProof.Rows
namespace Mine

abbrev prog : Program := PySem.Challenge.rw_dh5002_01.row.prog
abbrev Ar (dp un : Nat) (gd : Option (List Code)) (env : Env) (outer : List Env) : Around := { handled := none, depth := dp, frames := some (env :: outer), guards := gd, units := un }

/-- every object of h stands in h' as it stood -/
def Kept (h h' : Heap) : Prop := ∀ b o, h.get? b = some o → h'.get? b = some o
theorem Kept.refl (h : Heap) : Kept h h := fun _ _ e => e
theorem Kept.trans {a b c : Heap} (x : Kept a b) (y : Kept b c) : Kept a c := fun _ _ e => y _ _ (x _ _ e)

/-- a call of the def at f with the values vs: what it asks of the heap, what it tells of the result -/
def CallsTo (w : World) (f : Addr) (d : Nat) (vs : List Value) (Pre : Heap → Prop) (Out : Heap → Heap → Value → Prop) : Prop :=
  ∀ (mean : ExcName → Option Value) (mg mb : Str → Option Value) (dp un : Nat) (gd : Option (List Code)) (env : Env) (outer : List Env) (A₀ : Around) (base h₀ : Heap) (L : Addr) (m : Str → Option Value) (s : Shared) (Q E : Value → Shared → Prop),
    Below A₀ base outer h₀ → Fr h₀ L s.heap m → (hd.heap_39 w.params).In h₀ → Top hd.view_39 (looseW hd.view_39 []) mean mg mb h₀ → env.frame = some L → env.scope.kind = .function → dp + d < recursionLimit → un + 8 * d < cLine → Pre s.heap →
    (∀ r h' tk', Kept s.heap h' → Out s.heap h' r → Q r { s with heap := h', toks := tk' }) →
    wpAny (model prog w) (Ar dp un gd env outer) (call (.ref f) vs) Q E s

theorem CallsTo.use {w : World} {f : Addr} {d : Nat} {vs : List Value} {Pre : Heap → Prop} {Out : Heap → Heap → Value → Prop} (C : CallsTo w f d vs Pre Out)
    {mean : ExcName → Option Value} {mg mb : Str → Option Value} {dp un : Nat} {gd : Option (List Code)} {env : Env} {outer : List Env} {A₀ : Around} {base h₀ : Heap} {L : Addr} {m : Str → Option Value} {s : Shared} {Q E : Value → Shared → Prop}
    (B : Below A₀ base outer h₀) (F : Fr h₀ L s.heap m) (X : (hd.heap_39 w.params).In h₀) (T : Top hd.view_39 (looseW hd.view_39 []) mean mg mb h₀) (hf : env.frame = some L) (hk : env.scope.kind = .function) (hd : dp + d < recursionLimit) (hu : un + 8 * d < cLine)
    (hp : Pre s.heap) (h : ∀ r h' tk', Kept s.heap h' → Fr h₀ L h' m → Out s.heap h' r → Q r { s with heap := h', toks := tk' }) :
    wpAny (model prog w) (Ar dp un gd env outer) (call (.ref f) vs) Q E s :=
  C _ _ _ _ _ _ _ _ _ _ _ _ _ _ _ _ B F X T hf hk hd hu hp fun r h' tk' k o => h r h' tk' k (F.keeps k) o

theorem News.plus {h₀ h h' : Heap} {L a : Addr} {o : Obj} {m : Str → Option Value} {news : List (Addr × Obj)} (F : Fr h₀ L h m) (k : Kept h h') (N : News h₀ L h news) (hn : h.get? a = none) (ho : h'.get? a = some o) : News h₀ L h' ((a, o) :: news) := by
  intro p hp
  rcases List.mem_cons.mp hp with rfl | hp
  · refine ⟨ho, fun e => ?_, ?_⟩
    · obtain ⟨oL, _, _, hL, _⟩ := F.ns
      have e' : a = L := e
      rw [e', hL] at hn; cases hn
    · cases q : h₀.get? a with
      | none => rfl
      | some o' => have := F.keep _ _ q; rw [hn] at this; cases this
  · exact ⟨k _ _ (N p hp).1, (N p hp).2⟩
theorem News.off {h₀ h : Heap} {L a : Addr} {news : List (Addr × Obj)} (N : News h₀ L h news) (hn : h.get? a = none) : ∀ p ∈ news, p.1 ≠ a := fun p hp e => by
  have := (N p hp).1; rw [e, hn] at this; cases this

/-- the def's value, handed back -/
def LeaveB (R : Result → Shared → Prop) (v : Value) (s' : Shared) : Prop := R (.ok (.ret v)) s'
section
variable {w : World} {A₀ A : Around} {s : Shared} {base h₀ : Heap} {outer : List Env} {L : Addr} {m : Str → Option Value} {env : Env} {K : Frag} {p : Program} {loose : List Str} {mean : ExcName → Option Value} {mg mb : Str → Option Value}
  {R : Result → Shared → Prop} {name qual : Str} {params : Arguments} {body : List Stmt} {scope : Scope} {dV kV doc pm cdv ct oc : Value} {an od : Option Addr} {osl : Array (Option Value)} {f : Addr} {args : Args} {binds : List (Str × Value)}

/-- a def is entered upon the heap as it stands: the ledger of the new frame is empty -/
theorem enterB (B : Below A₀ base outer h₀) (F : Fr h₀ L s.heap m) (X₀ : K.In h₀) (T : Top p loose mean mg mb h₀) (hA : A.frames = some (env :: outer)) (hf : env.frame = some L) (hke : env.scope.kind = .function)
    (ho : K.lookup f = some ⟨oc, od, .func (fnOf name qual params body scope dV kV doc pm an cdv ct), osl⟩) (hcd : codeIn K cdv qual = true) (hroom : A.depth < recursionLimit)
    (hbind : BindsTo s (fnOf name qual params body scope dV kV doc pm an cdv ct) args binds) (hloc : ∀ y ∈ binds, scope.names.lookup y.1 = some .local)
    (h : ∀ g L' h₁, g = s.heap → Fr h₀ L g m → Fr g L' h₁ (fun y => binds.reverse.lookup y) → News g L' h₁ [] → Below A base (env :: outer) g → K.In g → Top p loose mean mg mb g →
      wpAny (model prog w) (A.deeper (envOf qual scope L' f cdv)) (execs body (envOf qual scope L' f cdv))
        (fun fl s' => LeaveB R (match fl with | .ret v => v | _ => .none) s')
        (fun e s' => wpAny (model prog w) (A.deeper (envOf qual scope L' f cdv)) (leaving (envOf qual scope L' f cdv) e) (fun _ s'' => R (.error e) s'') (fun e' s'' => R (.error e') s'') s')
        { s with heap := h₁, toks := s.toks + binds.length })
    (hco : scope.isCoroutine = false) (hgen : scope.isGenerator = false) (hk : scope.kind = .function)
    (hcell : ∀ x ∈ scope.names, x.2 ≠ .cell) : codeAny (model prog w) A (.call (.ref f) args) R s := by
  obtain ⟨FG, BG, st, _⟩ := groundX (R := R) (news := []) B F News.nil hA hf hke
  refine codeAny_call_def (fd := fnX name qual params body scope [] dV kV doc pm an cdv ct) (body := body) (binds := binds) hroom ((X₀.keeps F.keep) _ _ ho) rfl (T.nolimit.keeps F.keep) (codeRec_of (X₀.keeps F.keep) hcd) rfl hbind hcell hloc (fun h₁ hns hk₁ => ?_) hco hgen hk
  exact wpAny_mono (h s.heap s.heap.objs.size h₁ rfl FG ⟨hns, hk₁, Nat.le_refl _⟩ News.nil BG (X₀.keeps st) (T.keeps st)) (fun fl s' hl => hl) fun _ _ y => y

theorem enterC (B : Below A₀ base outer h₀) (F : Fr h₀ L s.heap m) (X₀ : K.In h₀) (T : Top p loose mean mg mb h₀) (hA : A.frames = some (env :: outer)) (hf : env.frame = some L) (hke : env.scope.kind = .function)
    (ho : K.lookup f = some ⟨oc, od, .func (fnOf name qual params body scope dV kV doc pm an cdv ct), osl⟩) (hcd : codeIn K cdv qual = true) (hroom : A.depth < recursionLimit)
    (hbind : BindsTo s (fnOf name qual params body scope dV kV doc pm an cdv ct) args binds) (hkind : (binds.all fun y => scope.names.lookup y.1 == some .local || scope.names.lookup y.1 == some .cell) = true)
    (hnd : ((cellsFrom 0 scope.names []).map (·.1)).Nodup)
    (h : ∀ g L' h₁ tk cells, g = s.heap → Fr h₀ L g m → Fr g L' h₁ (bindL (envOfC qual scope L' f cdv).kindOf binds fun _ => none) → News g L' h₁ cells →
      CellsAre (bindC (envOfC qual scope L' f cdv).kindOf binds fun _ => none) (cellsFrom (L' + 1) scope.names []) cells → Below A base (env :: outer) g → K.In g → Top p loose mean mg mb g →
      wpAny (model prog w) (A.deeper (envOfC qual scope L' f cdv)) (execs body (envOfC qual scope L' f cdv))
        (fun fl s' => LeaveB R (match fl with | .ret v => v | _ => .none) s')
        (fun e s' => wpAny (model prog w) (A.deeper (envOfC qual scope L' f cdv)) (leaving (envOfC qual scope L' f cdv) e) (fun _ s'' => R (.error e) s'') (fun e' s'' => R (.error e') s'') s')
        { s with heap := h₁, toks := tk })
    (hco : scope.isCoroutine = false) (hgen : scope.isGenerator = false) (hk : scope.kind = .function) : codeAny (model prog w) A (.call (.ref f) args) R s := by
  obtain ⟨FG, BG, st, _⟩ := groundX (R := R) (news := []) B F News.nil hA hf hke
  refine codeAny_call_function hroom ((X₀.keeps F.keep) _ _ ho) rfl hco hgen rfl (codeRec_of (X₀.keeps F.keep) hcd) (hbind _ _ _ _ ?_)
  refine wpAny_newFunctionEnv_cells hk (kindsX hkind _) fun env' he s' x => ?_
  subst he
  refine ⟨(T.nolimit.keeps F.keep).keeps x.toInCall.keep, codeAny_func ?_⟩
  obtain ⟨h₁, tk, rfl, _⟩ := x.done
  obtain ⟨cells, NC, Y⟩ := Cl.news (h₀ := s.heap) (Nat.le_refl _) fun n c hm => ⟨x.cell n c (lookup_of_mem_nodup (cellsFrom_names scope.names 0 (s.heap.objs.size + 1) [] [] rfl ▸ hnd) hm), x.above n c hm⟩
  exact wpAny_mono (h s.heap s.heap.objs.size h₁ tk cells rfl FG ⟨x.toInCall.ns, x.toInCall.keep, Nat.le_refl _⟩ NC Y BG (X₀.keeps st) (T.keeps st)) (fun fl s' hl => hl) fun _ _ y => y
end
end Mine

end
section
open PySem PySem.W PySem.Calls PySem.Spec PyProof.Rows PyProof.Rows.LCg
namespace Mine
section
variable {prog : Program} {w : World} {A : Around} {E : Value → Shared → Prop} {s : Shared} {h₀ : Heap} {L : Addr} {m : Str → Option Value} {env : Env}

/-- a comprehension by an invariant of what it has gathered and of the ledger -/
theorem compRest_ind {elt : Expr} {x : Str} {scope : Scope} {cl : List (Str × Addr)} {S : List (Addr × Obj) → Prop} {P : Nat → Value → Prop} {Fin : List Value → List (Addr × Obj) → Prop} (n : Nat)
    (J : Nat → List Value → List (Addr × Obj) → Prop)
    (step : ∀ i ys news, i < n → J i ys news → ∀ v I oI C oC D m₂ h tk (E' : Value → Shared → Prop), P i v → NsObj oC m₂ → m₂ x = some v → Fr h₀ L h m → News h₀ L h ((I, oI) :: (C, oC) :: (D, lst ys) :: news) → Off3 I C D news →
      wpAny (model prog w) A (eval elt (compEnvC scope cl C env)) (CompEnd h₀ L m { s with heap := h, toks := tk } I oI C oC D (lst ys) S (fun y news' => J (i + 1) (ys ++ [y]) news')) E' { s with heap := h, toks := tk })
    (fin : ∀ ys news, J n ys news → Fin ys news) : ∀ (k i : Nat) (ys : List Value) (news : List (Addr × Obj)), k + i = n → J i ys news → CompRest prog w A h₀ L m env elt x scope cl s S P Fin k i ys news := by
  intro k
  induction k with
  | zero => intro i ys news e hJ; exact CompRest.zero (fin _ _ (by rwa [show i = n by omega] at hJ))
  | succ k ih =>
    intro i ys news e hJ
    refine CompRest.succ fun v I oI C oC D m₂ h tk E' hP hN hx F N off _ => ?_
    refine wpAny_mono (step i ys news (by omega) hJ v I oI C oC D m₂ h tk E' hP hN hx F N off) (fun y s₂ hc => ?_) fun _ _ e => e
    obtain ⟨h', tk', news', e', F', N', off', hS, hJ'⟩ := hc
    exact ⟨h', tk', news', e', F', N', off', hS, ih (i + 1) _ _ (by omega) hJ'⟩

/-- what a comprehension over a range by any step asks -/
def SrcStep (prog : Program) (w : World) (A : Around) (h₀ : Heap) (L : Addr) (m : Str → Option Value) (env : Env) (elt : Expr) (x : Str) (scope : Scope) (cl : List (Str × Addr)) (Fin : Shared → List Value → List (Addr × Obj) → Prop) (xv : Value) (s₁ : Shared) : Prop :=
  ∃ r a b c t u v n news, xv = .ref r ∧ A.handled = none ∧ Fr h₀ L s₁.heap m ∧ News h₀ L s₁.heap news ∧ IsRange s₁.heap r a b c t u v ∧ Builtin.Range.small a b c = true ∧ Builtin.Range.rangeSize a b c = ((n : Nat) : Int) ∧ n ≤ sizeLine ∧
    ∀ s₂ : Shared, (∃ h, s₂ = { s₁ with heap := h }) → CompRest prog w A h₀ L m env elt x scope cl s₂ (fun _ => True) (fun i v => ∃ t, v = .int (a + (i : Int) * c) t) (Fin s₂) n 0 [] news

theorem Assign_ListComp_step {elt iter : Expr} {x y : Str} {px py : Pos} {scope : Scope} {cl : List (Str × Addr)} {pos spos : Pos} {Q : Flow → Shared → Prop} (F₀ : Fr h₀ L s.heap m) (hLe : env.locals = L)
    (hsw : swapsWith (.ListComp elt [⟨.Name x px, iter, [], 0⟩] scope pos) (some (.Name y py)) spos.line env = pure true)
    (hclos : closureFor scope env = pure cl) (hcell : ∀ z ∈ scope.names, z.2 ≠ .cell) (hkind : scope.kind = .function)
    (hnames : ∀ z ∈ scope.names, z.2 = .local → scope.names.lookup z.1 = some .local) (hx : scope.names.lookup x = some .local)
    (hy : env.kindOf y = some .local) (hp : (env.scope.kind == .class || (env.scope.kind == .module && env.locals != env.globals)) = false)
    (h : wpAny (model prog w) A (eval iter env) (SrcStep prog w A h₀ L m env elt x scope cl (fun s₂ => FinA h₀ L m s₂ y Q)) E s)
    (hs : ∀ x, foldedSetIterable iter env x = pure x := by intro _; rfl) :
    wpAny (model prog w) A (exec (.Assign [.Name y py] (.ListComp elt [⟨.Name x px, iter, [], 0⟩] scope pos) spos) env) Q E s := by
  subst hLe
  rw [exec_Assign_Name_used _ _ _ _ hsw]
  refine wpAny_bind (wpAny_standAt (wpAny_bind ?_))
  show wpAny _ A (do let _ ← comprehension (.ListComp elt [⟨.Name x px, iter, [], 0⟩] scope pos) scope env _ (newList []) false (eval iter env) (some (assign (.Name y py) env))) _ _ s
  refine wpAny_bind (wpAny_mono (wpAny_comprehension_free (use := some (assign (.Name y py) env)) (Q := fun _ s' => Q .next s') rfl hs hclos hkind hnames
    (wpAny_mono h (fun xv s₁ h₁ => ?_) fun _ _ e => e)) (fun _ s' hq => wpAny_pure (wpAny_pure hq)) fun _ _ e => e)
  obtain ⟨r, a, b, c, t, u, v, n, news, rfl, hh, F, N, hr, hsm, hn, hsz, R⟩ := h₁
  refine wpAny_pyIter_range hr hsm ?_
  have W : Walks prog w A s₁.heap.objs.size [s₁.heap.objs.size] [s₁.heap.objs.size] n (fun i v => ∃ t, v = .int (a + (i : Int) * c) t) _ := Walks.range hh s₁.heap.objs.size a c n
  refine block_U W hsz (fun i h st => ⟨_, st⟩) (fun i h h' o nw st e e' _ _ _ => ?_) hcell hkind hx (by show IsRangeIter _ _ _ _ _; rw [hn]; simpa using Heap.get?_push_size _ rfl) (fun b hb => ?_)
    (F.keeps fun _ _ e => Heap.get?_push_of_some _ e) (N.grown fun _ _ e => Heap.get?_push_of_some _ e) (Nat.ne_of_lt F.ns.lt) (next_is_new F) (fun p hp => Nat.ne_of_lt (Heap.lt_size (N p hp).1)) trivial (R _ ⟨_, rfl⟩) ?_
  · have st' : h.get? s₁.heap.objs.size = some _ := st
    show h'.get? s₁.heap.objs.size = some _
    rw [e', ← e]; exact st'
  · rw [List.mem_singleton.mp hb]
    show s₁.heap.objs.size < (s₁.heap.push _).objs.size
    rw [Heap.size_push]; exact Nat.lt_succ_self _
  · intro D C h' tk m' ys news' F' N' o1 hn hC₀ hD₀ hCL hDL hCD offC fin
    show wpAny _ A (assign (.Name y py) env (.ref D)) _ _ _
    refine wpAny_assign_Name (wpAny_storeName_local hy F'.ns (fun h₂ hn₂ hs₂ => ?_) hp)
    have hL₀ : h₀.get? env.locals = none := Heap.get?_none_of_le F'.above
    have F₂ : Fr h₀ env.locals h₂ (fun z => if z = y then some (.ref D) else m z) := ⟨hn₂, fun b o e => hs₂.extBut b o (fun q => by rw [q, hL₀] at e; cases e) (F'.keep b o e), F'.above⟩
    refine ⟨m', hn.sameBut hs₂ hCL, fun h'' hs'' => fin D h'' _ (F₂.change hs'' hCL hC₀) (fun p hp => ?_) o1⟩
    have z : h₂.get? p.1 = some p.2 := hs₂.extBut _ _ (N' p hp).2.1 (N' p hp).1
    refine ⟨hs''.extBut _ _ ?_ z, (N' p hp).2⟩
    rcases List.mem_cons.mp hp with rfl | hp
    · exact Ne.symm hCD
    · exact offC p hp
end
end Mine

end
section
open PySem PySem.W PySem.Calls PySem.Spec PyProof.Rows PyProof.Rows.LCg
namespace Mine
/-- the signs of an address of w bits, the greatest first -/
def bits (x : Int) (w : Nat) : List Int := (List.range w).map fun i => x / 2 ^ (w - 1 - i) % 2
theorem bits_length (x : Int) (w : Nat) : (bits x w).length = w := by simp [bits]
theorem bits_get (x : Int) (w i : Nat) (h : i < w) : (bits x w)[i]? = some (x / 2 ^ (w - 1 - i) % 2) := by simp [bits, h]
theorem bits_take (x : Int) (w i : Nat) (h : i < w) : (bits x w).take (i + 1) = (bits x w).take i ++ [x / 2 ^ (w - 1 - i) % 2] := by
  rw [List.take_add_one, bits_get x w i h]; rfl
theorem bits_all (x : Int) (w : Nat) : (bits x w).take w = bits x w := by rw [List.take_of_length_le]; rw [bits_length]; exact Nat.le_refl _
theorem bits_01 (x : Int) (w : Nat) : ∀ b ∈ bits x w, b = 0 ∨ b = 1 := by
  intro b hb
  obtain ⟨i, _, rfl⟩ := List.mem_map.mp hb
  omega
theorem down_ok (w : Nat) (h : w ≤ 7) : Builtin.Range.small ((w : Int) - 1) (-1) (-1) = true ∧ Builtin.Range.rangeSize ((w : Int) - 1) (-1) (-1) = (w : Int) := by
  have e : w = 0 ∨ w = 1 ∨ w = 2 ∨ w = 3 ∨ w = 4 ∨ w = 5 ∨ w = 6 ∨ w = 7 := by omega
  rcases e with rfl | rfl | rfl | rfl | rfl | rfl | rfl | rfl <;> decide
theorem intsAre_snoc {vs : List Value} {ns : List Int} (h : IntsAre vs ns) (n : Int) (t : Tok) : IntsAre (vs ++ [.int n t]) (ns ++ [n]) := by
  induction h with
  | nil => exact .cons n t .nil
  | cons a b _ ih => exact .cons a b ih
theorem bit_val (x : Int) (w i : Nat) (h : i < w) : Builtin.bitAnd (x.fdiv (2 ^ ((w : Int) - 1 + (i : Int) * (-1)).toNat)) 1 = x / 2 ^ (w - 1 - i) % 2 := by
  have e : ((w : Int) - 1 + (i : Int) * (-1)).toNat = w - 1 - i := by omega
  rw [bitAnd_m1, e, Int.fdiv_eq_ediv_of_nonneg _ (Int.le_of_lt (PySem.W.kbt_pos _))]
/-- the signs of a front of kind 0 -/
def sign (b : Int) : Str := ⟨#[if b = 1 then 49 else 48]⟩
def txt (bs : List Int) : Str := ⟨(bs.map fun b => if b = 1 then 49 else 48).toArray⟩
/-- v is a front with these signs: a text, a list, a tuple -/
def FrontAt (kind : Int) (h : Heap) (v : Value) (bs : List Int) : Prop :=
  (kind = 0 ∧ ∃ t, v = .str (txt bs) t) ∨
  (kind = 1 ∧ ∃ a vs, v = .ref a ∧ h.PlainList a vs.toArray ∧ IntsAre vs bs) ∨
  (kind = 2 ∧ ∃ a vs n, v = .ref a ∧ h.get? a = some { cls := .type "tuple", data := .seq vs.toArray n } ∧ IntsAre vs bs)
theorem FrontAt.keeps {kind : Int} {h h' : Heap} {v : Value} {bs : List Int} (x : FrontAt kind h v bs) (k : Kept h h') : FrontAt kind h' v bs := by
  rcases x with x | ⟨e, a, vs, e2, ⟨n, hl⟩, hi⟩ | ⟨e, a, vs, n, e2, hl, hi⟩
  · exact .inl x
  · exact .inr (.inl ⟨e, a, vs, e2, ⟨n, k _ _ hl⟩, hi⟩)
  · exact .inr (.inr ⟨e, a, vs, n, e2, k _ _ hl, hi⟩)
def Fresh (h : Heap) (v : Value) : Prop := ∀ a, v = .ref a → h.get? a = none
theorem strJoin_signs : ∀ bs : List Int, Str.join ⟨#[]⟩ (bs.map sign) = txt bs
  | [] => rfl
  | [b] => rfl
  | b :: c :: r => by
    have ih := strJoin_signs (c :: r)
    show sign b ++ (⟨#[]⟩ : Str) ++ Str.join ⟨#[]⟩ ((c :: r).map sign) = _
    rw [ih]
    refine Str.ext' ?_
    simp [Str.cps_append, sign, txt]
theorem join_signs (bs : List Int) : Txt.join ⟨#[]⟩ (bs.map sign) = txt bs := (StrLaws.glued_eq_join _ _).trans (strJoin_signs bs)
theorem signs_len (bs : List Int) : ((bs.map sign).map (·.length)).sum = bs.length := by
  induction bs with
  | nil => rfl
  | cons b r ih => simp only [List.map_cons, List.sum_cons, List.length_cons, ih]; show 1 + _ = _; omega
theorem strsAre_snoc {vs : List Value} {ns : List Str} (h : StrsAre vs ns) (n : Str) (t : Tok) : StrsAre (vs ++ [.str n t]) (ns ++ [n]) := by
  induction h with
  | nil => exact .cons n t .nil
  | cons a b _ ih => exact .cons a b ih
/-- the walk stands here -/
def Stop (P : Prop) : Prop := P
theorem stop {P : Prop} (h : Stop P) : P := h
theorem go {P : Prop} (h : P) : Stop P := h
theorem ldFree {M : Model} {A : Around} {E : Value → Shared → Prop} {s : Shared} {h₀ : Heap} {L C c : Addr} {news : List (Addr × Obj)} {scope : Scope} {cl : List (Str × Addr)} {env : Env} {x : Str} {pos : Pos} {v : Value} {o : Obj} {Q : Value → Shared → Prop}
    (N : News h₀ L s.heap news) (hc : cl.lookup x = some c) (hm : (c, o) ∈ news) (hd : o.data = .cell (some v)) (h : Q v s)
    (hk : (compEnvC scope cl C env).scope.kind = .function) (hx : (compEnvC scope cl C env).kindOf x = some .cell) (hb : (x == ("__debug__" : Str)) = false) :
    wpAny M A (eval (.Name x pos) (compEnvC scope cl C env)) Q E s := wpAny_Name (wpAny_loadName_cell hk hx hc ⟨o, N.get hm, hd⟩ h) hb
end Mine

end
section
open PySem PySem.W PySem.Calls PySem.Spec PyProof.Rows PyProof.Rows.LCg
namespace Mine
theorem kfill_bits : (PySem.Challenge.rw_dh5002_01 = PySem.Challenge.rw_dh5002_01 ∧ hd.heap_39 = hd.heap_39) → True := by (k_fill; intro _; trivial)

local macro_rules | `(tactic| walk_at "eval Name") => `(tactic| (k_here; (with_reducible show wpAny _ _ (eval (Expr.Name _ _) (compEnvC _ _ _ _)) _ _ _); k_dflt (refine' ldFree ?N ?hc ?hm ?hd ?_ ?hk ?hx ?hb; (case N => k_asm); (case hc => exact rfl); (case hm => k_mem); (case hd => assumption); (case hk => exact rfl); (case hx => exact rfl); (case hb => decide); k_whole)))
local macro_rules | `(tactic| walk_at "eval ListComp") => `(tactic| (k_here; k_dflt (refine LCg.ListComp_U (F₀ := by k_asm) (by rfl) (by decide) (by rfl) (by decide) (by rfl) ?_); k_dflt lcg_toSrc))
local macro_rules | `(tactic| walk_at "CompSrc") => `(tactic| refine stop ?_)
set_option maxHeartbeats 8000000 in
theorem bits_calls (w : World) (x : Int) (wi : Nat) (kind : Int) (t1 t2 t3 : Tok) (hx : 0 ≤ x) (hw : 2 ≤ wi) (hw2 : wi ≤ 7) (hk : 0 ≤ kind) (hk2 : kind ≤ 2) :
   CallsTo w 106 3 [.int x t1, .int wi t2, .int kind t3] (fun _ => True) (fun h h' r => FrontAt kind h' r (bits x wi) ∧ Fresh h r) := by
  unfold CallsTo
  intro mean mg mb dp un gd env outer A₀ base h₀ L m s Q E B F X T hf hkf hrm hu hpre hret
  refine wpAny_call ?_
  k_dflt (refine' enterC ?k1 ?k2 ?k3 ?k5 ?kA ?kF ?kK ?k6 ?k7 ?k8 ?k9 ?kB ?kD ?_ ?c2 ?c3 ?c4; (case kA => exact rfl); (case kF => first | assumption | exact rfl); (case kK => first | assumption | exact rfl); (case k1 => k_asm); (case k2 => k_asm); (case k3 => k_asm); (case k5 => k_asm); (case k6 => k_is); (case k7 => k_is); (case k8 => (show _ < _; (try simp only [depth_under_make, depth_under_kw, depth_in1, depth_deeper]); (try dsimp only [Ar] at *); (simp only [recursionLimit] at *); omega)); (case k9 => exact BindsTo.of_eq rfl); (case kB => exact rfl); (case kD => decide +kernel); (case c2 => exact rfl); (case c3 => exact rfl); (case c4 => exact rfl); k_whole; intro g' L' h' tk' cells' hg' FG' F' N' Y' B' X' T'; k_cells Y'; (try dsimp only))

  refine wpAny_execs_cons ?_
  k_dflt (refine Assign_ListComp_step (F₀ := by k_asm) (by rfl) (by with_unfolding_all rfl) (by rfl) (by decide) (by rfl) (by decide) (by rfl) (by rfl) (by rfl) ?_)
  rename_i o1 d1
  k_steps
  refine ⟨_, _, _, _, _, _, _, wi, _, rfl, rfl, by assumption, by assumption, by assumption, (down_ok wi hw2).1, (down_ok wi hw2).2, by (rw [sizeLine_eq]; omega), ?_⟩
  rintro s₂ ⟨hh, rfl⟩
  dsimp only
  refine compRest_ind wi (fun i ys nw => nw = [(L' + 1, o1)] ∧ IntsAre ys ((bits x wi).take i)) ?_ ?_ wi 0 [] _ rfl ⟨rfl, IntsAre.nil⟩
  · rintro i ys _ hi ⟨rfl, hys⟩ v I oI C oC D m₂ h tk E' ⟨t, rfl⟩ hoC hkx F₁ N₁ off
    have hkk : (0:Int) ≤ (wi:Int) - 1 + (i:Int) * (-1) := by omega
    have hkk2 : (wi:Int) - 1 + (i:Int) * (-1) ≤ 6 := by omega
    k_steps
    refine ⟨h, _, _, rfl, F₁, N₁, off, trivial, rfl, ?_⟩
    rw [bit_val x wi i hi, bits_take x wi i hi]
    exact intsAre_snoc hys _ _
  · rintro ys _ ⟨rfl, hys⟩ D h2 tk2 F2 N2 off2
    rw [bits_all] at hys
    dsimp only at *
    have hlen : ys.length = wi := by rw [hys.length, bits_length]
    have ek : kind = 0 ∨ kind = 1 ∨ kind = 2 := by omega
    rcases ek with rfl | rfl | rfl
    · k_steps
      refine go (CompSrc.ledger (by rfl) (by k_asm) (by k_asm) (List.Mem.head _) (by (rw [List.size_toArray, hlen, sizeLine_eq]; omega)) ?_)
      intro g3
      dsimp only
      refine compRest_ind _ (fun i zs nw => nw = [(D, lst ys), (L' + 1, o1)] ∧ StrsAre zs (((bits x wi).take i).map sign)) ?_ ?_ _ 0 [] _ rfl ⟨rfl, StrsAre.nil⟩
      · rintro i zs _ hi ⟨rfl, hzs⟩ v I oI C oC D2 m₂ h tk E' hv hoC hkx F₁ N₁ off
        rw [List.size_toArray, hlen] at hi
        obtain ⟨tb, hb⟩ := hys.get i _ (bits_get x wi i hi)
        simp only [List.getElem?_toArray] at hv
        rw [hb] at hv
        obtain rfl := (Option.some.inj hv).symm
        rw [bits_take x wi i hi, List.map_append]
        have hb01 : x / 2 ^ (wi - 1 - i) % 2 = 0 ∨ x / 2 ^ (wi - 1 - i) % 2 = 1 := by omega
        rcases hb01 with e | e
        · rw [e] at hkx ⊢
          k_steps
          exact ⟨h, _, _, rfl, F₁, N₁, off, .inr ⟨_, List.Mem.head _, rfl, _, rfl⟩, rfl, strsAre_snoc hzs _ _⟩
        · rw [e] at hkx ⊢
          k_steps
          exact ⟨h, _, _, rfl, F₁, N₁, off, .inr ⟨_, List.Mem.head _, rfl, _, rfl⟩, rfl, strsAre_snoc hzs _ _⟩
      · rintro zs _ ⟨rfl, hzs⟩ D2 h3 tk3 F3 N3 off3
        simp only [List.size_toArray, hlen, Nat.add_zero, bits_all] at hzs
        dsimp only at *
        k_steps
        have e0 : Str.ofString "" = ⟨#[]⟩ := by decide +kernel
        rw [e0]
        refine join_list (ys := (bits x wi).map sign) ⟨_, (N3 _ (List.Mem.head _)).1, rfl, _, rfl⟩ (by simpa using hzs) (by rw [signs_len, bits_length, List.length_map, bits_length]; show _ + _ * 0 ≤ _; omega) fun t' k => ?_
        rw [join_signs]
        exact hret _ _ _ (hg' ▸ F3.keep) ⟨.inl ⟨rfl, _, rfl⟩, fun a e => nomatch e⟩
    · k_steps
      refine hret _ _ _ (hg' ▸ F2.keep) ⟨.inr (.inl ⟨rfl, D, ys, rfl, ⟨_, (N2 _ (List.Mem.head _)).1⟩, hys⟩), fun a e => ?_⟩
      cases e
      exact hg' ▸ (N2 _ (List.Mem.head _)).2.2
    · k_steps
      (rename Fr _ _ _ _ => Fz); (rename News _ _ _ _ => Nz)
      refine hret _ _ _ (hg' ▸ Fz.keep) ⟨.inr (.inr ⟨rfl, _, ys, _, rfl, (Nz _ (List.Mem.head _)).1, hys⟩), fun a e => ?_⟩
      cases e
      exact hg' ▸ (Nz _ (List.Mem.head _)).2.2
end Mine

end
section
open PySem PySem.W PySem.Calls PySem.Spec PyProof.Rows PyProof.Rows.LCg
namespace Mine

/-- a turn's end: the frame, the iterator as it stood, the ledger that the word speaks of -/
def TurnEnd (g : Heap) (L I : Addr) (oI : Obj) (J : (Str → Option Value) → List (Addr × Obj) → Prop) (s₁ s₂ : Shared) : Prop :=
  ∃ h' tk m' nx, s₂ = { s₁ with heap := h', toks := tk } ∧ Fr g L h' m' ∧ News g L h' ((I, oI) :: nx) ∧ (∀ p ∈ nx, p.1 ≠ I) ∧ J m' nx
def TurnPost (g : Heap) (L I : Addr) (oI : Obj) (J : (Str → Option Value) → List (Addr × Obj) → Prop) (s₁ : Shared) (Q : Flow → Shared → Prop) (f : Flow) (s₂ : Shared) : Prop :=
  match f with
  | .ret v => Q (.ret v) s₂
  | .brk => Q .next s₂
  | _ => TurnEnd g L I oI J s₁ s₂

theorem turn_end {g h' : Heap} {L I : Addr} {oI : Obj} {J : (Str → Option Value) → List (Addr × Obj) → Prop} {s₁ : Shared} {Q : Flow → Shared → Prop} {m' : Str → Option Value} {all : List (Addr × Obj)} {tk : Nat}
    (nx : List (Addr × Obj)) (F : Fr g L h' m') (N : News g L h' all) (hI : (I, oI) ∈ all) (sub : ∀ p ∈ nx, p ∈ all) (off : ∀ p ∈ nx, p.1 ≠ I) (hJ : J m' nx) :
    TurnPost g L I oI J s₁ Q .next { s₁ with heap := h', toks := tk } :=
  ⟨h', tk, m', nx, rfl, F, fun p hp => by
    rcases List.mem_cons.mp hp with rfl | hp
    · exact N _ hI
    · exact N _ (sub p hp), off, hJ⟩
theorem pow2_le7 (n : Nat) (h : n ≤ 7) : (2 : Int) ^ n ≤ 128 := by
  have e : n = 0 ∨ n = 1 ∨ n = 2 ∨ n = 3 ∨ n = 4 ∨ n = 5 ∨ n = 6 ∨ n = 7 := by omega
  rcases e with rfl | rfl | rfl | rfl | rfl | rfl | rfl | rfl <;> decide
theorem map_know {m : Str → Option Value} {x : Str} {v : Value} (e : m x = some v) : m = fun y => if y = x then some v else m y := by
  funext y
  by_cases h : y = x
  · rw [if_pos h, h, e]
  · rw [if_neg h]
theorem Fr.know {g h : Heap} {L : Addr} {m : Str → Option Value} {x : Str} {v : Value} (F : Fr g L h m) (e : m x = some v) : Fr g L h (fun y => if y = x then some v else m y) := by rw [← map_know e]; exact F
theorem Fr.know1 {g h : Heap} {L : Addr} {m : Str → Option Value} {a x : Str} {u v : Value} (F : Fr g L h (fun y => if y = a then some u else m y)) (e : m x = some v) :
    Fr g L h (fun y => if y = a then some u else if y = x then some v else m y) := by rw [map_know e] at F; exact F
theorem Fr.know2 {g h : Heap} {L : Addr} {m : Str → Option Value} {a x x' : Str} {u v v' : Value} (F : Fr g L h (fun y => if y = a then some u else m y)) (e : m x = some v) (e' : m x' = some v') :
    Fr g L h (fun y => if y = a then some u else if y = x then some v else if y = x' then some v' else m y) := by rw [map_know e, map_know e'] at F; exact F

section
variable {prog : Program} {w : World} {A : Around} {E : Value → Shared → Prop} {s : Shared} {env : Env} {g : Heap} {x : Str} {body : List Stmt} {Q : Flow → Shared → Prop} {m : Str → Option Value} {news : List (Addr × Obj)}

theorem iter_walk {o : Obj} {fp : List Addr} {n : Nat} {P : Nat → Value → Prop} {St : Nat → Heap → Prop} (J : Nat → (Str → Option Value) → List (Addr × Obj) → Prop)
    (W : Walks prog w A s.heap.objs.size fp [s.heap.objs.size] n P St) (ho : o.isFreed = false) (hfp : ∀ b ∈ fp, b = s.heap.objs.size ∨ ∃ o, g.get? b = some o) (hst : St 0 (s.heap.push o))
    (hlive : ∀ i h, St i h → ∃ o, h.get? s.heap.objs.size = some o)
    (F : Fr g env.locals s.heap m) (N : News g env.locals s.heap news) (h0 : J 0 m news)
    (turn : ∀ i val m₁ news₁ h tk oI, i < n → P i val → J i m₁ news₁ → (∀ p ∈ news₁, p.1 ≠ s.heap.objs.size) → Fr g env.locals h (fun y => if y = x then some val else m₁ y) → News g env.locals h ((s.heap.objs.size, oI) :: news₁) →
      wpAny (model prog w) A (execs body env) (TurnPost g env.locals s.heap.objs.size oI (J (i + 1)) { s with heap := h, toks := tk } Q) E { s with heap := h, toks := tk })
    (done : ∀ m₁ news₁ h tk, J n m₁ news₁ → Fr g env.locals h m₁ → News g env.locals h news₁ → Q .next { s with heap := h, toks := tk }) :
    LoopAtV prog w A g env x body Q E (.ref s.heap.objs.size) { s with heap := s.heap.push o } := by
  have hnew := next_is_new F
  refine ⟨s.heap.objs.size, fp, [s.heap.objs.size], n, P, St, m, news, J, rfl, W, ?_, ?_, ?_, hst, F.push _, fun p hp => ⟨Heap.get?_push_of_some _ (N p hp).1, (N p hp).2⟩, h0, ?_, ?_⟩
  · intro hm
    rcases hfp _ hm with e | ⟨o', e⟩
    · exact absurd F.ns.lt (e ▸ Nat.lt_irrefl _)
    · exact absurd (Heap.lt_size e) (Nat.not_lt.mpr F.above)
  · intro b hb; rw [List.mem_singleton.mp hb]; exact hnew
  · intro p hp hI
    exact absurd (Heap.lt_size (N p hp).1) ((List.mem_singleton.mp hI) ▸ Nat.lt_irrefl _)
  · rintro i v m₁ news₁ s₁ own ⟨hh', tk', rfl⟩ hin hP hJ hoff hown hown2 hall hst₁ F₁ N₁
    obtain ⟨oI, hoI⟩ := hlive _ _ hst₁
    have hIown : (s.heap.objs.size, oI) ∈ own := hall _ (W.sub _ (List.mem_singleton.mpr rfl)) hnew _ hoI
    have only : ∀ p ∈ own, p = (s.heap.objs.size, oI) := fun p hp => by
      have e1 : p.1 = s.heap.objs.size := by
        rcases hfp _ (hown p hp) with e | ⟨o', e⟩
        · exact e
        · have := (N₁ p (List.mem_append_left _ hp)).2.2; rw [e] at this; cases this
      have e2 := hown2 p hp
      rw [e1] at e2
      have e3 : oI = p.2 := Option.some.inj (hoI.symm.trans e2)
      rw [e3, ← e1]
    have N₂ : News g env.locals hh' ((s.heap.objs.size, oI) :: news₁) := fun p hp => by
      rcases List.mem_cons.mp hp with rfl | hp
      · exact N₁ _ (List.mem_append_left _ hIown)
      · exact N₁ _ (List.mem_append_right _ hp)
    refine wpAny_mono (turn i v m₁ news₁ hh' tk' oI hin hP hJ (fun p hp e => hoff p hp (List.mem_singleton.mpr e)) F₁ N₂) (fun f s₂ pst => ?_) fun _ _ e => e
    have fin : TurnEnd g env.locals s.heap.objs.size oI (J (i + 1)) { s with heap := hh', toks := tk' } s₂ → LoopStepU g env.locals [s.heap.objs.size] own (J (i + 1)) { s with heap := hh', toks := tk' } .next s₂ := by
      rintro ⟨h', tk, m', nx, e, F', N', hn, hm⟩
      refine ⟨rfl, h', tk, m', nx, e, F', fun p hp => ?_, fun p hp hI => hn p hp (List.mem_singleton.mp hI), hm⟩
      rcases List.mem_append.mp hp with hp | hp
      · rw [only p hp]; exact N' _ (.head _)
      · exact N' _ (.tail _ hp)
    cases f with
    | ret v => exact .ret pst
    | brk => exact .brk pst
    | next => exact .next (fin pst)
    | cont => exact .cont (fin pst)
  · rintro h' tk m' news' F' N' _ hJ
    exact done m' news' h' tk hJ F' N'

/-- the signs of a front, as its iterator gives them -/
def IsSign (kind b : Int) (v : Value) : Prop := (kind = 0 ∧ ∃ t, v = .str (sign b) t) ∨ (kind ≠ 0 ∧ ∃ t, v = .int b t)

theorem txt_get {bs : List Int} {i : Nat} {c : Nat} (h : (txt bs).cps[i]? = some c) : ∃ b, bs[i]? = some b ∧ (⟨#[c]⟩ : Str) = sign b := by
  simp only [txt, List.getElem?_toArray, List.getElem?_map, Option.map_eq_some_iff] at h
  obtain ⟨b, hb, rfl⟩ := h
  exact ⟨b, hb, rfl⟩
theorem txt_size (bs : List Int) : (txt bs).cps.size = bs.length := by simp [txt]
theorem ints_at {vs : List Value} {ns : List Int} (h : IntsAre vs ns) {i : Nat} {v : Value} (hv : vs[i]? = some v) : ∃ n, ns[i]? = some n ∧ ∃ t, v = .int n t := by
  have hlt : i < ns.length := by rw [← h.length]; exact (List.getElem?_eq_some_iff.mp hv).1
  obtain ⟨t, ht⟩ := h.get i ns[i] (by simp [hlt])
  rw [hv] at ht
  exact ⟨ns[i], by simp [hlt], t, Option.some.inj ht⟩

theorem iter_front {kind : Int} {v : Value} {bs : List Int} (J : Nat → (Str → Option Value) → List (Addr × Obj) → Prop) (hh : A.handled = none) (hx : FrontAt kind g v bs)
    (F : Fr g env.locals s.heap m) (N : News g env.locals s.heap news) (h0 : J 0 m news)
    (turn : ∀ i b val m₁ news₁ h tk oI, bs[i]? = some b → IsSign kind b val → J i m₁ news₁ → (∀ p ∈ news₁, p.1 ≠ s.heap.objs.size) → Fr g env.locals h (fun y => if y = x then some val else m₁ y) → News g env.locals h ((s.heap.objs.size, oI) :: news₁) →
      wpAny (model prog w) A (execs body env) (TurnPost g env.locals s.heap.objs.size oI (J (i + 1)) { s with heap := h, toks := tk } Q) E { s with heap := h, toks := tk })
    (done : ∀ m₁ news₁ h tk, J bs.length m₁ news₁ → Fr g env.locals h m₁ → News g env.locals h news₁ → Q .next { s with heap := h, toks := tk }) :
    wpAny (model prog w) A (pyIter v) (fun it s₂ => LoopAtV prog w A g env x body Q E it s₂) E s := by
  have lt0 : ∀ {b : Addr} {o : Obj}, g.get? b = some o → b ≠ s.heap.objs.size := fun e => Nat.ne_of_lt (Heap.lt_size (F.keep _ _ e))
  rcases hx with ⟨hk, t, rfl⟩ | ⟨hk, a, vs, rfl, ⟨n, hl⟩, hi⟩ | ⟨hk, a, vs, n, rfl, hl, hi⟩
  · cases ha : (txt bs).cps.all (· < 128)
    · refine wpAny_pyIter_wide ha ?_
      refine iter_walk J (Walks.strWide hh _ (txt bs) t) rfl (fun b hb => .inl (List.mem_singleton.mp hb)) ⟨_, Heap.get?_push_size _ rfl, rfl, rfl⟩ (fun _ _ st => let ⟨o, e, _⟩ := st; ⟨o, e⟩) F N h0 (fun i val m₁ news₁ h tk oI hi hP => ?_) (by rw [txt_size]; exact done)
      obtain ⟨c, u, hc, rfl⟩ := hP
      obtain ⟨b, hb, e⟩ := txt_get hc
      exact turn i b _ m₁ news₁ h tk oI hb (.inl ⟨hk, u, by rw [e]⟩)
    · refine wpAny_pyIter_ascii ha ?_
      refine iter_walk J (Walks.strAscii hh _ (txt bs) t) rfl (fun b hb => .inl (List.mem_singleton.mp hb)) ⟨_, Heap.get?_push_size _ rfl, rfl, rfl⟩ (fun _ _ st => let ⟨o, e, _⟩ := st; ⟨o, e⟩) F N h0 (fun i val m₁ news₁ h tk oI hi hP => ?_) (by rw [txt_size]; exact done)
      obtain ⟨c, u, hc, rfl⟩ := hP
      obtain ⟨b, hb, e⟩ := txt_get hc
      exact turn i b _ m₁ news₁ h tk oI hb (.inl ⟨hk, u, by rw [e]⟩)
  · have hls : s.heap.IsList a vs.toArray := ⟨_, F.keep _ _ hl, rfl, _, rfl⟩
    refine wpAny_pyIter_list hls ?_
    have hlen : vs.toArray.size = bs.length := by simp [hi.length]
    have W := Walks.list (prog := prog) (w := w) hh s.heap.objs.size a (lt0 hl) vs.toArray
    rw [hlen] at W
    refine iter_walk J W rfl (fun b hb => ?_) ⟨⟨_, Heap.get?_push_size _ rfl, rfl, rfl⟩, hls.push _⟩ (fun _ _ st => let ⟨o, e, _⟩ := st.1; ⟨o, e⟩) F N h0 (fun i val m₁ news₁ h tk oI _ hP => ?_) done
    · rcases List.mem_cons.mp hb with rfl | hb
      · exact .inl rfl
      · exact .inr ⟨_, by rw [List.mem_singleton.mp hb]; exact hl⟩
    · obtain ⟨b, hb, t, rfl⟩ := ints_at hi (show vs[i]? = some val by simpa using hP)
      exact turn i b _ m₁ news₁ h tk oI hb (.inr ⟨by rw [hk]; decide, t, rfl⟩)
  · have hls : s.heap.IsTuple a vs.toArray := ⟨_, F.keep _ _ hl, rfl, _, rfl⟩
    refine wpAny_pyIter_tuple hls ?_
    have hlen : vs.toArray.size = bs.length := by simp [hi.length]
    have W := Walks.tuple (prog := prog) (w := w) hh s.heap.objs.size a (lt0 hl) vs.toArray
    rw [hlen] at W
    refine iter_walk J W rfl (fun b hb => ?_) ⟨⟨_, Heap.get?_push_size _ rfl, rfl, rfl⟩, hls.at fun o e => Heap.get?_push_of_some _ e⟩ (fun _ _ st => let ⟨o, e, _⟩ := st.1; ⟨o, e⟩) F N h0 (fun i val m₁ news₁ h tk oI _ hP => ?_) done
    · rcases List.mem_cons.mp hb with rfl | hb
      · exact .inl rfl
      · exact .inr ⟨_, by rw [List.mem_singleton.mp hb]; exact hl⟩
    · obtain ⟨b, hb, t, rfl⟩ := ints_at hi (show vs[i]? = some val by simpa using hP)
      exact turn i b _ m₁ news₁ h tk oI hb (.inr ⟨by rw [hk]; decide, t, rfl⟩)
end
end Mine

end
section
open PySem PySem.W PySem.Calls PySem.Spec PyProof.Rows PyProof.Rows.LCg
namespace Mine
section
variable {prog : Program} {w : World} {A : Around} {E : Value → Shared → Prop} {s : Shared}

theorem in_tuple_by {a : Addr} {items : Array Value} {n : Nat} {x : Value} {Q : Value → Shared → Prop} (e : Value → Bool) (he : ∀ y, y ∈ items → MeetsSeq.EqGives y x (e y))
    (hl : s.heap.get? a = some { cls := .type "tuple", data := .seq items n }) (h : Q (.bool (items.any e)) s) : wpAny (model prog w) A (compareOp .In x (.ref a)) Q E s := by
  have ht : IsTup s.heap a items := ⟨_, hl, rfl, n, rfl⟩
  show wpAny _ _ (do return .bool (← contains (.ref a) x)) Q E s
  refine wpAny_bind ?_
  unfold contains
  refine wpAny_holding (wpAny_bind (wpAny_specialOf ht.typeIs slot_tuple_contains.lookup ?_))
  rw [if_neg (by decide)]
  refine wpAny_bind (wpAny_callSpecialUnlessNone?_slot (name := Str.ofString "__contains__") ht.typeIs slot_tuple_contains
    (call_meets slot_tuple_contains ht.typeIs entry_tuple_contains (args_tuple_contains _ _) (MeetsSeq2.tuple_contains a items n x e he) ⟨hl, ?_⟩))
  exact wpAny_truthy_bool (wpAny_pure h)

def eqInt (b : Int) : Value → Bool
  | .int n _ => n == b
  | _ => false
def eqStr (b : Str) : Value → Bool
  | .str n _ => n == b
  | _ => false
/-- sign in ('1', 1) -/
theorem in_ones {a : Addr} {n : Nat} {kind b : Int} {x : Value} {u1 u2 : Tok} {Q : Value → Shared → Prop} (hx : IsSign kind b x) (hb : b = 0 ∨ b = 1)
    (hl : s.heap.get? a = some { cls := .type "tuple", data := .seq #[.str (Str.ofString "1") u1, .int 1 u2] n }) (h : Q (.bool (decide (b = 1))) s) : wpAny (model prog w) A (compareOp .In x (.ref a)) Q E s := by
  rcases hx with ⟨_, t, rfl⟩ | ⟨_, t, rfl⟩
  · refine in_tuple_by (eqStr (sign b)) (fun y hy => ?_) hl ?_
    · have hy' : y = .str (Str.ofString "1") u1 ∨ y = .int 1 u2 := by simpa using hy
      rcases hy' with rfl | rfl
      · exact fun prog w A E s Q h => PySem.SeqAt.EqAt.str_str _ _ _ _ prog w E Q h
      · exact fun prog w A E s Q h => PySem.SeqAt.EqAt.int_str _ _ _ _ prog w E Q h
    · have e : (#[Value.str (Str.ofString "1") u1, .int 1 u2] : Array Value).any (eqStr (sign b)) = decide (b = 1) := by
        rw [← Array.any_toList]
        rcases hb with rfl | rfl
        · show ((Str.ofString "1" == sign 0) || (false || false)) = _; decide +kernel
        · show ((Str.ofString "1" == sign 1) || (false || false)) = _; decide +kernel
      rw [e]; exact h
  · refine in_tuple_by (eqInt b) (fun y hy => ?_) hl ?_
    · have hy' : y = .str (Str.ofString "1") u1 ∨ y = .int 1 u2 := by simpa using hy
      rcases hy' with rfl | rfl
      · exact fun prog w A E s Q h => PySem.SeqAt.EqAt.str_int _ _ _ _ prog w E Q h
      · exact fun prog w A E s Q h => PySem.SeqAt.EqAt.int_int _ _ _ _ prog w E Q h
    · have e : (#[Value.str (Str.ofString "1") u1, .int 1 u2] : Array Value).any (eqInt b) = decide (b = 1) := by
        rw [← Array.any_toList]
        rcases hb with rfl | rfl <;> rfl
      rw [e]; exact h
end
end Mine

end
section
open PySem PySem.W PySem.Calls PySem.Spec PyProof.Rows PyProof.Rows.LCg
namespace Mine
theorem kfill_number : (PySem.Challenge.rw_dh5002_01 = PySem.Challenge.rw_dh5002_01 ∧ hd.heap_39 = hd.heap_39) → True := by (k_fill; intro _; trivial)

def ofBits (bs : List Int) : Int := bs.foldl (fun v b => 2 * v + b) 0
theorem ofBits_snoc (bs : List Int) (b : Int) : ofBits (bs ++ [b]) = 2 * ofBits bs + b := by simp [ofBits]
theorem ofBits_from (bs : List Int) : ∀ a : Int, (∀ b ∈ bs, b = 0 ∨ b = 1) → 0 ≤ a → 0 ≤ bs.foldl (fun v b => 2 * v + b) a ∧ bs.foldl (fun v b => 2 * v + b) a < (a + 1) * 2 ^ bs.length := by
  induction bs with
  | nil => intro a _ ha; simp; omega
  | cons b r ih =>
    intro a h ha
    have hb := h b List.mem_cons_self
    have := ih (2 * a + b) (fun c hc => h c (List.mem_cons_of_mem _ hc)) (by omega)
    rw [List.foldl_cons, List.length_cons, Int.pow_succ]
    refine ⟨this.1, Int.lt_of_lt_of_le this.2 ?_⟩
    rw [Int.mul_comm (2 ^ r.length) 2, ← Int.mul_assoc]
    exact Int.mul_le_mul_of_nonneg_right (by omega) (Int.le_of_lt (PySem.W.kbt_pos _))
theorem ofBits_nonneg (bs : List Int) (h : ∀ b ∈ bs, b = 0 ∨ b = 1) : 0 ≤ ofBits bs ∧ ofBits bs < 2 ^ bs.length := by
  have := ofBits_from bs 0 h (by decide)
  simpa [ofBits] using this
local macro_rules | `(tactic| walk_at "pyIter") => `(tactic| refine stop ?_)
local macro_rules | `(tactic| walk_at "compareOp In") => `(tactic| (k_dflt (refine' in_ones ?h1 ?h2 ?h3 ?_; (case h1 => assumption); (case h2 => assumption); (case h3 => exact News.get (by k_asm) (by k_mem)))))
local macro_rules | `(tactic| walk_at "pyIter ref") => `(tactic| refine stop ?_)
local macro_rules | `(tactic| walk_at "exec For Name Name cons nil") => `(tactic| (k_here; (rename Fr _ _ _ _ => lF'); (with_unfolding_all refine' For_invVF lF' ?k1 ?k2 ?_; (case k1 => exact rfl); (case k2 => exact rfl); k_whole)))
set_option maxHeartbeats 8000000 in
theorem number_calls (w : World) (kind : Int) (v : Value) (bs : List Int) (hb : ∀ b ∈ bs, b = 0 ∨ b = 1) (hl : bs.length ≤ 7) :
   CallsTo w 113 3 [v] (fun h => FrontAt kind h v bs) (fun h h' r => ∃ t, r = .int (ofBits bs) t) := by
  unfold CallsTo
  intro mean mg mb dp un gd env outer A₀ base h₀ L m s Q E B F X T hf hkf hrm hu hpre hret
  refine wpAny_call ?_
  k_dflt (refine' enterB ?k1 ?k2 ?k3 ?k5 ?kA ?kF ?kK ?k6 ?k7 ?k8 ?k9 ?kB ?_ ?c2 ?c3 ?c4 ?c5; (case kA => exact rfl); (case kF => first | assumption | exact rfl); (case kK => first | assumption | exact rfl); (case k1 => k_asm); (case k2 => k_asm); (case k3 => k_asm); (case k5 => k_asm); (case k6 => k_is); (case k7 => k_is); (case k8 => (show _ < _; (try simp only [depth_under_make, depth_under_kw, depth_in1, depth_deeper]); (try dsimp only [Ar] at *); (simp only [recursionLimit] at *); omega)); (case k9 => exact BindsTo.of_eq rfl); (case c5 => decide); (case kB => exact locs rfl); (case c2 => exact rfl); (case c3 => exact rfl); (case c4 => exact rfl); k_whole; intro g' L' h' hg' FG' F' N' B' X' T'; (try dsimp only))

  rw [← hg'] at hpre
  k_steps
  refine go (iter_front (kind := kind) (bs := bs) (fun i m _ => ∃ t, m (Str.ofString "value") = some (.int (ofBits (bs.take i)) t)) rfl hpre (by k_asm) (by k_asm) ⟨_, rfl⟩ ?_ ?_)
  · rintro i b val m₁ news₁ h tk oI hbi hval ⟨tv, hJ⟩ hoff F₁ N₁
    replace F₁ := Fr.know1 F₁ hJ
    have hb01 := hb b (List.mem_of_getElem? hbi)
    have hbd := ofBits_nonneg (bs.take i) (fun c hc => hb c (List.mem_of_mem_take hc))
    have hlt : (2:Int) ^ (bs.take i).length ≤ 128 := by
      have hlen : (bs.take i).length ≤ 7 := by rw [List.length_take]; omega
      exact pow2_le7 _ hlen
    have h0 : 0 ≤ ofBits (bs.take i) := hbd.1
    have h1 : ofBits (bs.take i) < 128 := Int.lt_of_lt_of_le hbd.2 hlt
    have hnext : ofBits (bs.take (i + 1)) = 2 * ofBits (bs.take i) + b := by
      rw [List.take_add_one, hbi]; exact ofBits_snoc _ _
    k_steps
    · (rename Fr _ _ _ _ => Fz); (rename News _ _ _ _ => Nz)
      have hb1 : b = 1 := by first | assumption | exact of_decide_eq_true (by assumption)
      refine turn_end [] Fz Nz (by k_mem) (fun _ h => nomatch h) (fun _ h => nomatch h) ?_
      rw [hnext, hb1]; exact ⟨_, rfl⟩
    · (rename Fr _ _ _ _ => Fz); (rename News _ _ _ _ => Nz)
      have hb1 : b = 0 := by
        rcases hb01 with e | e
        · exact e
        · first | exact absurd e (by assumption) | exact absurd e (of_decide_eq_false (by assumption)) | (exfalso; simp_all; done)
      refine turn_end [] Fz Nz (by k_mem) (fun _ h => nomatch h) (fun _ h => nomatch h) ?_
      rw [hnext, hb1]; exact ⟨_, rfl⟩
  · rintro m₁ news₁ h tk ⟨tv, hJ⟩ F₁ N₁
    rw [List.take_length] at hJ
    replace F₁ := Fr.know F₁ hJ
    k_steps
    exact hret _ _ _ (hg' ▸ F₁.keep) ⟨_, rfl⟩
end Mine

end
section
open PySem PySem.W PySem.Calls PySem.Spec PyProof.Rows PyProof.Rows.LCg
open PySem.AutoSeq1 (wpAny_loadPart')
namespace Mine

/-- two lists of one length by the first pair that differs -/
def lexR (r : Int → Int → Bool) : List Int → List Int → Bool
  | a :: p, b :: q => if a == b then lexR r p q else r a b
  | _, _ => false
abbrev ltB (a b : Int) : Bool := decide (a < b)
abbrev gtB (a b : Int) : Bool := decide (a > b)

theorem IntsAre.drop_cons {vs : List Value} {ns : List Int} (h : IntsAre vs ns) {i : Nat} (hlt : i < vs.length) : ∃ n t, vs[i]? = some (.int n t) ∧ ns.drop i = n :: ns.drop (i + 1) := by
  have h2 : i < ns.length := by rw [← h.length]; exact hlt
  obtain ⟨t, ht⟩ := h.get i ns[i] (by simp [h2])
  exact ⟨ns[i], t, ht, List.drop_eq_getElem_cons h2⟩

theorem lt_loop (l b : Addr) {vs vs2 : List Value} {ns ns2 : List Int} (n n2 : Nat) (hi : IntsAre vs ns) (hi2 : IntsAre vs2 ns2) (hsz : vs.length = vs2.length) (k : Nat) :
    ∀ i : Nat, vs.length - i = k → Meets (Builtin.«list.__eq__.loop» ⟨[.ref l, .ref b, rawInt i, rawInt 0], []⟩)
      (fun _ R s => s.heap.get? l = some { cls := .type "list", data := .seq vs.toArray n } ∧ s.heap.get? b = some { cls := .type "list", data := .seq vs2.toArray n2 } ∧
        R (.ok (.ret (.bool (lexR ltB (ns.drop i) (ns2.drop i))))) s) := by
  induction k with
  | zero =>
    intro i hk prog w A R s h
    obtain ⟨hp, g, d, tk, os⟩ := s; obtain ⟨hl, hb, h⟩ := h
    wp_walk using wpAny_loadPart' hl, wpAny_loadPart' hb
    have hi1 : vs.toArray[((i : Nat) : Int).toNat]? = none := by simp; omega
    have hi2' : vs2.toArray[((i : Nat) : Int).toNat]? = none := by simp; omega
    have hd : ns.drop i = [] := by rw [List.drop_eq_nil_iff, ← hi.length]; omega
    rw [hd] at h
    rw [hi1, hi2']
    wp_walk using wpAny_loadPart' hl, wpAny_loadPart' hb
    show R (.ok (.ret (.bool (decide (vs.toArray.size < vs2.toArray.size))))) _
    have : decide (vs.toArray.size < vs2.toArray.size) = false := by simp; omega
    rw [this]
    exact h
  | succ k ih =>
    intro i hk prog w A R s h
    obtain ⟨hp, g, d, tk, os⟩ := s; obtain ⟨hl, hb, h⟩ := h
    wp_walk using wpAny_loadPart' hl, wpAny_loadPart' hb
    obtain ⟨x, t, hx, hd⟩ := IntsAre.drop_cons hi (i := i) (by omega)
    obtain ⟨y, u, hy, hd2⟩ := IntsAre.drop_cons hi2 (i := i) (by omega)
    have hi1 : vs.toArray[((i : Nat) : Int).toNat]? = some (.int x t) := by simpa using hx
    have hi2' : vs2.toArray[((i : Nat) : Int).toNat]? = some (.int y u) := by simpa using hy
    have hc : ((i : Int) + 1) = ((i + 1 : Nat) : Int) := by push_cast; rfl
    rw [hd, hd2] at h
    rw [hi1, hi2']
    refine wpAny_bind (wpAny_eqBool_int ?_)
    cases hb' : (x == y) with
    | true =>
      simp only [lexR, hb', if_true] at h
      wp_walk
      rw [hc]
      exact ⟨plainId_quiet MeetsSeq3.plain_eq_loop _, codeAny_builtin MeetsSeq3.entry_eq_loop (by
        rw [Around.under_plainId MeetsSeq3.plain_eq_loop _]
        exact ih (i + 1) (by omega) prog w A R _ ⟨hl, hb, h⟩)⟩
    | false =>
      simp only [lexR, hb', Bool.false_eq_true, if_false] at h
      wp_walk using wpAny_loadPart' hl, wpAny_loadPart' hb
      rw [hi1, hi2']
      refine wpAny_bind (P.lt_int ?_)
      wp_walk
      exact h

theorem gt_loop (l b : Addr) {vs vs2 : List Value} {ns ns2 : List Int} (n n2 : Nat) (hi : IntsAre vs ns) (hi2 : IntsAre vs2 ns2) (hsz : vs.length = vs2.length) (k : Nat) :
    ∀ i : Nat, vs.length - i = k → Meets (Builtin.«list.__eq__.loop» ⟨[.ref l, .ref b, rawInt i, rawInt 4], []⟩)
      (fun _ R s => s.heap.get? l = some { cls := .type "list", data := .seq vs.toArray n } ∧ s.heap.get? b = some { cls := .type "list", data := .seq vs2.toArray n2 } ∧
        R (.ok (.ret (.bool (lexR gtB (ns.drop i) (ns2.drop i))))) s) := by
  induction k with
  | zero =>
    intro i hk prog w A R s h
    obtain ⟨hp, g, d, tk, os⟩ := s; obtain ⟨hl, hb, h⟩ := h
    wp_walk using wpAny_loadPart' hl, wpAny_loadPart' hb
    have hi1 : vs.toArray[((i : Nat) : Int).toNat]? = none := by simp; omega
    have hi2' : vs2.toArray[((i : Nat) : Int).toNat]? = none := by simp; omega
    have hd : ns.drop i = [] := by rw [List.drop_eq_nil_iff, ← hi.length]; omega
    rw [hd] at h
    rw [hi1, hi2']
    wp_walk using wpAny_loadPart' hl, wpAny_loadPart' hb
    show R (.ok (.ret (.bool (decide (vs.toArray.size > vs2.toArray.size))))) _
    have : decide (vs.toArray.size > vs2.toArray.size) = false := by simp; omega
    rw [this]
    exact h
  | succ k ih =>
    intro i hk prog w A R s h
    obtain ⟨hp, g, d, tk, os⟩ := s; obtain ⟨hl, hb, h⟩ := h
    wp_walk using wpAny_loadPart' hl, wpAny_loadPart' hb
    obtain ⟨x, t, hx, hd⟩ := IntsAre.drop_cons hi (i := i) (by omega)
    obtain ⟨y, u, hy, hd2⟩ := IntsAre.drop_cons hi2 (i := i) (by omega)
    have hi1 : vs.toArray[((i : Nat) : Int).toNat]? = some (.int x t) := by simpa using hx
    have hi2' : vs2.toArray[((i : Nat) : Int).toNat]? = some (.int y u) := by simpa using hy
    have hc : ((i : Int) + 1) = ((i + 1 : Nat) : Int) := by push_cast; rfl
    rw [hd, hd2] at h
    rw [hi1, hi2']
    refine wpAny_bind (wpAny_eqBool_int ?_)
    cases hb' : (x == y) with
    | true =>
      simp only [lexR, hb', if_true] at h
      wp_walk
      rw [hc]
      exact ⟨plainId_quiet MeetsSeq3.plain_eq_loop _, codeAny_builtin MeetsSeq3.entry_eq_loop (by
        rw [Around.under_plainId MeetsSeq3.plain_eq_loop _]
        exact ih (i + 1) (by omega) prog w A R _ ⟨hl, hb, h⟩)⟩
    | false =>
      simp only [lexR, hb', Bool.false_eq_true, if_false] at h
      wp_walk using wpAny_loadPart' hl, wpAny_loadPart' hb
      rw [hi1, hi2']
      refine wpAny_bind (P.gt_int ?_)
      wp_walk
      exact h

theorem list_lt (l b : Addr) {vs vs2 : List Value} {ns ns2 : List Int} (n n2 : Nat) (hi : IntsAre vs ns) (hi2 : IntsAre vs2 ns2) (hsz : vs.length = vs2.length) :
    Meets (Builtin.«list.__lt__» ⟨[.ref l, .ref b], []⟩)
      (fun _ R s => s.heap.get? l = some { cls := .type "list", data := .seq vs.toArray n } ∧ s.heap.get? b = some { cls := .type "list", data := .seq vs2.toArray n2 } ∧ R (.ok (.ret (.bool (lexR ltB ns ns2)))) s) := by
  intro prog w A R s h
  obtain ⟨hp, g, d, tk, os⟩ := s; obtain ⟨hl, hb, h⟩ := h
  have f3 := AutoSeq1.sub_list_list
  wp_walk using wpAny_loadPart' hl, wpAny_loadPart' hb
  exact ⟨plainId_quiet MeetsSeq3.plain_eq_loop _, codeAny_builtin MeetsSeq3.entry_eq_loop (by
    rw [Around.under_plainId MeetsSeq3.plain_eq_loop _]
    exact lt_loop l b n n2 hi hi2 hsz _ 0 rfl prog w A R _ ⟨hl, hb, h⟩)⟩
theorem list_gt (l b : Addr) {vs vs2 : List Value} {ns ns2 : List Int} (n n2 : Nat) (hi : IntsAre vs ns) (hi2 : IntsAre vs2 ns2) (hsz : vs.length = vs2.length) :
    Meets (Builtin.«list.__gt__» ⟨[.ref l, .ref b], []⟩)
      (fun _ R s => s.heap.get? l = some { cls := .type "list", data := .seq vs.toArray n } ∧ s.heap.get? b = some { cls := .type "list", data := .seq vs2.toArray n2 } ∧ R (.ok (.ret (.bool (lexR gtB ns ns2)))) s) := by
  intro prog w A R s h
  obtain ⟨hp, g, d, tk, os⟩ := s; obtain ⟨hl, hb, h⟩ := h
  have f3 := AutoSeq1.sub_list_list
  wp_walk using wpAny_loadPart' hl, wpAny_loadPart' hb
  exact ⟨plainId_quiet MeetsSeq3.plain_eq_loop _, codeAny_builtin MeetsSeq3.entry_eq_loop (by
    rw [Around.under_plainId MeetsSeq3.plain_eq_loop _]
    exact gt_loop l b n n2 hi hi2 hsz _ 0 rfl prog w A R _ ⟨hl, hb, h⟩)⟩
end Mine

end
section
open PySem PySem.W PySem.Calls PySem.Spec PyProof.Rows PyProof.Rows.LCg
open PySem.AutoSeq1 (wpAny_loadPart')
namespace Mine

theorem rc_lt {prog : Program} {w : World} {A : Around} {E : Value → Shared → Prop} {s : Shared} {a b : Int} {t u : Tok} {Q : Value → Shared → Prop} (h : Q (.bool (decide (a < b))) s) : wpAny (model prog w) A (richCompare .Lt (.int a t) (.int b u)) Q E s := P.lt_int h
theorem rc_gt {prog : Program} {w : World} {A : Around} {E : Value → Shared → Prop} {s : Shared} {a b : Int} {t u : Tok} {Q : Value → Shared → Prop} (h : Q (.bool (decide (a > b))) s) : wpAny (model prog w) A (richCompare .Gt (.int a t) (.int b u)) Q E s := P.gt_int h
set_option maxHeartbeats 2000000 in
theorem tuple_lt (l b : Addr) {vs vs2 : List Value} {ns ns2 : List Int} (n n2 : Nat) (hi : IntsAre vs ns) (hi2 : IntsAre vs2 ns2) (hsz : vs.length = vs2.length) :
    Meets (Builtin.«tuple.__lt__» ⟨[.ref l, .ref b], []⟩)
      (fun _ R s => s.heap.get? l = some { cls := .type "tuple", data := .seq vs.toArray n } ∧ s.heap.get? b = some { cls := .type "tuple", data := .seq vs2.toArray n2 } ∧ R (.ok (.ret (.bool (lexR ltB ns ns2)))) s) :=
  .of_wp fun prog w A R s h => by
    obtain ⟨hp, g, d, tk, os⟩ := s; obtain ⟨hl, hb, h⟩ := h
    have f2 := AutoSeq1.sub_tuple_tuple
    wp_walk using wpAny_loadPart' hl, wpAny_loadPart' hb, wpAny_forIn_list _ (fun rest b s' => b.1 = none ∧ s' = ⟨hp, g, d, tk, os⟩ ∧ ∃ us us2 ms ms2, IntsAre us ms ∧ IntsAre us2 ms2 ∧ us.length = us2.length ∧ rest = us.zip us2 ∧
      R (.ok (.ret (.bool (lexR ltB ms ms2)))) ⟨hp, g, d, tk, os⟩) _
    case turn =>
      rintro ⟨y, x⟩ rest b s' ⟨hb', rfl, us, us2, ms, ms2, h1, h2, hlen, hz, hR⟩
      cases h1 with
      | nil => cases hz
      | cons p t h1 =>
        cases h2 with
        | nil => cases hz
        | cons q u h2 =>
          rw [List.zip_cons_cons] at hz
          injection hz with hyx hrest
          injection hyx with hy hx
          subst hy hx
          refine wpAny_bind (wpAny_eqBool_int ?_)
          cases hpq : (p == q) with
          | true =>
            simp only [lexR, hpq, if_true] at hR
            wp_walk
            exact ⟨rfl, rfl, _, _, _, _, h1, h2, by simpa using hlen, hrest, hR⟩
          | false =>
            simp only [lexR, hpq, Bool.false_eq_true, if_false] at hR
            wp_walk using rc_lt
            exact ⟨_, rfl, hR⟩
    case fin =>
      rintro ⟨b1, b2⟩ s' ⟨hb', rfl, us, us2, ms, ms2, h1, h2, hlen, hz, hR⟩
      simp only at hb'
      subst hb'
      have e : us = [] := by
        cases us with
        | nil => rfl
        | cons a r => cases us2 with
          | nil => simp at hlen
          | cons a2 r2 => cases hz
      subst e
      cases h1
      wp_walk
      refine ⟨_, rfl, ?_⟩
      have : decide (vs.toArray.size < vs2.toArray.size) = false := by simp; omega
      show R (.ok (.ret (.bool (decide (vs.toArray.size < vs2.toArray.size))))) _
      rw [this]
      exact hR
    case h =>
      exact ⟨rfl, rfl, vs, vs2, ns, ns2, hi, hi2, hsz, rfl, h⟩
set_option maxHeartbeats 2000000 in
theorem tuple_gt (l b : Addr) {vs vs2 : List Value} {ns ns2 : List Int} (n n2 : Nat) (hi : IntsAre vs ns) (hi2 : IntsAre vs2 ns2) (hsz : vs.length = vs2.length) :
    Meets (Builtin.«tuple.__gt__» ⟨[.ref l, .ref b], []⟩)
      (fun _ R s => s.heap.get? l = some { cls := .type "tuple", data := .seq vs.toArray n } ∧ s.heap.get? b = some { cls := .type "tuple", data := .seq vs2.toArray n2 } ∧ R (.ok (.ret (.bool (lexR gtB ns ns2)))) s) :=
  .of_wp fun prog w A R s h => by
    obtain ⟨hp, g, d, tk, os⟩ := s; obtain ⟨hl, hb, h⟩ := h
    have f2 := AutoSeq1.sub_tuple_tuple
    wp_walk using wpAny_loadPart' hl, wpAny_loadPart' hb, wpAny_forIn_list _ (fun rest b s' => b.1 = none ∧ s' = ⟨hp, g, d, tk, os⟩ ∧ ∃ us us2 ms ms2, IntsAre us ms ∧ IntsAre us2 ms2 ∧ us.length = us2.length ∧ rest = us.zip us2 ∧
      R (.ok (.ret (.bool (lexR gtB ms ms2)))) ⟨hp, g, d, tk, os⟩) _
    case turn =>
      rintro ⟨y, x⟩ rest b s' ⟨hb', rfl, us, us2, ms, ms2, h1, h2, hlen, hz, hR⟩
      cases h1 with
      | nil => cases hz
      | cons p t h1 =>
        cases h2 with
        | nil => cases hz
        | cons q u h2 =>
          rw [List.zip_cons_cons] at hz
          injection hz with hyx hrest
          injection hyx with hy hx
          subst hy hx
          refine wpAny_bind (wpAny_eqBool_int ?_)
          cases hpq : (p == q) with
          | true =>
            simp only [lexR, hpq, if_true] at hR
            wp_walk
            exact ⟨rfl, rfl, _, _, _, _, h1, h2, by simpa using hlen, hrest, hR⟩
          | false =>
            simp only [lexR, hpq, Bool.false_eq_true, if_false] at hR
            wp_walk using rc_gt
            exact ⟨_, rfl, hR⟩
    case fin =>
      rintro ⟨b1, b2⟩ s' ⟨hb', rfl, us, us2, ms, ms2, h1, h2, hlen, hz, hR⟩
      simp only at hb'
      subst hb'
      have e : us = [] := by
        cases us with
        | nil => rfl
        | cons a r => cases us2 with
          | nil => simp at hlen
          | cons a2 r2 => cases hz
      subst e
      cases h1
      wp_walk
      refine ⟨_, rfl, ?_⟩
      have : decide (vs.toArray.size > vs2.toArray.size) = false := by simp; omega
      show R (.ok (.ret (.bool (decide (vs.toArray.size > vs2.toArray.size))))) _
      rw [this]
      exact hR
    case h =>
      exact ⟨rfl, rfl, vs, vs2, ns, ns2, hi, hi2, hsz, rfl, h⟩

/-- the signs' order is the bits' -/
theorem txt_lt : ∀ {p q : List Int}, (∀ b ∈ p, b = 0 ∨ b = 1) → (∀ b ∈ q, b = 0 ∨ b = 1) → p.length = q.length → decide ((txt p).cps.toList < (txt q).cps.toList) = lexR ltB p q
  | [], [], _, _, _ => rfl
  | a :: p, b :: q, hp, hq, hl => by
    have ih := txt_lt (p := p) (q := q) (fun c hc => hp c (.tail _ hc)) (fun c hc => hq c (.tail _ hc)) (by simpa using hl)
    have ha := hp a (.head _)
    have hb := hq b (.head _)
    simp only [txt, List.map_cons, lexR] at ih ⊢
    rcases ha with rfl | rfl <;> rcases hb with rfl | rfl <;> simp [ltB, List.cons_lt_cons_iff]
    all_goals (rw [← ih]; exact decide_eq_decide.mpr Iff.rfl)

section
variable {prog : Program} {w : World} {A : Around} {E : Value → Shared → Prop} {s : Shared}
theorem front_lt {kind : Int} {v v2 : Value} {p q : List Int} {Q : Value → Shared → Prop} (hu : A.units < cLine) (x : FrontAt kind s.heap v p) (y : FrontAt kind s.heap v2 q) (hp : ∀ b ∈ p, b = 0 ∨ b = 1) (hq : ∀ b ∈ q, b = 0 ∨ b = 1)
    (hl : p.length = q.length) (h : Q (.bool (lexR ltB p q)) s) : wpAny (model prog w) A (richCompare .Lt v v2) Q E s := by
  rcases x with ⟨hk, t, rfl⟩ | ⟨hk, a, vs, rfl, ⟨n, ha⟩, hi⟩ | ⟨hk, a, vs, n, rfl, ha, hi⟩ <;> rcases y with ⟨hk2, t2, rfl⟩ | ⟨hk2, a2, vs2, rfl, ⟨n2, ha2⟩, hi2⟩ | ⟨hk2, a2, vs2, n2, rfl, ha2, hi2⟩ <;> (try omega)
  · refine P.lt_str ?_
    rw [txt_lt hp hq hl]; exact h
  · exact richCompare_meets_room (op := .Lt) ⟨_, ha, rfl⟩ ⟨_, ha2, rfl⟩ F.slot_list_lt F.entry_list_lt (F.args_list_lt_2 _ _) (list_lt a a2 n n2 hi hi2 (by rw [hi.length, hi2.length, hl])) ⟨ha, ha2, (fun x => nomatch x), h⟩ hu
  · exact richCompare_meets_room (op := .Lt) ⟨_, ha, rfl⟩ ⟨_, ha2, rfl⟩ F.slot_tuple_lt F.entry_tuple_lt (F.args_tuple_lt_2 _ _) (tuple_lt a a2 n n2 hi hi2 (by rw [hi.length, hi2.length, hl])) ⟨ha, ha2, (fun x => nomatch x), h⟩ hu
theorem lexR_gt : ∀ p q : List Int, lexR gtB p q = lexR ltB q p
  | [], [] => rfl
  | [], _ :: _ => rfl
  | _ :: _, [] => rfl
  | a :: p, b :: q => by
    simp only [lexR, lexR_gt p q]
    by_cases h : a = b
    · subst h; simp
    · have h' : ¬ b = a := fun e => h e.symm
      simp [h, h', ltB, gtB]
theorem front_gt {kind : Int} {v v2 : Value} {p q : List Int} {Q : Value → Shared → Prop} (hu : A.units < cLine) (x : FrontAt kind s.heap v p) (y : FrontAt kind s.heap v2 q) (hp : ∀ b ∈ p, b = 0 ∨ b = 1) (hq : ∀ b ∈ q, b = 0 ∨ b = 1)
    (hl : p.length = q.length) (h : Q (.bool (lexR ltB q p)) s) : wpAny (model prog w) A (richCompare .Gt v v2) Q E s := by
  rw [← lexR_gt] at h
  rcases x with ⟨hk, t, rfl⟩ | ⟨hk, a, vs, rfl, ⟨n, ha⟩, hi⟩ | ⟨hk, a, vs, n, rfl, ha, hi⟩ <;> rcases y with ⟨hk2, t2, rfl⟩ | ⟨hk2, a2, vs2, rfl, ⟨n2, ha2⟩, hi2⟩ | ⟨hk2, a2, vs2, n2, rfl, ha2, hi2⟩ <;> (try omega)
  · refine P.gt_str ?_
    rw [txt_lt hq hp hl.symm, ← lexR_gt]; exact h
  · exact richCompare_meets_room (op := .Gt) ⟨_, ha, rfl⟩ ⟨_, ha2, rfl⟩ F.slot_list_gt F.entry_list_gt (F.args_list_gt_2 _ _) (list_gt a a2 n n2 hi hi2 (by rw [hi.length, hi2.length, hl])) ⟨ha, ha2, (fun x => nomatch x), h⟩ hu
  · exact richCompare_meets_room (op := .Gt) ⟨_, ha, rfl⟩ ⟨_, ha2, rfl⟩ F.slot_tuple_gt F.entry_tuple_gt (F.args_tuple_gt_2 _ _) (tuple_gt a a2 n n2 hi hi2 (by rw [hi.length, hi2.length, hl])) ⟨ha, ha2, (fun x => nomatch x), h⟩ hu
end
end Mine

end
section
open PySem PySem.W PySem.Calls PySem.Spec PyProof.Rows PyProof.Rows.LCg
namespace Mine
/-- how an iterator is got of x: a new object, walked in n turns -/
def Iterates (prog : Program) (w : World) (A : Around) (s : Shared) (E : Value → Shared → Prop) (x : Value) (n : Nat) (P : Nat → Value → Prop) : Prop :=
  ∀ Q : Value → Shared → Prop, (∀ o fp St, Walks prog w A s.heap.objs.size fp [s.heap.objs.size] n P St → St 0 (s.heap.push o) → (∀ b ∈ fp, b < s.heap.objs.size + 1) → Q (.ref s.heap.objs.size) { s with heap := s.heap.push o }) →
    wpAny (model prog w) A (pyIter x) Q E s
/-- one comparison upon a heap that keeps g: the better of the two is told -/
def Picks (prog : Program) (w : World) (A : Around) (op : CmpOp) (g : Heap) (P : Nat → Value → Prop) (B : Nat → Value → Prop) : Prop :=
  ∀ (j : Nat) (vb v : Value) (s : Shared) (Q : Value → Shared → Prop) (E : Value → Shared → Prop), B j vb → P j v → Kept g s.heap → (∀ b, (b = true → B (j + 1) v) → (b = false → B (j + 1) vb) → Q (.bool b) s) → wpAny (model prog w) A (richCompare op v vb) Q E s
section
variable {prog : Program} {w : World} {A : Around}

theorem min_turns {R : Result → Shared → Prop} {I S : Addr} {fp : List Addr} {n : Nat} {P B : Nat → Value → Prop} {St : Nat → Heap → Prop} {g : Heap} (W : Walks prog w A.in1 I fp [I] n P St) (cmp : Picks prog w A.in1 .Lt g P B)
    (hSf : S ∉ fp) (hI : g.get? I = none) (hS : g.get? S = none) :
    ∀ (k j : Nat) (s : Shared) (vb : Value) (c : Nat), j + k = n → St j s.heap → B j vb → Kept g s.heap → s.heap.get? S = some { cls := .type "list", data := .seq #[vb, vb] c } →
    (∀ v h' tk, B n v → (∀ b o, b ≠ I → b ≠ S → s.heap.get? b = some o → h'.get? b = some o) → R (.ok (.ret v)) { s with heap := h', toks := tk }) →
    codeAny (model prog w) A (.builtin "min.loop" ⟨[.ref I, .none, .ref S], []⟩) R s := by
  have hIf : I ∈ fp := W.sub _ (List.mem_singleton.mpr rfl)
  have hIS : S ≠ I := fun e => hSf (e ▸ hIf)
  have hname : (toString "min" ++ toString ".loop" : String) = "min.loop" := by decide
  have base : ∀ {h h' : Heap}, Kept g h → (∀ b o, b ≠ I → b ≠ S → h.get? b = some o → h'.get? b = some o) → Kept g h' := fun k u b o e =>
    u b o (fun q => by rw [q, hI] at e; cases e) (fun q => by rw [q, hS] at e; cases e) (k b o e)
  intro k
  induction k with
  | zero =>
    intro j s vb c hj hst hB hg hSo hR
    obtain rfl : j = n := by omega
    refine codeAny_builtin F.entry_min_loop ?_
    rw [Around.under_plainId F.plain_min_loop _]
    show wpAny _ A.in1 (seqItems? (.ref S) >>= _) _ _ s
    refine wpAny_bind (wpAny_seqItems hSo rfl ?_)
    show wpAny _ A.in1 (tryCatch (pyNext (.ref I)) _ >>= _) _ _ s
    refine wpAny_bind (wpAny_tryCatch (W.done s _ _ hst fun h₁ tk hk₁ => ?_))
    have hS₁ : h₁.get? S = _ := hk₁ S _ (fun hm => hIS (List.mem_singleton.mp hm)) hSo
    show wpAny _ A.in1 (updateSeq S (fun _ => #[]) >>= _) _ _ _
    refine wpAny_bind ?_
    refine wpAny_updateSeq hS₁ rfl (wpAny_bind (wpAny_letGo (wpAny_pure ?_)))
    exact hR vb _ tk hB fun b o hbI hbS e => (Heap.get?_update_other _ _ (Ne.symm hbS)).trans (hk₁ b o (fun hm => hbI (List.mem_singleton.mp hm)) e)
  | succ k ih =>
    intro j s vb c hj hst hB hg hSo hR
    refine codeAny_builtin F.entry_min_loop ?_
    rw [Around.under_plainId F.plain_min_loop _]
    show wpAny _ A.in1 (seqItems? (.ref S) >>= _) _ _ s
    refine wpAny_bind (wpAny_seqItems hSo rfl ?_)
    show wpAny _ A.in1 (tryCatch (pyNext (.ref I)) _ >>= _) _ _ s
    refine wpAny_bind (wpAny_tryCatch (W.item j s _ _ (by omega) hst fun v h₁ tk hP hst₁ hk₁ => ?_))
    have up : ∀ b o, b ≠ I → s.heap.get? b = some o → h₁.get? b = some o := fun b o hb e => hk₁ b o (fun hm => hb (List.mem_singleton.mp hm)) e
    have hS₁ : h₁.get? S = _ := up S _ hIS hSo
    have hg₁ : Kept g h₁ := base hg fun b o hb _ e => up b o hb e
    show wpAny _ A.in1 (tryCatch (holding [v, v] (richCompare .Lt v vb >>= _)) _ >>= _) _ _ _
    refine wpAny_bind (wpAny_tryCatch (wpAny_holding (wpAny_bind (cmp j vb v _ _ _ hB hP hg₁ fun b yes no => ?_))))
    refine wpAny_bind (wpAny_holding (wpAny_truthy_bool ?_))
    refine wpAny_bind (wpAny_letGo (wpAny_pure ?_))
    cases b with
    | true =>
      simp only [if_true]
      refine wpAny_bind ?_
      refine wpAny_updateSeq hS₁ rfl (wpAny_bind (wpAny_letGo ?_))
      rw [hname]
      have up₂ : ∀ (f : Obj → Obj) b o, b ≠ S → h₁.get? b = some o → (h₁.update S f).get? b = some o := fun f b o hb e => (Heap.get?_update_other _ _ (Ne.symm hb)).trans e
      refine wpAny_pure ⟨plainId_quiet F.plain_min_loop _, ih (j + 1) _ v _ (by omega) (W.frame _ _ _ hst₁ fun b hb o e => up₂ _ b o (fun q => hSf (q ▸ hb)) e) (yes rfl) (base hg₁ fun b o _ hb e => up₂ _ b o hb e)
        (Heap.get?_update_self _ hS₁ rfl) fun v' h₃ tk₃ hB' hk₃ => ?_⟩
      exact hR v' h₃ tk₃ hB' fun b o hbI hbS e => hk₃ b o hbI hbS (up₂ _ b o hbS (up b o hbI e))
    | false =>
      simp only [Bool.false_eq_true, if_false]
      refine wpAny_bind (wpAny_letGo ?_)
      rw [hname]
      refine wpAny_pure ⟨plainId_quiet F.plain_min_loop _, ih (j + 1) _ vb c (by omega) hst₁ (no rfl) hg₁ hS₁ fun v' h₃ tk₃ hB' hk₃ => ?_⟩
      exact hR v' h₃ tk₃ hB' fun b o hbI hbS e => hk₃ b o hbI hbS (up b o hbI e)

theorem min_by {s : Shared} {E : Value → Shared → Prop} {x : Value} {n : Nat} {P B : Nat → Value → Prop} {g : Heap} {Q : Value → Shared → Prop} (hit : Iterates prog w A.in1 s E x n P) (cmp : Picks prog w A.in1 .Lt g P B)
    (hg : Kept g s.heap) (hn : 0 < n) (first : ∀ v, P 0 v → B 1 v) (h : ∀ v h' tk, B n v → Kept s.heap h' → Q v { s with heap := h', toks := tk }) :
    wpAny (model prog w) A (call (.builtin "min") [x]) Q E s := by
  have hname : (toString "min" ++ toString ".loop" : String) = "min.loop" := by decide
  have new : ∀ a, s.heap.objs.size ≤ a → g.get? a = none := fun a ha => by
    cases e : g.get? a with
    | none => rfl
    | some o => exact absurd (Heap.lt_size (hg _ _ e)) (Nat.not_lt.mpr ha)
  refine call_function_tree F.kind_min F.plain_min F.entry_min (F.args_min1 _) ?_
  show wpAny _ A.in1 (Builtin.Builtins.bindParams "min" ["key", "default"] 0 ⟨[], []⟩ >>= _) _ _ s
  refine wpAny_bind (wpAny_of_eq (show Builtin.Builtins.bindParams "min" ["key", "default"] 0 ⟨[], []⟩ = pure [none, none] from rfl) ?_)
  refine wpAny_bind (wpAny_pure ?_)
  refine wpAny_bind (hit _ fun o fp St W hst hfp => ?_)
  refine wpAny_bind (wpAny_newObj_type ?_)
  rw [hname]
  have hz : (s.heap.push o).objs.size = s.heap.objs.size + 1 := Heap.size_push ..
  dsimp only
  generalize hH : s.heap.push o = H at hst hz ⊢
  have up0 : ∀ b ob, s.heap.get? b = some ob → H.get? b = some ob := fun b ob e => hH ▸ Heap.get?_push_of_some _ e
  have hSf : H.objs.size ∉ fp := fun hm => absurd (hfp _ hm) (by rw [hz]; exact Nat.lt_irrefl _)
  have hSI : H.objs.size ≠ s.heap.objs.size := by rw [hz]; exact Nat.succ_ne_self _
  refine wpAny_pure ⟨plainId_quiet F.plain_min_loop _, ?_⟩
  refine codeAny_builtin F.entry_min_loop ?_
  rw [Around.under_plainId F.plain_min_loop _]
  show wpAny _ A.in1 (seqItems? (.ref H.objs.size) >>= _) _ _ _
  refine wpAny_bind (wpAny_seqItems (Heap.get?_push_size _ rfl) rfl ?_)
  show wpAny _ A.in1 (tryCatch (pyNext (.ref s.heap.objs.size)) _ >>= _) _ _ _
  refine wpAny_bind (wpAny_tryCatch (W.item 0 _ _ _ hn (W.frame _ _ _ hst fun b _ ob e => Heap.get?_push_of_some _ e) fun v h₁ tk hP hst₁ hk₁ => ?_))
  have up1 : ∀ b ob, b ≠ s.heap.objs.size → H.get? b = some ob → h₁.get? b = some ob := fun b ob hb e => hk₁ b ob (fun hm => hb (List.mem_singleton.mp hm)) (Heap.get?_push_of_some _ e)
  have hS₁ : h₁.get? H.objs.size = _ := hk₁ _ _ (fun hm => hSI (List.mem_singleton.mp hm)) (Heap.get?_push_size _ rfl)
  show wpAny _ A.in1 (updateSeq H.objs.size (fun _ => #[v, v]) >>= _) _ _ _
  refine wpAny_bind ?_
  refine wpAny_updateSeq hS₁ rfl ?_
  rw [hname]
  have up2 : ∀ (f : Obj → Obj) b ob, b ≠ H.objs.size → h₁.get? b = some ob → (h₁.update H.objs.size f).get? b = some ob := fun f b ob hb e => (Heap.get?_update_other _ _ (Ne.symm hb)).trans e
  have lt0 : ∀ {b : Addr} {ob : Obj}, s.heap.get? b = some ob → b ≠ s.heap.objs.size ∧ b ≠ H.objs.size := fun e => ⟨Nat.ne_of_lt (Heap.lt_size e), by rw [hz]; exact Nat.ne_of_lt (Nat.lt_succ_of_lt (Heap.lt_size e))⟩
  refine wpAny_pure ⟨plainId_quiet F.plain_min_loop _, min_turns W cmp hSf (new _ (Nat.le_refl _)) (new _ (by rw [hz]; exact Nat.le_succ _)) (n - 1) 1 _ v _ (by omega)
    (W.frame _ _ _ hst₁ fun b hb ob e => up2 _ b ob (fun q => hSf (q ▸ hb)) e) (first v hP) (fun b ob e => up2 _ b ob (lt0 (hg _ _ e)).2 (up1 b ob (lt0 (hg _ _ e)).1 (up0 b ob (hg _ _ e)))) (Heap.get?_update_self _ hS₁ rfl) fun v' h' tk' hB hk => ?_⟩
  exact h v' h' tk' hB fun b ob e => hk b ob (lt0 e).1 (lt0 e).2 (up2 _ b ob (lt0 e).2 (up1 b ob (lt0 e).1 (up0 b ob e)))

theorem max_turns {R : Result → Shared → Prop} {I S : Addr} {fp : List Addr} {n : Nat} {P B : Nat → Value → Prop} {St : Nat → Heap → Prop} {g : Heap} (W : Walks prog w A.in1 I fp [I] n P St) (cmp : Picks prog w A.in1 .Gt g P B)
    (hSf : S ∉ fp) (hI : g.get? I = none) (hS : g.get? S = none) :
    ∀ (k j : Nat) (s : Shared) (vb : Value) (c : Nat), j + k = n → St j s.heap → B j vb → Kept g s.heap → s.heap.get? S = some { cls := .type "list", data := .seq #[vb, vb] c } →
    (∀ v h' tk, B n v → (∀ b o, b ≠ I → b ≠ S → s.heap.get? b = some o → h'.get? b = some o) → R (.ok (.ret v)) { s with heap := h', toks := tk }) →
    codeAny (model prog w) A (.builtin "max.loop" ⟨[.ref I, .none, .ref S], []⟩) R s := by
  have hIf : I ∈ fp := W.sub _ (List.mem_singleton.mpr rfl)
  have hIS : S ≠ I := fun e => hSf (e ▸ hIf)
  have hname : (toString "max" ++ toString ".loop" : String) = "max.loop" := by decide
  have base : ∀ {h h' : Heap}, Kept g h → (∀ b o, b ≠ I → b ≠ S → h.get? b = some o → h'.get? b = some o) → Kept g h' := fun k u b o e =>
    u b o (fun q => by rw [q, hI] at e; cases e) (fun q => by rw [q, hS] at e; cases e) (k b o e)
  intro k
  induction k with
  | zero =>
    intro j s vb c hj hst hB hg hSo hR
    obtain rfl : j = n := by omega
    refine codeAny_builtin F.entry_max_loop ?_
    rw [Around.under_plainId F.plain_max_loop _]
    show wpAny _ A.in1 (seqItems? (.ref S) >>= _) _ _ s
    refine wpAny_bind (wpAny_seqItems hSo rfl ?_)
    show wpAny _ A.in1 (tryCatch (pyNext (.ref I)) _ >>= _) _ _ s
    refine wpAny_bind (wpAny_tryCatch (W.done s _ _ hst fun h₁ tk hk₁ => ?_))
    have hS₁ : h₁.get? S = _ := hk₁ S _ (fun hm => hIS (List.mem_singleton.mp hm)) hSo
    show wpAny _ A.in1 (updateSeq S (fun _ => #[]) >>= _) _ _ _
    refine wpAny_bind ?_
    refine wpAny_updateSeq hS₁ rfl (wpAny_bind (wpAny_letGo (wpAny_pure ?_)))
    exact hR vb _ tk hB fun b o hbI hbS e => (Heap.get?_update_other _ _ (Ne.symm hbS)).trans (hk₁ b o (fun hm => hbI (List.mem_singleton.mp hm)) e)
  | succ k ih =>
    intro j s vb c hj hst hB hg hSo hR
    refine codeAny_builtin F.entry_max_loop ?_
    rw [Around.under_plainId F.plain_max_loop _]
    show wpAny _ A.in1 (seqItems? (.ref S) >>= _) _ _ s
    refine wpAny_bind (wpAny_seqItems hSo rfl ?_)
    show wpAny _ A.in1 (tryCatch (pyNext (.ref I)) _ >>= _) _ _ s
    refine wpAny_bind (wpAny_tryCatch (W.item j s _ _ (by omega) hst fun v h₁ tk hP hst₁ hk₁ => ?_))
    have up : ∀ b o, b ≠ I → s.heap.get? b = some o → h₁.get? b = some o := fun b o hb e => hk₁ b o (fun hm => hb (List.mem_singleton.mp hm)) e
    have hS₁ : h₁.get? S = _ := up S _ hIS hSo
    have hg₁ : Kept g h₁ := base hg fun b o hb _ e => up b o hb e
    show wpAny _ A.in1 (tryCatch (holding [v, v] (richCompare .Gt v vb >>= _)) _ >>= _) _ _ _
    refine wpAny_bind (wpAny_tryCatch (wpAny_holding (wpAny_bind (cmp j vb v _ _ _ hB hP hg₁ fun b yes no => ?_))))
    refine wpAny_bind (wpAny_holding (wpAny_truthy_bool ?_))
    refine wpAny_bind (wpAny_letGo (wpAny_pure ?_))
    cases b with
    | true =>
      simp only [if_true]
      refine wpAny_bind ?_
      refine wpAny_updateSeq hS₁ rfl (wpAny_bind (wpAny_letGo ?_))
      rw [hname]
      have up₂ : ∀ (f : Obj → Obj) b o, b ≠ S → h₁.get? b = some o → (h₁.update S f).get? b = some o := fun f b o hb e => (Heap.get?_update_other _ _ (Ne.symm hb)).trans e
      refine wpAny_pure ⟨plainId_quiet F.plain_max_loop _, ih (j + 1) _ v _ (by omega) (W.frame _ _ _ hst₁ fun b hb o e => up₂ _ b o (fun q => hSf (q ▸ hb)) e) (yes rfl) (base hg₁ fun b o _ hb e => up₂ _ b o hb e)
        (Heap.get?_update_self _ hS₁ rfl) fun v' h₃ tk₃ hB' hk₃ => ?_⟩
      exact hR v' h₃ tk₃ hB' fun b o hbI hbS e => hk₃ b o hbI hbS (up₂ _ b o hbS (up b o hbI e))
    | false =>
      simp only [Bool.false_eq_true, if_false]
      refine wpAny_bind (wpAny_letGo ?_)
      rw [hname]
      refine wpAny_pure ⟨plainId_quiet F.plain_max_loop _, ih (j + 1) _ vb c (by omega) hst₁ (no rfl) hg₁ hS₁ fun v' h₃ tk₃ hB' hk₃ => ?_⟩
      exact hR v' h₃ tk₃ hB' fun b o hbI hbS e => hk₃ b o hbI hbS (up b o hbI e)

theorem max_by {s : Shared} {E : Value → Shared → Prop} {x : Value} {n : Nat} {P B : Nat → Value → Prop} {g : Heap} {Q : Value → Shared → Prop} (hit : Iterates prog w A.in1 s E x n P) (cmp : Picks prog w A.in1 .Gt g P B)
    (hg : Kept g s.heap) (hn : 0 < n) (first : ∀ v, P 0 v → B 1 v) (h : ∀ v h' tk, B n v → Kept s.heap h' → Q v { s with heap := h', toks := tk }) :
    wpAny (model prog w) A (call (.builtin "max") [x]) Q E s := by
  have hname : (toString "max" ++ toString ".loop" : String) = "max.loop" := by decide
  have new : ∀ a, s.heap.objs.size ≤ a → g.get? a = none := fun a ha => by
    cases e : g.get? a with
    | none => rfl
    | some o => exact absurd (Heap.lt_size (hg _ _ e)) (Nat.not_lt.mpr ha)
  refine call_function_tree F.kind_max F.plain_max F.entry_max (F.args_max1 _) ?_
  show wpAny _ A.in1 (Builtin.Builtins.bindParams "max" ["key", "default"] 0 ⟨[], []⟩ >>= _) _ _ s
  refine wpAny_bind (wpAny_of_eq (show Builtin.Builtins.bindParams "max" ["key", "default"] 0 ⟨[], []⟩ = pure [none, none] from rfl) ?_)
  refine wpAny_bind (wpAny_pure ?_)
  refine wpAny_bind (hit _ fun o fp St W hst hfp => ?_)
  refine wpAny_bind (wpAny_newObj_type ?_)
  rw [hname]
  have hz : (s.heap.push o).objs.size = s.heap.objs.size + 1 := Heap.size_push ..
  dsimp only
  generalize hH : s.heap.push o = H at hst hz ⊢
  have up0 : ∀ b ob, s.heap.get? b = some ob → H.get? b = some ob := fun b ob e => hH ▸ Heap.get?_push_of_some _ e
  have hSf : H.objs.size ∉ fp := fun hm => absurd (hfp _ hm) (by rw [hz]; exact Nat.lt_irrefl _)
  have hSI : H.objs.size ≠ s.heap.objs.size := by rw [hz]; exact Nat.succ_ne_self _
  refine wpAny_pure ⟨plainId_quiet F.plain_max_loop _, ?_⟩
  refine codeAny_builtin F.entry_max_loop ?_
  rw [Around.under_plainId F.plain_max_loop _]
  show wpAny _ A.in1 (seqItems? (.ref H.objs.size) >>= _) _ _ _
  refine wpAny_bind (wpAny_seqItems (Heap.get?_push_size _ rfl) rfl ?_)
  show wpAny _ A.in1 (tryCatch (pyNext (.ref s.heap.objs.size)) _ >>= _) _ _ _
  refine wpAny_bind (wpAny_tryCatch (W.item 0 _ _ _ hn (W.frame _ _ _ hst fun b _ ob e => Heap.get?_push_of_some _ e) fun v h₁ tk hP hst₁ hk₁ => ?_))
  have up1 : ∀ b ob, b ≠ s.heap.objs.size → H.get? b = some ob → h₁.get? b = some ob := fun b ob hb e => hk₁ b ob (fun hm => hb (List.mem_singleton.mp hm)) (Heap.get?_push_of_some _ e)
  have hS₁ : h₁.get? H.objs.size = _ := hk₁ _ _ (fun hm => hSI (List.mem_singleton.mp hm)) (Heap.get?_push_size _ rfl)
  show wpAny _ A.in1 (updateSeq H.objs.size (fun _ => #[v, v]) >>= _) _ _ _
  refine wpAny_bind ?_
  refine wpAny_updateSeq hS₁ rfl ?_
  rw [hname]
  have up2 : ∀ (f : Obj → Obj) b ob, b ≠ H.objs.size → h₁.get? b = some ob → (h₁.update H.objs.size f).get? b = some ob := fun f b ob hb e => (Heap.get?_update_other _ _ (Ne.symm hb)).trans e
  have lt0 : ∀ {b : Addr} {ob : Obj}, s.heap.get? b = some ob → b ≠ s.heap.objs.size ∧ b ≠ H.objs.size := fun e => ⟨Nat.ne_of_lt (Heap.lt_size e), by rw [hz]; exact Nat.ne_of_lt (Nat.lt_succ_of_lt (Heap.lt_size e))⟩
  refine wpAny_pure ⟨plainId_quiet F.plain_max_loop _, max_turns W cmp hSf (new _ (Nat.le_refl _)) (new _ (by rw [hz]; exact Nat.le_succ _)) (n - 1) 1 _ v _ (by omega)
    (W.frame _ _ _ hst₁ fun b hb ob e => up2 _ b ob (fun q => hSf (q ▸ hb)) e) (first v hP) (fun b ob e => up2 _ b ob (lt0 (hg _ _ e)).2 (up1 b ob (lt0 (hg _ _ e)).1 (up0 b ob (hg _ _ e)))) (Heap.get?_update_self _ hS₁ rfl) fun v' h' tk' hB hk => ?_⟩
  exact h v' h' tk' hB fun b ob e => hk b ob (lt0 e).1 (lt0 e).2 (up2 _ b ob (lt0 e).2 (up1 b ob (lt0 e).1 (up0 b ob e)))
end
end Mine

end
section
open PySem PySem.W PySem.Calls PySem.Spec PyProof.Rows PyProof.Rows.LCg
open PySem.AutoSeq1 (wpAny_loadPart')
namespace Mine
section
variable {prog : Program} {w : World} {A : Around} {E : Value → Shared → Prop} {s : Shared}

theorem nextOf_tuple_item {it t : Addr} {i : Nat} {items : Array Value} {x : Value} {Q : Value → Shared → Prop} (hit : s.heap.IsTupleIter it t i) (ht : s.heap.IsTuple t items) (hx : items[i]? = some x)
    (hQ : ∀ h', h'.IsTupleIter it t (i + 1) → Heap.SameBut it s.heap h' → Q x { s with heap := h' }) : wpAny (model prog w) A (Builtin.SmallTypes.nextOf (.ref it)) Q E s := by
  obtain ⟨o, ho, hc, hd⟩ := id hit
  obtain ⟨ol, hol, _, nl, hdl⟩ := ht
  unfold Builtin.SmallTypes.nextOf
  refine wpAny_bind (wpAny_callSpecial?_slot (name := Str.ofString "__next__") hit.typeIs F.slot_tuple_iterator_next
    (wpAny_call_entry F.slot_tuple_iterator_next hit.typeIs F.entry_tuple_iterator_next ?_ (F.args_tuple_iterator_next_1 _)))
  show wpAny _ _ (field (.ref it) 0 >>= _) _ _ s
  refine wpAny_bind (wpAny_field ho hd (x := .ref t) rfl ?_)
  show wpAny _ _ (if (Value.ref t == Value.none) = true then _ else _) _ _ s
  rw [if_neg (show ¬ ((Value.ref t == Value.none) = true) from Bool.false_ne_true)]
  show wpAny _ _ (field (.ref it) 1 >>= _) _ _ s
  refine wpAny_bind (wpAny_field ho hd (x := .int i 0) rfl ?_)
  show wpAny _ _ (seqItems? (.ref t) >>= _) _ _ s
  refine wpAny_bind (wpAny_seqItems hol hdl ?_)
  simp only [Int.toNat_natCast, hx]
  refine wpAny_bind (wpAny_setField ho hd (by simp) (wpAny_pure ⟨x, rfl, wpAny_pure (hQ _ ?_ (Heap.SameBut.update ..))⟩))
  exact ⟨_, Heap.get?_update_self _ ho (Obj.isFreed_of_fields (Obj.data_mapFields hd _)), (Obj.cls_mapFields ..).trans hc, by
    rw [Obj.data_mapFields hd]; simp [rawInt]⟩

theorem nextOf_tuple_end {it t : Addr} {i : Nat} {items : Array Value} {Q : Value → Shared → Prop} (hh : A.handled = none) (hit : s.heap.IsTupleIter it t i) (ht : s.heap.IsTuple t items) (hx : items[i]? = none)
    (hE : ∀ h' e, Heap.ExtBut it s.heap h' → (∃ o, h'.get? e = some o ∧ o.cls = .type "StopIteration") → E (.ref e) { s with heap := h' }) : wpAny (model prog w) A (Builtin.SmallTypes.nextOf (.ref it)) Q E s := by
  obtain ⟨o, ho, hc, hd⟩ := id hit
  obtain ⟨ol, hol, _, nl, hdl⟩ := ht
  unfold Builtin.SmallTypes.nextOf
  refine wpAny_bind (wpAny_callSpecial?_slot (name := Str.ofString "__next__") hit.typeIs F.slot_tuple_iterator_next
    (wpAny_call_entry F.slot_tuple_iterator_next hit.typeIs F.entry_tuple_iterator_next ?_ (F.args_tuple_iterator_next_1 _)))
  show wpAny _ _ (field (.ref it) 0 >>= _) _ _ s
  refine wpAny_bind (wpAny_field ho hd (x := .ref t) rfl ?_)
  show wpAny _ _ (if (Value.ref t == Value.none) = true then _ else _) _ _ s
  rw [if_neg (show ¬ ((Value.ref t == Value.none) = true) from Bool.false_ne_true)]
  show wpAny _ _ (field (.ref it) 1 >>= _) _ _ s
  refine wpAny_bind (wpAny_field ho hd (x := .int i 0) rfl ?_)
  show wpAny _ _ (seqItems? (.ref t) >>= _) _ _ s
  refine wpAny_bind (wpAny_seqItems hol hdl ?_)
  simp only [Int.toNat_natCast, hx]
  refine wpAny_bind (wpAny_rule (wpAny_bind (wpAny_setField ho hd (by simp) ?_)))
  show wpAny _ _ (newExc (.type "StopIteration") [] >>= _) _ _ _
  refine wpAny_bind ?_
  simp only [newExc, newTuple]
  refine wpAny_bind (wpAny_newObj_type ?_ (by size_fits))
  refine wpAny_bind (m := firstArgMember _ _) (wpAny_of_eq (a := Value.none) (by first | rfl | (simp only [firstArgMember]; rfl)) ?_)
  refine wpAny_newObj_type ?_ (by size_fits)
  simp only [raiseNew]
  refine wpAny_bind (wpAny_handled ?_)
  first | rw [show A.in1.handled = none from hh] | rw [hh]
  refine wpAny_bind (wpAny_pure (wpAny_throw ?_))
  exact hE _ _ (((Heap.SameBut.update ..).extBut.push _).push _) ⟨_, Heap.get?_push_size _ rfl, rfl⟩
end

theorem draws_tuple {prog : Program} {w : World} {A : Around} (hh : A.handled = none) (it l : Addr) (hne : l ≠ it) (items : Array Value) :
    Draws prog w A it [it, l] items.size (fun i v => items[i]? = some v) (fun i h => h.IsTupleIter it l i ∧ h.IsTuple l items) where
  live := fun _ _ st => let ⟨o, ho, _⟩ := st.1; ⟨o, ho⟩
  frame := fun _ _ _ st hk => ⟨st.1.at fun o e => hk it (by simp) o e, st.2.at fun o e => hk l (by simp) o e⟩
  item := fun i s Q E hi st hQ => by
    refine nextOf_tuple_item st.1 st.2 (x := items[i]) (by simp [hi]) fun h' hit' hs' => ?_
    exact hQ _ h' s.toks (by simp [hi]) ⟨hit', st.2.extBut hs'.extBut hne⟩ hs'
  done := fun s Q E st hE => nextOf_tuple_end hh st.1 st.2 (by simp) hE

theorem enumerate_new_tuple (l : Addr) (items : Array Value) (n : Nat) :
    Meets (Builtin.«enumerate.__new__» ⟨[.type "enumerate", .ref l], []⟩) (fun _ R s => s.heap.get? l = some { cls := .type "tuple", data := .seq items n } ∧
      R (.ok (.ret (.ref (s.heap.push { cls := .type "tuple_iterator", data := .fields #[.ref l, .int 0 0] }).objs.size)))
        { s with heap := (s.heap.push { cls := .type "tuple_iterator", data := .fields #[.ref l, .int 0 0] }).push { cls := .type "enumerate", data := .fields #[.none, .bool false, .ref s.heap.objs.size, rawInt 0, .none, .none] } }) :=
  .of_wp fun prog w A R s h => by
    obtain ⟨hp, g, d, tk, os⟩ := s; obtain ⟨hl, h⟩ := h
    have hsub := sub_enumerate
    have hL : Heap.IsTuple (Shared.heap ⟨hp, g, d, tk, os⟩) l items := ⟨_, hl, rfl, n, rfl⟩
    wp_walk using wpAny_loadPart' hl
    refine wpAny_stack_any fun st => wpAny_pure ?_
    split
    · rename_i c _ _ _ _ _
      cases (c == Value.type "enumerate")
      · wp_walk using wpAny_loadPart' hl, wpAny_pyIter_tuple hL
        exact ⟨_, rfl, h⟩
      · wp_walk using wpAny_loadPart' hl, wpAny_pyIter_tuple hL
        exact ⟨_, rfl, h⟩
    · wp_walk using wpAny_loadPart' hl, wpAny_pyIter_tuple hL
      exact ⟨_, rfl, h⟩

section
variable {prog : Program} {w : World} {A : Around} {E : Value → Shared → Prop} {s : Shared}
theorem call_enumerate_tuple {l : Addr} {items : Array Value} {n : Nat} {Q : Value → Shared → Prop} (hl : s.heap.get? l = some { cls := .type "tuple", data := .seq items n })
    (h : ∀ h', IsEnum h' (s.heap.objs.size + 1) s.heap.objs.size 0 .none → h'.IsTupleIter s.heap.objs.size l 0 → h'.objs.size = s.heap.objs.size + 2 →
      (∀ b o, s.heap.get? b = some o → h'.get? b = some o) → Q (.ref (s.heap.objs.size + 1)) { s with heap := h' }) :
    wpAny (model prog w) A (call (.type "enumerate") [.ref l]) Q E s := by
  refine callType_new F.called_enumerate (by decide) (F.typeCall_enumerate_1 _) (F.newCall_enumerate_1 _) (fun obj => F.args_object_init_2 obj _) F.entry_enumerate_new
    (enumerate_new_tuple l items n) ⟨hl, ?_⟩
  have hz : (s.heap.push { cls := .type "tuple_iterator", data := .fields #[.ref l, .int 0 0] }).objs.size = s.heap.objs.size + 1 := Heap.size_push ..
  show _ ∧ _
  rw [hz]
  have he : IsEnum ((s.heap.push { cls := .type "tuple_iterator", data := .fields #[.ref l, .int 0 0] }).push
      { cls := .type "enumerate", data := .fields #[.none, .bool false, .ref s.heap.objs.size, rawInt 0, .none, .none] }) (s.heap.objs.size + 1) s.heap.objs.size 0 .none := by
    have := Heap.get?_push_size (s.heap.push { cls := .type "tuple_iterator", data := .fields #[.ref l, .int 0 0] })
      (o := { cls := .type "enumerate", data := .fields #[.none, .bool false, .ref s.heap.objs.size, rawInt 0, .none, .none] }) rfl
    rw [hz] at this; exact this
  refine ⟨⟨_, he, rfl⟩, h _ he ⟨_, Heap.get?_push_of_some _ (Heap.get?_push_size _ rfl), rfl, rfl⟩ (by rw [Heap.size_push, hz]) fun b o x => Heap.get?_push_of_some _ (Heap.get?_push_of_some _ x)⟩
end

/-- a front's sign as an item -/
def signKind (kind : Int) : ItemKind Int :=
  ⟨fun b v => (b = 0 ∨ b = 1) ∧ IsSign kind b v, fun v => match v with
    | .int n _ => some n
    | .str x _ => some (if x = sign 1 then 1 else 0)
    | _ => none, fun b v h => by
    obtain ⟨hb, ⟨_, t, rfl⟩ | ⟨_, t, rfl⟩⟩ := h
    · rcases hb with rfl | rfl
      · show some (if sign 0 = sign 1 then (1 : Int) else 0) = some 0; rw [if_neg (by decide +kernel)]
      · show some (if sign 1 = sign 1 then (1 : Int) else 0) = some 1; rw [if_pos rfl]
    · rfl⟩

section
variable {prog : Program} {w : World} {A : Around} {E : Value → Shared → Prop} {s : Shared} {g : Heap} {L : Addr} {m : Str → Option Value} {news : List (Addr × Obj)}
theorem call_enum_front {kind : Int} {v : Value} {bs : List Int} {Q : Value → Shared → Prop} (hh : A.handled = none) (x : FrontAt kind g v bs) (h01 : ∀ b ∈ bs, b = 0 ∨ b = 1) (F : Fr g L s.heap m) (N : News g L s.heap news)
    (h : ∀ h' e, Fr g L h' m → News g L h' news → PairSrcL prog w A E g L (signKind kind) bs (.ref e) { s with heap := h' } m news → Q (.ref e) { s with heap := h' }) :
    wpAny (model prog w) A (call (.type "enumerate") [v]) Q E s := by
  have hLs : L < s.heap.objs.size := F.ns.lt
  have hab : g.objs.size ≤ L := F.above
  have new1 : g.get? (s.heap.objs.size + 1) = none := Heap.get?_none_of_le (Nat.le_trans hab (Nat.le_of_lt (Nat.lt_succ_of_lt hLs)))
  have new0 : g.get? s.heap.objs.size = none := Heap.get?_none_of_le (Nat.le_trans hab (Nat.le_of_lt hLs))
  have side : ∀ b ∈ [s.heap.objs.size + 1, s.heap.objs.size], ∀ q ∈ news, b ≠ q.1 := fun b hb q hq e => by
    have hq1 : q.1 < s.heap.objs.size := Heap.lt_size (N q hq).1
    rcases List.mem_cons.mp hb with e1 | hb
    · exact Nat.ne_of_gt (Nat.lt_succ_of_lt hq1) (e1.symm.trans e)
    · exact Nat.ne_of_gt hq1 ((List.mem_singleton.mp hb).symm.trans e)
  have sideL : ∀ b ∈ [s.heap.objs.size + 1, s.heap.objs.size], L ≠ b := fun b hb e => by
    rcases List.mem_cons.mp hb with e1 | hb
    · exact Nat.ne_of_lt (Nat.lt_succ_of_lt hLs) (e.trans e1)
    · exact Nat.ne_of_lt hLs (e.trans (List.mem_singleton.mp hb))
  have kk : ∀ {h' : Heap}, (∀ b o, s.heap.get? b = some o → h'.get? b = some o) → Fr g L h' m ∧ News g L h' news := fun hk => ⟨F.keeps hk, fun p hp => ⟨hk _ _ (N p hp).1, (N p hp).2⟩⟩
  have items : ∀ {vs : List Value}, kind ≠ 0 → IntsAre vs bs → ∀ (i : Nat) (y : Value), vs.toArray[i]? = some y → ∃ a, bs[i]? = some a ∧ (signKind kind).is a y := fun hk hi i y hy => by
    obtain ⟨b, hb, t, rfl⟩ := ints_at hi (show _ = some y by simpa using hy)
    exact ⟨b, hb, h01 b (List.mem_of_getElem? hb), .inr ⟨hk, t, rfl⟩⟩
  rcases x with ⟨hk, t, rfl⟩ | ⟨hk, a, vs, rfl, ⟨n, hl⟩, hi⟩ | ⟨hk, a, vs, n, rfl, hl, hi⟩
  · refine call_enumerate_str fun h' he hit hsz hkeep => ?_
    obtain ⟨F', N'⟩ := kk hkeep
    refine h h' _ F' N' fun env hL => ?_
    subst hL
    have side1 : s.heap.objs.size + 1 ∉ [s.heap.objs.size] := fun hm => Nat.succ_ne_self _ (List.mem_singleton.mp hm)
    have hP : ∀ i y, (∃ c u, (txt bs).cps[i]? = some c ∧ y = Value.str ⟨#[c]⟩ u) → ∃ a, bs[i]? = some a ∧ (signKind kind).is a y := fun i y hy => by
      obtain ⟨c, u, hc, rfl⟩ := hy
      obtain ⟨b, hb, e⟩ := txt_get hc
      exact ⟨b, hb, h01 b (List.mem_of_getElem? hb), .inl ⟨hk, u, by rw [e]⟩⟩
    cases ha : (txt bs).cps.all (· < 128)
    · have hit' : h'.IsStrIter s.heap.objs.size "str_iterator" (txt bs) t 0 := by simpa [strIterType, ha] using hit
      exact enumSrc (Draws.strWide (A := A.in1) hh s.heap.objs.size (txt bs) t) he hit' (Nat.succ_ne_self _) side1 (by simp) (fun hm => sideL _ hm rfl) new1 new0 side (txt_size bs) hP F' N'
    · have hit' : h'.IsStrIter s.heap.objs.size "str_ascii_iterator" (txt bs) t 0 := by simpa [strIterType, ha] using hit
      exact enumSrc (Draws.strAscii (A := A.in1) hh s.heap.objs.size (txt bs) t) he hit' (Nat.succ_ne_self _) side1 (by simp) (fun hm => sideL _ hm rfl) new1 new0 side (txt_size bs) hP F' N'
  · have hls : s.heap.IsList a vs.toArray := ⟨_, F.keep _ _ hl, rfl, _, rfl⟩
    have hlt : a < g.objs.size := Heap.lt_size hl
    have hl2 : a < s.heap.objs.size := Nat.lt_trans (Nat.lt_of_lt_of_le hlt hab) hLs
    refine call_enumerate_list hls fun h' he hit hsz hkeep => ?_
    obtain ⟨F', N'⟩ := kk hkeep
    refine h h' _ F' N' fun env hL => ?_
    subst hL
    refine enumSrc (Draws.list (A := A.in1) hh s.heap.objs.size a (Nat.ne_of_lt hl2) vs.toArray) he ⟨hit, hls.at fun o e => hkeep a o e⟩ (Nat.succ_ne_self _) ?_ (by simp) ?_ new1 new0 ?_ (by simp [hi.length]) (items (by omega) hi) F' N'
    · intro hm
      rcases List.mem_cons.mp hm with e | hm
      · exact Nat.succ_ne_self _ e
      · exact Nat.ne_of_gt (Nat.lt_succ_of_lt hl2) (List.mem_singleton.mp hm)
    · intro hm
      rcases List.mem_cons.mp hm with e | hm
      · exact sideL _ (by simp) e
      · rcases List.mem_cons.mp hm with e | hm
        · exact sideL _ (by simp) e
        · exact Nat.ne_of_gt (Nat.lt_of_lt_of_le hlt hab) (List.mem_singleton.mp hm)
    · intro b hb q hq e
      rcases List.mem_cons.mp hb with e1 | hb
      · exact side _ (by simp) q hq (e1.symm.trans e)
      · rcases List.mem_cons.mp hb with e1 | hb
        · exact side _ (by simp) q hq (e1.symm.trans e)
        · have hn := (N q hq).2.2
          rw [← e, List.mem_singleton.mp hb, hl] at hn
          cases hn
  · have hls : s.heap.get? a = _ := F.keep _ _ hl
    have hlt : a < g.objs.size := Heap.lt_size hl
    have hl2 : a < s.heap.objs.size := Nat.lt_trans (Nat.lt_of_lt_of_le hlt hab) hLs
    refine call_enumerate_tuple hls fun h' he hit hsz hkeep => ?_
    obtain ⟨F', N'⟩ := kk hkeep
    refine h h' _ F' N' fun env hL => ?_
    subst hL
    refine enumSrc (draws_tuple (A := A.in1) hh s.heap.objs.size a (Nat.ne_of_lt hl2) vs.toArray) he ⟨hit, ⟨_, hkeep _ _ hls, rfl, _, rfl⟩⟩ (Nat.succ_ne_self _) ?_ (by simp) ?_ new1 new0 ?_ (by simp [hi.length]) (items (by omega) hi) F' N'
    · intro hm
      rcases List.mem_cons.mp hm with e | hm
      · exact Nat.succ_ne_self _ e
      · exact Nat.ne_of_gt (Nat.lt_succ_of_lt hl2) (List.mem_singleton.mp hm)
    · intro hm
      rcases List.mem_cons.mp hm with e | hm
      · exact sideL _ (by simp) e
      · rcases List.mem_cons.mp hm with e | hm
        · exact sideL _ (by simp) e
        · exact Nat.ne_of_gt (Nat.lt_of_lt_of_le hlt hab) (List.mem_singleton.mp hm)
    · intro b hb q hq e
      rcases List.mem_cons.mp hb with e1 | hb
      · exact side _ (by simp) q hq (e1.symm.trans e)
      · rcases List.mem_cons.mp hb with e1 | hb
        · exact side _ (by simp) q hq (e1.symm.trans e)
        · have hn := (N q hq).2.2
          rw [← e, List.mem_singleton.mp hb, hl] at hn
          cases hn
end
end Mine

end
section
open PySem PySem.W PySem.Calls PySem.Spec PyProof.Rows PyProof.Rows.LCg
namespace Mine
/-- values that are fronts of one kind, of signs that are 0 or 1, of w signs each -/
def FrontsAt (kind : Int) (h : Heap) (w : Nat) (vs : List Value) (bss : List (List Int)) : Prop :=
  vs.length = bss.length ∧ (∀ bs ∈ bss, bs.length = w ∧ ∀ b ∈ bs, b = 0 ∨ b = 1) ∧ ∀ (i : Nat) (v : Value), vs[i]? = some v → ∃ bs, bss[i]? = some bs ∧ FrontAt kind h v bs
theorem FrontsAt.keeps {kind : Int} {h h' : Heap} {w : Nat} {vs : List Value} {bss : List (List Int)} (x : FrontsAt kind h w vs bss) (k : Kept h h') : FrontsAt kind h' w vs bss :=
  ⟨x.1, x.2.1, fun i v e => let ⟨bs, a, b⟩ := x.2.2 i v e; ⟨bs, a, b.keeps k⟩⟩
/-- the first of the least, of the greatest -/
def lexMin : List (List Int) → List Int
  | [] => []
  | b :: r => r.foldl (fun m x => if lexR ltB x m then x else m) b
def lexMax : List (List Int) → List Int
  | [] => []
  | b :: r => r.foldl (fun m x => if lexR ltB m x then x else m) b
theorem lexMin_snoc {l : List (List Int)} (h : l ≠ []) (x : List Int) : lexMin (l ++ [x]) = if lexR ltB x (lexMin l) then x else lexMin l := by
  cases l with
  | nil => exact absurd rfl h
  | cons b r =>
    show List.foldl _ b (r ++ [x]) = _
    rw [List.foldl_append]; rfl
theorem lexMax_snoc {l : List (List Int)} (h : l ≠ []) (x : List Int) : lexMax (l ++ [x]) = if lexR ltB (lexMax l) x then x else lexMax l := by
  cases l with
  | nil => exact absurd rfl h
  | cons b r =>
    show List.foldl _ b (r ++ [x]) = _
    rw [List.foldl_append]; rfl
section
variable {prog : Program} {w : World} {A : Around} {E : Value → Shared → Prop} {s : Shared}
theorem iterates_list {l : Addr} {vs : List Value} (hh : A.handled = none) (hl : s.heap.IsList l vs.toArray) : Iterates prog w A s E (.ref l) vs.length (fun i v => vs[i]? = some v) := by
  intro Q h
  obtain ⟨ol, hol, _⟩ := id hl
  have hlt : l < s.heap.objs.size := Heap.lt_size hol
  refine wpAny_pyIter_list hl ?_
  have W := Walks.list (prog := prog) (w := w) hh s.heap.objs.size l (Nat.ne_of_lt hlt) vs.toArray
  rw [List.size_toArray] at W
  have W' : Walks prog w A s.heap.objs.size [s.heap.objs.size, l] [s.heap.objs.size] vs.length (fun i v => vs[i]? = some v) _ :=
    { sub := W.sub, frame := W.frame, done := W.done, self := W.self,
      item := fun i s Q E hi st hQ => W.item i s Q E hi st fun v h' tk hP => hQ v h' tk (by simpa using hP) }
  refine h _ _ _ W' ⟨⟨_, Heap.get?_push_size _ rfl, rfl, rfl⟩, hl.push _⟩ fun b hb => ?_
  rcases List.mem_cons.mp hb with rfl | hb
  · exact Nat.lt_succ_self _
  · rw [List.mem_singleton.mp hb]; exact Nat.lt_succ_of_lt hlt
theorem iterates_tuple {l : Addr} {vs : List Value} (hh : A.handled = none) (hl : s.heap.IsTuple l vs.toArray) : Iterates prog w A s E (.ref l) vs.length (fun i v => vs[i]? = some v) := by
  intro Q h
  obtain ⟨ol, hol, _⟩ := id hl
  have hlt : l < s.heap.objs.size := Heap.lt_size hol
  refine wpAny_pyIter_tuple hl ?_
  have W := Walks.tuple (prog := prog) (w := w) hh s.heap.objs.size l (Nat.ne_of_lt hlt) vs.toArray
  rw [List.size_toArray] at W
  have W' : Walks prog w A s.heap.objs.size [s.heap.objs.size, l] [s.heap.objs.size] vs.length (fun i v => vs[i]? = some v) _ :=
    { sub := W.sub, frame := W.frame, done := W.done, self := W.self,
      item := fun i s Q E hi st hQ => W.item i s Q E hi st fun v h' tk hP => hQ v h' tk (by simpa using hP) }
  refine h _ _ _ W' ⟨⟨_, Heap.get?_push_size _ rfl, rfl, rfl⟩, hl.at fun o e => Heap.get?_push_of_some _ e⟩ fun b hb => ?_
  rcases List.mem_cons.mp hb with rfl | hb
  · exact Nat.lt_succ_self _
  · rw [List.mem_singleton.mp hb]; exact Nat.lt_succ_of_lt hlt

def BestAt (kind : Int) (g : Heap) (vs : List Value) (bss : List (List Int)) (pick : List (List Int) → List Int) (j : Nat) (v : Value) : Prop :=
  v ∈ vs ∧ 0 < j ∧ j ≤ bss.length ∧ FrontAt kind g v (pick (bss.take j)) ∧ pick (bss.take j) ∈ bss

theorem take_ne {α : Type} {l : List α} {j : Nat} (h0 : 0 < j) (h1 : j ≤ l.length) : l.take j ≠ [] := by
  intro e
  have := congrArg List.length e
  rw [List.length_take, List.length_nil] at this
  omega

theorem picks_min {kind : Int} {g : Heap} {wd : Nat} {vs : List Value} {bss : List (List Int)} (hu : A.units < cLine) (x : FrontsAt kind g wd vs bss) :
    Picks prog w A .Lt g (fun i v => vs[i]? = some v) (BestAt kind g vs bss lexMin) := by
  rintro j vb v s Q E ⟨hvb, h0, hj, hb, hm⟩ hv hk h
  obtain ⟨bs, hbs, hf⟩ := x.2.2 j v hv
  obtain ⟨l1, z1⟩ := x.2.1 bs (List.mem_of_getElem? hbs)
  obtain ⟨l2, z2⟩ := x.2.1 _ hm
  have ht : bss.take (j + 1) = bss.take j ++ [bs] := by rw [List.take_add_one, hbs]; rfl
  have hlt : j < bss.length := (List.getElem?_eq_some_iff.mp hbs).1
  have hs := lexMin_snoc (take_ne h0 hj) bs
  refine front_lt hu (hf.keeps hk) (hb.keeps hk) z1 z2 (l1.trans l2.symm) (h _ (fun e => ?_) fun e => ?_)
  · rw [e, if_pos rfl] at hs
    exact ⟨List.mem_of_getElem? hv, Nat.succ_pos _, hlt, by rw [ht, hs]; exact hf, by rw [ht, hs]; exact List.mem_of_getElem? hbs⟩
  · rw [e, if_neg Bool.false_ne_true] at hs
    exact ⟨hvb, Nat.succ_pos _, hlt, by rw [ht, hs]; exact hb, by rw [ht, hs]; exact hm⟩
theorem picks_max {kind : Int} {g : Heap} {wd : Nat} {vs : List Value} {bss : List (List Int)} (hu : A.units < cLine) (x : FrontsAt kind g wd vs bss) :
    Picks prog w A .Gt g (fun i v => vs[i]? = some v) (BestAt kind g vs bss lexMax) := by
  rintro j vb v s Q E ⟨hvb, h0, hj, hb, hm⟩ hv hk h
  obtain ⟨bs, hbs, hf⟩ := x.2.2 j v hv
  obtain ⟨l1, z1⟩ := x.2.1 bs (List.mem_of_getElem? hbs)
  obtain ⟨l2, z2⟩ := x.2.1 _ hm
  have ht : bss.take (j + 1) = bss.take j ++ [bs] := by rw [List.take_add_one, hbs]; rfl
  have hlt : j < bss.length := (List.getElem?_eq_some_iff.mp hbs).1
  have hs := lexMax_snoc (take_ne h0 hj) bs
  refine front_gt hu (hf.keeps hk) (hb.keeps hk) z1 z2 (l1.trans l2.symm) (h _ (fun e => ?_) fun e => ?_)
  · rw [e, if_pos rfl] at hs
    exact ⟨List.mem_of_getElem? hv, Nat.succ_pos _, hlt, by rw [ht, hs]; exact hf, by rw [ht, hs]; exact List.mem_of_getElem? hbs⟩
  · rw [e, if_neg Bool.false_ne_true] at hs
    exact ⟨hvb, Nat.succ_pos _, hlt, by rw [ht, hs]; exact hb, by rw [ht, hs]; exact hm⟩

theorem best_first {kind : Int} {g : Heap} {wd : Nat} {vs : List Value} {bss : List (List Int)} (x : FrontsAt kind g wd vs bss) (pick : List (List Int) → List Int) (hp : ∀ b, pick [b] = b) :
    ∀ v, vs[0]? = some v → BestAt kind g vs bss pick 1 v := fun v hv => by
  obtain ⟨bs, hbs, hf⟩ := x.2.2 0 v hv
  have ht : bss.take 1 = [bs] := by rw [List.take_add_one, hbs]; rfl
  exact ⟨List.mem_of_getElem? hv, Nat.one_pos, (List.getElem?_eq_some_iff.mp hbs).1, by rw [ht, hp]; exact hf, by rw [ht, hp]; exact List.mem_of_getElem? hbs⟩

theorem fronts_min {kind : Int} {g : Heap} {wd : Nat} {vs : List Value} {bss : List (List Int)} {c : Value} {Q : Value → Shared → Prop} (hu : A.units + 1 < cLine) (hg : Kept g s.heap) (x : FrontsAt kind g wd vs bss) (hn : 0 < vs.length)
    (it : Iterates prog w A.in1 s E c vs.length (fun i v => vs[i]? = some v)) (h : ∀ v h' tk, FrontAt kind g v (lexMin bss) → lexMin bss ∈ bss → v ∈ vs → Kept s.heap h' → Q v { s with heap := h', toks := tk }) :
    wpAny (model prog w) A (call (.builtin "min") [c]) Q E s :=
  min_by it (picks_min hu x) hg hn (best_first x lexMin fun _ => rfl) fun v h' tk hb hk => by
    have e : bss.take vs.length = bss := by rw [x.1]; exact List.take_length
    obtain ⟨hv, _, _, h1, h2⟩ := hb
    rw [e] at h1 h2
    exact h v h' tk h1 h2 hv hk
theorem fronts_max {kind : Int} {g : Heap} {wd : Nat} {vs : List Value} {bss : List (List Int)} {c : Value} {Q : Value → Shared → Prop} (hu : A.units + 1 < cLine) (hg : Kept g s.heap) (x : FrontsAt kind g wd vs bss) (hn : 0 < vs.length)
    (it : Iterates prog w A.in1 s E c vs.length (fun i v => vs[i]? = some v)) (h : ∀ v h' tk, FrontAt kind g v (lexMax bss) → lexMax bss ∈ bss → v ∈ vs → Kept s.heap h' → Q v { s with heap := h', toks := tk }) :
    wpAny (model prog w) A (call (.builtin "max") [c]) Q E s :=
  max_by it (picks_max hu x) hg hn (best_first x lexMax fun _ => rfl) fun v h' tk hb hk => by
    have e : bss.take vs.length = bss := by rw [x.1]; exact List.take_length
    obtain ⟨hv, _, _, h1, h2⟩ := hb
    rw [e] at h1 h2
    exact h v h' tk h1 h2 hv hk

theorem fronts_minN {kind : Int} {g : Heap} {wd : Nat} {L l : Addr} {m : Str → Option Value} {news : List (Addr × Obj)} {vs : List Value} {bss : List (List Int)} {Q : Value → Shared → Prop} (hh : A.handled = none) (hu : A.units + 1 < cLine) (F : Fr g L s.heap m) (N : News g L s.heap news)
    (x : FrontsAt kind g wd vs bss) (hn : 0 < vs.length) (hl : s.heap.IsList l vs.toArray ∨ s.heap.IsTuple l vs.toArray)
    (h : ∀ v h' tk, FrontAt kind g v (lexMin bss) → lexMin bss ∈ bss → v ∈ vs → Fr g L h' m → News g L h' news → Q v { s with heap := h', toks := tk }) : wpAny (model prog w) A (call (.builtin "min") [.ref l]) Q E s :=
  fronts_min hu F.keep x hn (hl.elim (fun hl => iterates_list hh hl) fun hl => iterates_tuple hh hl) fun v h' tk hv hm hin hk => h v h' tk hv hm hin (F.keeps hk) (N.grown hk)
theorem fronts_maxN {kind : Int} {g : Heap} {wd : Nat} {L l : Addr} {m : Str → Option Value} {news : List (Addr × Obj)} {vs : List Value} {bss : List (List Int)} {Q : Value → Shared → Prop} (hh : A.handled = none) (hu : A.units + 1 < cLine) (F : Fr g L s.heap m) (N : News g L s.heap news)
    (x : FrontsAt kind g wd vs bss) (hn : 0 < vs.length) (hl : s.heap.IsList l vs.toArray ∨ s.heap.IsTuple l vs.toArray)
    (h : ∀ v h' tk, FrontAt kind g v (lexMax bss) → lexMax bss ∈ bss → v ∈ vs → Fr g L h' m → News g L h' news → Q v { s with heap := h', toks := tk }) : wpAny (model prog w) A (call (.builtin "max") [.ref l]) Q E s :=
  fronts_max hu F.keep x hn (hl.elim (fun hl => iterates_list hh hl) fun hl => iterates_tuple hh hl) fun v h' tk hv hm hin hk => h v h' tk hv hm hin (F.keeps hk) (N.grown hk)

/-- the common front of two -/
def lcp : List Int → List Int → List Int
  | a :: p, b :: q => if a = b then a :: lcp p q else []
  | _, _ => []
theorem lcp_self : ∀ p : List Int, lcp p p = p
  | [] => rfl
  | a :: p => by simp [lcp, lcp_self p]
theorem lcp_at : ∀ (i : Nat) (p q : List Int) (b c : Int), p.take i = q.take i → p[i]? = some b → q[i]? = some c → b ≠ c → lcp p q = p.take i
  | 0, a :: p, a2 :: q, b, c, _, hb, hc, hne => by
    have e1 : a = b := by simpa using hb
    have e2 : a2 = c := by simpa using hc
    simp [lcp, e1, e2, hne]
  | i + 1, a :: p, a2 :: q, b, c, h, hb, hc, hne => by
    rw [List.take_succ_cons, List.take_succ_cons] at h
    injection h with h1 h2
    subst h1
    rw [List.take_succ_cons, lcp, if_pos rfl, lcp_at i p q b c h2 (by simpa using hb) (by simpa using hc) hne]

theorem truthy_cons {l : Addr} {v : Value} {vs : List Value} {Q : Bool → Shared → Prop} (hl : s.heap.IsList l (v :: vs).toArray) (hfit : vs.length ≤ 7)
    (h : ∀ k, Q true { s with toks := k }) : wpAny (model prog w) A (truthy (.ref l)) Q E s := by
  refine wpAny_truthy_list hl (by simp; omega) ?_
  have e : (v :: vs).toArray.isEmpty = false := by simp
  rw [e]; exact h _
theorem FrontAt.isi {kind : Int} {v : Value} {bs : List Int} {tp : Addr} {Q : Value → Shared → Prop} (x : FrontAt kind s.heap v bs)
    (ht : s.heap.get? tp = some { cls := .type "tuple", data := .seq [Value.type "list", Value.type "tuple"].toArray }) (h : ∀ tk, Q (.bool (decide (kind ≠ 0))) { s with toks := tk }) :
    wpAny (model prog w) A (call (.builtin "isinstance") [v, .ref tp]) Q E s := by
  rcases x with ⟨hk, t, rfl⟩ | ⟨hk, a, vs, rfl, ⟨n, hl⟩, hi⟩ | ⟨hk, a, vs, n, rfl, hl, hi⟩
  · subst hk
    exact IsiPair.tupleOfB (Tx := "str") (AnswersAll.cons (Answers.of_false_str (by decide +kernel) PySem.F.isi_meta_list PySem.F.sub_str_list) (AnswersAll.cons (Answers.of_false_str (by decide +kernel) PySem.F.isi_meta_tuple PySem.F.sub_str_tuple) AnswersAll.nil)) rfl ht rfl h
  · subst hk
    exact IsiPair.tupleOfB (Tx := "list") (AnswersAll.cons (Answers.of_true PySem.F.isi_meta_list PySem.F.sub_list_list) (AnswersAll.cons (Answers.of_false_list (by decide +kernel) PySem.F.isi_meta_tuple PySem.F.sub_list_tuple) AnswersAll.nil)) ⟨_, hl, rfl⟩ ht rfl h
  · subst hk
    exact IsiPair.tupleOfB (Tx := "tuple") (AnswersAll.cons (Answers.of_false_tuple (by decide +kernel) PySem.F.isi_meta_list PySem.F.sub_tuple_list) (AnswersAll.cons (Answers.of_true PySem.F.isi_meta_tuple PySem.F.sub_tuple_tuple) AnswersAll.nil)) ⟨_, hl, rfl⟩ ht rfl h
end
end Mine

end
section
open PySem PySem.W PySem.Calls PySem.Spec PyProof.Rows PyProof.Rows.LCg
namespace Mine
section
variable {prog : Program} {w : World} {A : Around} {E : Value → Shared → Prop} {s : Shared}
theorem seqIndex_nat (i n : Nat) (h : i < n) : seqIndex? (i : Int) n = some i := by
  unfold seqIndex?
  have h0 : ¬ ((i : Int) < 0) := by omega
  simp only [h0, if_false]
  first | simp [h] | (simp; omega)
theorem FrontAt.item {kind b : Int} {v : Value} {bs : List Int} {value : Expr} {nm : Str} {pos : Pos} {i : Nat} {u : Tok} {Q : Value → Shared → Prop} (x : FrontAt kind s.heap v bs) (hl : bs.length ≤ 7) (hi : bs[i]? = some b)
    (h : ∀ y tk, IsSign kind b y → Q y { s with toks := tk }) : wpAny (model prog w) A (subscriptTail value (.Name nm pos) v (.int i u)) Q E s := by
  have hlt : i < bs.length := (List.getElem?_eq_some_iff.mp hi).1
  rcases x with ⟨hk, t, rfl⟩ | ⟨hk, a, vs, rfl, ⟨n, hl⟩, hvs⟩ | ⟨hk, a, vs, n, rfl, hl, hvs⟩
  · have hsz : (txt bs).length = bs.length := txt_size bs
    have hc : (seqIndex? (i : Int) (txt bs).length).bind ((txt bs).cps[·]?) = some (if b = 1 then 49 else 48) := by
      rw [seqIndex_nat i _ (by rw [hsz]; exact hlt)]
      simp [txt, hi]
    refine tail_any (typeIs_str _ _ _) F.slot_str_getitem.lookup (P.getItem_str (by simp; omega) hc ?_) (by with_unfolding_all rfl)
    all_goals first | exact h _ _ (.inl ⟨hk, _, rfl⟩) | skip
  · obtain ⟨t, ht⟩ := hvs.get i b hi
    refine tail_any ⟨_, hl, rfl⟩ slot_list_getitem.lookup (wpAny_getItem_list ⟨_, hl, rfl, n, rfl⟩ (by omega) (by omega) (x := .int b t) (by simpa using ht) (h _ s.toks (.inr ⟨by omega, t, rfl⟩))) (by with_unfolding_all rfl)
  · obtain ⟨t, ht⟩ := hvs.get i b hi
    exact item_tupleT ⟨_, hl, rfl, n, rfl⟩ (by omega) (by omega) (seqIndex_nat i _ (by rw [hvs.length]; exact hlt)) ht (h _ s.toks (.inr ⟨by omega, t, rfl⟩)) (by with_unfolding_all rfl)

theorem sign_ne {a b : Int} (ha : a = 0 ∨ a = 1) (hb : b = 0 ∨ b = 1) : ((sign a).cps.toList != (sign b).cps.toList) = (a != b) := by
  rcases ha with rfl | rfl <;> rcases hb with rfl | rfl <;> decide +kernel
theorem signs_ne {kind a b : Int} {v y : Value} {Q : Value → Shared → Prop} (x : IsSign kind a v) (z : IsSign kind b y) (ha : a = 0 ∨ a = 1) (hb : b = 0 ∨ b = 1) (h : Q (.bool (a != b)) s) :
    wpAny (model prog w) A (compareOp .NotEq v y) Q E s := by
  rcases x with ⟨hk, t, rfl⟩ | ⟨hk, t, rfl⟩ <;> rcases z with ⟨hk2, t2, rfl⟩ | ⟨hk2, t2, rfl⟩
  · refine P.ne_str ?_
    rw [sign_ne ha hb]; exact h
  · exact absurd hk hk2
  · exact absurd hk2 hk
  · exact PyProof.Rows.ne_int h
end
end Mine

end
section
open PySem PySem.W PySem.Calls PySem.Spec PyProof.Rows PyProof.Rows.LCg
namespace Mine
theorem adjust_to (a n : Nat) (ha : a ≤ n) : Builtin.Slice.sliceAdjust none (some (a : Int)) 1 (n : Int) = (0, (a : Int)) := by
  unfold Builtin.Slice.sliceAdjust
  have h1 : ¬ ((1 : Int) < 0) := by omega
  have h2 : ¬ ((a : Int) < 0) := by omega
  simp only [h1, h2, if_false]
  congr 1
  omega
theorem places_to (a : Nat) : Builtin.Slice.slicePlaces 0 (a : Int) 1 = a := by
  unfold Builtin.Slice.slicePlaces
  have h1 : (1 : Int) > 0 := by omega
  simp only [h1, if_true, Int.ediv_one]
  split <;> omega
theorem pick_to (vs : List Value) (a : Nat) (ha : a ≤ vs.length) : ((List.range a).filterMap fun (k : Nat) => vs.toArray[((0 : Int) + (k : Int) * 1).toNat]?) = vs.take a := by
  have e : (fun (k : Nat) => vs.toArray[((0 : Int) + (k : Int) * 1).toNat]?) = fun k => vs[k]? := by
    funext k
    have : ((0 : Int) + (k : Int) * 1).toNat = k := by omega
    rw [this]; simp
  rw [e]
  induction a with
  | zero => simp
  | succ a ih =>
    rw [List.range_succ, List.filterMap_append, ih (by omega), List.take_add_one]
    have : vs[a]? = some vs[a] := by simp
    simp [this]
section
variable {prog : Program} {w : World} {A : Around} {E : Value → Shared → Prop} {s : Shared}
theorem sliceApplied_to {sl : Addr} {a n : Nat} {u : Tok} {Q : Int × Int × Nat → Shared → Prop} (hs : s.heap.IsSliceOf sl .none (.int a u) .none) (ha : a ≤ n) (h : Q (0, 1, a) s) :
    wpAny (model prog w) A (Builtin.Slice.sliceApplied (.ref sl) (pure (n : Int))) Q E s := by
  obtain ⟨os, hos, hcs, hds⟩ := id hs
  unfold Builtin.Slice.sliceApplied Builtin.Slice.sliceFields
  refine wpAny_bind (wpAny_bind (wpAny_field hos hds (x := .none) rfl (wpAny_bind (wpAny_field hos hds (x := .int a u) rfl (wpAny_bind (wpAny_field hos hds (x := .none) rfl (wpAny_pure ?_)))))))
  refine wpAny_bind (slicePart_none ?_)
  show wpAny _ _ (if ((1 : Int) == 0) = true then _ else _) _ _ s
  rw [if_neg (by decide)]
  refine wpAny_bind (slicePart_none (wpAny_bind (slicePart_int (wpAny_bind (wpAny_pure ?_)))))
  show wpAny _ _ (match Builtin.Slice.sliceAdjust none (some (a : Int)) 1 (n : Int) with | (lo, hi) => pure (lo, (1 : Int), Builtin.Slice.slicePlaces lo hi 1)) _ _ s
  rw [adjust_to a n ha]
  show wpAny _ _ (pure ((0 : Int), (1 : Int), Builtin.Slice.slicePlaces 0 (a : Int) 1)) _ _ s
  rw [places_to a]
  exact wpAny_pure h

theorem getItem_tuple_to {t sl : Addr} {vs : List Value} {a : Nat} {u : Tok} {Q : Value → Shared → Prop} (ht : IsTup s.heap t vs.toArray) (hs : s.heap.IsSliceOf sl .none (.int a u) .none) (ha : a < vs.length) (hsz : vs.length ≤ sizeLine)
    (h : Q (.ref s.heap.objs.size) { s with heap := s.heap.push { cls := .type "tuple", data := .seq (vs.take a).toArray } }) : wpAny (model prog w) A (getItem (.ref t) (.ref sl)) Q E s := by
  have htk : sizeOk (.seq (vs.take a).toArray) := by
    show (vs.take a).toArray.size ≤ sizeLine
    rw [List.size_toArray, List.length_take]
    omega
  obtain ⟨os, hos, hcs, hds⟩ := id hs
  have hTs : s.TypeIs (.ref sl) "slice" := ⟨os, hos, hcs⟩
  unfold getItem
  try with_reducible refine wpAny_holding ?_
  first | refine wpAny_bind (wpAny_pure ?_) | skip
  refine wpAny_bind (wpAny_sequenceKey ht.typeIs (by decide) ?_)
  refine wpAny_bind (wpAny_callSpecial?_slot (name := Str.ofString "__getitem__") ht.typeIs slot_tuple_getitem
    (wpAny_call_entry slot_tuple_getitem ht.typeIs entry_tuple_getitem ?_ (args_tuple_getitem _ _)))
  show wpAny _ _ (Builtin.Tuple.tupleItemsOf (.ref t) >>= _) _ _ s
  refine wpAny_bind (tupleItemsOf_ ht ?_)
  refine wpAny_bind (wpAny_typeOf hTs ?_)
  rw [if_pos (by decide)]
  refine wpAny_bind (sliceApplied_to hs (n := vs.toArray.size) (by simp; omega) ?_)
  have hno : ¬ (((0 : Int) == 0 && (1 : Int) == 1 && a == vs.toArray.size) = true) := by
    have : (a == vs.toArray.size) = false := by rw [beq_eq_false_iff_ne, List.size_toArray]; omega
    rw [this]; simp
  show wpAny _ _ (if ((0 : Int) == 0 && (1 : Int) == 1 && a == vs.toArray.size) = true then _ else _) _ _ s
  rw [if_neg hno, pick_to vs a (Nat.le_of_lt ha)]
  first
    | exact wpAny_bind (m := Builtin.Tuple.tupleExact _) (wpAny_newObj_type (wpAny_pure ⟨_, rfl, wpAny_pure h⟩) htk)
    | exact wpAny_bind (m := Builtin.Tuple.tupleExact _) (wpAny_newObj_type (wpAny_bind (wpAny_pure (wpAny_pure ⟨_, rfl, wpAny_pure h⟩))) htk)
    | exact wpAny_bind (wpAny_bind (m := Builtin.Tuple.tupleExact _) (wpAny_newObj_type (wpAny_pure (wpAny_pure ⟨_, rfl, wpAny_pure h⟩)) htk))
    | exact wpAny_bind (wpAny_bind (m := Builtin.Tuple.tupleExact _) (wpAny_newObj_type (wpAny_pure ⟨_, rfl, wpAny_pure h⟩) htk))

theorem IntsAre.upto {vs : List Value} {ns : List Int} (h : IntsAre vs ns) : ∀ i, IntsAre (vs.take i) (ns.take i) := by
  induction h with
  | nil => intro i; simp; exact .nil
  | cons n t _ ih =>
    intro i
    cases i with
    | zero => exact .nil
    | succ i => exact .cons n t (ih i)

theorem txt_slice (bs : List Int) (i : Nat) (hi : i ≤ bs.length) : Txt.slice (txt bs) none (some (i : Int)) = txt (bs.take i) := by
  have h := slice_closes_toL (x := txt bs) (j := (i : Int)) (by omega) (by have := txt_size bs; show (i : Int) ≤ ((txt bs).cps.size : Int); omega)
  have h2 := eq_of_beq h
  rw [h2]
  refine Str.ext' ?_
  simp [txt, List.map_take]

theorem FrontAt.cut {kind : Int} {v : Value} {bs : List Int} {g : Heap} {L : Addr} {m : Str → Option Value} {nm : Str} {pos pos2 : Pos} {e : Expr} {i : Nat} {u : Tok} {Q : Value → Shared → Prop} (x : FrontAt kind g v bs) (hl : bs.length ≤ 7) (hi : i < bs.length)
    (F : Fr g L s.heap m) (h : ∀ r h' tk, Fr g L h' m → FrontAt kind h' r (bs.take i) → Fresh g r → Q r { s with heap := h', toks := tk }) :
    wpAny (model prog w) A (subscriptTail (.Name nm pos) (.Slice none (some e) none pos2) v (.ref s.heap.objs.size)) Q E { s with heap := s.heap.push { cls := .type "slice", data := .fields #[.none, .int i u, .none] } } := by
  have N : News g L s.heap [] := News.nil
  have hnew : g.get? (s.heap.objs.size + 1) = none := Heap.get?_none_of_le (Nat.le_trans F.above (Nat.le_of_lt (Nat.lt_succ_of_lt F.ns.lt)))
  have sz : ∀ n : Nat, n ≤ 7 → n ≤ sizeLine := fun n hn => by rw [sizeLine_eq]; omega
  rcases x with ⟨hk, t, rfl⟩ | ⟨hk, a, vs, rfl, ⟨n, ha⟩, hvs⟩ | ⟨hk, a, vs, n, rfl, ha, hvs⟩
  · refine slice_str_ns F (fun h' t' k F' => ?_) (by with_unfolding_all rfl) (by intro _; with_unfolding_all rfl) (by have := txt_size bs; show (txt bs).cps.size ≤ sizeLine; rw [this]; exact sz _ hl)
    rw [txt_slice bs i (Nat.le_of_lt hi)]
    exact h _ h' k F' (.inl ⟨hk, _, rfl⟩) (fun a e => nomatch e)
  · refine slice_list F N ⟨_, F.keep _ _ ha, rfl, _, rfl⟩ IsPart.none (IsPart.int (i : Int) u) (fun h' F' N' => ?_) (by with_unfolding_all rfl) (by intro _; with_unfolding_all rfl) (by rw [List.size_toArray, hvs.length]; exact sz _ hl)
    have ho := (N' _ (.head _)).1
    rw [slicePick_upto' vs.toArray i] at ho
    exact h _ h' s.toks F' (.inr (.inl ⟨hk, _, vs.take i, rfl, ⟨_, ho⟩, IntsAre.upto hvs i⟩)) (fun a e => by cases e; exact hnew)
  · have hlt : i < vs.length := by rw [hvs.length]; exact hi
    have ht' : IsTup (s.heap.push { cls := .type "slice", data := .fields #[.none, .int i u, .none] }) a vs.toArray := ⟨_, Heap.get?_push_of_some _ (F.keep _ _ ha), rfl, _, rfl⟩
    refine subscriptTail_ops (s := { s with heap := s.heap.push { cls := .type "slice", data := .fields #[.none, .int i u, .none] } }) (ops := [.ref s.heap.objs.size, .ref a]) ht'.typeIs slot_tuple_getitem.lookup
      (getItem_tuple_to ht' (Heap.IsSliceOf.new ..) hlt (by rw [hvs.length]; exact sz _ hl) ?_) (by with_unfolding_all rfl) (by intro _; with_unfolding_all rfl)
    show Q (.ref (s.heap.push _).objs.size) _
    have hz : (s.heap.push { cls := .type "slice", data := .fields #[.none, .int i u, .none] }).objs.size = s.heap.objs.size + 1 := Heap.size_push ..
    rw [hz]
    have ho := Heap.get?_push_size (s.heap.push { cls := .type "slice", data := .fields #[.none, .int i u, .none] }) (o := { cls := .type "tuple", data := .seq (vs.take i).toArray }) rfl
    rw [hz] at ho
    exact h _ _ s.toks ((F.push _).push _) (.inr (.inr ⟨hk, _, vs.take i, _, rfl, ho, IntsAre.upto hvs i⟩)) (fun a e => by cases e; exact hnew)
end
end Mine

end
section
open PySem PySem.W PySem.Calls PySem.Spec PyProof.Rows PyProof.Rows.LCg
namespace Mine
theorem kfill_common : (PySem.Challenge.rw_dh5002_01 = PySem.Challenge.rw_dh5002_01 ∧ hd.heap_39 = hd.heap_39) → True := by (k_fill; intro _; trivial)

theorem FrontsAt.zo {kind : Int} {h : Heap} {w : Nat} {vs : List Value} {bss : List (List Int)} (x : FrontsAt kind h w vs bss) : ∀ bs ∈ bss, bs.length = w ∧ ∀ b ∈ bs, b = 0 ∨ b = 1 := x.2.1
theorem front_in {kind : Int} {h : Heap} {v : Value} {bs : List Int} {vs : List Value} (_ : FrontAt kind h v bs) (h : v ∈ vs) : v ∈ vs := h
theorem front_name {kind : Int} {h : Heap} {v : Value} {bs : List Int} (_ : FrontAt kind h v bs) : ∃ x, x = v := ⟨v, rfl⟩
local macro_rules | `(tactic| walk_at "truthy ref") => `(tactic| (k_here; k_dflt (refine' truthy_cons ?hl ?hf ?_; (case hl => exact stays_list (Fr.keep (by k_asm)) (by assumption)); (case hf => assumption); k_whole; intro tk')))
local macro_rules | `(tactic| walk_at "call builtin:isinstance") => `(tactic| (k_here; k_dflt (refine' FrontAt.isi ?hx ?ht ?_; (case hx => exact FrontAt.keeps (by assumption) (Fr.keep (by k_asm))); (case ht => exact News.get (by k_asm) (by k_mem)); k_whole; intro tk')))
local macro_rules | `(tactic| walk_at "call builtin:min") => `(tactic| (k_here; k_dflt (refine' fronts_minN (by rfl) ?hu ?F ?N ?x ?hn ?hl ?_; (case F => k_asm); (case N => k_asm); (case x => assumption); (case hu => assumption); (case hn => exact Nat.succ_pos _); (case hl => exact Or.inl (stays_list (Fr.keep (by k_asm)) (by assumption))); k_whole; intro v1' h' tk' hv1' hm1' hin1' F' N')))
local macro_rules | `(tactic| walk_at "call builtin:max") => `(tactic| (k_here; k_dflt (refine' fronts_maxN (by rfl) ?hu ?F ?N ?x ?hn ?hl ?_; (case F => k_asm); (case N => k_asm); (case x => assumption); (case hu => assumption); (case hn => exact Nat.succ_pos _); (case hl => exact Or.inl (stays_list (Fr.keep (by k_asm)) (by assumption))); k_whole; intro v2' h' tk' hv2' hm2' hin2' F' N')))
local macro_rules | `(tactic| walk_at "call type:enumerate") => `(tactic| (k_here; k_dflt (refine' call_enum_front (by rfl) ?x ?h01 ?F ?N ?_; (case F => k_asm); (case N => k_asm); (case x => assumption); (case h01 => exact fun b hb => ((FrontsAt.zo (by assumption)) _ (by assumption)).2 b hb); k_whole; intro h' e' F' N' S')))
local macro_rules | `(tactic| walk_at "subscriptTail") => `(tactic| (k_here; k_dflt (refine' FrontAt.item ?hx ?hl ?hi ?_; (case hx => exact FrontAt.keeps (by assumption) (Fr.keep (by k_asm))); (case hi => assumption); (case hl => assumption); k_whole; intro y' tk' hy')))
local macro_rules | `(tactic| walk_at "subscriptTail") => `(tactic| (k_here; k_dflt (refine' FrontAt.cut ?hx ?hl ?hi ?F ?_; (case hx => assumption); (case F => k_asm); (case hi => assumption); (case hl => assumption); k_whole; intro r' h' tk' F' hr' fr')))
local macro_rules | `(tactic| walk_at "compareOp NotEq") => `(tactic| (k_here; k_dflt (refine' signs_ne ?hx ?hy ?ha ?hb ?_; (case hx => assumption); (case hy => assumption); (case ha => assumption); (case hb => assumption); k_whole)))
local macro_rules | `(tactic| walk_at "pyIter ref") => `(tactic| refine stop ?_)
set_option maxHeartbeats 8000000 in
theorem common_seq (w : World) (kind : Int) (wd : Nat) (l : Addr) (v0 : Value) (vs : List Value) (bss : List (List Int)) (hk : kind ≠ 0) (hw : wd ≤ 7) (hlen : vs.length ≤ 7) :
   CallsTo w 101 5 [.ref l] (fun h => h.PlainList l (v0 :: vs).toArray ∧ FrontsAt kind h wd (v0 :: vs) bss)
     (fun h h' r => FrontAt kind h' r (lcp (lexMin bss) (lexMax bss)) ∧ (Fresh h r ∨ r ∈ v0 :: vs)) := by
  unfold CallsTo
  intro mean mg mb dp un gd env outer A₀ base h₀ L m s Q E B F X T hf hkf hrm hu hpre hret
  refine wpAny_call ?_
  k_dflt (refine' enterB ?k1 ?k2 ?k3 ?k5 ?kA ?kF ?kK ?k6 ?k7 ?k8 ?k9 ?kB ?_ ?c2 ?c3 ?c4 ?c5; (case kA => exact rfl); (case kF => first | assumption | exact rfl); (case kK => first | assumption | exact rfl); (case k1 => k_asm); (case k2 => k_asm); (case k3 => k_asm); (case k5 => k_asm); (case k6 => k_is); (case k7 => k_is); (case k8 => (show _ < _; (try simp only [depth_under_make, depth_under_kw, depth_in1, depth_deeper]); (try dsimp only [Ar] at *); (simp only [recursionLimit] at *); omega)); (case k9 => exact BindsTo.of_eq rfl); (case c5 => decide); (case kB => exact locs rfl); (case c2 => exact rfl); (case c3 => exact rfl); (case c4 => exact rfl); k_whole; intro g' L' h' hg' FG' F' N' B' X' T'; (try dsimp only))

  rw [← hg'] at hpre
  obtain ⟨hl, hx⟩ := hpre
  obtain ⟨bs0, hbs0, hv0⟩ := hx.2.2 0 v0 rfl
  have hl' := hl.isList
  have hu1 : ((Ar dp un gd env outer).deeper env).units + 1 < cLine := by show un + 3 + 1 < cLine; omega
  k_steps
  (rename FrontAt _ _ _ (lexMin _) => hv1); (rename FrontAt _ _ _ (lexMax _) => hv2); (rename lexMin _ ∈ _ => hm1); (rename lexMax _ ∈ _ => hm2); (rename PairSrcL _ _ _ _ _ _ _ _ _ _ _ _ => hS)
  have hin1 := front_in hv1 (by assumption)
  obtain ⟨lp, zp⟩ := hx.2.1 _ hm1
  obtain ⟨lq, zq⟩ := hx.2.1 _ hm2
  generalize hpe : lexMin bss = p at *
  generalize hqe : lexMax bss = q at *
  obtain ⟨v1, e1⟩ := front_name hv1; subst e1
  obtain ⟨v2, e2⟩ := front_name hv2; subst e2
  refine go (PairSrcL.at hS _ rfl _ _ _ _ (fun i m _ => m (Str.ofString "s1") = some v1 ∧ m (Str.ofString "s2") = some v2 ∧ p.take i = q.take i) ⟨rfl, rfl, rfl⟩ ?_ ?_)
  · rintro i b t val m₁ news₁ s₁ own ⟨hh, tk, rfl⟩ hbi ⟨hb01, hval⟩ ⟨hs1, hs2, hpq⟩ had hown F₁ N₁
    dsimp only at F₁ N₁ ⊢
    rw [map_know hs1, map_know hs2] at F₁
    have hlt : i < p.length := (List.getElem?_eq_some_iff.mp hbi).1
    obtain ⟨c, hc⟩ : ∃ c, q[i]? = some c := ⟨q[i]'(by omega), List.getElem?_eq_getElem _⟩
    have hc01 := zq c (List.mem_of_getElem? hc)
    have hp7 : p.length ≤ 7 := by omega
    have hq7 : q.length ≤ 7 := by omega
    have hnext : b = c → p.take (i + 1) = q.take (i + 1) := fun e => by
      rw [List.take_add_one, List.take_add_one, hpq, hbi, hc, e]
    have hstop : b ≠ c → lcp p q = p.take i := lcp_at i p q b c hpq hbi hc
    k_steps
    · (rename Fr _ _ _ _ => Fz)
      rename_i r hr hfr
      refine hret _ _ _ (hg' ▸ Fz.keep) ⟨?_, .inl (hg' ▸ hfr)⟩
      rw [hstop (by assumption)]
      exact hr
    · exact hnext (by assumption)
  · rintro hh tk m₁ news₁ F₁ N₁ had ⟨hs1, hs2, hpq⟩
    rw [map_know hs1, map_know hs2] at F₁
    dsimp only
    have epq : p = q := by rw [List.take_length, lp, ← lq, List.take_length] at hpq; exact hpq
    subst epq
    k_steps
    refine hret _ _ _ (hg' ▸ F₁.keep) ⟨?_, .inr hin1⟩
    rw [lcp_self]
    exact hv1.keeps F₁.keep
end Mine

end
section
open PySem PySem.W PySem.Calls PySem.Spec PyProof.Rows PyProof.Rows.LCg
open PySem.AutoSeq1 (wpAny_loadPart')
namespace Mine
theorem mp_slot_next : Slot "map" "__next__" "map.__next__" :=
  .of (owner := "map") (n := "__next__") (by rw [typeLookup_type, builtinLookup_eq_fast]; kernel_rfl) (by decide +kernel) (by decide +kernel) (by decide +kernel)
    (by first | exact .inl (by decide +kernel) | exact .inr (by decide +kernel)) (by rw [isSubtype_type]; kernel_rfl)
theorem mp_entry_next : entryFor table "map.__next__" = some Builtin.«map.__next__» := entryFor_of_fast (by kernel_rfl)
theorem mp_args_next (a : Value) : argsOk "map.__next__" ⟨[a], []⟩ := by unfold argsOk; kernel_rfl
theorem mp_slot_iter : Slot "map" "__iter__" "map.__iter__" :=
  .of (owner := "map") (n := "__iter__") (by rw [typeLookup_type, builtinLookup_eq_fast]; kernel_rfl) (by decide +kernel) (by decide +kernel) (by decide +kernel)
    (by first | exact .inl (by decide +kernel) | exact .inr (by decide +kernel)) (by rw [isSubtype_type]; kernel_rfl)
theorem mp_entry_iter : entryFor table "map.__iter__" = some Builtin.«dict_keyiterator.__iter__» :=
  entryFor_alias (id' := "dict_keyiterator.__iter__") (by kernel_rfl) (by first | rfl | decide +kernel | (unfold String.splitOn; simp +decide [String.splitOnAux])) (by decide +kernel) (by kernel_rfl)
theorem mp_args_iter (a : Value) : argsOk "map.__iter__" ⟨[a], []⟩ := by unfold argsOk; kernel_rfl
theorem mp_slot_init : Slot "map" "__init__" "object.__init__" :=
  .of (owner := "object") (n := "__init__") (by rw [typeLookup_type, builtinLookup_eq_fast]; kernel_rfl) (by decide +kernel) (by decide +kernel) (by decide +kernel)
    (by first | exact .inl (by decide +kernel) | exact .inr (by decide +kernel)) (by rw [isSubtype_type]; kernel_rfl)
theorem mp_no_len : typeLookup (.type "map") "__len__" = pure none := by rw [typeLookup_type, builtinLookup_eq_fast]; kernel_rfl
theorem mp_no_hint : typeLookup (.type "map") "__length_hint__" = pure none := by rw [typeLookup_type, builtinLookup_eq_fast]; kernel_rfl
theorem mp_mro : mroOf (.type "map") = pure [.type "map", .type "object"] := by rw [mroOf_type]; kernel_rfl
theorem mp_new : typeLookup (.type "map") "__new__" = pure (some (.builtin "map.__new__")) := by rw [typeLookup_type, builtinLookup_eq_fast]; kernel_rfl
theorem mp_called : TypeCalled "map" "map.__new__" "object.__init__" :=
  ⟨by decide +kernel, by decide +kernel, ⟨_, _, mp_mro⟩, madeBy_type mp_mro mp_new (by decide +kernel), by decide +kernel, by rw [isSubtype_type]; kernel_rfl, mp_slot_init⟩
theorem mp_typeCall (a b : Value) : checkTypeCall "map" ⟨[a, b], []⟩ = pure () := by kernel_rfl
theorem mp_newCall (a b : Value) : checkBuiltinCall "map.__new__" ⟨[.type "map", a, b], []⟩ = pure () := by kernel_rfl
theorem mp_entry_new : entryFor table "map.__new__" = some Builtin.«map.__new__» := entryFor_of_fast (by kernel_rfl)
theorem mp_sub : isSubtype (.type "map") (.type "map") = pure true := by rw [isSubtype_type]; kernel_rfl
theorem mp_args_init (obj a b : Value) : argsOk "object.__init__" ⟨[obj, a, b], []⟩ := by unfold argsOk; kernel_rfl

abbrev mapObj (T : Addr) (f : Value) : Obj := { cls := .type "map", data := .fields #[.ref T, f] }
abbrev oneObj (it : Addr) : Obj := { cls := .type "tuple", data := .seq [Value.ref it].toArray }

theorem meets_map_new (f : Value) (l : Addr) (items : Array Value) (n : Nat) :
    Meets (Builtin.«map.__new__» ⟨[.type "map", f, .ref l], []⟩) (fun _ R s => s.heap.get? l = some { cls := .type "list", data := .seq items n } ∧
      ∀ H, H = (s.heap.push { cls := .type "list_iterator", data := .fields #[.ref l, .int 0 0] }).push (oneObj s.heap.objs.size) →
        R (.ok (.ret (.ref H.objs.size))) { s with heap := H.push (mapObj (s.heap.push { cls := .type "list_iterator", data := .fields #[.ref l, .int 0 0] }).objs.size f) }) :=
  .of_wp fun prog w A R s h => by
    obtain ⟨hp, g, d, tk, os⟩ := s; obtain ⟨hl, h⟩ := h
    have hsub := mp_sub
    have hL : Heap.IsList (Shared.heap ⟨hp, g, d, tk, os⟩) l items := ⟨_, hl, rfl, n, rfl⟩
    wp_walk using wpAny_loadPart' hl, wpAny_pyIter_list hL
    exact ⟨_, rfl, h _ rfl⟩

section
variable {prog : Program} {w : World} {A : Around} {E : Value → Shared → Prop} {s : Shared}
theorem call_map {f : Value} {l : Addr} {items : Array Value} {Q : Value → Shared → Prop} (hl : s.heap.PlainList l items)
    (h : ∀ h', h'.IsListIter s.heap.objs.size l 0 → h'.get? (s.heap.objs.size + 1) = some (oneObj s.heap.objs.size) → h'.get? (s.heap.objs.size + 2) = some (mapObj (s.heap.objs.size + 1) f) → h'.objs.size = s.heap.objs.size + 3 →
      Kept s.heap h' → Q (.ref (s.heap.objs.size + 2)) { s with heap := h' }) :
    wpAny (model prog w) A (call (.type "map") [f, .ref l]) Q E s := by
  obtain ⟨n, hl⟩ := hl
  refine callType_new mp_called (by decide) (mp_typeCall _ _) (mp_newCall _ _) (fun obj => mp_args_init obj _ _) mp_entry_new (meets_map_new f l items n) ⟨hl, fun H hH => ?_⟩
  have z1 : (s.heap.push { cls := .type "list_iterator", data := .fields #[.ref l, .int 0 0] }).objs.size = s.heap.objs.size + 1 := Heap.size_push ..
  have z2 : H.objs.size = s.heap.objs.size + 2 := by rw [hH, Heap.size_push, z1]
  have k1 : H.get? s.heap.objs.size = some { cls := .type "list_iterator", data := .fields #[.ref l, .int 0 0] } := by rw [hH]; exact Heap.get?_push_of_some _ (Heap.get?_push_size _ rfl)
  have k2 : H.get? (s.heap.objs.size + 1) = some (oneObj s.heap.objs.size) := by
    have := Heap.get?_push_size (s.heap.push { cls := .type "list_iterator", data := .fields #[.ref l, .int 0 0] }) (o := oneObj s.heap.objs.size) rfl
    rw [z1] at this; rw [hH]; exact this
  have k3 := Heap.get?_push_size H (o := mapObj (s.heap.objs.size + 1) f) rfl
  show _ ∧ _
  rw [z1]
  rw [z2] at k3 ⊢
  refine ⟨⟨_, k3, rfl⟩, h _ ⟨_, Heap.get?_push_of_some _ k1, rfl, rfl⟩ (Heap.get?_push_of_some _ k2) k3 (by rw [Heap.size_push, z2]) fun b o e => Heap.get?_push_of_some _ (by rw [hH]; exact Heap.get?_push_of_some _ (Heap.get?_push_of_some _ e))⟩

/-- a map object over a list: its state upon a heap of which C holds -/
def MapSt (C : Heap → Prop) (I T it l : Addr) (f : Value) (items : Array Value) (i : Nat) (h : Heap) : Prop :=
  C h ∧ h.get? I = some (mapObj T f) ∧ h.get? T = some (oneObj it) ∧ h.IsListIter it l i ∧ h.IsList l items

theorem map_walks {C : Heap → Prop} {I T it l : Addr} {f : Value} {items : Array Value} {fp : List Addr} {P : Nat → Value → Prop} (hh : A.handled = none) (hI : I ∈ fp) (hT : T ∈ fp) (hit : it ∈ fp) (hl : l ∈ fp) (nI : I ≠ it) (nT : T ≠ it) (nl : l ≠ it)
    (c1 : ∀ h h', C h → (∀ b ∈ fp, ∀ o, h.get? b = some o → h'.get? b = some o) → C h') (c2 : ∀ h h', C h → (∀ b o, b ≠ it → h.get? b = some o → h'.get? b = some o) → C h')
    (hcall : ∀ (i : Nat) (x : Value) (s : Shared) (Q E : Value → Shared → Prop), items[i]? = some x → C s.heap → (∀ y h' tk, P i y → Kept s.heap h' → Q y { s with heap := h', toks := tk }) → wpAny (model prog w) A.in1 (call f [x]) Q E s) :
    Walks prog w A I fp [it] items.size P (MapSt C I T it l f items) where
  sub := fun b hb => by rw [List.mem_singleton.mp hb]; exact hit
  frame := fun i h h' st hk => ⟨c1 _ _ st.1 hk, hk _ hI _ st.2.1, hk _ hT _ st.2.2.1, st.2.2.2.1.at fun o e => hk it hit o e, st.2.2.2.2.at fun o e => hk l hl o e⟩
  item := fun i s Q E hi st hQ => by
    obtain ⟨hC, oI, oT, oit, ol⟩ := st
    have hTy : s.TypeIs (.ref I) "map" := ⟨_, oI, rfl⟩
    have hx : items[i]? = some items[i] := Array.getElem?_eq_getElem hi
    unfold pyNext
    refine wpAny_bind (wpAny_attempt (wpAny_callSpecial?_slot (name := Str.ofString "__next__") hTy mp_slot_next (wpAny_call_entry mp_slot_next hTy mp_entry_next ?_ (mp_args_next _))))
    show wpAny _ _ (field (.ref I) 0 >>= _) _ _ s
    refine wpAny_bind (wpAny_field oI rfl (x := .ref T) rfl ?_)
    show wpAny _ _ (seqItems? (.ref T) >>= _) _ _ s
    refine wpAny_bind (wpAny_seqItems oT rfl ?_)
    dsimp only
    refine wpAny_bind (forIn_array_ _ (fun rest b s' => (rest = [Value.ref it] ∧ b = #[] ∧ s' = s) ∨ (rest = [] ∧ b = #[items[i]] ∧ ∃ h', s' = { s with heap := h' } ∧ h'.IsListIter it l (i + 1) ∧ Heap.SameBut it s.heap h')) _ ?_ ?_ _ _ (.inl ⟨rfl, rfl, rfl⟩))
    · rintro x rest b s' (⟨e1, rfl, rfl⟩ | ⟨e1, _⟩)
      · injection e1 with e1 e2
        subst e1 e2
        refine wpAny_bind (wpAny_holding (wpAny_nextOf_list_item oit ol hx fun h' hit' hs' => ?_))
        exact wpAny_pure (.inr ⟨rfl, rfl, h', rfl, hit', hs'⟩)
      · cases e1
    · rintro b s' (⟨e1, _⟩ | ⟨_, rfl, h₁, rfl, hit₁, hs₁⟩)
      · cases e1
      · have up : ∀ b o, b ≠ it → s.heap.get? b = some o → h₁.get? b = some o := fun b o hb e => hs₁.extBut b o hb e
        show wpAny _ _ (field (.ref I) 1 >>= _) _ _ _
        refine wpAny_bind (wpAny_field (up _ _ nI oI) rfl (x := f) rfl ?_)
        refine wpAny_bind (wpAny_holding (hcall i items[i] _ _ _ hx (c2 _ _ hC up) fun y h₂ tk hP hk₂ => ?_))
        refine wpAny_bind (wpAny_letGo ?_)
        refine wpAny_pure ⟨_, rfl, ?_⟩
        refine wpAny_pure (hQ _ h₂ tk hP ⟨c1 _ _ (c2 _ _ hC up) fun b _ o e => hk₂ b o e, hk₂ _ _ (up _ _ nI oI), hk₂ _ _ (up _ _ nT oT), hit₁.at fun o e => hk₂ _ o e, (ol.at fun o e => up l o nl e).at fun o e => hk₂ _ o e⟩ fun b o hb e => hk₂ b o (up b o (fun q => hb (List.mem_singleton.mpr q)) e))
  done := fun s Q E st hQ => by
    obtain ⟨hC, oI, oT, oit, ol⟩ := st
    have hTy : s.TypeIs (.ref I) "map" := ⟨_, oI, rfl⟩
    unfold pyNext
    refine wpAny_bind (wpAny_attempt (wpAny_callSpecial?_slot (name := Str.ofString "__next__") hTy mp_slot_next (wpAny_call_entry mp_slot_next hTy mp_entry_next ?_ (mp_args_next _))))
    show wpAny _ _ (field (.ref I) 0 >>= _) _ _ s
    refine wpAny_bind (wpAny_field oI rfl (x := .ref T) rfl ?_)
    show wpAny _ _ (seqItems? (.ref T) >>= _) _ _ s
    refine wpAny_bind (wpAny_seqItems oT rfl ?_)
    dsimp only
    refine wpAny_bind (forIn_array_ _ (fun rest b s' => rest = [Value.ref it] ∧ s' = s) _ ?_ ?_ _ _ ⟨rfl, rfl⟩)
    · rintro x rest b s' ⟨e1, rfl⟩
      injection e1 with e1 e2
      subst e1 e2
      refine wpAny_bind (wpAny_holding (wpAny_nextOf_list_end hh oit ol (Array.getElem?_eq_none (Nat.le_refl _)) fun h' e he ho => ?_))
      obtain ⟨o, ho, hc⟩ := ho
      refine wpAny_bind (wpAny_isInstance (T := "StopIteration") (b := true) ⟨o, ho, hc⟩ isSubtype_stop ?_)
      exact wpAny_pure (hQ h' s'.toks fun b o hb e => he b o (fun q => hb (List.mem_singleton.mpr q)) e)
    · rintro b s' ⟨e1, _⟩
      cases e1
  self := fun i s Q E st hQ => by
    have hTy : s.TypeIs (.ref I) "map" := ⟨_, st.2.1, rfl⟩
    refine wpAny_pyIter_slot hTy mp_slot_iter (wpAny_call_entry mp_slot_iter hTy mp_entry_iter ?_ (mp_args_iter _))
    show wpAny _ _ (ret (.ref I)) _ _ s
    exact wpAny_pure ⟨_, rfl, "map", _, hTy, mp_slot_next.lookup, hQ⟩
end
end Mine

end
section
open PySem PySem.W PySem.Calls PySem.Spec PyProof.Rows PyProof.Rows.LCg
open PySem.AutoSeq1 (wpAny_loadPart')
namespace Mine
section
variable {prog : Program} {w : World} {A : Around} {E : Value → Shared → Prop} {s : Shared} {I : Addr} {fp : List Addr} {n : Nat} {P : Nat → Value → Prop} {St : Nat → Heap → Prop}

/-- what is collected of an iterator of type T that tells no length -/
theorem collect_walk {T : String} {Q : List Value → Shared → Prop} {it : Addr} (W : Walks prog w A.in1 I fp [it] n P St) (hT : ∀ (i : Nat) (s : Shared), St i s.heap → s.TypeIs (.ref I) T) (nolen : typeLookup (.type T) "__len__" = pure none)
    (nohint : typeLookup (.type T) "__length_hint__" = pure none) (hl : (Value.type T == Value.type "list") = false) (ht : (Value.type T == Value.type "tuple") = false)
    (hst : St 0 s.heap) (hfp : ∀ b ∈ fp, b < s.heap.objs.size) (hI : I ∈ fp) (hn : n ≤ sizeLine)
    (hQ : ∀ (h' : Heap) (tk : Nat) (acc : Array Value), (∀ b o, b ≠ it → s.heap.get? b = some o → h'.get? b = some o) → ItemsOf P acc n → Q acc.toList { s with heap := h', toks := tk }) : wpAny (model prog w) A (collect (.ref I)) Q E s := by
  have hSf : s.heap.objs.size ∉ fp := fun hm => Nat.lt_irrefl _ (hfp _ hm)
  have hSI : s.heap.objs.size ≠ I := fun e => hSf (e ▸ hI)
  unfold collect
  refine wpAny_bind (wpAny_runValue (codeAny_builtin F.entry_proto_collect ?_))
  rw [Around.under_plainId F.plain_proto_collect _]
  show wpAny _ A.in1 (newList [] >>= fun l => again (.builtin "list.__iadd__" ⟨[l, .ref I], []⟩)) _ _ s
  refine wpAny_bind (wpAny_newObj_type ?_)
  refine wpAny_pure ⟨plainId_quiet F.plain_list_iadd _, codeAny_builtin F.entry_list_iadd ?_⟩
  rw [Around.under_plainId F.plain_list_iadd _]
  have hst₁ : St 0 (s.heap.push { cls := .type "list", data := .seq ([] : List Value).toArray }) := W.frame _ _ _ hst fun b _ o e => Heap.get?_push_of_some _ e
  show wpAny _ A.in1 (Builtin.List.listExtendWith (.ref s.heap.objs.size) (.ref I) (.ref s.heap.objs.size)) _ _ _
  unfold Builtin.List.listExtendWith
  refine wpAny_bind (wpAny_typeOf (hT 0 _ hst₁) ?_)
  have h1 : Builtin.List.listSameRef (.ref s.heap.objs.size) (.ref I) = false := by simp [Builtin.List.listSameRef, hSI]
  simp only [h1, hl, ht, Bool.or_false, Bool.false_eq_true, if_false]
  refine wpAny_bind (W.self 0 _ _ _ hst₁ ?_)
  refine wpAny_bind (wpAny_holding ?_)
  unfold Builtin.List.listLengthHint
  refine wpAny_bind (wpAny_specialOf (hT 0 _ hst₁) nolen ?_)
  show wpAny _ A.in1 (specialOf (Value.ref I) (Str.ofString "__length_hint__") >>= _) _ _ _
  refine wpAny_bind (wpAny_specialOf (hT 0 _ hst₁) nohint ?_)
  refine wpAny_pure ?_
  show wpAny _ A.in1 (rule "list.extend.makes-room" >>= fun _ => Builtin.List.listTouch (.ref s.heap.objs.size) >>= fun _ =>
    again (.builtin "list.extend.loop" ⟨[.ref s.heap.objs.size, .ref I, .ref s.heap.objs.size], []⟩)) _ _ _
  refine wpAny_bind (wpAny_rule ?_)
  have hS₁ : (s.heap.push { cls := .type "list", data := .seq ([] : List Value).toArray }).get? s.heap.objs.size = some { cls := .type "list", data := .seq ([] : List Value).toArray } := Heap.get?_push_size _ rfl
  refine wpAny_bind ?_
  show wpAny _ A.in1 (updateSeq s.heap.objs.size (·.push .none) >>= fun _ => updateSeq s.heap.objs.size (·.pop)) _ _ _
  refine wpAny_bind (wpAny_updateSeq hS₁ rfl ?_)
  have hS₂ := Heap.get?_update_self (Obj.mapSeq (·.push Value.none)) hS₁ rfl
  refine wpAny_updateSeq hS₂ rfl ?_
  have hS₃ := Heap.get?_update_self (Obj.mapSeq (·.pop)) hS₂ rfl
  have oth : ∀ b o, b ≠ s.heap.objs.size → (s.heap.push { cls := .type "list", data := .seq ([] : List Value).toArray }).get? b = some o →
      (((s.heap.push { cls := .type "list", data := .seq ([] : List Value).toArray }).update s.heap.objs.size (Obj.mapSeq (·.push Value.none))).update s.heap.objs.size (Obj.mapSeq (·.pop))).get? b = some o :=
    fun b o hb e => (Heap.get?_update_other _ _ (Ne.symm hb)).trans ((Heap.get?_update_other _ _ (Ne.symm hb)).trans e)
  refine wpAny_pure ⟨plainId_quiet F.plain_extend_loop _, codeAny_extend_loopS W.toS hn _ hSf _ n 0 _ _ _ rfl (Nat.zero_le _)
    (W.frame _ _ _ hst₁ fun b hb o e => oth b o (fun h => hSf (h ▸ hb)) e) hS₃ (ItemsOf.nil P) fun s' acc' c' hm hS' hacc => ?_⟩
  show wpAny _ A (load s.heap.objs.size >>= _) _ _ s'
  refine wpAny_bind (wpAny_load hS' ?_)
  obtain ⟨h', ge, dr, tk, os⟩ := s'
  obtain ⟨m1, m2, m3, m4, _⟩ := hm
  have e2 : ge = s.gens := m2
  have e3 : dr = s.drawn := m3
  have e4 : os = s.os := m4
  subst e2 e3 e4
  refine wpAny_pure (hQ h' tk acc' (fun b o hb e => ?_) hacc)
  have hbS : b ≠ s.heap.objs.size := Nat.ne_of_lt (Heap.lt_size e)
  refine m1 b o (fun q => ?_) (oth b o hbS (Heap.get?_push_of_some _ e))
  rcases List.mem_cons.mp q with q | q
  · exact hbS q
  · exact hb (List.mem_singleton.mp q)

theorem code_tuple_new {T : String} {Q₁ : Value → Shared → Prop} {it : Addr} (W : Walks prog w A.in1.in1 I fp [it] n P St) (hT : ∀ (i : Nat) (s : Shared), St i s.heap → s.TypeIs (.ref I) T) (nolen : typeLookup (.type T) "__len__" = pure none)
    (nohint : typeLookup (.type T) "__length_hint__" = pure none) (hl : (Value.type T == Value.type "list") = false) (ht : (Value.type T == Value.type "tuple") = false)
    (hst : St 0 s.heap) (hfp : ∀ b ∈ fp, b < s.heap.objs.size) (hI : I ∈ fp) (hn : n ≤ sizeLine)
    (h : ∀ (h' : Heap) (tk : Nat) (acc : Array Value), (∀ b o, b ≠ it → s.heap.get? b = some o → h'.get? b = some o) → ItemsOf P acc n → Q₁ (.ref h'.objs.size) { s with heap := h'.push { cls := .type "tuple", data := .seq acc }, toks := tk }) :
    codeAny (model prog w) A (.call (.builtin "tuple.__new__") ⟨[.type "tuple", .ref I], []⟩) (wants Q₁ E) s := by
  refine codeAny_of_tree ?_
  show wpAny _ A.in1 (do checkBuiltinCall "tuple.__new__" ⟨[.type "tuple", .ref I], []⟩; again (.builtin "tuple.__new__" ⟨[.type "tuple", .ref I], []⟩)) _ _ s
  refine wpAny_bind (wpAny_of_eq (F.newCall_tuple_1 _) (wpAny_pure ⟨plainId_quiet F.plain_tuple_new _, codeAny_builtin F.entry_tuple_new ?_⟩))
  rw [Around.under_plainId F.plain_tuple_new _]
  have hsub := sub_tuple_self
  have hinit := init_tuple_lookup
  have hmh := madeHere_tuple
  have hTI := hT 0 s hst
  wp_walk using wpAny_typeOf hTI, collect_walk W hT nolen nohint hl ht hst hfp hI hn
  intro h' tk acc hm hacc
  show wpAny _ _ (Builtin.Tuple.tupleExact acc.toList.toArray >>= fun v => ret v) _ _ _
  unfold Builtin.Tuple.tupleExact
  refine wpAny_bind (wpAny_newObj_type ?_ (by show acc.toList.toArray.size ≤ sizeLine; simp only [Array.toArray_toList]; rw [hacc.1]; exact hn))
  refine wpAny_pure ?_
  have e : acc.toList.toArray = acc := by simp
  rw [e]
  exact h h' tk acc hm hacc

theorem call_tuple_walk {T : String} {Q : Value → Shared → Prop} {it : Addr} (W : Walks prog w A.in1.in1.in1 I fp [it] n P St) (hT : ∀ (i : Nat) (s : Shared), St i s.heap → s.TypeIs (.ref I) T) (nolen : typeLookup (.type T) "__len__" = pure none)
    (nohint : typeLookup (.type T) "__length_hint__" = pure none) (hl : (Value.type T == Value.type "list") = false) (ht : (Value.type T == Value.type "tuple") = false)
    (hst : St 0 s.heap) (hfp : ∀ b ∈ fp, b < s.heap.objs.size) (hI : I ∈ fp) (hn : n ≤ sizeLine)
    (h : ∀ (h' : Heap) (tk : Nat) (acc : Array Value), (∀ b o, b ≠ it → s.heap.get? b = some o → h'.get? b = some o) → ItemsOf P acc n → Q (.ref h'.objs.size) { s with heap := h'.push { cls := .type "tuple", data := .seq acc }, toks := tk }) :
    wpAny (model prog w) A (call (.type "tuple") [.ref I]) Q E s := by
  refine callType_codes (Q₁ := fun obj s₁ => s₁.TypeIs obj "tuple" ∧ Q obj s₁) F.called_tuple (F.typeCall_tuple_1 _) F.entry_object_init
    (code_tuple_new W hT nolen nohint hl ht hst hfp hI hn fun h' tk acc hm hacc => ⟨⟨_, Heap.get?_push_size _ rfl, rfl⟩, h h' tk acc hm hacc⟩) fun obj s₁ h₁ => ?_
  exact ⟨h₁.1, F.args_object_init_2 obj _, object_init_meets F.called_tuple.init.lookup F.called_tuple.made (by decide) prog w A.in1 _ s₁ ⟨h₁.1, rfl, h₁.2⟩⟩
end
end Mine

end
section
open PySem PySem.W PySem.Calls PySem.Spec PyProof.Rows PyProof.Rows.LCg
open PySem.AutoSeq1 (wpAny_loadPart')
namespace Mine
section
variable {prog : Program} {w : World} {A : Around} {E : Value → Shared → Prop} {s : Shared}
theorem isub_kind : builtinKind "issubclass.nested" = none := by decide +kernel
theorem isub_plain : plainId "issubclass.nested" = true := by decide +kernel
theorem isub_args (a b c : Value) : argsOk "issubclass.nested" ⟨[a, b, c], []⟩ := by unfold argsOk; kernel_rfl
theorem isub_str : isSubtype (.type "str") (.type "str") = pure true := by rw [isSubtype_type]; kernel_rfl
theorem isub_tuple : isSubtype (.type "tuple") (.type "tuple") = pure true := by rw [isSubtype_type]; kernel_rfl
theorem isub_nested_str (tk : Tok) (dep : Int) : Meets (Builtin.«issubclass.nested» ⟨[.type "str", .type "str", .int dep tk], []⟩) (fun _ R s => R (.ok (.ret (.bool true))) s) :=
  .of_wp fun prog w A R s h => by
    obtain ⟨hp, g, d, t, os⟩ := s
    have f1 := isub_str
    have f2 := F.isi_meta_str
    wp_walk
    exact ⟨_, rfl, h⟩
theorem isub_nested_pair {tp : Addr} {v : Value} {cs : List Value} {tk : Tok} {Q : Fin → Shared → Prop} (hl : s.heap.get? tp = some { cls := .type "tuple", data := .seq cs.toArray }) (hcs : cs = [Value.type "str", v])
    (hq : Q (.done (.ret (.bool true))) s) : wpAny (model prog w) A (Builtin.«issubclass.nested» ⟨[.type "str", .ref tp, .int 0 tk], []⟩) Q E s := by
  obtain ⟨hp, g, d, t, os⟩ := s
  have hT2 : (⟨hp, g, d, t, os⟩ : Shared).TypeIs (.ref tp) "tuple" := ⟨_, hl, rfl⟩
  have f1 := isub_tuple
  repeat (any_goals (first | assumption | wp_step))
  refine wpAny_arrayLoop ?_
  simp only [Option.getD_some, List.toList_toArray, hcs]
  rw [List.forIn_cons]
  refine wpAny_bind (wpAny_bind (call_function_meets isub_kind isub_plain F.entry_issubclass_nested (isub_args _ _ _) (isub_nested_str _ _) ?_))
  show wpAny _ _ (truthy (.bool true) >>= _) _ _ _
  refine wpAny_bind (wpAny_truthy_bool ?_)
  refine wpAny_bind (wpAny_pure (wpAny_pure (wpAny_pure ?_)))
  exact wpAny_pure hq
theorem isub_pair {tp : Addr} {v : Value} {Q : Value → Shared → Prop} (hl : s.heap.get? tp = some { cls := .type "tuple", data := .seq [Value.type "str", v].toArray })
    (hq : Q (.bool true) s) : wpAny (model prog w) A (call (.builtin "issubclass") [.type "str", .ref tp]) Q E s :=
  call_issubclass (S := fun _ R s => s.heap.get? tp = some { cls := .type "tuple", data := .seq [Value.type "str", v].toArray } ∧ R (.ok (.ret (.bool true))) s)
    (fun _ _ _ _ _ h => issubclass_outer (isub_nested_pair h.1 rfl h.2)) ⟨hl, hq⟩
end
end Mine

end
section
open PySem PySem.W PySem.Calls PySem.Spec PyProof.Rows PyProof.Rows.LCg
namespace Mine
theorem kfill_fspath : (PySem.Challenge.rw_dh5002_01 = PySem.Challenge.rw_dh5002_01 ∧ hd.heap_39 = hd.heap_39) → True := by (k_fill; intro _; trivial)

local macro_rules | `(tactic| walk_at "call builtin:issubclass") => `(tactic| (k_here; k_dflt (refine' isub_pair ?hl ?_; (case hl => exact News.get (by k_asm) (by k_mem)); k_whole)))
set_option maxHeartbeats 8000000 in
theorem fspath_calls (w : World) (x : Str) (t : Tok) :
   CallsTo w 94 1 [.str x t] (fun _ => True) (fun _ _ r => r = .str x t) := by
  unfold CallsTo
  intro mean mg mb dp un gd env outer A₀ base h₀ L m s Q E B F X T hf hkf hrm hu hpre hret
  refine wpAny_call ?_
  k_dflt (refine' enterB ?k1 ?k2 ?k3 ?k5 ?kA ?kF ?kK ?k6 ?k7 ?k8 ?k9 ?kB ?_ ?c2 ?c3 ?c4 ?c5; (case kA => exact rfl); (case kF => first | assumption | exact rfl); (case kK => first | assumption | exact rfl); (case k1 => k_asm); (case k2 => k_asm); (case k3 => k_asm); (case k5 => k_asm); (case k6 => k_is); (case k7 => k_is); (case k8 => (show _ < _; (try simp only [depth_under_make, depth_under_kw, depth_in1, depth_deeper]); (try dsimp only [Ar] at *); (simp only [recursionLimit] at *); omega)); (case k9 => exact BindsTo.of_eq rfl); (case c5 => decide); (case kB => exact locs rfl); (case c2 => exact rfl); (case c3 => exact rfl); (case c4 => exact rfl); k_whole; intro g' L' h' hg' FG' F' N' B' X' T'; (try dsimp only))

  k_steps
  (rename Fr _ _ _ _ => Fz)
  exact hret _ _ _ (hg' ▸ Fz.keep) rfl
end Mine

end
section
open PySem PySem.W PySem.Calls PySem.Spec PyProof.Rows PyProof.Rows.LCg
namespace Mine
section
variable {prog : Program} {w : World} {A : Around} {E : Value → Shared → Prop} {s : Shared} {g : Heap} {L : Addr} {m : Str → Option Value} {news : List (Addr × Obj)}
/-- what a map object over the list l has made -/
def MapMade (h : Heap) (l I : Addr) (f : Value) : Prop := ∃ T it, T ≠ it ∧ I ≠ it ∧ l ≠ it ∧ T < h.objs.size ∧ it < h.objs.size ∧ h.get? I = some (mapObj T f) ∧ h.get? T = some (oneObj it) ∧ h.IsListIter it l 0
theorem call_map_N {f : Value} {l : Addr} {items : Array Value} {Q : Value → Shared → Prop} (F : Fr g L s.heap m) (N : News g L s.heap news) (hl : g.PlainList l items)
    (h : ∀ h' I, Fr g L h' m → News g L h' news → MapMade h' l I f → g.get? I = none → (∀ T it, h'.get? I = some (mapObj T f) → h'.get? T = some (oneObj it) → g.get? it = none ∧ L ≠ it) → Q (.ref I) { s with heap := h' }) :
    wpAny (model prog w) A (call (.type "map") [f, .ref l]) Q E s := by
  obtain ⟨n, hl⟩ := hl
  have hls := F.keep _ _ hl
  have hlt : l < s.heap.objs.size := Heap.lt_size hls
  refine call_map ⟨n, hls⟩ fun h' hit hT hI hsz hk => ?_
  have new : ∀ k, g.get? (s.heap.objs.size + k) = none := fun k => Heap.get?_none_of_le (Nat.le_trans F.above (Nat.le_trans (Nat.le_of_lt F.ns.lt) (Nat.le_add_right _ _)))
  refine h h' _ (F.keeps hk) (N.grown hk) ⟨s.heap.objs.size + 1, s.heap.objs.size, Nat.succ_ne_self _, Nat.ne_of_gt (Nat.lt_succ_of_lt (Nat.lt_succ_self _)), Nat.ne_of_lt hlt, by rw [hsz]; exact Nat.lt_succ_of_lt (Nat.lt_succ_self _), by rw [hsz]; exact Nat.lt_succ_of_lt (Nat.lt_succ_of_lt (Nat.lt_succ_self _)), hI, hT, hit⟩ (new 2) fun T it e1 e2 => ?_
  rw [hI] at e1
  injection e1 with e1
  have e3 : s.heap.objs.size + 1 = T := by injection e1 with _ _ e _; injection e with e; simpa using e
  subst e3
  rw [hT] at e2
  injection e2 with e2
  have e4 : s.heap.objs.size = it := by injection e2 with _ _ e _; injection e with e; simpa using e
  subst e4
  exact ⟨new 0, Nat.ne_of_lt F.ns.lt⟩

theorem itemsOf_eq {vs : List Value} {acc : Array Value} (h : ItemsOf (fun i y => vs[i]? = some y) acc vs.length) : acc = vs.toArray := by
  apply Array.ext
  · rw [h.1, List.size_toArray]
  · intro i h1 h2
    have : vs[i]? = some acc[i] := h.2 i acc[i] (by simp [h1])
    simp at h2
    have e : vs[i]? = some vs[i] := by simp [h2]
    rw [e] at this
    simpa using (Option.some.inj this).symm

theorem call_tuple_map {f : Value} {l I : Addr} {vs : List Value} {Q : Value → Shared → Prop} (hh : A.handled = none) (F : Fr g L s.heap m) (N : News g L s.heap news) (hl : g.PlainList l vs.toArray) (M : MapMade s.heap l I f)
    (hnew : ∀ T it, s.heap.get? I = some (mapObj T f) → s.heap.get? T = some (oneObj it) → g.get? it = none ∧ L ≠ it) (hsz : vs.length ≤ sizeLine)
    (hcall : ∀ x ∈ vs, ∀ (s : Shared) (Q E : Value → Shared → Prop), Fr g L s.heap m → (∀ h' tk, Kept s.heap h' → Q x { s with heap := h', toks := tk }) → wpAny (model prog w) A.in1.in1.in1.in1 (call f [x]) Q E s)
    (h : ∀ h' D tk, Fr g L h' m → News g L h' [(D, { cls := .type "tuple", data := .seq vs.toArray })] → Q (.ref D) { s with heap := h', toks := tk }) :
    wpAny (model prog w) A (call (.type "tuple") [.ref I]) Q E s := by
  obtain ⟨T, it, nT, nI, nl, hT, hit, oI, oT, oit⟩ := M
  obtain ⟨git, hLit⟩ := hnew T it oI oT
  obtain ⟨n, hl⟩ := hl
  have hlt : l < s.heap.objs.size := Heap.lt_size (F.keep _ _ hl)
  have hIlt : I < s.heap.objs.size := Heap.lt_size oI
  have hLlt : L < s.heap.objs.size := F.ns.lt
  have inR : ∀ {b : Addr}, b < s.heap.objs.size → b ∈ List.range s.heap.objs.size := fun hb => List.mem_range.mpr hb
  have gl : ∀ {b : Addr} {o : Obj}, g.get? b = some o → b < s.heap.objs.size := fun e => Nat.lt_trans (Nat.lt_of_lt_of_le (Heap.lt_size e) F.above) hLlt
  have W := map_walks (prog := prog) (w := w) (A := A.in1.in1.in1) (C := fun h => Fr g L h m) (f := f) (items := vs.toArray) (fp := List.range s.heap.objs.size) (P := fun i y => vs[i]? = some y) hh (inR hIlt) (inR hT) (inR hit) (inR hlt) nI nT nl
    (fun h h' F₁ hk => ⟨F₁.ns.at' fun o e => hk L (inR hLlt) o e, fun b o e => hk b (inR (gl e)) o (F₁.keep b o e), F.above⟩)
    (fun h h' F₁ hk => ⟨F₁.ns.at' fun o e => hk L o hLit e, fun b o e => hk b o (fun q => by rw [q, git] at e; cases e) (F₁.keep b o e), F.above⟩)
    (fun i x s' Q' E' hx F₁ hQ => hcall x (List.mem_of_getElem? (by simpa using hx)) s' Q' E' F₁ fun h' tk hk => hQ x h' tk (by simpa using hx) hk)
  rw [List.size_toArray] at W
  refine call_tuple_walk (T := "map") W (fun i s' st => ⟨_, st.2.1, rfl⟩) mp_no_len mp_no_hint (by decide) (by decide) ⟨F, oI, oT, oit, ⟨_, F.keep _ _ hl, rfl, _, rfl⟩⟩ (fun b hb => List.mem_range.mp hb) (inR hIlt) hsz fun h' tk acc hk hacc => ?_
  rw [itemsOf_eq hacc]
  have F' : Fr g L h' m := ⟨F.ns.at' fun o e => hk L o hLit e, fun b o e => hk b o (fun q => by rw [q, git] at e; cases e) (F.keep b o e), F.above⟩
  refine h _ _ tk (F'.push _) fun p hp => ?_
  rw [List.mem_singleton.mp hp]
  exact ⟨Heap.get?_push_size _ rfl, Nat.ne_of_gt F'.ns.lt, next_is_new F'⟩
end
end Mine

end
section
open PySem PySem.W PySem.Calls PySem.Spec PyProof.Rows PyProof.Rows.LCg
namespace Mine
theorem kfill_common0 : (PySem.Challenge.rw_dh5002_01 = PySem.Challenge.rw_dh5002_01 ∧ hd.heap_39 = hd.heap_39) → True := by (k_fill; intro _; trivial)

theorem FrontsAt.zo0 {kind : Int} {h : Heap} {w : Nat} {vs : List Value} {bss : List (List Int)} (x : FrontsAt kind h w vs bss) : ∀ bs ∈ bss, bs.length = w ∧ ∀ b ∈ bs, b = 0 ∨ b = 1 := x.2.1
theorem front_in0 {kind : Int} {h : Heap} {v : Value} {bs : List Int} {vs : List Value} (_ : FrontAt kind h v bs) (h : v ∈ vs) : v ∈ vs := h
theorem front_name0 {kind : Int} {h : Heap} {v : Value} {bs : List Int} (_ : FrontAt kind h v bs) : ∃ x, x = v := ⟨v, rfl⟩
local macro_rules | `(tactic| walk_at "truthy ref") => `(tactic| (k_here; k_dflt (refine' truthy_cons ?hl ?hf ?_; (case hl => exact stays_list (Fr.keep (by k_asm)) (by assumption)); (case hf => assumption); k_whole; intro tk')))
local macro_rules | `(tactic| walk_at "call builtin:isinstance") => `(tactic| (k_here; k_dflt (refine' FrontAt.isi ?hx ?ht ?_; (case hx => exact FrontAt.keeps (by assumption) (Fr.keep (by k_asm))); (case ht => exact News.get (by k_asm) (by k_mem)); k_whole; intro tk')))
local macro_rules | `(tactic| walk_at "call builtin:min") => `(tactic| (k_here; k_dflt (refine' fronts_minN (by rfl) ?hu ?F ?N ?x ?hn ?hl ?_; (case F => k_asm); (case N => k_asm); (case x => assumption); (case hu => assumption); (case hn => exact Nat.succ_pos _); (case hl => exact Or.inr ⟨_, News.get (by k_asm) (by k_mem), rfl, _, rfl⟩); k_whole; intro v1' h' tk' hv1' hm1' hin1' F' N')))
local macro_rules | `(tactic| walk_at "call builtin:max") => `(tactic| (k_here; k_dflt (refine' fronts_maxN (by rfl) ?hu ?F ?N ?x ?hn ?hl ?_; (case F => k_asm); (case N => k_asm); (case x => assumption); (case hu => assumption); (case hn => exact Nat.succ_pos _); (case hl => exact Or.inr ⟨_, News.get (by k_asm) (by k_mem), rfl, _, rfl⟩); k_whole; intro v2' h' tk' hv2' hm2' hin2' F' N')))
theorem strs_of {kind : Int} {h : Heap} {w : Nat} {vs : List Value} {bss : List (List Int)} (x : FrontsAt kind h w vs bss) (hk : kind = 0) : ∀ v ∈ vs, ∃ y t, v = .str y t := fun v hv => by
  obtain ⟨i, hi⟩ := List.getElem?_of_mem hv
  obtain ⟨bs, _, hf⟩ := x.2.2 i v hi
  rcases hf with ⟨_, t, e⟩ | ⟨e, _⟩ | ⟨e, _⟩
  · exact ⟨_, t, e⟩
  · omega
  · omega
local macro_rules | `(tactic| walk_at "call type:map") => `(tactic| (k_here; k_dflt (refine' call_map_N ?F ?N ?hl ?_; (case F => k_asm); (case N => k_asm); (case hl => assumption); k_whole; intro h' I' F' N' M' g0' hn')))
local macro_rules | `(tactic| walk_at "call type:tuple") => `(tactic| (k_here; k_dflt (refine' call_tuple_map (by rfl) ?F ?N ?hl ?M ?hn ?hs ?hc ?_; (case F => k_asm); (case N => k_asm); (case hl => assumption); (case M => assumption); (case hn => assumption); (case hs => (rw [sizeLine_eq]; (simp only [List.length_cons]); omega)); (case hc => (intro x hx s' Q' E' F' hQ'; obtain ⟨y, t, e⟩ := strs_of (by assumption) (by assumption) x hx; subst e; exact (fspath_calls _ y t).use (by assumption) F' (by assumption) (by assumption) rfl rfl (by assumption) (by assumption) trivial fun r h' tk' hk' _ e => e ▸ hQ' h' tk' hk')); k_whole; intro h' D' tk' F' N')))
local macro_rules | `(tactic| walk_at "call type:enumerate") => `(tactic| (k_here; k_dflt (refine' call_enum_front (by rfl) ?x ?h01 ?F ?N ?_; (case F => k_asm); (case N => k_asm); (case x => assumption); (case h01 => exact fun b hb => ((FrontsAt.zo0 (by assumption)) _ (by assumption)).2 b hb); k_whole; intro h' e' F' N' S')))
local macro_rules | `(tactic| walk_at "subscriptTail") => `(tactic| (k_here; k_dflt (refine' FrontAt.item ?hx ?hl ?hi ?_; (case hx => exact FrontAt.keeps (by assumption) (Fr.keep (by k_asm))); (case hi => assumption); (case hl => assumption); k_whole; intro y' tk' hy')))
local macro_rules | `(tactic| walk_at "subscriptTail") => `(tactic| (k_here; k_dflt (refine' FrontAt.cut ?hx ?hl ?hi ?F ?_; (case hx => assumption); (case F => k_asm); (case hi => assumption); (case hl => assumption); k_whole; intro r' h' tk' F' hr' fr')))
local macro_rules | `(tactic| walk_at "compareOp NotEq") => `(tactic| (k_here; k_dflt (refine' signs_ne ?hx ?hy ?ha ?hb ?_; (case hx => assumption); (case hy => assumption); (case ha => assumption); (case hb => assumption); k_whole)))
local macro_rules | `(tactic| walk_at "pyIter ref") => `(tactic| refine stop ?_)
set_option maxHeartbeats 8000000 in
theorem common_str (w : World) (kind : Int) (wd : Nat) (l : Addr) (v0 : Value) (vs : List Value) (bss : List (List Int)) (hk : kind = 0) (hw : wd ≤ 7) (hlen : vs.length ≤ 7) :
   CallsTo w 101 5 [.ref l] (fun h => h.PlainList l (v0 :: vs).toArray ∧ FrontsAt kind h wd (v0 :: vs) bss)
     (fun h h' r => FrontAt kind h' r (lcp (lexMin bss) (lexMax bss)) ∧ (Fresh h r ∨ r ∈ v0 :: vs)) := by
  unfold CallsTo
  intro mean mg mb dp un gd env outer A₀ base h₀ L m s Q E B F X T hf hkf hrm hu hpre hret
  refine wpAny_call ?_
  k_dflt (refine' enterB ?k1 ?k2 ?k3 ?k5 ?kA ?kF ?kK ?k6 ?k7 ?k8 ?k9 ?kB ?_ ?c2 ?c3 ?c4 ?c5; (case kA => exact rfl); (case kF => first | assumption | exact rfl); (case kK => first | assumption | exact rfl); (case k1 => k_asm); (case k2 => k_asm); (case k3 => k_asm); (case k5 => k_asm); (case k6 => k_is); (case k7 => k_is); (case k8 => (show _ < _; (try simp only [depth_under_make, depth_under_kw, depth_in1, depth_deeper]); (try dsimp only [Ar] at *); (simp only [recursionLimit] at *); omega)); (case k9 => exact BindsTo.of_eq rfl); (case c5 => decide); (case kB => exact locs rfl); (case c2 => exact rfl); (case c3 => exact rfl); (case c4 => exact rfl); k_whole; intro g' L' h' hg' FG' F' N' B' X' T'; (try dsimp only))

  rw [← hg'] at hpre
  obtain ⟨hl, hx⟩ := hpre
  obtain ⟨bs0, hbs0, hv0⟩ := hx.2.2 0 v0 rfl
  have hl' := hl.isList
  have hu1 : ((Ar dp un gd env outer).deeper env).units + 1 < cLine := by show un + 3 + 1 < cLine; omega
  have hr1 : dp + 1 + 1 < recursionLimit := by omega
  have hu2 : un + 3 + 1 + 1 + 1 + 1 + 8 * 1 < cLine := by omega
  k_steps
  (rename FrontAt _ _ _ (lexMin _) => hv1); (rename FrontAt _ _ _ (lexMax _) => hv2); (rename lexMin _ ∈ _ => hm1); (rename lexMax _ ∈ _ => hm2); (rename PairSrcL _ _ _ _ _ _ _ _ _ _ _ _ => hS)
  have hin1 := front_in0 hv1 (by assumption)
  obtain ⟨lp, zp⟩ := hx.2.1 _ hm1
  obtain ⟨lq, zq⟩ := hx.2.1 _ hm2
  generalize hpe : lexMin bss = p at *
  generalize hqe : lexMax bss = q at *
  obtain ⟨v1, e1⟩ := front_name0 hv1; subst e1
  obtain ⟨v2, e2⟩ := front_name0 hv2; subst e2
  refine go (PairSrcL.at hS _ rfl _ _ _ _ (fun i m _ => m (Str.ofString "s1") = some v1 ∧ m (Str.ofString "s2") = some v2 ∧ p.take i = q.take i) ⟨rfl, rfl, rfl⟩ ?_ ?_)
  · rintro i b t val m₁ news₁ s₁ own ⟨hh, tk, rfl⟩ hbi ⟨hb01, hval⟩ ⟨hs1, hs2, hpq⟩ had hown F₁ N₁
    dsimp only at F₁ N₁ ⊢
    rw [map_know hs1, map_know hs2] at F₁
    have hlt : i < p.length := (List.getElem?_eq_some_iff.mp hbi).1
    obtain ⟨c, hc⟩ : ∃ c, q[i]? = some c := ⟨q[i]'(by omega), List.getElem?_eq_getElem _⟩
    have hc01 := zq c (List.mem_of_getElem? hc)
    have hp7 : p.length ≤ 7 := by omega
    have hq7 : q.length ≤ 7 := by omega
    have hnext : b = c → p.take (i + 1) = q.take (i + 1) := fun e => by
      rw [List.take_add_one, List.take_add_one, hpq, hbi, hc, e]
    have hstop : b ≠ c → lcp p q = p.take i := lcp_at i p q b c hpq hbi hc
    k_steps
    · (rename Fr _ _ _ _ => Fz)
      rename_i r hr hfr
      refine hret _ _ _ (hg' ▸ Fz.keep) ⟨?_, .inl (hg' ▸ hfr)⟩
      rw [hstop (by assumption)]
      exact hr
    · exact hnext (by assumption)
  · rintro hh tk m₁ news₁ F₁ N₁ had ⟨hs1, hs2, hpq⟩
    rw [map_know hs1, map_know hs2] at F₁
    dsimp only
    have epq : p = q := by rw [List.take_length, lp, ← lq, List.take_length] at hpq; exact hpq
    subst epq
    k_steps
    refine hret _ _ _ (hg' ▸ F₁.keep) ⟨?_, .inr hin1⟩
    rw [lcp_self]
    exact hv1.keeps F₁.keep
end Mine

end
section
open PySem PySem.W PySem.Calls PySem.Spec PyProof.Rows PyProof.Rows.LCg
namespace Mine

section
variable {prog : Program} {w : World} {A : Around} {E : Value → Shared → Prop} {s : Shared} {env : Env} {g : Heap} {x : Str} {body : List Stmt} {Q : Flow → Shared → Prop} {m : Str → Option Value} {news : List (Addr × Obj)}
theorem iter_range {r : Addr} {a b : Int} {t u v : Tok} (n : Nat) (J : Nat → (Str → Option Value) → List (Addr × Obj) → Prop) (hh : A.handled = none) (hr : IsRange s.heap r a b 1 t u v)
    (hsm : Builtin.Range.small a b 1 = true) (hn : (b - a).toNat = n)
    (F : Fr g env.locals s.heap m) (N : News g env.locals s.heap news) (h0 : J 0 m news)
    (turn : ∀ i y ty m₁ news₁ h tk oI, i < n → y = a + (i : Int) → J i m₁ news₁ → (∀ p ∈ news₁, p.1 ≠ s.heap.objs.size) → Fr g env.locals h (fun z => if z = x then some (.int y ty) else m₁ z) → News g env.locals h ((s.heap.objs.size, oI) :: news₁) →
      wpAny (model prog w) A (execs body env) (TurnPost g env.locals s.heap.objs.size oI (J (i + 1)) { s with heap := h, toks := tk } Q) E { s with heap := h, toks := tk })
    (done : ∀ m₁ news₁ h tk, J n m₁ news₁ → Fr g env.locals h m₁ → News g env.locals h news₁ → Q .next { s with heap := h, toks := tk }) :
    wpAny (model prog w) A (pyIter (.ref r)) (fun it s₂ => LoopAtV prog w A g env x body Q E it s₂) E s := by
  refine wpAny_pyIter_range hr hsm ?_
  refine iter_walk J (Walks.range hh s.heap.objs.size a 1 n) rfl (fun b hb => .inl (List.mem_singleton.mp hb)) ?_ (fun _ _ st => ⟨_, st⟩) F N h0 (fun i val m₁ news₁ h tk oI hi hP => ?_) done
  · rw [rangeSize_nat, hn]
    have e1 : a + ((0 : Nat) : Int) * 1 = a := by simp
    have e2 : (n : Int) - ((0 : Nat) : Int) = (n : Int) := by simp
    rw [e1, e2]
    exact Heap.get?_push_size _ rfl
  · obtain ⟨ty, rfl⟩ := hP
    exact turn i _ ty m₁ news₁ h tk oI hi (by omega)
end
theorem off_name {D I : Addr} (_ : D ≠ I) : ∃ J, J = I := ⟨I, rfl⟩
theorem off_two {I D I2 : Addr} {oI oD : Obj} (a : I ≠ I2) (b : D ≠ I2) : ∀ p ∈ [(I, oI), (D, oD)], p.1 ≠ I2 := by
  intro p hp
  rcases List.mem_cons.mp hp with rfl | hp
  · exact a
  · rw [List.mem_singleton.mp hp]; exact b
/-- one size tried at an end -/
def stepF (lo e : Int) (arr : List Int) (j : Nat) : List Int :=
  if lo ≤ e - 2 ^ j ∧ (e - 2 ^ j) % 2 ^ j = 0 then arr.set (e - lo).toNat (min (arr.getD (e - lo).toNat 0) (arr.getD (e - 2 ^ j - lo).toNat 0 + 1)) else arr
def rowF (lo e : Int) (n : Nat) (arr : List Int) : List Int := (List.range n).foldl (stepF lo e) arr
def tabF (lo : Int) (w : Nat) (n : Nat) (arr : List Int) : List Int := (List.range n).foldl (fun a i => rowF lo (lo + 1 + (i : Nat)) (w + 1) a) arr
def tab0 (w n : Nat) : List Int := [0] ++ (List.replicate n [(2 : Int) ^ w + 1]).flatten
def fewest (lo hi : Int) (w : Nat) : Int := (tabF lo w (hi - lo + 1).toNat (tab0 w (hi - lo + 1).toNat)).getD (hi - lo + 1).toNat 0
theorem rowF_succ (lo e : Int) (n : Nat) (arr : List Int) : rowF lo e (n + 1) arr = stepF lo e (rowF lo e n arr) n := by
  unfold rowF; rw [List.range_succ, List.foldl_append]; rfl
theorem tabF_succ (lo : Int) (w n : Nat) (arr : List Int) : tabF lo w (n + 1) arr = rowF lo (lo + 1 + (n : Nat)) (w + 1) (tabF lo w n arr) := by
  unfold tabF; rw [List.range_succ, List.foldl_append]; rfl
theorem stepF_len (lo e : Int) (j : Nat) (arr : List Int) : (stepF lo e arr j).length = arr.length := by unfold stepF; split <;> simp
theorem rowF_len (lo e : Int) (n : Nat) (arr : List Int) : (rowF lo e n arr).length = arr.length := by
  induction n with
  | zero => rfl
  | succ n ih => rw [rowF_succ, stepF_len, ih]
theorem tabF_len (lo : Int) (w n : Nat) (arr : List Int) : (tabF lo w n arr).length = arr.length := by
  induction n with
  | zero => rfl
  | succ n ih => rw [tabF_succ, rowF_len, ih]
theorem tab0_len (w n : Nat) : (tab0 w n).length = n + 1 := by simp [tab0]
theorem fw_name {g h : Heap} {L D : Addr} {ws : List Value} {ns : List Int} {c : Nat} {nx : List (Addr × Obj)} (_ : News g L h ((D, W.listOf ws.toArray c) :: nx)) (_ : IntsAre ws ns) : ∃ x y, x = D ∧ y = ws := ⟨D, ws, rfl, rfl⟩
theorem stepF_yes {lo y : Int} {i j : Nat} {vs : List Value} {ar : List Int} (hy : y = lo + 1 + (i : Int)) (c1 : lo ≤ y - 2 ^ ((j : Int)).toNat) (c2 : (y - 2 ^ ((j : Int)).toNat).fmod (2 ^ ((j : Int)).toNat) = 0)
    (h : IntsAre vs (ar.set (y - lo).toNat (if ar.getD (y - 2 ^ ((j : Int)).toNat - lo).toNat 0 + 1 < ar.getD (y - lo).toNat 0 then ar.getD (y - 2 ^ ((j : Int)).toNat - lo).toNat 0 + 1 else ar.getD (y - lo).toNat 0))) :
    IntsAre vs (stepF lo (lo + 1 + (i : Int)) ar j) := by
  rw [Int.toNat_natCast] at c1 c2 h
  have hp := PySem.W.kbt_pos j
  rw [Int.fmod_eq_emod_of_nonneg _ (Int.le_of_lt hp)] at c2
  rw [← hy]
  unfold stepF
  rw [if_pos ⟨c1, c2⟩]
  have e : ∀ a b : Int, (if b < a then b else a) = min a b := by intro a b; split <;> omega
  rwa [e] at h
theorem stepF_no {lo y : Int} {i j : Nat} {vs : List Value} {ar : List Int} (hy : y = lo + 1 + (i : Int)) (c : ¬ lo ≤ y - 2 ^ ((j : Int)).toNat ∨ (y - 2 ^ ((j : Int)).toNat).fmod (2 ^ ((j : Int)).toNat) ≠ 0)
    (h : IntsAre vs ar) : IntsAre vs (stepF lo (lo + 1 + (i : Int)) ar j) := by
  rw [Int.toNat_natCast] at c
  have hp := PySem.W.kbt_pos j
  rw [Int.fmod_eq_emod_of_nonneg _ (Int.le_of_lt hp)] at c
  rw [← hy]
  unfold stepF
  rw [if_neg (by rintro ⟨a, b⟩; rcases c with c | c; exact c a; exact c b)]
  exact h
theorem kfill_fewest : (PySem.Challenge.rw_dh5002_01 = PySem.Challenge.rw_dh5002_01 ∧ hd.heap_39 = hd.heap_39) → True := by (k_fill; intro _; trivial)

local macro_rules | `(tactic| walk_at "pyIter ref") => `(tactic| refine stop ?_)
local macro_rules | `(tactic| walk_at "setItem ref int") => `(tactic| refine stop ?_)
local macro_rules | `(tactic| walk_at "exec For Name Call cons nil") => `(tactic| (k_here; (rename Fr _ _ _ _ => lF'); (with_unfolding_all refine' For_invVF lF' ?k1 ?k2 ?_; (case k1 => exact rfl); (case k2 => exact rfl); k_whole)))
set_option maxHeartbeats 8000000 in
theorem fewest_calls (w : World) (lo hi : Int) (wi : Nat) (t1 t2 t3 : Tok) (h1 : 0 ≤ lo) (h2 : lo ≤ hi) (h3 : hi < 128) (hw : 2 ≤ wi) (hw2 : wi ≤ 7) :
   CallsTo w 127 3 [.int lo t1, .int hi t2, .int wi t3] (fun _ => True) (fun h h' r => ∃ t, r = .int (fewest lo hi wi) t) := by
  unfold CallsTo
  intro mean mg mb dp un gd env outer A₀ base h₀ L m s Q E B F X T hf hkf hrm hu hpre hret
  refine wpAny_call ?_
  k_dflt (refine' enterB ?k1 ?k2 ?k3 ?k5 ?kA ?kF ?kK ?k6 ?k7 ?k8 ?k9 ?kB ?_ ?c2 ?c3 ?c4 ?c5; (case kA => exact rfl); (case kF => first | assumption | exact rfl); (case kK => first | assumption | exact rfl); (case k1 => k_asm); (case k2 => k_asm); (case k3 => k_asm); (case k5 => k_asm); (case k6 => k_is); (case k7 => k_is); (case k8 => (show _ < _; (try simp only [depth_under_make, depth_under_kw, depth_in1, depth_deeper]); (try dsimp only [Ar] at *); (simp only [recursionLimit] at *); omega)); (case k9 => exact BindsTo.of_eq rfl); (case c5 => decide); (case kB => exact locs rfl); (case c2 => exact rfl); (case c3 => exact rfl); (case c4 => exact rfl); k_whole; intro g' L' h' hg' FG' F' N' B' X' T'; (try dsimp only))
  have hp7 := pow2_le7 wi hw2
  have hp0 := PySem.W.kbt_pos wi
  k_steps
  (rename Fr _ _ _ _ => Fz); (rename News _ _ _ _ => Nz); (rename IsRange _ _ _ _ _ _ _ _ => hR)
  rename IntsAre _ _ => hI
  obtain ⟨D, ws, eD, ews⟩ := fw_name Nz hI
  subst eD
  subst ews
  obtain ⟨n, hn⟩ : ∃ n : Nat, (hi - lo + 1).toNat = n := ⟨_, rfl⟩
  have hI : IntsAre ws (tab0 wi n) := by rw [← hn]; exact hI
  have N2 : News g' L' _ [(D, W.listOf ws.toArray 0)] := fun p hp => Nz p (by rw [List.mem_singleton.mp hp]; k_mem)
  refine go (iter_range n (fun i m nx => ∃ vs, nx = [(D, W.listOf vs.toArray 0)] ∧ IntsAre vs (tabF lo wi i (tab0 wi n)) ∧ m (Str.ofString "best") = some (.ref D) ∧ m (Str.ofString "low") = some (.int lo t1) ∧ m (Str.ofString "high") = some (.int hi t2) ∧ m (Str.ofString "w") = some (.int wi t3)) rfl hR
    (small_one (by omega) (by omega) (by omega) (by omega)) (by omega) Fz N2 ⟨ws, rfl, hI, rfl, rfl, rfl, rfl⟩ ?_ ?_)
  · rintro i y ty m₁ _ h tk oI hin hy ⟨vs, rfl, hvs, e1, e2, e3, e4⟩ hoff F₁ N₁
    rw [map_know e1, map_know e2, map_know e3, map_know e4] at F₁
    clear hI Nz Fz N2
    have hDI := hoff _ (List.mem_singleton.mpr rfl)
    obtain ⟨I, hIe⟩ := off_name hDI
    rw [← hIe] at hDI N₁ ⊢
    clear hoff hIe
    dsimp only at *
    obtain ⟨arr, harr⟩ : ∃ arr, tabF lo wi i (tab0 wi n) = arr := ⟨_, rfl⟩
    have hlen : arr.length = n + 1 := by rw [← harr, tabF_len, tab0_len]
    rw [harr] at hvs
    have kv : True → IntsAre vs arr := fun _ => hvs
    k_steps
    have hvs := kv trivial
    (rename Fr _ _ _ _ => Fz); (rename News _ _ _ _ => Nz); (rename IsRange _ _ _ _ _ _ _ _ => hR)
    refine go (iter_range (wi + 1) (fun j m nx => ∃ vs, nx = [(I, oI), (D, W.listOf vs.toArray 0)] ∧ IntsAre vs (rowF lo (lo + 1 + (i : Int)) j arr) ∧ m (Str.ofString "best") = some (.ref D) ∧ m (Str.ofString "low") = some (.int lo t1) ∧ m (Str.ofString "high") = some (.int hi t2) ∧ m (Str.ofString "w") = some (.int wi t3) ∧ m (Str.ofString "end") = some (.int y ty)) rfl hR
      (small_one (by omega) (by omega) (by omega) (by omega)) (by omega) Fz Nz ⟨vs, rfl, hvs, rfl, rfl, rfl, rfl, rfl⟩ ?_ ?_)
    · clear hvs Fz Nz
      rintro j y2 ty2 m₂ _ h2 tk2 oI2 hjn hy2 ⟨vs, rfl, hvs, f1, f2, f3, f4, f5⟩ hoff2 F₂ N₂
      have hDI2 := hoff2 _ (List.Mem.tail _ (List.Mem.head _))
      have hII2 := hoff2 _ (List.Mem.head _)
      obtain ⟨I2, hIe⟩ := off_name hDI2
      rw [← hIe] at hDI2 hII2 N₂ ⊢
      clear hoff2 hIe
      rw [map_know f1, map_know f2, map_know f3, map_know f4, map_know f5] at F₂
      obtain rfl : y2 = (j : Int) := by omega
      obtain ⟨ar2, har2⟩ : ∃ ar2, rowF lo (lo + 1 + (i : Int)) j arr = ar2 := ⟨_, rfl⟩
      have hlen2 : ar2.length = n + 1 := by rw [← har2, rowF_len, hlen]
      rw [har2] at hvs
      have q7 := pow2_le7 j (by omega)
      have q0 := PySem.W.kbt_pos j
      have q0' : (0 : Int) < 2 ^ ((j : Int)).toNat := q0
      have q7' : (2 : Int) ^ ((j : Int)).toNat ≤ 128 := q7
      have kv2 : True → IntsAre vs ar2 := fun _ => hvs
      dsimp only at *
      k_steps
      · have hvs := kv2 trivial
        refine go (ksa_set (n := 0) (by k_asm) (by k_asm) (.tail hDI2.symm (.tail hDI.symm (.head fun _ h => absurd h List.not_mem_nil))) hvs (by omega) (by omega) (by omega) fun h' F' N' hi' _ _ => ?_)
        k_steps
        (rename Fr _ _ _ _ => Fz); (rename News _ _ _ _ => Nz)
        refine turn_end [(I, oI), (D, W.listOf _ 0)] Fz Nz (List.Mem.head _) (fun p hp => List.Mem.tail _ hp) (off_two hII2 hDI2) ?_
        refine ⟨_, rfl, ?_, rfl, rfl, rfl, rfl, rfl⟩
        rw [rowF_succ, har2]
        exact stepF_yes (i := i) hy (by assumption) (by assumption) hi'
      · have hvs := kv2 trivial
        (rename Fr _ _ _ _ => Fz); (rename News _ _ _ _ => Nz)
        refine turn_end [(I, oI), (D, W.listOf _ 0)] Fz Nz (List.Mem.head _) (fun p hp => List.Mem.tail _ hp) (off_two hII2 hDI2) ?_
        refine ⟨_, rfl, ?_, rfl, rfl, rfl, rfl, rfl⟩
        rw [rowF_succ, har2]
        exact stepF_no (i := i) hy (.inr (by assumption)) hvs
      · have hvs := kv2 trivial
        (rename Fr _ _ _ _ => Fz); (rename News _ _ _ _ => Nz)
        refine turn_end [(I, oI), (D, W.listOf _ 0)] Fz Nz (List.Mem.head _) (fun p hp => List.Mem.tail _ hp) (off_two hII2 hDI2) ?_
        refine ⟨_, rfl, ?_, rfl, rfl, rfl, rfl, rfl⟩
        rw [rowF_succ, har2]
        exact stepF_no (i := i) hy (.inl (by omega)) hvs
    · rintro m₂ _ h2 tk2 ⟨vs, rfl, hvs, f1, f2, f3, f4, f5⟩ F₂ N₂
      have kv3 : True → IntsAre vs (rowF lo (lo + 1 + (i : Int)) (wi + 1) arr) := fun _ => hvs
      k_steps
      have hvs := kv3 trivial
      refine turn_end [(D, W.listOf vs.toArray 0)] F₂ N₂ (List.Mem.head _) (fun p hp => List.Mem.tail _ hp) (fun p hp => by rw [List.mem_singleton.mp hp]; exact hDI) ?_
      exact ⟨vs, rfl, by rw [tabF_succ, harr]; exact hvs, f1, f2, f3, f4⟩
  · rintro m₁ _ h tk ⟨vs, rfl, hvs, e1, e2, e3, e4⟩ F₁ N₁
    replace F₁ := Fr.know F₁ e1
    rw [map_know e2, map_know e3] at F₁
    have hlen : (tabF lo wi n (tab0 wi n)).length = n + 1 := by rw [tabF_len, tab0_len]
    k_steps
    exact hret _ _ _ (hg' ▸ F₁.keep) ⟨_, by unfold fewest; rw [hn]⟩
end Mine

end
section
open PySem PySem.W PySem.Calls PySem.Spec PyProof.Rows PyProof.Rows.LCg
namespace Mine

/-- a list of blocks: tuples of the start and of the bits left -/
def ItemsAt (h : Heap) (vs : List Value) (blks : List (Int × Nat)) : Prop :=
  vs.length = blks.length ∧ ∀ (i : Nat) (v : Value), vs[i]? = some v → ∃ st lf t1 t2 T n, blks[i]? = some (st, lf) ∧ v = Value.ref T ∧ h.get? T = some { cls := .type "tuple", data := .seq #[Value.int st t1, Value.int (lf : Int) t2] n }
theorem ItemsAt.keeps {h h' : Heap} {vs : List Value} {blks : List (Int × Nat)} (x : ItemsAt h vs blks) (k : Kept h h') : ItemsAt h' vs blks :=
  ⟨x.1, fun i v e => let ⟨st, lf, t1, t2, T, n, a, b, c⟩ := x.2 i v e; ⟨st, lf, t1, t2, T, n, a, b, k _ _ c⟩⟩
def TurnPostN (g : Heap) (L I : Addr) (oI : Obj) (J : (Str → Option Value) → List (Addr × Obj) → Prop) (s₁ : Shared) (f : Flow) (s₂ : Shared) : Prop :=
  match f with
  | .next => TurnEnd g L I oI J s₁ s₂
  | _ => False
theorem turn_endN {g h' : Heap} {L I : Addr} {oI : Obj} {J : (Str → Option Value) → List (Addr × Obj) → Prop} {s₁ : Shared} {m' : Str → Option Value} {all : List (Addr × Obj)} {tk : Nat}
    (nx : List (Addr × Obj)) (F : Fr g L h' m') (N : News g L h' all) (hI : (I, oI) ∈ all) (sub : ∀ p ∈ nx, p ∈ all) (off : ∀ p ∈ nx, p.1 ≠ I) (hJ : J m' nx) :
    TurnPostN g L I oI J s₁ .next { s₁ with heap := h', toks := tk } := turn_end (Q := fun _ _ => False) nx F N hI sub off hJ
section
variable {prog : Program} {w : World} {A : Around} {E : Value → Shared → Prop} {s : Shared} {env : Env} {g : Heap} {target : Expr} {body : List Stmt} {Q : Flow → Shared → Prop} {m : Str → Option Value} {news : List (Addr × Obj)}
theorem iter_listT {l : Addr} {vs : List Value} (J : Nat → (Str → Option Value) → List (Addr × Obj) → Prop) (hh : A.handled = none) (hl : g.PlainList l vs.toArray)
    (F : Fr g env.locals s.heap m) (N : News g env.locals s.heap news) (h0 : J 0 m news)
    (turn : ∀ i v m₁ news₁ s₁ oI, vs[i]? = some v → J i m₁ news₁ → (∀ p ∈ news₁, p.1 ≠ s.heap.objs.size) → Fr g env.locals s₁.heap m₁ → News g env.locals s₁.heap ((s.heap.objs.size, oI) :: news₁) →
      wpAny (model prog w) A (assign target env v) (fun _ s₃ => wpAny (model prog w) A (execs body env) (TurnPostN g env.locals s.heap.objs.size oI (J (i + 1)) s₁) E s₃) E s₁)
    (done : ∀ m₁ news₁ h tk, J vs.length m₁ news₁ → Fr g env.locals h m₁ → News g env.locals h news₁ → Q .next { s with heap := h, toks := tk }) :
    wpAny (model prog w) A (pyIter (.ref l)) (fun it s₂ => LoopAtT prog w A g env target body Q E it s₂) E s := by
  obtain ⟨n, hl⟩ := hl
  have hlt : l < s.heap.objs.size := Heap.lt_size (F.keep _ _ hl)
  have hls : s.heap.IsList l vs.toArray := ⟨_, F.keep _ _ hl, rfl, _, rfl⟩
  refine wpAny_pyIter_list hls ?_
  have W := Walks.list (prog := prog) (w := w) hh s.heap.objs.size l (Nat.ne_of_lt hlt) vs.toArray
  rw [List.size_toArray] at W
  have hnew := next_is_new F
  refine ⟨s.heap.objs.size, _, _, _, _, _, m, news, J, rfl, W, ?_, ?_, ?_, ⟨⟨_, Heap.get?_push_size _ rfl, rfl, rfl⟩, hls.push _⟩, F.push _, fun p hp => ⟨Heap.get?_push_of_some _ (N p hp).1, (N p hp).2⟩, fun i s' v Q' st hQ' => letGo_listiter st.1 hQ', h0, ?_, ?_⟩
  · intro hm
    rcases List.mem_cons.mp hm with e | hm
    · exact absurd F.ns.lt (e ▸ Nat.lt_irrefl _)
    · exact absurd (Nat.lt_of_lt_of_le (Heap.lt_size hl) F.above) ((List.mem_singleton.mp hm) ▸ Nat.lt_irrefl _)
  · intro b hb; rw [List.mem_singleton.mp hb]; exact hnew
  · intro p hp hI
    exact absurd (Heap.lt_size (N p hp).1) ((List.mem_singleton.mp hI) ▸ Nat.lt_irrefl _)
  · intro i v m₁ news₁ s₁ own hin hP hJ hoff hown hown2 hall hst₁ F₁ N₁
    obtain ⟨oI, hoI, _⟩ := hst₁.1
    have hIown : (s.heap.objs.size, oI) ∈ own := hall _ (W.sub _ (List.mem_singleton.mpr rfl)) hnew _ hoI
    have only : ∀ p ∈ own, p = (s.heap.objs.size, oI) := fun p hp => by
      have e1 : p.1 = s.heap.objs.size := by
        rcases List.mem_cons.mp (hown p hp) with e | e
        · exact e
        · have q := (N₁ p (List.mem_append_left _ hp)).2.2
          rw [List.mem_singleton.mp e, hl] at q; cases q
      have e2 := hown2 p hp
      rw [e1] at e2
      have e3 : oI = p.2 := Option.some.inj (hoI.symm.trans e2)
      rw [e3, ← e1]
    have N₂ : News g env.locals s₁.heap ((s.heap.objs.size, oI) :: news₁) := fun p hp => by
      rcases List.mem_cons.mp hp with rfl | hp
      · exact N₁ _ (List.mem_append_left _ hIown)
      · exact N₁ _ (List.mem_append_right _ hp)
    refine wpAny_mono (turn i v m₁ news₁ s₁ oI (by simpa using hP) hJ (fun p hp e => hoff p hp (List.mem_singleton.mpr e)) F₁ N₂) (fun _ s₃ x => wpAny_mono x (fun f s₂ pst => ?_) fun _ _ e => e) fun _ _ e => e
    cases f with
    | next =>
      obtain ⟨h', tk, m', nx, e, F', N', hn, hm⟩ := pst
      refine ⟨rfl, h', tk, m', nx, e, F', fun p hp => ?_, fun p hp hI => hn p hp (List.mem_singleton.mp hI), hm⟩
      rcases List.mem_append.mp hp with hp | hp
      · rw [only p hp]; exact N' _ (.head _)
      · exact N' _ (.tail _ hp)
    | ret v => exact pst.elim
    | brk => exact pst.elim
    | cont => exact pst.elim
  · intro h' tk m' news' F' N' _ hJ
    exact done m' news' h' tk hJ F' N'
end
theorem kfill_tiled : (PySem.Challenge.rw_dh5002_01 = PySem.Challenge.rw_dh5002_01 ∧ hd.heap_39 = hd.heap_39) → True := by (k_fill; intro _; trivial)

local macro_rules | `(tactic| walk_at "pyIter ref") => `(tactic| refine stop ?_)
local macro_rules | `(tactic| walk_at "call ref") => `(tactic| refine stop ?_)
local macro_rules | `(tactic| walk_at "call builtin:len") => `(tactic| (k_here; k_dflt (refine' kun_lenL ?k1 ?k2 ?k3 ?_; (case k1 => exact stays_list (Fr.keep (by k_asm)) (by assumption)); (case k2 => assumption); (case k3 => assumption); k_whole)))
local macro_rules | `(tactic| walk_at "exec For Tuple Name cons nil") => `(tactic| (k_here; (rename Fr _ _ _ _ => lF'); (with_unfolding_all refine' For_invTF lF' ?_ ?k1; (case k1 => intro _; rfl); k_whole)))
set_option maxHeartbeats 8000000 in
theorem tiled_calls (w : World) (lo hi : Int) (wi : Nat) (l : Addr) (vs : List Value) (blks : List (Int × Nat)) (P : Nat → Int) (t1 t2 t3 : Tok) (h1 : 0 ≤ lo) (h2 : lo ≤ hi) (h3 : hi < 128) (hw : 2 ≤ wi) (hw2 : wi ≤ 7)
   (hP0 : P 0 = lo) (hPn : P blks.length = hi + 1) (hP : ∀ i s l, blks[i]? = some (s, l) → s = P i ∧ P (i + 1) = s + 2 ^ l ∧ s % 2 ^ l = 0 ∧ l ≤ 7 ∧ 0 ≤ s ∧ s ≤ 128) (hn : (blks.length : Int) = fewest lo hi wi) (hb : blks.length ≤ 128) :
   CallsTo w 134 5 [.ref l, .int lo t1, .int hi t2, .int wi t3] (fun h => h.PlainList l vs.toArray ∧ ItemsAt h vs blks) (fun h h' r => r = .bool true) := by
  unfold CallsTo
  intro mean mg mb dp un gd env outer A₀ base h₀ L m s Q E B F X T hf hkf hrm hu hpre hret
  refine wpAny_call ?_
  k_dflt (refine' enterB ?k1 ?k2 ?k3 ?k5 ?kA ?kF ?kK ?k6 ?k7 ?k8 ?k9 ?kB ?_ ?c2 ?c3 ?c4 ?c5; (case kA => exact rfl); (case kF => first | assumption | exact rfl); (case kK => first | assumption | exact rfl); (case k1 => k_asm); (case k2 => k_asm); (case k3 => k_asm); (case k5 => k_asm); (case k6 => k_is); (case k7 => k_is); (case k8 => (show _ < _; (try simp only [depth_under_make, depth_under_kw, depth_in1, depth_deeper]); (try dsimp only [Ar] at *); (simp only [recursionLimit] at *); omega)); (case k9 => exact BindsTo.of_eq rfl); (case c5 => decide); (case kB => exact locs rfl); (case c2 => exact rfl); (case c3 => exact rfl); (case c4 => exact rfl); k_whole; intro g' L' h' hg' FG' F' N' B' X' T'; (try dsimp only))
  rw [← hg'] at hpre
  obtain ⟨hl, hx⟩ := hpre
  have hl' := hl.isList
  k_steps
  (rename Fr _ _ _ _ => Fz); (rename News _ _ _ _ => Nz)
  refine go (iter_listT (fun i m nx => nx = [] ∧ m (Str.ofString "low") = some (.int lo t1) ∧ m (Str.ofString "high") = some (.int hi t2) ∧ m (Str.ofString "w") = some (.int wi t3) ∧ m (Str.ofString "blocks") = some (.ref l) ∧ ∃ tp, m (Str.ofString "place") = some (.int (P i) tp)) rfl hl Fz Nz
    ⟨rfl, rfl, rfl, rfl, rfl, t1, by rw [hP0]; rfl⟩ ?_ ?_)
  · rintro i v m₁ _ s₁ oI hv ⟨rfl, e1, e2, e3, e4, tp, e5⟩ _ F₁ N₁
    obtain ⟨st, lf, u1, u2, T, n, hbi, rfl, hT⟩ := hx.2 i v hv
    obtain ⟨q1, q2, q3, q4, q5, q6⟩ := hP i st lf hbi
    have hTt : s₁.heap.IsTuple T #[.int st u1, .int (lf : Int) u2] := ⟨_, F₁.keep _ _ hT, rfl, _, rfl⟩
    rw [map_know e1, map_know e2, map_know e3, map_know e4, map_know e5] at F₁
    have q3' : st.fmod (2 ^ ((lf : Int)).toNat) = 0 := by
      rw [Int.toNat_natCast, Int.fmod_eq_emod_of_nonneg _ (Int.le_of_lt (PySem.W.kbt_pos _))]; exact q3
    have p0 : (0 : Int) < 2 ^ ((lf : Int)).toNat := PySem.W.kbt_pos lf
    have p7 : (2 : Int) ^ ((lf : Int)).toNat ≤ 128 := pow2_le7 lf q4
    dsimp only at *
    k_steps
    · exact absurd q1 (by assumption)
    · exact absurd q3' (by assumption)
    · (rename Fr _ _ _ _ => Fz); (rename News _ _ _ _ => Nz)
      refine turn_endN [] Fz Nz (List.Mem.head _) (fun _ h => absurd h List.not_mem_nil) (fun _ h => absurd h List.not_mem_nil) ?_
      exact ⟨rfl, rfl, rfl, rfl, rfl, _, by rw [q2]; rfl⟩
  · rintro m₁ _ h tk ⟨rfl, e1, e2, e3, e4, tp, e5⟩ F₁ N₁
    rw [hx.1, hPn] at e5
    rw [map_know e1, map_know e2, map_know e3, map_know e4, map_know e5] at F₁
    have hsz : ((vs.toArray.size : Nat) : Int) = (blks.length : Int) := by rw [List.size_toArray, hx.1]
    have hr2 : dp + 1 + 3 < recursionLimit := by omega
    have hu2 : un + 3 + 8 * 3 < cLine := by omega
    have hk : (blks.length : Int) ≤ 16384 := by omega
    dsimp only at *
    k_steps
    · (rename Fr _ _ _ _ => Fz)
      refine go ?_
      refine' (fewest_calls w lo hi wi _ _ _ h1 h2 h3 hw hw2).use ?b ?f ?x ?t ?p1 ?p2 ?p3 ?p4 trivial ?_
      case b => exact B'
      case f => exact Fz
      case x => exact X'
      case t => exact T'
      case p1 => exact rfl
      case p2 => exact rfl
      case p3 => exact hr2
      case p4 => exact hu2
      rintro r h' tk' hk' Fy ⟨tr, rfl⟩
      dsimp only
      k_steps
      exact hret _ _ _ (hg' ▸ Fy.keep) (by rw [hn, beq_self_eq_true])
    · exact absurd rfl (by assumption)
end Mine

end
section
open PySem PySem.W PySem.Calls PySem.Spec PyProof.Rows PyProof.Rows.LCg
namespace Mine
theorem bits_succ (x : Int) (w : Nat) : bits x (w + 1) = (x / 2 ^ w % 2) :: bits x w := by
  unfold bits
  rw [List.range_succ_eq_map, List.map_cons, List.map_map]
  refine congr (congrArg List.cons ?_) ?_
  · rfl
  · apply List.map_congr_left
    intro i hi
    have : w + 1 - 1 - (i + 1) = w - 1 - i := by omega
    simp only [Function.comp]
    rw [show w + 1 - 1 - i.succ = w - 1 - i from this]
theorem pow_pos2 (n : Nat) : (0 : Int) < 2 ^ n := PySem.W.kbt_pos n
theorem ediv_pow_succ (a : Int) (n : Nat) : a / 2 ^ (n + 1) = a / 2 ^ n / 2 := by
  rw [Int.pow_succ, Int.ediv_ediv_of_nonneg (Int.le_of_lt (pow_pos2 n))]
theorem ediv_pow_le {a b : Int} {i j : Nat} (h : i ≤ j) (e : a / 2 ^ i = b / 2 ^ i) : a / 2 ^ j = b / 2 ^ j := by
  obtain ⟨k, rfl⟩ := Nat.exists_eq_add_of_le h
  induction k with
  | zero => exact e
  | succ k ih => rw [← Nat.add_assoc, ediv_pow_succ, ediv_pow_succ, ih (by omega)]
/-- what the common front of two addresses tells -/
theorem lcp_facts : ∀ (w : Nat) (a b : Int), a / 2 ^ w = b / 2 ^ w →
    (lcp (bits a w) (bits b w)).length ≤ w ∧ a / 2 ^ (w - (lcp (bits a w) (bits b w)).length) = b / 2 ^ (w - (lcp (bits a w) (bits b w)).length) ∧
    (1 ≤ w - (lcp (bits a w) (bits b w)).length → a / 2 ^ (w - (lcp (bits a w) (bits b w)).length - 1) ≠ b / 2 ^ (w - (lcp (bits a w) (bits b w)).length - 1)) ∧
    (lcp (bits a w) (bits b w)).foldl (fun v b => 2 * v + b) (a / 2 ^ w) = a / 2 ^ (w - (lcp (bits a w) (bits b w)).length) ∧ ∀ x ∈ lcp (bits a w) (bits b w), x = 0 ∨ x = 1
  | 0, a, b, h => by
    have e : lcp (bits a 0) (bits b 0) = [] := rfl
    rw [e]
    exact ⟨Nat.le_refl _, h, fun h => absurd h (by decide), rfl, fun _ h => absurd h List.not_mem_nil⟩
  | w + 1, a, b, h => by
    rw [bits_succ, bits_succ, lcp]
    have h' := h
    rw [ediv_pow_succ, ediv_pow_succ] at h'
    by_cases e : a / 2 ^ w % 2 = b / 2 ^ w % 2
    · rw [if_pos e]
      have hq : a / 2 ^ w = b / 2 ^ w := by omega
      obtain ⟨h1, h2, h3, h4, h5⟩ := lcp_facts w a b hq
      rw [List.length_cons, Nat.add_sub_add_right]
      refine ⟨by omega, h2, h3, ?_, ?_⟩
      · rw [List.foldl_cons, ediv_pow_succ]
        have : 2 * (a / 2 ^ w / 2) + a / 2 ^ w % 2 = a / 2 ^ w := by omega
        rw [this]; exact h4
      · intro x hx
        rcases List.mem_cons.mp hx with rfl | hx
        · omega
        · exact h5 x hx
    · rw [if_neg e]
      refine ⟨Nat.zero_le _, h, fun _ q => e ?_, rfl, fun _ h => absurd h List.not_mem_nil⟩
      have q' : a / 2 ^ w = b / 2 ^ w := q
      rw [q']
/-- the bits left -/
def Lf (w : Nat) (a b : Int) : Nat := w - (lcp (bits a w) (bits b w)).length
theorem small_div {a : Int} {w : Nat} (h0 : 0 ≤ a) (h1 : a < 2 ^ w) : a / 2 ^ w = 0 := Int.ediv_eq_zero_of_lt h0 h1
theorem Lf_le {w j : Nat} {a b : Int} (h : a / 2 ^ w = b / 2 ^ w) (e : a / 2 ^ j = b / 2 ^ j) : Lf w a b ≤ j := by
  obtain ⟨h1, h2, h3, _, _⟩ := lcp_facts w a b h
  unfold Lf
  rcases Nat.lt_or_ge j (w - (lcp (bits a w) (bits b w)).length) with hlt | hge
  · exact absurd (ediv_pow_le (by omega) e) (h3 (by omega))
  · exact hge
/-- the block of what the common front tells -/
theorem block_facts {w : Nat} {lo hi : Int} (h0 : 0 ≤ lo) (h1 : lo ≤ hi) (h2 : hi < 2 ^ w) :
    Lf w lo hi ≤ w ∧ ofBits (lcp (bits lo w) (bits hi w)) = lo / 2 ^ Lf w lo hi ∧ lo / 2 ^ Lf w lo hi = hi / 2 ^ Lf w lo hi ∧ (1 ≤ Lf w lo hi → lo / 2 ^ (Lf w lo hi - 1) ≠ hi / 2 ^ (Lf w lo hi - 1)) := by
  have e1 := small_div h0 (Int.lt_of_le_of_lt h1 h2)
  have e2 := small_div (Int.le_trans h0 h1) h2
  obtain ⟨a1, a2, a3, a4, _⟩ := lcp_facts w lo hi (e1.trans e2.symm)
  rw [e1] at a4
  exact ⟨Nat.sub_le _ _, a4, a2, a3⟩
theorem div_iff {a s p : Int} (hp : 0 < p) (hs : s % p = 0) (h1 : s ≤ a) (h2 : a < s + p) : a / p = s / p := by
  have e : s = p * (s / p) := by have := Int.mul_ediv_add_emod s p; rw [hs] at this; omega
  have e1 : a / p = (a - p * (s / p) + p * (s / p)) / p := by congr 1; omega
  rw [e1, Int.add_mul_ediv_left _ _ (by omega), Int.ediv_eq_zero_of_lt (by omega) (by omega), Int.zero_add]
theorem start_facts {w : Nat} {lo hi : Int} (h0 : 0 ≤ lo) (h1 : lo ≤ hi) (h2 : hi < 2 ^ w) :
    0 ≤ lo / 2 ^ Lf w lo hi * 2 ^ Lf w lo hi ∧ lo / 2 ^ Lf w lo hi * 2 ^ Lf w lo hi ≤ lo ∧ hi < lo / 2 ^ Lf w lo hi * 2 ^ Lf w lo hi + 2 ^ Lf w lo hi ∧ (lo / 2 ^ Lf w lo hi * 2 ^ Lf w lo hi) % 2 ^ Lf w lo hi = 0 := by
  obtain ⟨_, _, a3, _⟩ := block_facts h0 h1 h2
  have hp := pow_pos2 (Lf w lo hi)
  generalize Lf w lo hi = j at *
  have q1 := Int.mul_ediv_add_emod lo (2 ^ j)
  have q2 := Int.mul_ediv_add_emod hi (2 ^ j)
  have r1 := Int.emod_nonneg lo (Int.ne_of_gt hp)
  have r2 := Int.emod_lt_of_pos hi hp
  rw [← a3] at q2
  rw [Int.mul_comm] at q1 q2
  refine ⟨Int.mul_nonneg (Int.ediv_nonneg h0 (Int.le_of_lt hp)) (Int.le_of_lt hp), by omega, by omega, Int.mul_emod_left _ _⟩
theorem half_pow {j : Nat} (h : 1 ≤ j) : (2 : Int) ^ j = 2 * 2 ^ (j - 1) ∧ (2 : Int) ^ j / 2 = 2 ^ (j - 1) := by
  obtain ⟨i, rfl⟩ := Nat.exists_eq_add_of_le h
  rw [Nat.add_comm 1 i, Nat.add_sub_cancel, Int.pow_succ]
  omega
theorem mod_half {s : Int} {j : Nat} (h : 1 ≤ j) (hs : s % 2 ^ j = 0) : s % 2 ^ (j - 1) = 0 := by
  rw [(half_pow h).1] at hs
  exact Int.emod_eq_zero_of_dvd (Int.dvd_trans (Int.dvd_mul_left _ _) (Int.dvd_of_emod_eq_zero hs))
/-- where the range is cut -/
theorem cut_facts {w : Nat} {lo hi s : Int} {j : Nat} (h0 : 0 ≤ lo) (h1 : lo ≤ hi) (h2 : hi < 2 ^ w) (hj : Lf w lo hi = j) (hs : lo / 2 ^ j * 2 ^ j = s) (hne : ¬ (s = lo ∧ s + 2 ^ j - 1 = hi)) :
    1 ≤ j ∧ lo < s + 2 ^ j / 2 ∧ s + 2 ^ j / 2 ≤ hi ∧ Lf w lo (s + 2 ^ j / 2 - 1) ≤ j - 1 ∧ Lf w (s + 2 ^ j / 2) hi ≤ j - 1 := by
  subst hj
  obtain ⟨b1, b2, b3, b4⟩ := start_facts h0 h1 h2
  obtain ⟨a1, _, a3, a4⟩ := block_facts h0 h1 h2
  rw [hs] at b1 b2 b3 b4
  have hw : (0 : Int) < 2 ^ w := pow_pos2 w
  have hj1 : 1 ≤ Lf w lo hi := by
    rcases Nat.eq_zero_or_pos (Lf w lo hi) with e | e
    · rw [e] at hne b3
      have : (2 : Int) ^ 0 = 1 := rfl
      omega
    · exact e
  obtain ⟨e1, e2⟩ := half_pow hj1
  have hm := mod_half hj1 b4
  have hp := pow_pos2 (Lf w lo hi - 1)
  have a4 := a4 hj1
  generalize Lf w lo hi = j at *
  rw [e1] at b3
  rw [e2]
  have hm2 : (s + 2 ^ (j - 1)) % 2 ^ (j - 1) = 0 := by rw [Int.add_emod_right, hm]
  have hlo : lo < s + 2 ^ (j - 1) := by
    refine Int.lt_of_not_ge fun hc => a4 ?_
    exact (div_iff hp hm2 hc (by omega)).trans (div_iff hp hm2 (by omega) (by omega)).symm
  have hhi : s + 2 ^ (j - 1) ≤ hi := by
    refine Int.le_of_not_gt fun hc => a4 ?_
    exact (div_iff hp hm b2 hlo).trans (div_iff hp hm (by omega) (by omega)).symm
  refine ⟨hj1, hlo, hhi, Lf_le ?_ ?_, Lf_le ?_ ?_⟩
  · exact (small_div h0 (by omega)).trans (small_div (by omega) (by omega)).symm
  · exact (div_iff hp hm b2 hlo).trans (div_iff hp hm (by omega) (by omega)).symm
  · exact (small_div (by omega) (by omega)).trans (small_div (by omega) h2).symm
  · exact (div_iff hp hm2 (Int.le_refl _) (by omega)).trans (div_iff hp hm2 hhi (by omega)).symm
/-- the cover of a range -/
def cov (w : Nat) : Nat → Int → Int → List (Int × Nat)
  | 0, lo, hi => [(lo / 2 ^ Lf w lo hi * 2 ^ Lf w lo hi, Lf w lo hi)]
  | k + 1, lo, hi =>
    if lo / 2 ^ Lf w lo hi * 2 ^ Lf w lo hi = lo ∧ lo / 2 ^ Lf w lo hi * 2 ^ Lf w lo hi + 2 ^ Lf w lo hi - 1 = hi then [(lo / 2 ^ Lf w lo hi * 2 ^ Lf w lo hi, Lf w lo hi)]
    else cov w k lo (lo / 2 ^ Lf w lo hi * 2 ^ Lf w lo hi + 2 ^ Lf w lo hi / 2 - 1) ++ cov w k (lo / 2 ^ Lf w lo hi * 2 ^ Lf w lo hi + 2 ^ Lf w lo hi / 2) hi
theorem cov_block {w : Nat} {lo hi s : Int} {j : Nat} (k : Nat) (hj : Lf w lo hi = j) (hs : lo / 2 ^ j * 2 ^ j = s) (h : s = lo ∧ s + 2 ^ j - 1 = hi) : cov w k lo hi = [(s, j)] := by
  subst hj; subst hs
  cases k with
  | zero => rfl
  | succ k => exact if_pos h
theorem cov_cut {w : Nat} {lo hi s : Int} {j : Nat} (k : Nat) (hj : Lf w lo hi = j) (hs : lo / 2 ^ j * 2 ^ j = s) (h : ¬ (s = lo ∧ s + 2 ^ j - 1 = hi)) : cov w (k + 1) lo hi = cov w k lo (s + 2 ^ j / 2 - 1) ++ cov w k (s + 2 ^ j / 2) hi := by
  subst hj; subst hs
  exact if_neg h
/-- signs and order -/
theorem lexR_bits : ∀ (w : Nat) (a b : Int), a / 2 ^ w = b / 2 ^ w → lexR ltB (bits a w) (bits b w) = decide (a < b)
  | 0, a, b, h => by
    have h' : a / 1 = b / 1 := h
    rw [Int.ediv_one, Int.ediv_one] at h'
    have : ¬ a < b := by omega
    rw [decide_eq_false this]; rfl
  | w + 1, a, b, h => by
    rw [bits_succ, bits_succ, lexR]
    rw [ediv_pow_succ, ediv_pow_succ] at h
    have hp := pow_pos2 w
    have m1 : a ≤ b → a / 2 ^ w ≤ b / 2 ^ w := fun q => Int.ediv_le_ediv hp q
    have m2 : b ≤ a → b / 2 ^ w ≤ a / 2 ^ w := fun q => Int.ediv_le_ediv hp q
    by_cases e : a / 2 ^ w % 2 = b / 2 ^ w % 2
    · rw [if_pos (by simpa using e)]
      exact lexR_bits w a b (by omega)
    · rw [if_neg (by simpa using e)]
      show decide _ = decide _
      rw [decide_eq_decide]
      constructor
      · intro q
        refine Int.lt_of_not_ge fun c => ?_
        have := m2 c
        omega
      · intro q
        have := m1 (Int.le_of_lt q)
        omega
theorem lexMin_bits {w : Nat} (x : Int) (xs : List Int) (hx : 0 ≤ x ∧ x < 2 ^ w) (h : ∀ y ∈ xs, 0 ≤ y ∧ y < 2 ^ w) : lexMin ((x :: xs).map fun y => bits y w) = bits (xs.foldl min x) w := by
  show List.foldl (fun m x => if lexR ltB x m then x else m) (bits x w) (xs.map fun y => bits y w) = _
  induction xs generalizing x with
  | nil => rfl
  | cons y r ih =>
    obtain ⟨y0, y1⟩ := h y List.mem_cons_self
    rw [List.map_cons, List.foldl_cons, List.foldl_cons, lexR_bits w y x ((small_div y0 y1).trans (small_div hx.1 hx.2).symm)]
    have e : (if decide (y < x) = true then bits y w else bits x w) = bits (min x y) w := by
      rcases Int.lt_or_le y x with q | q
      · rw [if_pos (decide_eq_true q), Int.min_eq_right (Int.le_of_lt q)]
      · rw [if_neg (by simpa using q), Int.min_eq_left q]
    rw [e]
    exact ih (min x y) ⟨by omega, by omega⟩ fun z hz => h z (List.mem_cons_of_mem _ hz)
theorem lexMax_bits {w : Nat} (x : Int) (xs : List Int) (hx : 0 ≤ x ∧ x < 2 ^ w) (h : ∀ y ∈ xs, 0 ≤ y ∧ y < 2 ^ w) : lexMax ((x :: xs).map fun y => bits y w) = bits (xs.foldl max x) w := by
  show List.foldl (fun m x => if lexR ltB m x then x else m) (bits x w) (xs.map fun y => bits y w) = _
  induction xs generalizing x with
  | nil => rfl
  | cons y r ih =>
    obtain ⟨y0, y1⟩ := h y List.mem_cons_self
    rw [List.map_cons, List.foldl_cons, List.foldl_cons, lexR_bits w x y ((small_div hx.1 hx.2).trans (small_div y0 y1).symm)]
    have e : (if decide (x < y) = true then bits y w else bits x w) = bits (max x y) w := by
      rcases Int.lt_or_le x y with q | q
      · rw [if_pos (decide_eq_true q), Int.max_eq_right (Int.le_of_lt q)]
      · rw [if_neg (by simpa using q), Int.max_eq_left q]
    rw [e]
    exact ih (max x y) ⟨by omega, by omega⟩ fun z hz => h z (List.mem_cons_of_mem _ hz)
end Mine

end
section
open PySem PySem.W PySem.Calls PySem.Spec PyProof.Rows PyProof.Rows.LCg
namespace Mine
/-- a value that the caller does not know -/
def Own (g : Heap) (L : Addr) (v : Value) : Prop := ∀ a, v = .ref a → a ≠ L ∧ g.get? a = none
theorem Fresh.own {g h : Heap} {L : Addr} {m : Str → Option Value} {v : Value} (F : Fr g L h m) (x : Fresh h v) : Own g L v := fun a e => by
  have hn := x a e
  refine ⟨fun q => ?_, ?_⟩
  · obtain ⟨oL, _, _, hL, _⟩ := F.ns
    rw [q, hL] at hn; cases hn
  · cases q : g.get? a with
    | none => rfl
    | some o' => have := F.keep _ _ q; rw [hn] at this; cases this
def lstO (vs : List Value) (n : Nat) : Obj := { cls := .type "list", data := .seq vs.toArray n }
def tupO (vs : List Value) (n : Nat) : Obj := { cls := .type "tuple", data := .seq vs.toArray n }
def FrontIn (kind : Int) (nx : List (Addr × Obj)) (v : Value) (bs : List Int) : Prop :=
  (kind = 0 ∧ ∃ t, v = .str (txt bs) t) ∨ (kind = 1 ∧ ∃ a vs n, v = .ref a ∧ (a, lstO vs n) ∈ nx ∧ IntsAre vs bs) ∨ (kind = 2 ∧ ∃ a vs n, v = .ref a ∧ (a, tupO vs n) ∈ nx ∧ IntsAre vs bs)
theorem FrontIn.at {kind : Int} {g h : Heap} {L : Addr} {nx : List (Addr × Obj)} {v : Value} {bs : List Int} (x : FrontIn kind nx v bs) (N : News g L h nx) : FrontAt kind h v bs := by
  rcases x with x | ⟨e, a, vs, n, e2, hm, hi⟩ | ⟨e, a, vs, n, e2, hm, hi⟩
  · exact .inl x
  · exact .inr (.inl ⟨e, a, vs, e2, ⟨n, (N _ hm).1⟩, hi⟩)
  · exact .inr (.inr ⟨e, a, vs, n, e2, (N _ hm).1, hi⟩)
theorem FrontIn.mono {kind : Int} {nx ny : List (Addr × Obj)} {v : Value} {bs : List Int} (x : FrontIn kind nx v bs) (s : ∀ p ∈ nx, p ∈ ny) : FrontIn kind ny v bs := by
  rcases x with x | ⟨e, a, vs, n, e2, hm, hi⟩ | ⟨e, a, vs, n, e2, hm, hi⟩
  · exact .inl x
  · exact .inr (.inl ⟨e, a, vs, n, e2, s _ hm, hi⟩)
  · exact .inr (.inr ⟨e, a, vs, n, e2, s _ hm, hi⟩)
theorem FrontIn.own {kind : Int} {g h : Heap} {L : Addr} {nx : List (Addr × Obj)} {v : Value} {bs : List Int} (x : FrontIn kind nx v bs) (N : News g L h nx) : Own g L v := fun b e => by
  rcases x with ⟨_, t, e2⟩ | ⟨_, a, vs, n, e2, hm, _⟩ | ⟨_, a, vs, n, e2, hm, _⟩
  · rw [e2] at e; cases e
  · rw [e2] at e; cases e; exact (N _ hm).2
  · rw [e2] at e; cases e; exact (N _ hm).2
theorem FrontAt.ledger {kind : Int} {g h : Heap} {L : Addr} {nx : List (Addr × Obj)} {v : Value} {bs : List Int} (x : FrontAt kind h v bs) (N : News g L h nx) (o : Own g L v) :
    ∃ ny, News g L h ny ∧ (∀ p ∈ nx, p ∈ ny) ∧ FrontIn kind ny v bs := by
  rcases x with x | ⟨e, a, vs, e2, ⟨n, hl⟩, hi⟩ | ⟨e, a, vs, n, e2, hl, hi⟩
  · exact ⟨nx, N, fun _ h => h, .inl x⟩
  · refine ⟨(a, lstO vs n) :: nx, fun p hp => ?_, fun _ h => .tail _ h, .inr (.inl ⟨e, a, vs, n, e2, .head _, hi⟩)⟩
    rcases List.mem_cons.mp hp with rfl | hp
    · exact ⟨hl, o a e2⟩
    · exact N p hp
  · refine ⟨(a, tupO vs n) :: nx, fun p hp => ?_, fun _ h => .tail _ h, .inr (.inr ⟨e, a, vs, n, e2, .head _, hi⟩)⟩
    rcases List.mem_cons.mp hp with rfl | hp
    · exact ⟨hl, o a e2⟩
    · exact N p hp
theorem fronts_two {h : Heap} {kind : Int} {w : Nat} {u v : Value} {a b : Int} (x : FrontAt kind h u (bits a w)) (y : FrontAt kind h v (bits b w)) : FrontsAt kind h w [u, v] [bits a w, bits b w] := by
  refine ⟨rfl, ?_, ?_⟩
  · intro bs hb
    rcases List.mem_cons.mp hb with rfl | hb
    · exact ⟨bits_length .., bits_01 _ _⟩
    · rw [List.mem_singleton.mp hb]; exact ⟨bits_length .., bits_01 _ _⟩
  · intro i z hz
    rcases i with _ | _ | i
    · cases hz; exact ⟨_, rfl, x⟩
    · cases hz; exact ⟨_, rfl, y⟩
    · cases hz
theorem two_lcp {w : Nat} {a b : Int} (h0 : 0 ≤ a) (h1 : a ≤ b) (h2 : b < 2 ^ w) : lcp (lexMin [bits a w, bits b w]) (lexMax [bits a w, bits b w]) = lcp (bits a w) (bits b w) := by
  have e1 := lexMin_bits (w := w) a [b] ⟨h0, by omega⟩ (fun y hy => by rw [List.mem_singleton.mp hy]; omega)
  have e2 := lexMax_bits (w := w) a [b] ⟨h0, by omega⟩ (fun y hy => by rw [List.mem_singleton.mp hy]; omega)
  have f1 : [b].foldl min a = a := Int.min_eq_left h1
  have f2 : [b].foldl max a = b := Int.max_eq_right h1
  rw [f1] at e1; rw [f2] at e2
  have g1 : lexMin [bits a w, bits b w] = bits a w := e1
  have g2 : lexMax [bits a w, bits b w] = bits b w := e2
  rw [g1, g2]
theorem common_calls (w : World) (kind : Int) (wd : Nat) (l : Addr) (v0 : Value) (vs : List Value) (bss : List (List Int)) (hw : wd ≤ 7) (hlen : vs.length ≤ 7) :
   CallsTo w 101 5 [.ref l] (fun h => h.PlainList l (v0 :: vs).toArray ∧ FrontsAt kind h wd (v0 :: vs) bss)
     (fun h h' r => FrontAt kind h' r (lcp (lexMin bss) (lexMax bss)) ∧ (Fresh h r ∨ r ∈ v0 :: vs)) := by
  by_cases hk : kind = 0
  · exact common_str w kind wd l v0 vs bss hk hw hlen
  · exact common_seq w kind wd l v0 vs bss hk hw hlen
section
variable {prog : Program} {w : World} {A : Around} {E : Value → Shared → Prop} {s : Shared}
theorem FrontAt.len {kind : Int} {v : Value} {bs : List Int} {Q : Value → Shared → Prop} (x : FrontAt kind s.heap v bs) (hl : bs.length ≤ 7) (h : ∀ t tk, Q (.int bs.length t) { s with toks := tk }) :
    wpAny (model prog w) A (call (.builtin "len") [v]) Q E s := by
  rcases x with ⟨_, t, rfl⟩ | ⟨_, a, vs, rfl, ⟨n, hl'⟩, hi⟩ | ⟨_, a, vs, n, rfl, hl', hi⟩
  · have e : (txt bs).length = bs.length := txt_size bs
    refine len_str (by rw [e]; omega) ?_
    rw [e]; exact h _ _
  · have e : vs.toArray.size = bs.length := by simp [hi.length]
    refine len_list ⟨_, hl', rfl, _, rfl⟩ (by rw [e]; omega) ?_
    rw [e]; exact h _ _
  · have e : vs.toArray.size = bs.length := by simp [hi.length]
    refine len_tuple ⟨_, hl', rfl, _, rfl⟩ (by rw [e]; omega) ?_
    rw [e]; exact h _ _
end
/-- a list of blocks, all of it in the ledger -/
def BlocksIn (nx : List (Addr × Obj)) (a : Addr) (vs : List Value) (blks : List (Int × Nat)) : Prop :=
  (∃ n, (a, lstO vs n) ∈ nx) ∧ vs.length = blks.length ∧ ∀ (i : Nat) (v : Value), vs[i]? = some v → ∃ st lf t1 t2 T n, blks[i]? = some (st, lf) ∧ v = Value.ref T ∧ (T, tupO [Value.int st t1, Value.int (lf : Int) t2] n) ∈ nx
theorem BlocksIn.mono {nx ny : List (Addr × Obj)} {a : Addr} {vs : List Value} {blks : List (Int × Nat)} (x : BlocksIn nx a vs blks) (s : ∀ p ∈ nx, p ∈ ny) : BlocksIn ny a vs blks :=
  ⟨let ⟨n, h⟩ := x.1; ⟨n, s _ h⟩, x.2.1, fun i v e => let ⟨st, lf, t1, t2, T, n, q1, q2, q3⟩ := x.2.2 i v e; ⟨st, lf, t1, t2, T, n, q1, q2, s _ q3⟩⟩
theorem BlocksIn.list {g h : Heap} {L : Addr} {nx : List (Addr × Obj)} {a : Addr} {vs : List Value} {blks : List (Int × Nat)} (x : BlocksIn nx a vs blks) (N : News g L h nx) : h.PlainList a vs.toArray :=
  let ⟨n, hm⟩ := x.1; ⟨n, (N _ hm).1⟩
theorem BlocksIn.items {g h : Heap} {L : Addr} {nx : List (Addr × Obj)} {a : Addr} {vs : List Value} {blks : List (Int × Nat)} (x : BlocksIn nx a vs blks) (N : News g L h nx) : ItemsAt h vs blks :=
  ⟨x.2.1, fun i v e => let ⟨st, lf, t1, t2, T, n, q1, q2, q3⟩ := x.2.2 i v e; ⟨st, lf, t1, t2, T, n, q1, q2, (N _ q3).1⟩⟩
theorem BlocksIn.cat {nx : List (Addr × Obj)} {a b c : Addr} {vs ws : List Value} {xs ys : List (Int × Nat)} {n : Nat} (x : BlocksIn nx a vs xs) (y : BlocksIn nx b ws ys) (h : (c, lstO (vs ++ ws) n) ∈ nx) : BlocksIn nx c (vs ++ ws) (xs ++ ys) := by
  refine ⟨⟨n, h⟩, by rw [List.length_append, List.length_append, x.2.1, y.2.1], fun i v e => ?_⟩
  rcases Nat.lt_or_ge i vs.length with hlt | hge
  · rw [List.getElem?_append_left hlt] at e
    obtain ⟨st, lf, t1, t2, T, n, q1, q2, q3⟩ := x.2.2 i v e
    exact ⟨st, lf, t1, t2, T, n, by rw [List.getElem?_append_left (by rw [← x.2.1]; exact hlt)]; exact q1, q2, q3⟩
  · rw [List.getElem?_append_right hge] at e
    obtain ⟨st, lf, t1, t2, T, n, q1, q2, q3⟩ := y.2.2 _ v e
    exact ⟨st, lf, t1, t2, T, n, by rw [List.getElem?_append_right (by rw [← x.2.1]; exact hge), ← x.2.1]; exact q1, q2, q3⟩
/-- what a call hands back: a list of blocks that is new throughout -/
def BlocksNew (h h' : Heap) (r : Value) (blks : List (Int × Nat)) : Prop :=
  ∃ a vs nx, r = .ref a ∧ (∀ p ∈ nx, h'.get? p.1 = some p.2 ∧ h.get? p.1 = none) ∧ BlocksIn nx a vs blks
theorem BlocksNew.ledger {g h h' : Heap} {L : Addr} {m : Str → Option Value} {nx : List (Addr × Obj)} {r : Value} {blks : List (Int × Nat)} (x : BlocksNew h h' r blks) (F : Fr g L h m) (k : Kept h h') (N : News g L h nx) :
    ∃ a vs ny, r = .ref a ∧ News g L h' ny ∧ (∀ p ∈ nx, p ∈ ny) ∧ BlocksIn ny a vs blks := by
  obtain ⟨a, vs, nz, e, hn, hb⟩ := x
  refine ⟨a, vs, nz ++ nx, e, fun p hp => ?_, fun p hp => List.mem_append_right _ hp, hb.mono fun p hp => List.mem_append_left _ hp⟩
  rcases List.mem_append.mp hp with hp | hp
  · obtain ⟨h1, h2⟩ := hn p hp
    have fr : Fresh h (.ref p.1) := fun b e => by cases e; exact h2
    exact ⟨h1, fr.own F p.1 rfl⟩
  · exact N.grown k p hp
theorem BlocksNew.of {g h' : Heap} {L a : Addr} {vs : List Value} {nx : List (Addr × Obj)} {blks : List (Int × Nat)} (N : News g L h' nx) (x : BlocksIn nx a vs blks) : BlocksNew g h' (.ref a) blks :=
  ⟨a, vs, nx, rfl, fun p hp => ⟨(N p hp).1, (N p hp).2.2⟩, x⟩
theorem cov_len (w : Nat) : ∀ (k : Nat) (lo hi : Int), (cov w k lo hi).length ≤ 2 ^ k
  | 0, _, _ => Nat.le_refl _
  | k + 1, lo, hi => by
    rw [cov]
    split
    · exact Nat.one_le_two_pow
    · have a := cov_len w k lo (lo / 2 ^ Lf w lo hi * 2 ^ Lf w lo hi + 2 ^ Lf w lo hi / 2 - 1)
      have b := cov_len w k (lo / 2 ^ Lf w lo hi * 2 ^ Lf w lo hi + 2 ^ Lf w lo hi / 2) hi
      rw [List.length_append, Nat.pow_succ]
      omega
end Mine

end
section
open PySem PySem.W PySem.Calls PySem.Spec PyProof.Rows PyProof.Rows.LCg
namespace Mine
theorem one_block {nx : List (Addr × Obj)} {a T : Addr} {st : Int} {lf : Nat} {t1 t2 : Tok} (h : (a, W.listOf #[Value.ref T] 0) ∈ nx) (hT : (T, { cls := Value.type "tuple", data := Data.seq #[Value.int st t1, Value.int (lf : Int) t2] }) ∈ nx) :
    BlocksIn nx a [Value.ref T] [(st, lf)] := by
  refine ⟨⟨0, h⟩, rfl, fun i v e => ?_⟩
  rcases i with _ | i
  · cases e; exact ⟨st, lf, t1, t2, T, 0, rfl, rfl, hT⟩
  · cases e
theorem news_name {g h : Heap} {L D : Addr} {o : Obj} {nx : List (Addr × Obj)} (_ : News g L h ((D, o) :: nx)) : ∃ x, x = D := ⟨D, rfl⟩
theorem kfill_cover : (PySem.Challenge.rw_dh5002_01 = PySem.Challenge.rw_dh5002_01 ∧ hd.heap_39 = hd.heap_39) → True := by (k_fill; intro _; trivial)

local macro_rules | `(tactic| walk_at "call ref") => `(tactic| refine stop ?_)
local macro_rules | `(tactic| walk_at "binaryOp Add ref ref") => `(tactic| refine stop ?_)
local macro_rules | `(tactic| walk_at "call builtin:len") => `(tactic| (k_here; k_dflt (refine' FrontAt.len ?x ?l ?_; (case x => exact FrontIn.at (by assumption) (by k_asm)); (case l => assumption); k_whole; intro t' tk')))
set_option maxHeartbeats 8000000 in
theorem cover_calls (w : World) (wi : Nat) (kind : Int) (hw : 2 ≤ wi) (hw2 : wi ≤ 7) (hk0 : 0 ≤ kind) (hk2 : kind ≤ 2) (k : Nat) : ∀ (lo hi fuel : Int) (t1 t2 t3 t4 t5 : Tok), 0 ≤ lo → lo ≤ hi → hi < 2 ^ wi → Lf wi lo hi ≤ k → k ≤ 7 → (k : Int) ≤ fuel →
   CallsTo w 120 (6 + k) [.int lo t1, .int hi t2, .int wi t3, .int kind t4, .int fuel t5] (fun _ => True) (fun h h' r => BlocksNew h h' r (cov wi k lo hi)) := by
  induction k using Nat.strongRecOn with
  | ind k ih =>
  intro lo hi fuel t1 t2 t3 t4 t5 h0 h1 h2 hL hk7 hfu
  unfold CallsTo
  intro mean mg mb dp un gd env outer A₀ base h₀ L m s Q E B F X T hf hkf hrm hu hpre hret
  refine wpAny_call ?_
  k_dflt (refine' enterB ?k1 ?k2 ?k3 ?k5 ?kA ?kF ?kK ?k6 ?k7 ?k8 ?k9 ?kB ?_ ?c2 ?c3 ?c4 ?c5; (case kA => exact rfl); (case kF => first | assumption | exact rfl); (case kK => first | assumption | exact rfl); (case k1 => k_asm); (case k2 => k_asm); (case k3 => k_asm); (case k5 => k_asm); (case k6 => k_is); (case k7 => k_is); (case k8 => (show _ < _; (try simp only [depth_under_make, depth_under_kw, depth_in1, depth_deeper]); (try dsimp only [Ar] at *); (simp only [recursionLimit] at *); omega)); (case k9 => exact BindsTo.of_eq rfl); (case c5 => decide); (case kB => exact locs rfl); (case c2 => exact rfl); (case c3 => exact rfl); (case c4 => exact rfl); k_whole; intro g' L' h' hg' FG' F' N' B' X' T'; (try dsimp only))
  have hr3 : dp + 1 + 3 < recursionLimit := by omega
  have hu3 : un + 3 + 8 * 3 < cLine := by omega
  have hr5 : dp + 1 + 5 < recursionLimit := by omega
  have hu5 : un + 3 + 8 * 5 < cLine := by omega
  k_steps
  (refine go ?_; refine' CallsTo.use (bits_calls w lo wi kind _ _ _ h0 hw hw2 hk0 hk2) ?uc1b ?uc1f ?uc1x ?uc1t ?uc11 ?uc12 ?uc13 ?uc14 (trivial) ?_; (case uc1b => assumption); (case uc1f => assumption); (case uc1x => assumption); (case uc1t => assumption); (case uc11 => exact rfl); (case uc12 => exact rfl); (case uc13 => assumption); (case uc14 => assumption))
  rintro v0 h3 tk3 K3 F3 ⟨x0, fr0⟩
  obtain ⟨nx1, N1, _, i0⟩ := x0.ledger (News.grown (by assumption) K3) (fr0.own (by assumption))
  clear x0 fr0 K3
  k_steps
  (refine go ?_; refine' CallsTo.use (bits_calls w hi wi kind _ _ _ (by omega) hw hw2 hk0 hk2) ?uc2b ?uc2f ?uc2x ?uc2t ?uc21 ?uc22 ?uc23 ?uc24 (trivial) ?_; (case uc2b => assumption); (case uc2f => assumption); (case uc2x => assumption); (case uc2t => assumption); (case uc21 => exact rfl); (case uc22 => exact rfl); (case uc23 => assumption); (case uc24 => assumption))
  rintro v1 h4 tk4 K4 F4 ⟨x1, fr1⟩
  obtain ⟨nx2, N2, s2, i1⟩ := x1.ledger (N1.grown K4) (fr1.own (by assumption))
  have i0 := i0.mono s2
  clear x1 fr1 K4 N1
  k_steps
  rename News _ _ _ (_ :: nx2) => N3
  rename Fr _ _ _ _ => F3
  obtain ⟨D, hD⟩ := news_name N3
  subst hD
  (refine go ?_; refine' CallsTo.use (common_calls w kind wi D v0 [v1] [bits lo wi, bits hi wi] hw2 (Nat.le_of_ble_eq_true rfl)) ?uc3b ?uc3f ?uc3x ?uc3t ?uc31 ?uc32 ?uc33 ?uc34 (⟨⟨0, (N3 _ (.head _)).1⟩, fronts_two ((i0.mono fun _ h => .tail _ h).at N3) ((i1.mono fun _ h => .tail _ h).at N3)⟩) ?_; (case uc3b => assumption); (case uc3f => assumption); (case uc3x => assumption); (case uc3t => assumption); (case uc31 => exact rfl); (case uc32 => exact rfl); (case uc33 => assumption); (case uc34 => assumption))
  rintro c h5 tk5 K5 F5 ⟨x2, fr2⟩
  rw [two_lcp h0 h1 h2] at x2
  have oc : Own g' L' c := by
    rcases fr2 with fr2 | hm
    · exact fr2.own F3
    · rcases List.mem_cons.mp hm with rfl | hm
      · exact (i0.mono fun _ h => .tail _ h).own N3
      · rw [List.mem_singleton.mp hm]; exact (i1.mono fun _ h => .tail _ h).own N3
  obtain ⟨nx3, N5, _, i2⟩ := x2.ledger (N3.grown K5) oc
  clear x2 fr2 oc K5 F3 N3 i0 i1
  obtain ⟨f1, f2, _, _⟩ := block_facts h0 h1 h2
  obtain ⟨b1, b2, b3, b4⟩ := start_facts h0 h1 h2
  obtain ⟨j, hj⟩ : ∃ j, Lf wi lo hi = j := ⟨_, rfl⟩
  have hcl : (wi : Int) - ((lcp (bits lo wi) (bits hi wi)).length : Int) = (j : Int) := by
    have e : wi - (lcp (bits lo wi) (bits hi wi)).length = j := hj
    have := (lcp_facts wi lo hi ((small_div h0 (by omega)).trans (small_div (by omega) h2).symm)).1
    omega
  have hc01 := (lcp_facts wi lo hi ((small_div h0 (by omega)).trans (small_div (by omega) h2).symm)).2.2.2.2
  generalize hcb : lcp (bits lo wi) (bits hi wi) = cb at *
  rw [hj] at hL f1 f2 b1 b2 b3 b4
  have hl7 : cb.length ≤ 7 := by omega
  k_steps
  rename News _ _ _ _ => N6
  rename Fr _ _ _ _ => F6
  rw [hcl] at F6
  (refine go ?_; refine' CallsTo.use (number_calls w kind c cb hc01 hl7) ?uc4b ?uc4f ?uc4x ?uc4t ?uc41 ?uc42 ?uc43 ?uc44 (i2.at N6) ?_; (case uc4b => assumption); (case uc4f => assumption); (case uc4x => assumption); (case uc4t => assumption); (case uc41 => exact rfl); (case uc42 => exact rfl); (case uc43 => assumption); (case uc44 => assumption))
  rintro r h7 tk7 K7 F7 ⟨tn, rfl⟩
  have N7 := N6.grown K7
  clear N6 F6 K7 i2
  rw [f2]
  obtain ⟨q, hq⟩ : ∃ q, lo / 2 ^ j = q := ⟨_, rfl⟩
  rw [hq] at b1 b2 b3 b4 ⊢
  have b1' : 0 ≤ q * 2 ^ ((j : Int)).toNat := b1
  have b2' : q * 2 ^ ((j : Int)).toNat ≤ lo := b2
  have b3' : hi < q * 2 ^ ((j : Int)).toNat + 2 ^ ((j : Int)).toNat := b3
  have p0 : (0 : Int) < 2 ^ ((j : Int)).toNat := pow_pos2 j
  have p7 : (2 : Int) ^ ((j : Int)).toNat ≤ 128 := pow2_le7 j (by omega)
  have w7 : (2 : Int) ^ wi ≤ 128 := pow2_le7 wi hw2
  dsimp only at *
  k_steps
  · rename News _ _ _ _ => Nz
    rename Fr _ _ _ _ => Fz
    have hb : q * 2 ^ j = lo ∧ q * 2 ^ j + 2 ^ j - 1 = hi := ⟨by assumption, by assumption⟩
    refine hret _ _ _ (hg' ▸ Fz.keep) (hg' ▸ ?_)
    rw [cov_block k hj (by rw [hq]) hb]
    exact BlocksNew.of Nz (one_block (.head _) (.tail _ (.head _)))
  all_goals
    have hne : ¬ (q * 2 ^ j = lo ∧ q * 2 ^ j + 2 ^ j - 1 = hi) := by
      rintro ⟨e1, e2⟩
      contradiction
    obtain ⟨c1, c2, c3, c4, c5⟩ := cut_facts h0 h1 h2 hj (by rw [hq]) hne
    obtain ⟨k', rfl⟩ : ∃ k', k = k' + 1 := ⟨k - 1, by omega⟩
    have hd2 : (2 ^ ((j : Int)).toNat : Int).fdiv 2 = 2 ^ j / 2 := by
      rw [Int.fdiv_eq_ediv_of_nonneg _ (by decide), Int.toNat_natCast]
    obtain ⟨mid, hmid⟩ : ∃ mid, q * 2 ^ ((j : Int)).toNat + (2 ^ ((j : Int)).toNat : Int).fdiv 2 = mid := ⟨_, rfl⟩
    have hmid2 : q * 2 ^ j + 2 ^ j / 2 = mid := by rw [← hmid, hd2, Int.toNat_natCast]
    have hcov := cov_cut k' hj (show lo / 2 ^ j * 2 ^ j = q * 2 ^ j by rw [hq]) hne
    rw [hmid2] at c2 c3 c4 c5 hcov
    have hrk : dp + 1 + (6 + k') < recursionLimit := by omega
    have huk : un + 3 + 8 * (6 + k') < cLine := by omega
    have hc2 : lo < q * 2 ^ ((j : Int)).toNat + (2 ^ ((j : Int)).toNat : Int).fdiv 2 := by rw [hmid]; exact c2
    have hc3 : q * 2 ^ ((j : Int)).toNat + (2 ^ ((j : Int)).toNat : Int).fdiv 2 ≤ hi := by rw [hmid]; exact c3
    first
    | (exfalso; omega)
    | contradiction
    | skip
  all_goals
    rename News _ _ _ _ => N8
    rename Fr _ _ _ _ => F8
    rw [hmid] at F8 ⊢
    (refine go ?_; refine' CallsTo.use (ih k' (Nat.lt_succ_self _) lo (mid - 1) (fuel - 1) _ _ _ _ _ h0 (by omega) (by omega) (by omega) (by omega) (by omega)) ?uc5b ?uc5f ?uc5x ?uc5t ?uc51 ?uc52 ?uc53 ?uc54 (trivial) ?_; (case uc5b => assumption); (case uc5f => assumption); (case uc5x => assumption); (case uc5t => assumption); (case uc51 => exact rfl); (case uc52 => exact rfl); (case uc53 => assumption); (case uc54 => assumption))
    rintro r1 h9 tk9 K9 F9 O1
    obtain ⟨a1, vs1, nx4, rfl, N9, _, bl1⟩ := O1.ledger F8 K9 N8
    clear O1 K9 F8 N8
    k_steps
    rename News _ _ _ _ => N10
    rename Fr _ _ _ _ => F10
    (refine go ?_; refine' CallsTo.use (ih k' (Nat.lt_succ_self _) mid hi (fuel - 1) _ _ _ _ _ (by omega) (by omega) h2 (by omega) (by omega) (by omega)) ?uc6b ?uc6f ?uc6x ?uc6t ?uc61 ?uc62 ?uc63 ?uc64 (trivial) ?_; (case uc6b => assumption); (case uc6f => assumption); (case uc6x => assumption); (case uc6t => assumption); (case uc61 => exact rfl); (case uc62 => exact rfl); (case uc63 => assumption); (case uc64 => assumption))
    rintro r2 h11 tk11 K11 F11 O2
    obtain ⟨a2, vs2, nx5, rfl, N11, s5, bl2⟩ := O2.ledger F10 K11 N10
    clear O2 K11 F10 N10
    have bl1 := bl1.mono s5
    k_steps
    rename News _ _ _ _ => N12
    rename Fr _ _ _ _ => F12
    refine go (add_lists F12 N12 (bl1.list N12).isList (bl2.list N12).isList (fun h' F' N' => ?_) ?_)
    · k_steps
      refine hret _ _ _ (hg' ▸ F'.keep) (hg' ▸ ?_)
      rw [hcov]
      exact BlocksNew.of N' ((bl1.mono fun _ h => .tail _ h).cat (n := 0) (bl2.mono fun _ h => .tail _ h) (.head _))
    · have z1 := cov_len wi k' lo (mid - 1)
      have z2 := cov_len wi k' mid hi
      have z3 : 2 ^ k' ≤ 2 ^ 6 := Nat.pow_le_pow_right (by decide) (by omega)
      rw [bl1.2.1, bl2.2.1, sizeLine_eq]
      omega
end Mine

end
section
open PySem PySem.W PySem.Calls PySem.Spec PyProof.Rows PyProof.Rows.LCg
namespace Mine
def NumsPost (g : Heap) (L : Addr) (m : Str → Option Value) (cells : List (Addr × Obj)) (s : Shared) (v : Value) (s' : Shared) : Prop :=
  ∃ D vs ns h tk c, v = .ref D ∧ s' = { s with heap := h, toks := tk } ∧ Fr g L h m ∧ News g L h ((D, W.listOf vs.toArray c) :: cells) ∧ IntsAre vs ns ∧ 1 ≤ ns.length ∧ ns.length ≤ 63 ∧ AllLt D cells
theorem nums_join {prog : Program} {w : World} {A : Around} {E : Value → Shared → Prop} {s : Shared} {g : Heap} {L : Addr} {m : Str → Option Value} {cells : List (Addr × Obj)} {t : Sem Value} {Q : Value → Shared → Prop} (F : Fr g L s.heap m) (N : News g L s.heap cells)
    (h1 : wpAny (model prog w) A t (NumsPost g L m cells s) E s)
    (h2 : ∀ D vs ns h tk c, Fr g L h m → News g L h ((D, W.listOf vs.toArray c) :: cells) → IntsAre vs ns → 1 ≤ ns.length → ns.length ≤ 63 → AllLt D cells → Q (.ref D) { s with heap := h, toks := tk }) : wpAny (model prog w) A t Q E s :=
  wpAny_mono h1 (fun v s' ⟨D, vs, ns, h, tk, c', e1, e2, F', N', a, b, c, d⟩ => by subst e1; subst e2; exact h2 D vs ns h tk c' F' N' a b c d) fun _ _ e => e
theorem nums_of {s : Shared} {g h : Heap} {L D d2 : Addr} {m : Str → Option Value} {cells : List (Addr × Obj)} {a : Array Value} {c tk : Nat} {o2 : Obj} {ns : List Int} (F : Fr g L h m) (N : News g L h ((D, W.listOf a c) :: (d2, o2) :: cells)) (hI : IntsAre a.toList ns)
    (h1 : 1 ≤ ns.length) (h2 : ns.length ≤ 63) (hl : AllLt D cells) : NumsPost g L m cells s (.ref D) { s with heap := h, toks := tk } :=
  ⟨D, a.toList, ns, h, tk, c, rfl, rfl, F, fun p hp => N p (by
    rcases List.mem_cons.mp hp with rfl | hp
    · exact .head _
    · exact .tail _ (.tail _ hp)), hI, h1, h2, hl⟩

theorem places_of {ys : List Value} {n : Nat} {f : Int → Int} {r : Int} (hr : 0 ≤ r ∧ r < 6) (hn : n = 11) (h : IntsAre ys (List.map (fun k' => if 0 ≤ r ∧ r < 6 then k'.fmod (2 ^ (2 + r).toNat) else k') (List.drop 3 (List.map f (rangeKs 0 n))))) :
    ∃ (ps : List Int) (wi : Nat), (wi : Int) = 2 + r ∧ 2 ≤ wi ∧ wi ≤ 7 ∧ IntsAre ys ps ∧ ps.length = 8 ∧ ∀ p ∈ ps, 0 ≤ p ∧ p < 2 ^ wi := by
  subst hn
  refine ⟨_, (2 + r).toNat, by omega, by omega, by omega, h, ?_, ?_⟩
  · simp [rangeKs]
  · intro p hp
    obtain ⟨k, _, rfl⟩ := List.mem_map.mp hp
    rw [if_pos hr]
    have hp := pow_pos2 (2 + r).toNat
    exact ⟨Int.fmod_nonneg_of_pos _ hp, Int.fmod_lt_of_pos _ hp⟩
theorem FrontAt.enter {kind : Int} {g h : Heap} {L : Addr} {nx : List (Addr × Obj)} {v : Value} {bs : List Int} (x : FrontAt kind h v bs) (N : News g L h nx) (o : Own g L v) :
    ∃ new, News g L h (new ++ nx) ∧ FrontIn kind new v bs ∧ ∀ p ∈ new, v = .ref p.1 := by
  rcases x with x | ⟨e, a, vs, e2, ⟨n, hl⟩, hi⟩ | ⟨e, a, vs, n, e2, hl, hi⟩
  · exact ⟨[], N, .inl x, fun _ h => nomatch h⟩
  · refine ⟨[(a, lstO vs n)], fun p hp => ?_, .inr (.inl ⟨e, a, vs, n, e2, .head _, hi⟩), fun p hp => by rw [List.mem_singleton.mp hp]; exact e2⟩
    rcases List.mem_cons.mp hp with rfl | hp
    · exact ⟨hl, o a e2⟩
    · exact N p hp
  · refine ⟨[(a, tupO vs n)], fun p hp => ?_, .inr (.inr ⟨e, a, vs, n, e2, .head _, hi⟩), fun p hp => by rw [List.mem_singleton.mp hp]; exact e2⟩
    rcases List.mem_cons.mp hp with rfl | hp
    · exact ⟨hl, o a e2⟩
    · exact N p hp
theorem News.mid {g h : Heap} {L : Addr} {new K tl : List (Addr × Obj)} (N : News g L h (new ++ (K ++ tl))) : News g L h (K ++ (new ++ tl)) := fun p hp => N p (by
  rcases List.mem_append.mp hp with hp | hp
  · exact List.mem_append_right _ (List.mem_append_left _ hp)
  · rcases List.mem_append.mp hp with hp | hp
    · exact List.mem_append_left _ hp
    · exact List.mem_append_right _ (List.mem_append_right _ hp))
/-- the signs of the places, gathered so far -/
def FrontsIn (kind : Int) (w : Nat) (tl : List (Addr × Obj)) (zs : List Value) (ps : List Int) (i : Nat) : Prop :=
  zs.length = i ∧ ∀ (k : Nat) (v : Value), zs[k]? = some v → ∃ p, ps[k]? = some p ∧ FrontIn kind tl v (bits p w)
theorem FrontsIn.snoc {kind : Int} {w : Nat} {tl new : List (Addr × Obj)} {zs : List Value} {ps : List Int} {i : Nat} {v : Value} {p : Int} (x : FrontsIn kind w tl zs ps i) (hp : ps[i]? = some p) (y : FrontIn kind new v (bits p w)) : FrontsIn kind w (new ++ tl) (zs ++ [v]) ps (i + 1) := by
  refine ⟨by rw [List.length_append, x.1]; rfl, fun k u hu => ?_⟩
  rcases Nat.lt_or_ge k zs.length with hlt | hge
  · rw [List.getElem?_append_left hlt] at hu
    obtain ⟨q, a, b⟩ := x.2 k u hu
    exact ⟨q, a, b.mono fun _ h => List.mem_append_right _ h⟩
  · rw [List.getElem?_append_right hge] at hu
    have hk : k - zs.length = 0 := by
      have := (List.getElem?_eq_some_iff.mp hu).1
      simp at this; omega
    rw [hk] at hu
    cases hu
    have : k = i := by rw [← x.1]; omega
    exact ⟨p, this ▸ hp, y.mono fun _ h => List.mem_append_left _ h⟩
theorem FrontsIn.at {kind : Int} {g h : Heap} {L : Addr} {w n : Nat} {tl nx : List (Addr × Obj)} {zs : List Value} {ps : List Int} (x : FrontsIn kind w tl zs ps n) (hn : ps.length = n) (N : News g L h nx) (sub : ∀ p ∈ tl, p ∈ nx) : FrontsAt kind h w zs (ps.map fun p => bits p w) := by
  refine ⟨by rw [x.1, List.length_map, hn], ?_, fun i v hv => ?_⟩
  · intro bs hb
    obtain ⟨p, _, rfl⟩ := List.mem_map.mp hb
    exact ⟨bits_length .., bits_01 _ _⟩
  · obtain ⟨p, a, b⟩ := x.2 i v hv
    exact ⟨bits p w, by rw [List.getElem?_map, a]; rfl, (b.mono sub).at N⟩
theorem FrontsIn.own {kind : Int} {g h : Heap} {L : Addr} {w n : Nat} {tl nx : List (Addr × Obj)} {zs : List Value} {ps : List Int} {v : Value} (x : FrontsIn kind w tl zs ps n) (N : News g L h nx) (sub : ∀ p ∈ tl, p ∈ nx) (hv : v ∈ zs) : Own g L v := by
  obtain ⟨i, hi⟩ := List.getElem?_of_mem hv
  obtain ⟨p, _, b⟩ := x.2 i v hi
  exact (b.mono sub).own N
theorem FrontsIn.nil {kind : Int} {w : Nat} {tl : List (Addr × Obj)} {ps : List Int} : FrontsIn kind w tl [] ps 0 := ⟨rfl, fun k v h => by simp at h⟩
/-- least and greatest of the places -/
theorem place_lcp {w : Nat} {p0 : Int} {pr : List Int} (h : ∀ p ∈ p0 :: pr, 0 ≤ p ∧ p < 2 ^ w) :
    ∃ mn mx, lcp (lexMin ((p0 :: pr).map fun p => bits p w)) (lexMax ((p0 :: pr).map fun p => bits p w)) = lcp (bits mn w) (bits mx w) ∧ mn ∈ p0 :: pr ∧ mx ∈ p0 :: pr ∧ ∀ p ∈ p0 :: pr, mn ≤ p ∧ p ≤ mx := by
  have h0 := h p0 List.mem_cons_self
  have hr : ∀ y ∈ pr, 0 ≤ y ∧ y < 2 ^ w := fun y hy => h y (List.mem_cons_of_mem _ hy)
  refine ⟨pr.foldl min p0, pr.foldl max p0, by rw [lexMin_bits p0 pr h0 hr, lexMax_bits p0 pr h0 hr], ?_, ?_, ?_⟩
  · clear h h0 hr
    induction pr generalizing p0 with
    | nil => exact List.mem_cons_self
    | cons y r ih =>
      have := ih (p0 := min p0 y)
      rw [List.foldl_cons]
      rcases List.mem_cons.mp this with e | e
      · rw [e]; rcases Int.le_total p0 y with q | q
        · rw [Int.min_eq_left q]; exact List.mem_cons_self
        · rw [Int.min_eq_right q]; exact List.mem_cons_of_mem _ List.mem_cons_self
      · exact List.mem_cons_of_mem _ (List.mem_cons_of_mem _ e)
  · clear h h0 hr
    induction pr generalizing p0 with
    | nil => exact List.mem_cons_self
    | cons y r ih =>
      have := ih (p0 := max p0 y)
      rw [List.foldl_cons]
      rcases List.mem_cons.mp this with e | e
      · rw [e]; rcases Int.le_total p0 y with q | q
        · rw [Int.max_eq_right q]; exact List.mem_cons_of_mem _ List.mem_cons_self
        · rw [Int.max_eq_left q]; exact List.mem_cons_self
      · exact List.mem_cons_of_mem _ (List.mem_cons_of_mem _ e)
  · clear h h0 hr
    induction pr generalizing p0 with
    | nil => intro p hp; rw [List.mem_singleton.mp hp]; exact ⟨Int.le_refl _, Int.le_refl _⟩
    | cons y r ih =>
      intro p hp
      rw [List.foldl_cons, List.foldl_cons]
      have a := ih (p0 := min p0 y)
      have b := ih (p0 := max p0 y)
      have a0 := (a (min p0 y) List.mem_cons_self).1
      have b0 := (b (max p0 y) List.mem_cons_self).2
      rcases List.mem_cons.mp hp with rfl | hp
      · omega
      · rcases List.mem_cons.mp hp with rfl | hp
        · omega
        · exact ⟨(a p (List.mem_cons_of_mem _ hp)).1, (b p (List.mem_cons_of_mem _ hp)).2⟩
/-- the block that holds all the places is the smallest -/
theorem place_facts {w : Nat} {ps : List Int} {p0 mn mx : Int} {j : Nat} (hp0 : p0 ∈ ps) (h : ∀ p ∈ ps, 0 ≤ p ∧ p < 2 ^ w) (h1 : mn ∈ ps) (h2 : mx ∈ ps) (h3 : ∀ p ∈ ps, mn ≤ p ∧ p ≤ mx) (hj : Lf w mn mx = j) :
    j ≤ w ∧ (∀ p ∈ ps, p.fdiv (2 ^ ((j : Int)).toNat) = p0.fdiv (2 ^ ((j : Int)).toNat)) ∧ (0 < (j : Int) → ∃ p ∈ ps, p.fdiv (2 ^ ((j : Int) - 1).toNat) ≠ p0.fdiv (2 ^ ((j : Int) - 1).toNat)) := by
  obtain ⟨a1, _, a3, a4⟩ := block_facts (h mn h1).1 (h3 mn h1).2 (h mx h2).2
  rw [hj] at a1 a3 a4
  have fd : ∀ (p : Int) (n : Nat), p.fdiv (2 ^ n) = p / 2 ^ n := fun p n => Int.fdiv_eq_ediv_of_nonneg _ (Int.le_of_lt (pow_pos2 n))
  refine ⟨a1, fun p hp => ?_, fun hj0 => ?_⟩
  · rw [Int.toNat_natCast, fd, fd]
    have same : ∀ q ∈ ps, q / 2 ^ j = mn / 2 ^ j := fun q hq => by
      have u1 := Int.ediv_le_ediv (pow_pos2 j) (h3 q hq).1
      have u2 := Int.ediv_le_ediv (pow_pos2 j) (h3 q hq).2
      omega
    rw [same p hp, same p0 hp0]
  · have e : ((j : Int) - 1).toNat = j - 1 := by omega
    rw [e]
    rcases Decidable.em (mn.fdiv (2 ^ (j - 1)) = p0.fdiv (2 ^ (j - 1))) with q | q
    · refine ⟨mx, h2, fun r => a4 (by omega) ?_⟩
      rw [← fd, ← fd, q, r]
    · exact ⟨mn, h1, q⟩
/-- what the two comprehensions with a condition gather -/
theorem sieve_none {ps : List Int} {c : Int → Prop} [DecidablePred c] (h : ∀ p ∈ ps, ¬ c p) (l : List Int) : ps.foldl (fun l k => if c k then l ++ [k] else l) l = l := by
  induction ps generalizing l with
  | nil => rfl
  | cons p r ih =>
    rw [List.foldl_cons, if_neg (h p List.mem_cons_self)]
    exact ih (fun q hq => h q (List.mem_cons_of_mem _ hq)) l
theorem sieve_grow {ps : List Int} {c : Int → Prop} [DecidablePred c] (l : List Int) : l.length ≤ (ps.foldl (fun l k => if c k then l ++ [k] else l) l).length := by
  induction ps generalizing l with
  | nil => exact Nat.le_refl _
  | cons p r ih =>
    rw [List.foldl_cons]
    refine Nat.le_trans ?_ (ih _)
    split
    · rw [List.length_append]; omega
    · exact Nat.le_refl _
theorem sieve_some {ps : List Int} {c : Int → Prop} [DecidablePred c] (h : ∃ p ∈ ps, c p) (l : List Int) : 0 < (ps.foldl (fun l k => if c k then l ++ [k] else l) l).length := by
  induction ps generalizing l with
  | nil => obtain ⟨p, hp, _⟩ := h; cases hp
  | cons p r ih =>
    rw [List.foldl_cons]
    by_cases hc : c p
    · rw [if_pos hc]
      have := sieve_grow (ps := r) (c := c) (l ++ [p])
      rw [List.length_append] at this
      simp at this
      omega
    · rw [if_neg hc]
      obtain ⟨q, hq, hcq⟩ := h
      rcases List.mem_cons.mp hq with rfl | hq
      · exact absurd hcq hc
      · exact ih ⟨q, hq, hcq⟩ l
theorem fm3 (x : Int) : 0 ≤ x.fmod 3 ∧ x.fmod 3 ≤ 2 := ⟨Int.fmod_nonneg_of_pos _ (by decide), Int.le_of_lt_add_one (Int.fmod_lt_of_pos _ (by decide))⟩
theorem fm6 (x : Int) : 0 ≤ x.fmod 6 ∧ x.fmod 6 < 6 := ⟨Int.fmod_nonneg_of_pos _ (by decide), Int.fmod_lt_of_pos _ (by decide)⟩
section
variable {g h : Heap} {L : Addr} {new tl r : List (Addr × Obj)} {a b c d k1 k2 k3 k4 k5 k6 k7 : Addr × Obj}
theorem News.pick (N : News g L h (a :: b :: c :: d :: r)) : News g L h (a :: c :: r) := fun p hp => N p (by
  rcases List.mem_cons.mp hp with rfl | hp
  · exact .head _
  · rcases List.mem_cons.mp hp with rfl | hp
    · exact .tail _ (.tail _ (.head _))
    · exact .tail _ (.tail _ (.tail _ (.tail _ hp))))
theorem News.mid10 (N : News g L h (new ++ (a :: b :: c :: k1 :: k2 :: k3 :: k4 :: k5 :: k6 :: k7 :: tl))) : News g L h (a :: b :: c :: k1 :: k2 :: k3 :: k4 :: k5 :: k6 :: k7 :: (new ++ tl)) := News.mid (K := [a, b, c, k1, k2, k3, k4, k5, k6, k7]) N
theorem News.mid7 (N : News g L h (new ++ (d :: k1 :: k2 :: k3 :: k4 :: k5 :: k6 :: k7 :: tl))) : News g L h (k1 :: k2 :: k3 :: k4 :: k5 :: k6 :: k7 :: (new ++ tl)) :=
  fun p hp => (News.mid (K := [d, k1, k2, k3, k4, k5, k6, k7]) N) p (.tail _ hp)
theorem News.take7 (N : News g L h (k1 :: k2 :: k3 :: k4 :: k5 :: k6 :: k7 :: tl)) : News g L h [k1, k2, k3, k4, k5, k6, k7] := fun p hp => N p (List.mem_append_left (as := [k1, k2, k3, k4, k5, k6, k7]) tl hp)
theorem mem7 : ∀ p ∈ tl, p ∈ (k1 :: k2 :: k3 :: k4 :: k5 :: k6 :: k7 :: tl) := fun p hp => List.mem_append_right [k1, k2, k3, k4, k5, k6, k7] hp
theorem mem8 : ∀ p ∈ tl, p ∈ (d :: k1 :: k2 :: k3 :: k4 :: k5 :: k6 :: k7 :: tl) := fun p hp => List.mem_append_right [d, k1, k2, k3, k4, k5, k6, k7] hp
theorem Off3.mid7 {I C D : Addr} (off : Off3 I C D (k1 :: k2 :: k3 :: k4 :: k5 :: k6 :: k7 :: tl)) (hn : ∀ p ∈ new, p.1 ≠ I ∧ p.1 ≠ C ∧ p.1 ≠ D) : Off3 I C D (k1 :: k2 :: k3 :: k4 :: k5 :: k6 :: k7 :: (new ++ tl)) :=
  Off3.of fun p hp => by
    rcases List.mem_append.mp (show p ∈ [k1, k2, k3, k4, k5, k6, k7] ++ (new ++ tl) from hp) with hp | hp
    · exact off.mem p (List.mem_append_left (as := [k1, k2, k3, k4, k5, k6, k7]) tl hp)
    · rcases List.mem_append.mp hp with hp | hp
      · exact hn p hp
      · exact off.mem p (mem7 p hp)
theorem fresh_off {I C D : Addr} {oI oC oD : Obj} {v : Value} (N : News g L h ((I, oI) :: (C, oC) :: (D, oD) :: r)) (fr : Fresh h v) (hn : ∀ p ∈ new, v = .ref p.1) : ∀ p ∈ new, p.1 ≠ I ∧ p.1 ≠ C ∧ p.1 ≠ D := fun p hp => by
  have e := fr p.1 (hn p hp)
  have a := (N _ (.head _)).1
  have b := (N _ (.tail _ (.head _))).1
  have c := (N _ (.tail _ (.tail _ (.head _)))).1
  refine ⟨fun q => ?_, fun q => ?_, fun q => ?_⟩
  · rw [q] at e; rw [e] at a; cases a
  · rw [q] at e; rw [e] at b; cases b
  · rw [q] at e; rw [e] at c; cases c
end
theorem left_is {w : Nat} {mn mx : Int} {j : Nat} (h0 : 0 ≤ mn) (h1 : mn < 2 ^ w) (h2 : 0 ≤ mx) (h3 : mx < 2 ^ w) (hj : Lf w mn mx = j) : (w : Int) - ((lcp (bits mn w) (bits mx w)).length : Int) = (j : Int) ∧ (lcp (bits mn w) (bits mx w)).length ≤ w := by
  have e : w - (lcp (bits mn w) (bits mx w)).length = j := hj
  have := (lcp_facts w mn mx ((small_div h0 h1).trans (small_div h2 h3).symm)).1
  omega
theorem kci_grows {c : Int → Prop} [DecidablePred c] : KPfGrows (fun l k => if c k then l ++ [k] else l) := fun l k => by
  dsimp only
  split
  · simp
  · omega
end Mine

end
section
open PySem PySem.W PySem.Calls PySem.Spec PyProof.Rows PyProof.Rows.LCg
namespace Mine

def IfPost (g : Heap) (L : Addr) (m : Str → Option Value) (K : List (Addr × Obj)) (s : Shared) (f : Flow) (s' : Shared) : Prop :=
  match f with
  | .next => ∃ h tk, s' = { s with heap := h, toks := tk } ∧ Fr g L h m ∧ News g L h K
  | _ => False
theorem if_join {prog : Program} {w : World} {A : Around} {E : Value → Shared → Prop} {s : Shared} {g : Heap} {L : Addr} {m : Str → Option Value} {K : List (Addr × Obj)} {t : Sem Flow} {Q : Flow → Shared → Prop} (_ : Fr g L s.heap m) (_ : News g L s.heap K)
    (h1 : wpAny (model prog w) A t (IfPost g L m K s) E s) (h2 : ∀ h tk, Fr g L h m → News g L h K → Q .next { s with heap := h, toks := tk }) : wpAny (model prog w) A t Q E s :=
  wpAny_mono h1 (fun f s' p => by
    cases f with
    | next => obtain ⟨h, tk, rfl, F', N'⟩ := p; exact h2 h tk F' N'
    | brk => exact p.elim
    | cont => exact p.elim
    | ret v => exact p.elim) fun _ _ e => e
theorem two_facts {v : List Value} {n : List Int} {a b : Int} {wi : Nat} (hi : IntsAre v n) (hl : n.length = 2) (hp : n.Perm [a.fmod (2 ^ ((wi : Int)).toNat), b.fmod (2 ^ ((wi : Int)).toNat)]) (hs : List.Pairwise (fun x y => x ≤ y) n) :
    ∃ lo hi ta tb, v = [.int lo ta, .int hi tb] ∧ n = [lo, hi] ∧ 0 ≤ lo ∧ lo ≤ hi ∧ hi < 2 ^ wi := by
  have hpw := pow_pos2 wi
  rw [Int.toNat_natCast] at hp
  cases hi with
  | nil => cases hl
  | cons x tx r =>
    cases r with
    | nil => cases hl
    | cons y ty r =>
      cases r with
      | cons => simp at hl
      | nil =>
        have hr : ∀ q ∈ [x, y], 0 ≤ q ∧ q < 2 ^ wi := fun q hq => by
          have := (hp.mem_iff).mp hq
          rcases List.mem_cons.mp this with rfl | this
          · exact ⟨Int.fmod_nonneg_of_pos _ hpw, Int.fmod_lt_of_pos _ hpw⟩
          · rw [List.mem_singleton.mp this]; exact ⟨Int.fmod_nonneg_of_pos _ hpw, Int.fmod_lt_of_pos _ hpw⟩
        have hxy : x ≤ y := by
          cases hs with
          | cons h _ => exact h y List.mem_cons_self
        exact ⟨x, y, tx, ty, rfl, rfl, (hr x List.mem_cons_self).1, hxy, (hr y (List.mem_cons_of_mem _ List.mem_cons_self)).2⟩
section
variable {g h : Heap} {L : Addr} {new tl : List (Addr × Obj)} {d e k1 k2 k3 k4 k5 k6 k7 : Addr × Obj}
theorem News.mid7b (N : News g L h (new ++ (d :: e :: k1 :: k2 :: k3 :: k4 :: k5 :: k6 :: k7 :: tl))) : News g L h (k1 :: k2 :: k3 :: k4 :: k5 :: k6 :: k7 :: (new ++ tl)) :=
  fun p hp => (News.mid (K := [d, e, k1, k2, k3, k4, k5, k6, k7]) N) p (.tail _ (.tail _ hp))
theorem News.mid7c (N : News g L h (new ++ (k1 :: k2 :: k3 :: k4 :: k5 :: k6 :: k7 :: tl))) : News g L h (k1 :: k2 :: k3 :: k4 :: k5 :: k6 :: k7 :: (new ++ tl)) := News.mid (K := [k1, k2, k3, k4, k5, k6, k7]) N
theorem News.drop2 {x y : Addr × Obj} (N : News g L h (x :: y :: tl)) : News g L h tl := fun p hp => N p (.tail _ (.tail _ hp))
theorem News.drop1 {x : Addr × Obj} (N : News g L h (x :: tl)) : News g L h tl := fun p hp => N p (.tail _ hp)
end
theorem BlocksNew.enter {g h h' : Heap} {L : Addr} {m : Str → Option Value} {nx : List (Addr × Obj)} {r : Value} {blks : List (Int × Nat)} (x : BlocksNew h h' r blks) (F : Fr g L h m) (k : Kept h h') (N : News g L h nx) :
    ∃ a vs new, r = .ref a ∧ News g L h' (new ++ nx) ∧ BlocksIn new a vs blks := by
  obtain ⟨a, vs, nz, e, hn, hb⟩ := x
  refine ⟨a, vs, nz, e, fun p hp => ?_, hb⟩
  rcases List.mem_append.mp hp with hp | hp
  · obtain ⟨h1, h2⟩ := hn p hp
    have fr : Fresh h (.ref p.1) := fun b e => by cases e; exact h2
    exact ⟨h1, fr.own F p.1 rfl⟩
  · exact N.grown k p hp
theorem lst_of {g h : Heap} {L a : Addr} {k1 k2 k3 k4 k5 k6 k7 : Addr × Obj} {n1 n2 tl : List (Addr × Obj)} {vs : List Value} {blks : List (Int × Nat)} (N : News g L h (k1 :: k2 :: k3 :: k4 :: k5 :: k6 :: k7 :: (n2 ++ (n1 ++ tl)))) (b : BlocksIn n1 a vs blks) : h.PlainList a vs.toArray ∧ ItemsAt h vs blks :=
  have x := b.mono (ny := k1 :: k2 :: k3 :: k4 :: k5 :: k6 :: k7 :: (n2 ++ (n1 ++ tl))) fun _ h => mem7 _ (List.mem_append_right n2 (List.mem_append_left tl h))
  ⟨x.list N, x.items N⟩
theorem lst_of2 {g h : Heap} {L a : Addr} {k1 k2 k3 k4 k5 k6 k7 : Addr × Obj} {n2 tl : List (Addr × Obj)} {vs : List Value} {blks : List (Int × Nat)} (N : News g L h (k1 :: k2 :: k3 :: k4 :: k5 :: k6 :: k7 :: (n2 ++ tl))) (b : BlocksIn n2 a vs blks) : h.PlainList a vs.toArray ∧ ItemsAt h vs blks :=
  have x := b.mono (ny := k1 :: k2 :: k3 :: k4 :: k5 :: k6 :: k7 :: (n2 ++ tl)) fun _ h => mem7 _ (List.mem_append_left tl h)
  ⟨x.list N, x.items N⟩
theorem pow4 {wi : Nat} (hw : 2 ≤ wi) : (4 : Int) ≤ 2 ^ wi := by
  obtain ⟨k, rfl⟩ := Nat.exists_eq_add_of_le hw
  have := pow_pos2 k
  rw [Int.pow_add]
  have e : (2 : Int) ^ 2 = 4 := rfl
  rw [e]; omega
end Mine

end
section
open PySem PySem.W PySem.Calls PySem.Spec PyProof.Rows PyProof.Rows.LCg
namespace Mine
/-- blocks that lie one behind the other from a to b, each at a multiple of its size -/
def Tile (w : Nat) : Int → List (Int × Nat) → Int → Prop
  | a, [], b => a = b
  | a, (s, l) :: r, b => s = a ∧ s % 2 ^ l = 0 ∧ l ≤ w ∧ Tile w (a + 2 ^ l) r b
theorem Tile.append {w : Nat} : ∀ {xs ys : List (Int × Nat)} {a b c : Int}, Tile w a xs b → Tile w b ys c → Tile w a (xs ++ ys) c
  | [], _, _, _, _, h, k => by cases h; exact k
  | (_, _) :: _, _, _, _, _, ⟨h1, h2, h3, h4⟩, k => ⟨h1, h2, h3, h4.append k⟩
theorem Tile.le {w : Nat} : ∀ {xs : List (Int × Nat)} {a b : Int}, Tile w a xs b → a ≤ b
  | [], _, _, h => by cases h; exact Int.le_refl _
  | (_, l) :: _, _, _, ⟨_, _, _, h4⟩ => by have := h4.le; have := pow_pos2 l; omega
theorem Tile.walk {w : Nat} (hw2 : w ≤ 7) : ∀ {xs : List (Int × Nat)} {a b : Int}, Tile w a xs b → 0 ≤ a → b ≤ 128 →
    ∃ P : Nat → Int, P 0 = a ∧ P xs.length = b ∧ ∀ i s l, xs[i]? = some (s, l) → s = P i ∧ P (i + 1) = s + 2 ^ l ∧ s % 2 ^ l = 0 ∧ l ≤ 7 ∧ 0 ≤ s ∧ s ≤ 128
  | [], a, b, h, _, _ => ⟨fun _ => a, rfl, h, fun i s l e => by simp at e⟩
  | (s, l) :: r, a, b, ⟨h1, h2, h3, h4⟩, h0, hb => by
    have hp := pow_pos2 l
    obtain ⟨P, p0, pn, hP⟩ := h4.walk hw2 (by omega) hb
    have hle := h4.le
    refine ⟨fun i => match i with | 0 => a | i + 1 => P i, rfl, pn, fun i s' l' e => ?_⟩
    cases i with
    | zero =>
      cases e
      exact ⟨h1, by show P 0 = _; rw [p0, h1], h2, by omega, by omega, by omega⟩
    | succ i => exact hP i s' l' e
theorem cov_tile {w : Nat} : ∀ (k : Nat) {lo hi : Int}, 0 ≤ lo → lo ≤ hi → hi < 2 ^ w → Lf w lo hi ≤ k → Tile w lo (cov w k lo hi) (hi + 1) := by
  intro k
  induction k with
  | zero =>
    intro lo hi h0 h1 h2 hL
    obtain ⟨j, hj⟩ : ∃ j, Lf w lo hi = j := ⟨_, rfl⟩
    obtain ⟨s, hs⟩ : ∃ s, lo / 2 ^ j * 2 ^ j = s := ⟨_, rfl⟩
    obtain ⟨b1, b2, b3, b4⟩ := start_facts h0 h1 h2
    obtain ⟨a1, _⟩ := block_facts h0 h1 h2
    rw [hj] at a1 b1 b2 b3 b4
    rw [hs] at b1 b2 b3 b4
    by_cases hb : s = lo ∧ s + 2 ^ j - 1 = hi
    · rw [cov_block _ hj hs hb]
      exact ⟨hb.1, b4, a1, by show _ = _; omega⟩
    · have := (cut_facts h0 h1 h2 hj hs hb).1
      omega
  | succ k ih =>
    intro lo hi h0 h1 h2 hL
    obtain ⟨j, hj⟩ : ∃ j, Lf w lo hi = j := ⟨_, rfl⟩
    obtain ⟨s, hs⟩ : ∃ s, lo / 2 ^ j * 2 ^ j = s := ⟨_, rfl⟩
    obtain ⟨b1, b2, b3, b4⟩ := start_facts h0 h1 h2
    obtain ⟨a1, _⟩ := block_facts h0 h1 h2
    rw [hj] at a1 b1 b2 b3 b4
    rw [hs] at b1 b2 b3 b4
    by_cases hb : s = lo ∧ s + 2 ^ j - 1 = hi
    · rw [cov_block _ hj hs hb]
      exact ⟨hb.1, b4, a1, by show _ = _; omega⟩
    · rw [cov_cut _ hj hs hb]
      obtain ⟨c1, c2, c3, c4, c5⟩ := cut_facts h0 h1 h2 hj hs hb
      have t1 := ih h0 (show lo ≤ s + 2 ^ j / 2 - 1 by omega) (by omega) (by omega)
      have t2 := ih (show 0 ≤ s + 2 ^ j / 2 by omega) c3 h2 (by omega)
      rw [Int.sub_add_cancel] at t1
      exact t1.append t2
theorem cov_tiles {w k : Nat} {lo hi : Int} (h0 : 0 ≤ lo) (h1 : lo ≤ hi) (h2 : hi < 2 ^ w) (hw2 : w ≤ 7) (hL : Lf w lo hi ≤ k) :
    ∃ P : Nat → Int, P 0 = lo ∧ P (cov w k lo hi).length = hi + 1 ∧ ∀ i s l, (cov w k lo hi)[i]? = some (s, l) → s = P i ∧ P (i + 1) = s + 2 ^ l ∧ s % 2 ^ l = 0 ∧ l ≤ 7 ∧ 0 ≤ s ∧ s ≤ 128 :=
  (cov_tile k h0 h1 h2 hL).walk hw2 h0 (by have := pow2_le7 w hw2; omega)
/-- no block lies across where the range is cut -/
theorem Tile.split {w : Nat} {mid : Int} : ∀ {xs : List (Int × Nat)} {a b : Int}, Tile w a xs b → a ≤ mid → mid ≤ b → (∀ s l, s % 2 ^ l = 0 → a ≤ s → s < mid → s + 2 ^ l ≤ b → s + 2 ^ l ≤ mid) →
    ∃ ys zs, xs = ys ++ zs ∧ Tile w a ys mid ∧ Tile w mid zs b
  | [], a, b, h, h1, h2, _ => by
    cases h
    have : a = mid := by omega
    subst this
    exact ⟨[], [], rfl, rfl, rfl⟩
  | (s, l) :: r, a, b, ht, h1, h2, hn => by
    by_cases e : a = mid
    · subst e; exact ⟨[], _, rfl, rfl, ht⟩
    · obtain ⟨t1, t2, t3, t4⟩ := ht
      subst t1
      have hm := hn s l t2 (Int.le_refl _) (by omega) t4.le
      have hp := pow_pos2 l
      obtain ⟨ys, zs, e1, e2, e3⟩ := t4.split hm h2 fun s' l' q1 q2 q3 q4 => hn s' l' q1 (by omega) q3 q4
      exact ⟨(s, l) :: ys, zs, by rw [e1]; rfl, ⟨rfl, t2, t3, e2⟩, e3⟩
theorem pow_dvd_pow2 {i j : Nat} (h : i ≤ j) : (2 : Int) ^ i ∣ 2 ^ j := by
  obtain ⟨k, rfl⟩ := Nat.exists_eq_add_of_le h
  rw [Int.pow_add]
  exact Int.dvd_mul_right _ _
theorem mod_small {s : Int} {i j : Nat} (h : i ≤ j) (hs : s % 2 ^ j = 0) : s % 2 ^ i = 0 :=
  Int.emod_eq_zero_of_dvd (Int.dvd_trans (pow_dvd_pow2 h) (Int.dvd_of_emod_eq_zero hs))
/-- two multiples: one that is less lies a whole size off -/
theorem step_off {s t p : Int} (hp : 0 < p) (hs : s % p = 0) (ht : t % p = 0) (h : s < t) : s + p ≤ t := by
  obtain ⟨a, rfl⟩ := Int.dvd_of_emod_eq_zero hs
  obtain ⟨b, rfl⟩ := Int.dvd_of_emod_eq_zero ht
  have hab : a < b := Int.lt_of_mul_lt_mul_left h (Int.le_of_lt hp)
  have : p * (a + 1) ≤ p * b := Int.mul_le_mul_of_nonneg_left (by omega) (Int.le_of_lt hp)
  rw [Int.mul_add, Int.mul_one] at this
  exact this
theorem no_across {w : Nat} {lo hi s : Int} {j : Nat} (h0 : 0 ≤ lo) (h1 : lo ≤ hi) (h2 : hi < 2 ^ w) (hj : Lf w lo hi = j) (hs : lo / 2 ^ j * 2 ^ j = s) (hne : ¬ (s = lo ∧ s + 2 ^ j - 1 = hi)) :
    ∀ t l, t % 2 ^ l = 0 → lo ≤ t → t < s + 2 ^ j / 2 → t + 2 ^ l ≤ hi + 1 → t + 2 ^ l ≤ s + 2 ^ j / 2 := by
  intro t l ht hlt htm hth
  obtain ⟨c1, c2, c3, _, _⟩ := cut_facts h0 h1 h2 hj hs hne
  obtain ⟨b1, b2, b3, b4⟩ := start_facts h0 h1 h2
  rw [hj] at b1 b2 b3 b4
  rw [hs] at b1 b2 b3 b4
  obtain ⟨e1, e2⟩ := half_pow c1
  have hm := mod_half c1 b4
  have hm2 : (s + 2 ^ (j - 1)) % 2 ^ (j - 1) = 0 := by rw [Int.add_emod_right, hm]
  rw [e2] at htm ⊢
  rcases Nat.lt_or_ge l j with hl | hl
  · exact step_off (pow_pos2 l) ht (mod_small (by omega) hm2) htm
  · exfalso
    have ht2 := mod_small hl ht
    have hp := pow_pos2 j
    have hpl : (2 : Int) ^ j ≤ 2 ^ l := Int.le_of_dvd (pow_pos2 l) (pow_dvd_pow2 hl)
    have hts : t = s := by
      rcases Int.lt_trichotomy t s with q | q | q
      · omega
      · exact q
      · have := step_off hp b4 ht2 q
        have hp1 := pow_pos2 (j - 1)
        omega
    exact hne ⟨by omega, by omega⟩
/-- no tiling has fewer blocks -/
theorem cov_least {w : Nat} : ∀ (k : Nat) {lo hi : Int} {xs : List (Int × Nat)}, 0 ≤ lo → lo ≤ hi → hi < 2 ^ w → Tile w lo xs (hi + 1) → (cov w k lo hi).length ≤ xs.length := by
  have one : ∀ {lo hi : Int} {xs : List (Int × Nat)}, lo ≤ hi → Tile w lo xs (hi + 1) → 1 ≤ xs.length := by
    intro lo hi xs h1 ht
    cases xs with
    | nil => have e : lo = hi + 1 := ht; omega
    | cons a r => exact Nat.succ_le_succ (Nat.zero_le _)
  intro k
  induction k with
  | zero => intro lo hi xs h0 h1 h2 ht; exact one h1 ht
  | succ k ih =>
    intro lo hi xs h0 h1 h2 ht
    obtain ⟨j, hj⟩ : ∃ j, Lf w lo hi = j := ⟨_, rfl⟩
    obtain ⟨s, hs⟩ : ∃ s, lo / 2 ^ j * 2 ^ j = s := ⟨_, rfl⟩
    by_cases hb : s = lo ∧ s + 2 ^ j - 1 = hi
    · rw [cov_block _ hj hs hb]; exact one h1 ht
    · rw [cov_cut _ hj hs hb]
      obtain ⟨c1, c2, c3, c4, c5⟩ := cut_facts h0 h1 h2 hj hs hb
      obtain ⟨ys, zs, rfl, t1, t2⟩ := ht.split (mid := s + 2 ^ j / 2) (by omega) (by omega) (no_across h0 h1 h2 hj hs hb)
      have u1 := ih h0 (show lo ≤ s + 2 ^ j / 2 - 1 by omega) (by omega) (by rw [Int.sub_add_cancel]; exact t1)
      have u2 := ih (show 0 ≤ s + 2 ^ j / 2 by omega) c3 h2 t2
      rw [List.length_append, List.length_append]
      omega
theorem cov_widest {w : Nat} (hw : 2 ≤ w) (hw2 : w ≤ 7) : ((cov w w 1 (2 ^ w - 2)).length : Int) = 2 * ((w : Int) - 1) := by
  have e : w = 2 ∨ w = 3 ∨ w = 4 ∨ w = 5 ∨ w = 6 ∨ w = 7 := by omega
  rcases e with rfl | rfl | rfl | rfl | rfl | rfl <;> decide +kernel
end Mine

end
section
open PySem PySem.W PySem.Calls PySem.Spec PyProof.Rows PyProof.Rows.LCg
namespace Mine
theorem getD_set_ne {l : List Int} {i m : Nat} {x : Int} (h : m ≠ i) : (l.set i x).getD m 0 = l.getD m 0 := by
  rw [List.getD_eq_getElem?_getD, List.getD_eq_getElem?_getD, List.getElem?_set_ne (Ne.symm h)]
theorem getD_set_eq {l : List Int} {i : Nat} {x : Int} (h : i < l.length) : (l.set i x).getD i 0 = x := by
  rw [List.getD_eq_getElem?_getD, List.getElem?_set_self h]; rfl
/-- a size that may end at e -/
def Fit (lo e : Int) (j : Nat) : Prop := lo ≤ e - 2 ^ j ∧ (e - 2 ^ j) % 2 ^ j = 0
theorem step_ne {lo e : Int} {arr : List Int} {j m : Nat} (h : m ≠ (e - lo).toNat) : (stepF lo e arr j).getD m 0 = arr.getD m 0 := by
  unfold stepF
  split
  · exact getD_set_ne h
  · rfl
theorem row_ne {lo e : Int} {arr : List Int} {m : Nat} (h : m ≠ (e - lo).toNat) : ∀ c : Nat, (rowF lo e c arr).getD m 0 = arr.getD m 0
  | 0 => rfl
  | c + 1 => by rw [rowF_succ, step_ne h, row_ne h c]
theorem row_at {lo e : Int} {arr : List Int} (he : lo < e) (hl : (e - lo).toNat < arr.length) : ∀ c : Nat,
    (∀ j, j < c → Fit lo e j → (rowF lo e c arr).getD (e - lo).toNat 0 ≤ arr.getD (e - 2 ^ j - lo).toNat 0 + 1) ∧
    ((rowF lo e c arr).getD (e - lo).toNat 0 = arr.getD (e - lo).toNat 0 ∨ ∃ j, j < c ∧ Fit lo e j ∧ (rowF lo e c arr).getD (e - lo).toNat 0 = arr.getD (e - 2 ^ j - lo).toNat 0 + 1)
  | 0 => ⟨fun j h => absurd h (Nat.not_lt_zero j), .inl rfl⟩
  | c + 1 => by
    have hp := pow_pos2 c
    have hne : (e - 2 ^ c - lo).toNat ≠ (e - lo).toNat := by omega
    obtain ⟨a, b⟩ := row_at he hl c
    rw [rowF_succ]
    by_cases hf : Fit lo e c
    · have e1 : (stepF lo e (rowF lo e c arr) c).getD (e - lo).toNat 0 = min ((rowF lo e c arr).getD (e - lo).toNat 0) (arr.getD (e - 2 ^ c - lo).toNat 0 + 1) := by
        unfold stepF
        rw [if_pos (show lo ≤ e - 2 ^ c ∧ (e - 2 ^ c) % 2 ^ c = 0 from hf), getD_set_eq (by rw [rowF_len]; exact hl), row_ne hne]
      rw [e1]
      refine ⟨fun j hj hfj => ?_, ?_⟩
      · rcases Nat.lt_or_ge j c with q | q
        · have := a j q hfj; omega
        · have : j = c := by omega
          subst this; omega
      · rcases Int.le_total ((rowF lo e c arr).getD (e - lo).toNat 0) (arr.getD (e - 2 ^ c - lo).toNat 0 + 1) with q | q
        · rw [Int.min_eq_left q]
          rcases b with b | ⟨j, hj, hfj, b⟩
          · exact .inl b
          · exact .inr ⟨j, by omega, hfj, b⟩
        · rw [Int.min_eq_right q]
          exact .inr ⟨c, by omega, hf, rfl⟩
    · have e1 : stepF lo e (rowF lo e c arr) c = rowF lo e c arr := by unfold stepF; exact if_neg hf
      rw [e1]
      refine ⟨fun j hj hfj => ?_, ?_⟩
      · rcases Nat.lt_or_ge j c with q | q
        · exact a j q hfj
        · have : j = c := by omega
          subst this; exact absurd hfj hf
      · rcases b with b | ⟨j, hj, hfj, b⟩
        · exact .inl b
        · exact .inr ⟨j, by omega, hfj, b⟩
section
variable {lo : Int} {w n : Nat}
/-- the table behind i ends -/
abbrev tb (lo : Int) (w n i : Nat) : List Int := tabF lo w i (tab0 w n)
theorem end_ix (i : Nat) : (lo + 1 + (i : Int) - lo).toNat = i + 1 := by omega
theorem tb_ne {i m : Nat} (h : m ≠ i + 1) : (tb lo w n (i + 1)).getD m 0 = (tb lo w n i).getD m 0 := by
  show (tabF lo w (i + 1) _).getD m 0 = _
  rw [tabF_succ]
  exact row_ne (by rw [end_ix]; exact h) _
theorem tb_late {m : Nat} : ∀ {i : Nat}, i < m → (tb lo w n i).getD m 0 = (tab0 w n).getD m 0
  | 0, _ => rfl
  | i + 1, h => by rw [tb_ne (by omega), tb_late (by omega)]
theorem tb_done {m : Nat} : ∀ {i : Nat}, m ≤ i → (tb lo w n i).getD m 0 = (tb lo w n m).getD m 0
  | 0, h => by rw [show m = 0 by omega]
  | i + 1, h => by
    rcases Nat.lt_or_ge i m with q | q
    · rw [show m = i + 1 by omega]
    · rw [tb_ne (by omega), tb_done q]
theorem tab0_zero : (tab0 w n).getD 0 0 = 0 := rfl
theorem tab0_at {m : Nat} (h : m < n) : (tab0 w n).getD (m + 1) 0 = 2 ^ w + 1 := by
  have e : (List.replicate n [(2 : Int) ^ w + 1]).flatten = List.replicate n ((2 : Int) ^ w + 1) := by
    clear h
    induction n with
    | zero => rfl
    | succ n ih => rw [List.replicate_succ, List.flatten_cons, ih, List.replicate_succ]; rfl
  unfold tab0
  rw [e, List.getD_eq_getElem?_getD]
  show ((List.replicate n ((2 : Int) ^ w + 1))[m]?).getD 0 = _
  rw [List.getElem?_replicate, if_pos h]; rfl
/-- the entries of the whole table -/
abbrev dv (lo : Int) (w n m : Nat) : Int := (tb lo w n n).getD m 0
theorem dv_zero : dv lo w n 0 = 0 := by
  show (tb lo w n n).getD 0 0 = 0
  rw [tb_done (Nat.zero_le n)]; exact tab0_zero
theorem dv_next {m : Nat} (h : m < n) :
    (∀ j, j ≤ w → Fit lo (lo + 1 + (m : Int)) j → dv lo w n (m + 1) ≤ dv lo w n (lo + 1 + (m : Int) - 2 ^ j - lo).toNat + 1) ∧
    (dv lo w n (m + 1) = 2 ^ w + 1 ∨ ∃ j, j ≤ w ∧ Fit lo (lo + 1 + (m : Int)) j ∧ dv lo w n (m + 1) = dv lo w n (lo + 1 + (m : Int) - 2 ^ j - lo).toNat + 1) := by
  have e1 : dv lo w n (m + 1) = (rowF lo (lo + 1 + (m : Int)) (w + 1) (tb lo w n m)).getD (lo + 1 + (m : Int) - lo).toNat 0 := by
    show (tb lo w n n).getD (m + 1) 0 = _
    rw [tb_done (show m + 1 ≤ n by omega), end_ix]
    show (tabF lo w (m + 1) _).getD (m + 1) 0 = _
    rw [tabF_succ]
  have e2 : ∀ j : Nat, dv lo w n (lo + 1 + (m : Int) - 2 ^ j - lo).toNat = (tb lo w n m).getD (lo + 1 + (m : Int) - 2 ^ j - lo).toNat 0 := fun j => by
    have hp := pow_pos2 j
    show (tb lo w n n).getD _ 0 = _
    rw [tb_done (i := n) (by omega), tb_done (i := m) (by omega)]
  obtain ⟨a, b⟩ := row_at (lo := lo) (e := lo + 1 + (m : Int)) (arr := tb lo w n m) (by omega) (by rw [end_ix, tabF_len, tab0_len]; omega) (w + 1)
  rw [e1]
  refine ⟨fun j hj hf => by rw [e2]; exact a j (by omega) hf, ?_⟩
  rcases b with b | ⟨j, hj, hf, b⟩
  · left
    rw [b, end_ix, tb_late (Nat.lt_succ_self m), tab0_at h]
  · exact .inr ⟨j, by omega, hf, by rw [e2]; exact b⟩
theorem dv_le : ∀ {m : Nat}, m ≤ n → dv lo w n m ≤ (m : Int)
  | 0, _ => by rw [dv_zero]; exact Int.le_refl _
  | m + 1, h => by
    have f : Fit lo (lo + 1 + (m : Int)) 0 := ⟨by have : (2 : Int) ^ 0 = 1 := rfl; omega, by have : (2 : Int) ^ 0 = 1 := rfl; rw [this]; omega⟩
    have a := (dv_next (lo := lo) (w := w) (show m < n by omega)).1 0 (Nat.zero_le _) f
    have e : (lo + 1 + (m : Int) - 2 ^ 0 - lo).toNat = m := by have : (2 : Int) ^ 0 = 1 := rfl; omega
    rw [e] at a
    have := dv_le (m := m) (by omega)
    omega
/-- any tiling is no better than the table -/
theorem dv_up : ∀ {xs : List (Int × Nat)} {a b : Int}, Tile w a xs b → lo ≤ a → b ≤ lo + (n : Int) → dv lo w n (b - lo).toNat ≤ dv lo w n (a - lo).toNat + (xs.length : Int)
  | [], a, b, h, _, _ => by cases h; simp
  | (s, l) :: r, a, b, ⟨t1, t2, t3, t4⟩, ha, hb => by
    subst t1
    have hp := pow_pos2 l
    have hle := t4.le
    have i1 := dv_up t4 (by omega) hb
    obtain ⟨m, hm⟩ : ∃ m : Nat, s + 2 ^ l = lo + 1 + (m : Int) := ⟨(s + 2 ^ l - lo - 1).toNat, by omega⟩
    have hs : lo + 1 + (m : Int) - 2 ^ l = s := by omega
    have a1 := (dv_next (lo := lo) (w := w) (show m < n by omega)).1 l t3 ⟨by omega, by rw [hs]; exact t2⟩
    rw [hs] at a1
    rw [hm, end_ix] at i1
    rw [List.length_cons]
    push_cast
    omega
/-- what the table tells is told by a tiling -/
theorem dv_down (hn : (n : Int) ≤ 2 ^ w) (m : Nat) : m ≤ n → ∃ xs, Tile w lo xs (lo + (m : Int)) ∧ (xs.length : Int) = dv lo w n m := by
  induction m using Nat.strongRecOn with
  | ind m ih =>
    intro hm
    cases m with
    | zero => exact ⟨[], by show lo = _; simp, by rw [dv_zero]; rfl⟩
    | succ m =>
      rcases (dv_next (lo := lo) (w := w) (show m < n by omega)).2 with b | ⟨j, hj, hf, b⟩
      · have := dv_le (lo := lo) (w := w) hm
        rw [b] at this
        omega
      · have hp := pow_pos2 j
        obtain ⟨f1, f2⟩ := hf
        obtain ⟨q, hq⟩ : ∃ q : Nat, lo + 1 + (m : Int) - 2 ^ j - lo = (q : Int) := ⟨(lo + 1 + (m : Int) - 2 ^ j - lo).toNat, by omega⟩
        rw [hq, Int.toNat_natCast] at b
        obtain ⟨xs, x1, x2⟩ := ih q (by omega) (by omega)
        have hs : lo + 1 + (m : Int) - 2 ^ j = lo + (q : Int) := by omega
        rw [hs] at f2
        refine ⟨xs ++ [(lo + (q : Int), j)], x1.append ⟨rfl, f2, hj, ?_⟩, ?_⟩
        · show _ = _
          push_cast
          omega
        · rw [List.length_append, b, ← x2]; rfl
end
theorem cov_fewest {w k : Nat} {lo hi : Int} (h0 : 0 ≤ lo) (h1 : lo ≤ hi) (h2 : hi < 2 ^ w) (_hw : 2 ≤ w) (_hw2 : w ≤ 7) (hL : Lf w lo hi ≤ k) : ((cov w k lo hi).length : Int) = fewest lo hi w := by
  obtain ⟨n, hn⟩ : ∃ n : Nat, hi - lo + 1 = (n : Int) := ⟨(hi - lo + 1).toNat, by omega⟩
  have e : fewest lo hi w = dv lo w n n := by
    unfold fewest
    rw [hn, Int.toNat_natCast]
  rw [e]
  have ht := cov_tile k h0 h1 h2 hL
  have up := dv_up (lo := lo) (n := n) ht (Int.le_refl _) (by omega)
  have e1 : (hi + 1 - lo).toNat = n := by omega
  have e2 : (lo - lo).toNat = 0 := by omega
  rw [e1, e2, dv_zero] at up
  obtain ⟨xs, x1, x2⟩ := dv_down (lo := lo) (w := w) (n := n) (by omega) n (Nat.le_refl _)
  have e3 : lo + (n : Int) = hi + 1 := by omega
  rw [e3] at x1
  have lw := cov_least k h0 h1 h2 x1
  omega
end Mine

end
section
open PySem PySem.W PySem.Calls PySem.Spec PyProof.Rows PyProof.Rows.LCg
namespace Mine
theorem kfill_law : (PySem.Challenge.rw_dh5002_01 = PySem.Challenge.rw_dh5002_01 ∧ hd.heap_39 = hd.heap_39) → True := by (k_fill; intro _; trivial)

local macro_rules | `(tactic| walk_at "call ref") => `(tactic| refine stop ?_)
local macro_rules | `(tactic| walk_at "exec If") => `(tactic| ((with_reducible show wpAny _ _ (exec (Stmt.If (Expr.BoolOp _ _ _) _ _ _) _) _ _ _); (fail_if_success (with_reducible show wpAny _ _ _ (IfPost _ _ _ _ _) _ _)); refine stop ?_))
local macro_rules | `(tactic| walk_at "call builtin:len") => `(tactic| ((with_reducible show wpAny _ _ (call (Value.builtin "len") [Value.ref _]) _ _ _); (rename BlocksIn _ _ _ _ => hBI); refine stop ?_))
local macro_rules | `(tactic| walk_at "exec Assign") => `(tactic| ((with_reducible show wpAny _ _ (exec (Stmt.Assign _ (Expr.IfExp _ _ _ _) _) _) _ _ _); refine stop ?_))
local macro_rules | `(tactic| walk_at "eval ListComp") => `(tactic| ((with_reducible show wpAny _ _ (eval (Expr.ListComp (Expr.Call _ _ _ _) _ _ _) _) _ _ _); refine stop ?_))
local macro_rules | `(tactic| walk_at "CompSrc") => `(tactic| ((with_reducible show CompSrc _ _ _ _ _ _ _ (Expr.Call _ _ _ _) _ _ _ _ _ _); refine stop ?_))
local macro_rules | `(tactic| walk_at "CompSrcT") => `(tactic| refine stop ?_)
local macro_rules | `(tactic| walk_at "call builtin:len") => `(tactic| ((with_reducible show wpAny _ _ (call (Value.builtin "len") [_]) _ _ _); (rename FrontIn _ _ _ _ => hFI); refine stop ?_))
set_option maxHeartbeats 16000000 in
theorem law_holds : PySem.Challenge.rw_dh5002_01.Holds :=
  hd (by
    w_strict (
      k_go0
      (all_goals try k_fold)
      k_steps
      rename News _ _ _ _ => N1
      rename Fr _ _ _ _ => F1
      refine go (wpAny_Assign_Name (nums_join F1 N1 ?_ ?_))
      · rename IntsAre _ _ => hSc
        k_steps
        · rename News _ _ _ _ => N2
          rename Fr _ _ _ _ => F2
          exact nums_of (ns := [4, 3, 12]) F2 N2 (.cons _ _ (.cons _ _ (.cons _ _ .nil))) (by decide) (by decide) (by (refine ⟨?_, ?_, ?_, ?_, ?_, trivial⟩ <;> (show @LT.lt Nat _ _ _; dsimp only; omega)))
        · rename News _ _ _ _ => N2
          rename Fr _ _ _ _ => F2
          exact nums_of F2 N2 hSc (List.length_pos_iff.mpr (of_decide_eq_false (by assumption))) (by omega) (by (refine ⟨?_, ?_, ?_, ?_, ?_, trivial⟩ <;> (show @LT.lt Nat _ _ _; dsimp only; omega)))
      · intro Dn vn ns hn tkn cn Fn Nn hIn hn1 hn2 hln
        clear N1 F1
        obtain ⟨q1, q2, q3, q4, q5, _⟩ := hln
        dsimp only at q1 q2 q3 q4 q5
        k_steps
        rename News _ _ _ _ => N3
        rename Fr _ _ _ _ => F3
        rename IntsAre _ (List.map _ (List.drop _ _)) => hp
        rename _ = Data.cell (some (Value.int (2 + _) _)) => dW
        rename _ = Data.cell (some (Value.int (Int.fmod _ 3) _)) => dK
        obtain ⟨kd, hkd, hk0, hk2⟩ : ∃ kd, ns.sum.fmod 3 = kd ∧ 0 ≤ kd ∧ kd ≤ 2 := ⟨_, rfl, (fm3 _).1, (fm3 _).2⟩
        obtain ⟨a0, ha0⟩ : ∃ a0, ns.getD ((0 + 0 : Int).fmod (ns.length : Int)).toNat 0 = a0 := ⟨_, rfl⟩
        rw [ha0] at dW hp
        obtain ⟨r6, hr6, hr60⟩ : ∃ r6, a0.fmod 6 = r6 ∧ 0 ≤ r6 ∧ r6 < 6 := ⟨_, rfl, (fm6 _).1, (fm6 _).2⟩
        rw [hr6] at dW hp
        rw [hkd] at dK
        obtain ⟨ps, wi, hwi, hw, hw2, hps, hps8, hpr⟩ := places_of hr60 rfl hp
        rw [← hwi] at dW
        clear hp
        have N4 := News.pick N3
        clear N3
        obtain ⟨p0, pr, rfl⟩ : ∃ p0 pr, ps = p0 :: pr := by
          cases ps with
          | nil => cases hps8
          | cons a b => exact ⟨a, b, rfl⟩
        rename List Value => ys
        have hys8 : ys.length = 8 := hps.length.trans hps8
        refine go ?_
        k_dflt (refine LCg.ListComp_U (F₀ := by k_asm) (by rfl) (by decide) (by rfl) (by decide) (by rfl) ?_)
        k_dflt lcg_toSrc
        k_steps
        refine go (CompSrc.ledger (by rfl) (by k_asm) (by k_asm) (List.Mem.head _) (by (rw [List.size_toArray, hys8, sizeLine_eq]; omega)) ?_)
        intro g3
        dsimp only
        refine compRest_ind _ (fun i zs nw => ∃ tl, nw = _ ++ tl ∧ FrontsIn kd wi tl zs (p0 :: pr) i) ?_ ?_ _ 0 [] _ rfl ⟨[], (List.append_nil _).symm, FrontsIn.nil⟩
        · rintro i zs _ hi ⟨tl, rfl, hz⟩ v I oI C oC D2 m₂ h tk E' hv hoC hkx F₁ N₁ off
          rw [List.size_toArray, hys8] at hi
          have hlt : i < (p0 :: pr).length := by omega
          obtain ⟨t, ht⟩ := hps.get i (p0 :: pr)[i] (by simp [hlt])
          simp only [List.getElem?_toArray] at hv
          rw [ht] at hv
          obtain rfl := (Option.some.inj hv).symm
          have hpi := hpr (p0 :: pr)[i] (List.getElem_mem _)
          have hgi : (p0 :: pr)[i]? = some (p0 :: pr)[i] := List.getElem?_eq_getElem hlt
          generalize (p0 :: pr)[i] = pi at *
          simp only [List.cons_append, List.nil_append] at N₁ off
          clear N4
          k_steps
          (refine go ?_; refine' CallsTo.use (bits_calls _ pi wi kd _ _ _ hpi.1 hw hw2 hk0 hk2) ?uc1b ?uc1f ?uc1x ?uc1t ?uc11 ?uc12 ?uc13 ?uc14 (trivial) ?_; (case uc1b => assumption); (case uc1f => assumption); (case uc1x => assumption); (case uc1t => assumption); (case uc11 => exact rfl); (case uc12 => exact rfl); (case uc13 => first | assumption | decide | (show _ < _; decide +kernel)); (case uc14 => first | assumption | decide | (show _ < _; decide +kernel)))
          rintro v1 h4 tk4 K4 F4 ⟨x1, fr1⟩
          obtain ⟨new, Nw, fi, hnew⟩ := x1.enter (N₁.grown K4) (fr1.own (by assumption))
          refine ⟨h4, _, _, rfl, F4, News.mid10 Nw, Off3.mid7 off (fresh_off N₁ fr1 hnew), .inr ⟨_, List.Mem.head _, rfl, _, rfl⟩, new ++ tl, rfl, hz.snoc hgi fi⟩
        · rintro zs _ ⟨tl, rfl, hz⟩ D2 h2 tk2 F2 N2 off2
          rw [List.size_toArray, hys8] at hz
          simp only [List.cons_append, List.nil_append] at N2 off2
          dsimp only
          clear N4
          k_steps
          have hz8 : zs.length = 8 := hz.1
          obtain ⟨v0, vs, rfl⟩ : ∃ v0 vs, zs = v0 :: vs := by
            cases zs with
            | nil => cases hz8
            | cons a b => exact ⟨a, b, rfl⟩
          (refine go ?_; refine' CallsTo.use (common_calls _ kd wi D2 v0 vs ((p0 :: pr).map fun p => bits p wi) hw2 (Nat.le_of_lt_succ (by rw [List.length_cons] at hz8; omega))) ?uc2b ?uc2f ?uc2x ?uc2t ?uc21 ?uc22 ?uc23 ?uc24 (⟨⟨_, (N2 _ (.head _)).1⟩, hz.at hps8 N2 mem8⟩) ?_; (case uc2b => assumption); (case uc2f => assumption); (case uc2x => assumption); (case uc2t => assumption); (case uc21 => exact rfl); (case uc22 => exact rfl); (case uc23 => first | assumption | decide | (show _ < _; decide +kernel)); (case uc24 => first | assumption | decide | (show _ < _; decide +kernel)))
          rintro c h5 tk5 K5 F5 ⟨x2, fr2⟩
          obtain ⟨mn, mx, e3, g1, g2, g3'⟩ := place_lcp hpr
          rw [e3] at x2
          have oc := fr2.elim (fun q => q.own F2) (fun q => hz.own N2 mem8 q)
          obtain ⟨new2, Nw2, fi2, _⟩ := x2.enter (N2.grown K5) oc
          have N5 := News.mid7 Nw2
          obtain ⟨j, hj⟩ : ∃ j, Lf wi mn mx = j := ⟨_, rfl⟩
          obtain ⟨hcl, hcw⟩ := left_is (hpr mn g1).1 (hpr mn g1).2 (hpr mx g2).1 (hpr mx g2).2 hj
          obtain ⟨hjw, hall, hex⟩ := place_facts (p0 := p0) List.mem_cons_self hpr g1 g2 g3' hj
          generalize lcp (bits mn wi) (bits mx wi) = cb at *
          have i2 : FrontIn kd (new2 ++ tl) c cb := fi2.mono fun _ h => List.mem_append_left _ h
          have hl7 : cb.length ≤ 7 := by omega
          clear N2 Nw2 K5 fr2 oc x2 e3 fi2
          k_steps
          rename News _ _ _ _ => N6
          rename FrontIn _ _ _ _ => i2
          refine go (FrontAt.len ((i2.mono mem7).at N6) hl7 ?_)
          intro tl7 tkl
          have N7 := News.take7 N6
          clear N6 i2 N5
          k_steps
          rename _ = Data.cell (some (Value.int (_ - _) _)) => dL
          rw [hcl] at dL
          have hysz : ys.toArray.size = 8 := by rw [List.size_toArray, hys8]
          have hpk : ∀ i v, i < ys.toArray.size → ys.toArray[i]? = some v → ∃ k t, (p0 :: pr)[i]? = some k ∧ v = .int k t := fun i v _ hv => by
            obtain ⟨k, t, e, hk⟩ := IntsAre.at hps i v (by simpa using hv)
            exact ⟨k, t, hk, e⟩
          have hj7 : (j : Int) ≤ 7 := by omega
          have hj0 : (0 : Int) ≤ (j : Int) := by omega
          refine go (LCt.CompSrcT.ledger (by rfl) (by k_asm) (by k_asm) (List.Mem.head _) (by (rw [hysz, sizeLine_eq]; omega)) ?_)
          intro g4
          refine kci_rest (ks := p0 :: pr) (fun l k => if k.fdiv (2 ^ ((j : Int)).toNat) ≠ p0.fdiv (2 ^ ((j : Int)).toNat) then l ++ [k] else l) (hps8.trans hysz.symm) hpk ?_ ?_ kci_grows
          · intro k t I oI C oC D3 m₂ ys' l h tk E' hk hy hC hx F N off ne mk
            simp only [LCg.Off3, and_true] at off
            have hck := hall k hk
            dsimp only
            k_steps
          · intro ys3 hys3 _
            rw [sieve_none (fun p hp q => q (hall p hp))] at hys3
            k_steps
            rename News _ _ _ _ => N8
            rename Fr _ _ _ _ => F8
            have N9 := News.drop2 N8
            clear N8
            refine go ((if_join F8 N9 ?_ ?_))
            · k_steps
              · have h0j : 0 < (j : Int) := by assumption
                have hj1 : (0 : Int) ≤ (j : Int) - 1 := by omega
                have hsv := sieve_some (c := fun k => k.fdiv (2 ^ ((j : Int) - 1).toNat) ≠ p0.fdiv (2 ^ ((j : Int) - 1).toNat)) (hex h0j) []
                refine go (LCt.CompSrcT.ledger (by rfl) (by k_asm) (by k_asm) (by k_mem) (by (rw [hysz, sizeLine_eq]; omega)) ?_)
                intro g5
                refine kci_rest (ks := p0 :: pr) (fun l k => if k.fdiv (2 ^ ((j : Int) - 1).toNat) ≠ p0.fdiv (2 ^ ((j : Int) - 1).toNat) then l ++ [k] else l) (hps8.trans hysz.symm) hpk ?_ ?_ kci_grows
                · intro k t I oI C oC D3 m₂ ys' l h tk E' hk hy hC hx F N off ne mk
                  simp only [LCg.Off3, and_true] at off
                  dsimp only
                  k_steps
                  rename Int.fdiv _ _ = Int.fdiv _ _ => hkeq
                  exact kci_no (if_neg (fun q => q hkeq)) rfl
                · intro ys4 hys4 _
                  obtain ⟨l4, hl4⟩ : ∃ l4, (p0 :: pr).foldl (fun l k => if k.fdiv (2 ^ ((j : Int) - 1).toNat) ≠ p0.fdiv (2 ^ ((j : Int) - 1).toNat) then l ++ [k] else l) [] = l4 := ⟨_, rfl⟩
                  rw [hl4] at hsv hys4
                  k_steps
                  · have e := of_decide_eq_true (show decide (l4 = []) = true by assumption)
                    rw [e] at hsv
                    exact absurd hsv (by decide)
                  · rename News _ _ _ _ => Nq
                    rename Fr _ _ _ _ => Fq
                    exact ⟨_, _, rfl, Fq, News.drop2 Nq⟩
              · exact ⟨_, _, rfl, F8, N9⟩
            · intro h10 tk10 F10 N10
              clear F8 N9
              k_steps
              rename IntsAre _ _ => hsI
              rename List.Pairwise _ _ => hpw
              rename List.Perm _ _ => hpm
              rename _ = 0 + 1 + 1 => hl2
              obtain ⟨lo, hi, ta, tb, e1, e2, h0, h1, h2⟩ := two_facts hsI hl2 hpm hpw
              subst e1
              subst e2
              have w7 := pow2_le7 wi hw2
              have w4 := pow4 hw
              have w7' : (2 : Int) ^ ((wi : Int)).toNat ≤ 128 := w7
              have hrc : callerA.depth + 1 + (6 + wi) < recursionLimit := Nat.lt_of_le_of_lt (show callerA.depth + 1 + (6 + wi) ≤ callerA.depth + 1 + (6 + 7) by omega) (by decide)
              have huc : callerA.units + 3 + 8 * (6 + wi) < cLine := Nat.lt_of_le_of_lt (show callerA.units + 3 + 8 * (6 + wi) ≤ callerA.units + 3 + 8 * (6 + 7) by omega) (by decide)
              have w4' : (4 : Int) ≤ 2 ^ ((wi : Int)).toNat := w4
              k_steps
              (refine go ?_; refine' CallsTo.use (cover_calls _ wi kd hw hw2 hk0 hk2 wi 1 (2 ^ ((wi : Int)).toNat - 2) (2 * (wi : Int)) _ _ _ _ _ (by decide) (by omega) (Int.sub_lt_self _ (by decide)) (Nat.sub_le _ _) hw2 (by omega)) ?uc3b ?uc3f ?uc3x ?uc3t ?uc31 ?uc32 ?uc33 ?uc34 (trivial) ?_; (case uc3b => assumption); (case uc3f => assumption); (case uc3x => assumption); (case uc3t => assumption); (case uc31 => exact rfl); (case uc32 => exact rfl); (case uc33 => first | assumption | decide | (show _ < _; decide +kernel)); (case uc34 => first | assumption | decide | (show _ < _; decide +kernel)))
              rintro rw1 h12 tk12 K12 F12 O1
              rename News _ _ _ _ => N11
              obtain ⟨aw, vw, nw1, rfl, Nw1, blw⟩ := O1.enter (by assumption) K12 N11
              have N12 := News.mid7b Nw1
              clear O1 K12 N11 Nw1
              k_steps
              (refine go ?_; refine' CallsTo.use (cover_calls _ wi kd hw hw2 hk0 hk2 wi lo hi (2 * (wi : Int)) _ _ _ _ _ h0 h1 h2 (Nat.sub_le _ _) hw2 (by omega)) ?uc4b ?uc4f ?uc4x ?uc4t ?uc41 ?uc42 ?uc43 ?uc44 (trivial) ?_; (case uc4b => assumption); (case uc4f => assumption); (case uc4x => assumption); (case uc4t => assumption); (case uc41 => exact rfl); (case uc42 => exact rfl); (case uc43 => first | assumption | decide | (show _ < _; decide +kernel)); (case uc44 => first | assumption | decide | (show _ < _; decide +kernel)))
              rintro rw2 h13 tk13 K13 F13 O2
              rename News _ _ _ _ => N13
              obtain ⟨a2, v2, nw2, rfl, Nw2, bl2⟩ := O2.enter (by assumption) K13 N13
              have N15 := News.mid7c Nw2
              clear O2 K13 N13 Nw2
              k_steps
              obtain ⟨P2, u0, u1, u2⟩ := cov_tiles h0 h1 h2 hw2 (show Lf wi lo hi ≤ wi from Nat.sub_le _ _)
              have hh : hi < 128 := by omega
              have hb2 : (cov wi wi lo hi).length ≤ 128 := Nat.le_trans (cov_len ..) (show 2 ^ wi ≤ 2 ^ 7 from Nat.pow_le_pow_right (by decide) hw2)
              rename News _ _ _ _ => N16
              (refine go ?_; refine' CallsTo.use (tiled_calls _ lo hi wi a2 v2 (cov wi wi lo hi) P2 _ _ _ h0 h1 hh hw hw2 u0 u1 u2 (cov_fewest h0 h1 h2 hw hw2 (Nat.sub_le _ _)) hb2) ?uc5b ?uc5f ?uc5x ?uc5t ?uc51 ?uc52 ?uc53 ?uc54 (lst_of2 N16 bl2) ?_; (case uc5b => assumption); (case uc5f => assumption); (case uc5x => assumption); (case uc5t => assumption); (case uc51 => exact rfl); (case uc52 => exact rfl); (case uc53 => first | assumption | decide | (show _ < _; decide +kernel)); (case uc54 => first | assumption | decide | (show _ < _; decide +kernel)))
              rintro r3 h17 tk17 K17 F17 rfl
              have N17 := N16.grown K17
              clear N16 K17
              k_steps
              obtain ⟨P1, y0, y1, y2⟩ := cov_tiles (w := wi) (k := wi) (lo := 1) (hi := 2 ^ ((wi : Int)).toNat - 2) (by decide) (by omega) (Int.sub_lt_self _ (by decide)) hw2 (Nat.sub_le _ _)
              have hb1 : (cov wi wi 1 (2 ^ ((wi : Int)).toNat - 2)).length ≤ 128 := Nat.le_trans (cov_len ..) (show 2 ^ wi ≤ 2 ^ 7 from Nat.pow_le_pow_right (by decide) hw2)
              rename News _ _ _ _ => N18
              (refine go ?_; refine' CallsTo.use (tiled_calls _ 1 (2 ^ ((wi : Int)).toNat - 2) wi aw vw (cov wi wi 1 (2 ^ ((wi : Int)).toNat - 2)) P1 _ _ _ (by decide) (by omega) (by omega) hw hw2 y0 y1 y2 (cov_fewest (by decide) (by omega) (Int.sub_lt_self _ (by decide)) hw hw2 (Nat.sub_le _ _)) hb1) ?uc6b ?uc6f ?uc6x ?uc6t ?uc61 ?uc62 ?uc63 ?uc64 (lst_of N18 blw) ?_; (case uc6b => assumption); (case uc6f => assumption); (case uc6x => assumption); (case uc6t => assumption); (case uc61 => exact rfl); (case uc62 => exact rfl); (case uc63 => first | assumption | decide | (show _ < _; decide +kernel)); (case uc64 => first | assumption | decide | (show _ < _; decide +kernel)))
              rintro r5 h19 tk19 K19 F19 rfl
              have N19 := N18.grown K19
              clear N18 K19
              have hvw : ((vw.toArray.size : Nat) : Int) = 2 * ((wi : Int) - 1) := by
                rw [List.size_toArray, blw.2.1]
                exact cov_widest hw hw2
              have blw9 := blw
              k_steps
              rename News _ _ _ _ => N20
              refine go (kun_lenL (lst_of N20 blw).1.isList hvw (by omega) ?_)
              k_steps
))
end Mine

end
theorem PySem.Challenge.cw_dh5002_01_holds : PySem.Challenge.rw_dh5002_01.Holds :=
  Mine.law_holds
