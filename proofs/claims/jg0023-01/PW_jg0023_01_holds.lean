import PyProof.Rows.All
import Wide.All
import OpenK.AllK
import Wide.FinOn
import PySem.Challenge.RW_jg0023_01
set_option Elab.async false

section
open PySem PySem.W PyProof.Rows
set_option maxRecDepth 100000
set_option maxHeartbeats 8000000
namespace Mine
open_top hd for PySem.Challenge.rw_jg0023_01
end Mine
end

section
open PySem PySem.W PyProof.Rows PySem.Spec PySem.Calls
set_option maxRecDepth 100000
set_option maxHeartbeats 4000000
namespace Mine

noncomputable abbrev PP : Program := PySem.Challenge.rw_jg0023_01.prog
noncomputable abbrev KK (w : World) : Frag := Mine.hd.heap_39 w.params

/- all objects of h stand in h' -/
noncomputable abbrev Kp (h h' : Heap) : Prop := ∀ b o, h.get? b = some o → h'.get? b = some o
theorem Kp.refl (h : Heap) : Kp h h := fun _ _ e => e
theorem Kp.trans {h₁ h₂ h₃ : Heap} (x : Kp h₁ h₂) (y : Kp h₂ h₃) : Kp h₁ h₃ := fun b o e => y b o (x b o e)
theorem Kp.push (h : Heap) (o : Obj) : Kp h (h.push o) := fun _ _ e => Heap.get?_push_of_some o e
theorem Kp.size {h h' : Heap} (k : Kp h h') {a : Addr} {o : Obj} (e : h.get? a = some o) : a < h'.objs.size := Heap.lt_size (k _ _ e)

/- the top, as the walk asks it -/
structure Ok (w : World) (mg mb : Str → Option Value) (h : Heap) : Prop where
  x : (KK w).In h
  g : h.Ns mainGlobals mg
  b : h.Ns builtinsNs mb
  nl : h.NoLimit
  bb : ∀ x : Str, x ≠ "__name__" → mb x = bootBuiltins x
  bm : ∃ o, h.get? 4 = some o ∧ o.cls = .type "module" ∧ o.dict = some builtinsNs ∧ o.data = .plain

variable {w : World} {mg mb : Str → Option Value} {A : Around} {E : Value → Shared → Prop} {s : Shared} {env : Env}

/- the goal out of sight -/
theorem hide {G : Prop} (h : ∀ Gz : Prop, (G → Gz) → Gz) : G := h G id
theorem bnd {fd : FuncData} {args : Args} {binds : List (Str × Value)} {M : Model} {Q : List (Str × Value) → Shared → Prop} (e : bindArgs fd args = pure binds) (hq : Q binds s) : wpAny M A (bindArgs fd args) Q E s := e ▸ wpAny_pure hq
theorem Ok.keeps {h h' : Heap} (K : Ok w mg mb h) (k : Kp h h') : Ok w mg mb h' :=
  ⟨K.x.keeps k, K.g.keeps k, K.b.keeps k, K.nl.keeps k, K.bb, let ⟨o, e, r⟩ := K.bm; ⟨o, k _ _ e, r⟩⟩

theorem nmL {x : Str} {pos : Pos} {v : Value} {m : Str → Option Value} {Q : Value → Shared → Prop} {M : Model} (hn : s.heap.Ns env.locals m) (hv : m x = some v) (h : Q v s)
    (hk : env.scope.kind = .function := by rfl) (hl : env.kindOf x = some .local := by rfl) (hd : (x == ("__debug__" : Str)) = false := by decide) :
    wpAny M A (eval (.Name x pos) env) Q E s := wpAny_Name (wpAny_loadName_local hk hl hn hv h) hd

theorem nmG {x : Str} {pos : Pos} {v : Value} {Q : Value → Shared → Prop} {M : Model} (K : Ok w mg mb s.heap) (e : nsIn (KK w) mainGlobals x = some (some v)) (h : Q v s)
    (hg : env.globals = mainGlobals := by rfl)
    (hk : env.scope.kind = .function := by rfl) (hx : env.kindOf x = some .globalImplicit := by rfl) (hd : (x == ("__debug__" : Str)) = false := by decide) :
    wpAny M A (eval (.Name x pos) env) Q E s := Name_function_global hk hx (loadGlobal_global (hg ▸ K.g) (mg_of K.x K.g e) h) hd

theorem nmB {x : Str} {pos : Pos} {v : Value} {Q : Value → Shared → Prop} {M : Model} (K : Ok w mg mb s.heap) (e : nsIn (KK w) mainGlobals x = some none) (hv : bootBuiltins x = some v) (hn : x ≠ "__name__") (h : Q v s)
    (hg : env.globals = mainGlobals := by rfl) (hb : env.builtins = builtinsNs := by rfl)
    (hk : env.scope.kind = .function := by rfl) (hx : env.kindOf x = some .globalImplicit := by rfl) (hd : (x == ("__debug__" : Str)) = false := by decide) :
    wpAny M A (eval (.Name x pos) env) Q E s :=
  Name_function_global hk hx (loadGlobal_builtin (hg ▸ K.g) (mg_none_of K.x K.g e) (hb ▸ K.b) ((K.bb x hn).trans hv) h) hd

theorem g_heappush (w : World) : nsIn (KK w) mainGlobals (Str.ofString "heappush") = some (some (.builtin "_heapq.heappush")) := by kernel_rfl
theorem g_bytes (w : World) : nsIn (KK w) mainGlobals (Str.ofString "bytes") = some none := by kernel_rfl
theorem b_bytes : bootBuiltins (Str.ofString "bytes") = some (.type "bytes") := by boot_by_name
end Mine
namespace Mine
variable {w : World} {mg mb : Str → Option Value} {A : Around} {E : Value → Shared → Prop} {s : Shared} {env : Env}

noncomputable def fdAt (w : World) (a : Addr) : FuncData := match (KK w).lookup a with
  | some ⟨_, _, .func fd, _⟩ => fd
  | _ => default
noncomputable def bodyAt (w : World) (a : Addr) : List Stmt := match (fdAt w a).body with
  | .stmts b => b
  | _ => []
noncomputable def fnObj (w : World) (a : Addr) : Obj := ⟨.type "function", none, .func (fdAt w a), #[]⟩

/- a call of one of the text's own plain defs -/
theorem callF {f : Addr} {pos : List Value} {kw : List (Str × Value)} (binds : List (Str × Value)) {Q : Value → Shared → Prop}
    (K : Ok w mg mb s.heap) (hroom : A.depth < recursionLimit) 
    (h : ∀ h₁ tk, Kp s.heap h₁ → h₁.Ns s.heap.objs.size (fun x => binds.reverse.lookup x) →
      wpAny (model PP w) (A.deeper (callEnv (fdAt w f) s.heap.objs.size f)) (execs (bodyAt w f) (callEnv (fdAt w f) s.heap.objs.size f)) (fun fl s' => Q (match fl with | .ret v => v | _ => .none) s') (fun _ _ => False) { s with heap := h₁, toks := tk })
    (hbind : bindArgs (fdAt w f) ⟨pos, kw⟩ = pure binds := by kernel_rfl)
    (ho : (KK w).lookup f = some (fnObj w f) := by kernel_rfl) (hcd : codeIn (KK w) (fdAt w f).code (fdAt w f).qualname = true := by kernel_rfl)
    (hbody : (fdAt w f).body = .stmts (bodyAt w f) := by kernel_rfl)
    (hcell : ((fdAt w f).scope.names.all fun x => x.2 != .cell) = true := by kernel_rfl) (hloc : (binds.all fun x => (fdAt w f).scope.names.lookup x.1 == some .local) = true := by kernel_rfl)
    (hco : (fdAt w f).scope.isCoroutine = false := by kernel_rfl) (hgen : (fdAt w f).scope.isGenerator = false := by kernel_rfl) (hk : (fdAt w f).scope.kind = .function := by kernel_rfl) :
    wpAny (model PP w) A (call (.ref f) pos kw) Q E s := by
  refine wpAny_call (codeAny_call_def hroom (K.x _ _ ho) rfl K.nl (codeRec_of K.x hcd) hbody (BindsTo.of_eq hbind) (fun x hx => ?_) (fun x hx => ?_) (fun h₀ hns hk' => ?_) hco hgen hk)
  · have := List.all_eq_true.mp hcell x hx
    simpa using this
  · have := List.all_eq_true.mp hloc x hx
    simpa using this
  · exact wpAny_mono (h h₀ _ hk' hns) (fun _ _ x => x) (fun _ _ x => x.elim)

/- names of the commits -/
noncomputable def nmL' (k : Nat) : List UInt8 := [99, (97 + 7 * k % 11).toUInt8]
noncomputable def IsNm (v : Value) (k : Nat) : Prop := ∃ t, v = .bytes (nmL' k).toArray t
noncomputable def IsI (v : Value) (i : Int) : Prop := ∃ t, v = .int i t
end Mine
end

section
open PySem PySem.W PyProof.Rows PySem.Spec PySem.Calls
set_option maxRecDepth 100000
set_option maxHeartbeats 4000000
namespace Mine
variable {prog : Program} {w : World} {A : Around} {E : Value → Shared → Prop} {s : Shared}

theorem slot_bytes_lt : Slot "bytes" (cmpInfo .Lt).2.1 "bytes.__lt__" :=
  .of (owner := "bytes") (n := "__lt__") (by rw [typeLookup_type, builtinLookup_eq_fast]; kernel_rfl) (by decide +kernel) (by decide +kernel) (by decide +kernel)
    (by first | exact .inl (by decide +kernel) | exact .inr (by decide +kernel)) (by rw [isSubtype_type]; kernel_rfl)
theorem entry_bytes_lt : entryFor table "bytes.__lt__" = some Builtin.«bytes.__lt__» := entryFor_of_tree (by kernel_rfl)
theorem args_bytes_lt_2 (a b : Value) : argsOk "bytes.__lt__" ⟨[a, b], []⟩ := by
  unfold argsOk; rw [signature?_of (id := "bytes.__lt__") (n := ['_', '_', 't', 'l', '_', '_']) (o := ['s', 'e', 't', 'y', 'b']) (by kernel_rfl) FB.owner_bytes]; kernel_rfl

noncomputable def bLt (a b : List UInt8) : Bool := Builtin.Bytes.order a b == .lt
theorem gives_bytes_lt (b c : Array UInt8) (t u : Tok) : Gives (Builtin.«bytes.__lt__» ⟨[.bytes b t, .bytes c u], []⟩) (.val (.bool (bLt b.toList c.toList))) := by
  refine .of_wp fun M A E s Q hq => ?_
  show wpAny M A (isInstance (.bytes c u) (.type "bytes") >>= fun r => _) _ E s
  refine wpAny_bind (wpAny_isInstance (typeIs_bytes s c u) F.sub_bytes_bytes ?_)
  exact wpAny_pure ⟨_, rfl, hq⟩
theorem rc_lt_bytes {b c : Array UInt8} {t u : Tok} {Q : Value → Shared → Prop} (h : Q (.bool (bLt b.toList c.toList)) s) : wpAny (model prog w) A (richCompare .Lt (.bytes b t) (.bytes c u)) Q E s :=
  richCompare_gives (op := .Lt) (typeIs_bytes s b t) (typeIs_bytes s c u) slot_bytes_lt entry_bytes_lt (args_bytes_lt_2 _ _) (gives_bytes_lt b c t u) (fun e => nomatch e) h

/- an exact tuple -/
noncomputable abbrev IsT (h : Heap) (a : Addr) (vs : List Value) : Prop := h.get? a = some { cls := .type "tuple", data := .seq vs.toArray }
/- the pair (int, bytes) at v -/
noncomputable def PairAt (h : Heap) (v : Value) (p : Int × List UInt8) : Prop := ∃ a t u, v = .ref a ∧ IsT h a [.int p.1 t, .bytes p.2.toArray u]
theorem PairAt.keeps {h h' : Heap} {v p} (x : PairAt h v p) (k : Kp h h') : PairAt h' v p := let ⟨a, t, u, e, q⟩ := x; ⟨a, t, u, e, k _ _ q⟩

noncomputable def pLt (p q : Int × List UInt8) : Bool := if p.1 = q.1 then bLt p.2 q.2 else decide (p.1 < q.1)

theorem tupItems {M : Model} {a : Addr} {vs : List Value} {Q : Array Value → Shared → Prop} (h : IsT s.heap a vs) (hq : Q vs.toArray s) : wpAny M A (Builtin.Tuple.tupleItemsOf (.ref a)) Q E s := by
  unfold Builtin.Tuple.tupleItemsOf
  exact wpAny_bind (wpAny_seqItems h rfl (wpAny_pure hq))

theorem tuple_lt_meets (a b : Addr) (i j : Int) (t t' u u' : Tok) (x y : Array UInt8) :
    Meets (Builtin.«tuple.__lt__» ⟨[.ref a, .ref b], []⟩) (fun _A R s => IsT s.heap a [.int i t, .bytes x u] ∧ IsT s.heap b [.int j t', .bytes y u'] ∧ R (.ok (.ret (.bool (pLt (i, x.toList) (j, y.toList))))) s) :=
  .of_wp fun prog w A R s h => by
    obtain ⟨ha, hb, hr⟩ := h
    show wpAny _ _ (isInstance (.ref b) (.type "tuple") >>= fun r => _) _ _ s
    refine wpAny_bind (wpAny_isInstance (T := "tuple") (b := true) ⟨_, hb, rfl⟩ sub_tuple_self ?_)
    show wpAny _ _ (Builtin.Tuple.tupleItemsOf (.ref a) >>= fun r => _) _ _ s
    refine wpAny_bind (tupItems ha ?_)
    refine wpAny_bind (tupItems hb ?_)
    refine wpAny_bind ?_
    have e : (#[Value.int i t, Value.bytes x u].toList.zip #[Value.int j t', Value.bytes y u'].toList) = [(Value.int i t, Value.int j t'), (Value.bytes x u, Value.bytes y u')] := rfl
    have e2 : ([Value.int i t, Value.bytes x u].toArray.toList.zip [Value.int j t', Value.bytes y u'].toArray.toList) = [(Value.int i t, Value.int j t'), (Value.bytes x u, Value.bytes y u')] := rfl
    rw [e2, List.forIn_cons]
    refine wpAny_bind ?_
    refine wpAny_bind (wpAny_eqBool_int ?_)
    by_cases hij : i = j
    · subst hij
      simp only [beq_self_eq_true, Bool.not_true, Bool.false_eq_true, if_false]
      refine wpAny_pure ?_
      dsimp only
      rw [List.forIn_cons]
      refine wpAny_bind ?_
      refine wpAny_bind (eqBool_bytes ?_)
      by_cases hxy : x.toList = y.toList
      · simp only [hxy, decide_true, Bool.not_true, Bool.false_eq_true, if_false]
        refine wpAny_pure ?_
        dsimp only
        rw [List.forIn_nil]
        refine wpAny_pure ?_
        refine wpAny_pure ⟨_, rfl, ?_⟩
        have : pLt (i, x.toList) (i, y.toList) = false := by
          simp only [pLt, if_true, bLt, hxy]
          have := order_eq y.toList y.toList
          simp only [beq_self_eq_true, beq_iff_eq] at this
          rw [this]; rfl
        rw [hxy] at this
        rw [hxy, this] at hr
        exact hr
      · simp only [hxy, decide_false, Bool.not_false, if_true]
        refine wpAny_bind (wpAny_rule (wpAny_bind (rc_lt_bytes (wpAny_bind (wpAny_pure (wpAny_pure ?_))))))
        refine wpAny_pure ?_
        refine wpAny_pure ⟨_, rfl, ?_⟩
        simpa [pLt] using hr
    · have hb : (i == j) = false := by simpa using hij
      simp only [hb, Bool.not_false, if_true]
      refine wpAny_bind (wpAny_rule (wpAny_bind (wpAny_lt_int (wpAny_bind (wpAny_pure (wpAny_pure ?_))))))
      refine wpAny_pure ?_
      refine wpAny_pure ⟨_, rfl, ?_⟩
      simpa [pLt, hij] using hr

theorem rc_lt_pair {v v' : Value} {p q : Int × List UInt8} {Q : Value → Shared → Prop} (hv : PairAt s.heap v p) (hv' : PairAt s.heap v' q) (hu : A.units < cLine) (h : Q (.bool (pLt p q)) s) :
    wpAny (model prog w) A (richCompare .Lt v v') Q E s := by
  obtain ⟨a, t, u, rfl, ha⟩ := hv
  obtain ⟨b, t', u', rfl, hb⟩ := hv'
  exact richCompare_meets_room (op := .Lt) ⟨_, ha, rfl⟩ ⟨_, hb, rfl⟩ F.slot_tuple_lt F.entry_tuple_lt (F.args_tuple_lt_2 _ _) (tuple_lt_meets a b p.1 q.1 t t' u u' p.2.toArray q.2.toArray)
    ⟨ha, hb, And.intro (by intro e; cases e) (by simpa using h)⟩ hu

end Mine
end

section
open PySem PySem.W PyProof.Rows
set_option maxRecDepth 100000
set_option maxHeartbeats 4000000
/-! a set's table keeps its places in order -/
namespace Mine
open PySem.SetTable

noncomputable def Inc (xs : Array Nat) : Prop := ∀ i j, i < j → j < xs.size → xs.getD i 0 < xs.getD j 0
theorem below_go {xs : Array Nat} {j : Nat} (hs : Inc xs) : ∀ (f lo hi : Nat), hi - lo ≤ f → lo ≤ hi → hi ≤ xs.size → (∀ i < lo, xs.getD i 0 < j) → (∀ i, hi ≤ i → i < xs.size → j ≤ xs.getD i 0) →
    below.go xs j f lo hi ≤ xs.size ∧ (∀ i < below.go xs j f lo hi, xs.getD i 0 < j) ∧ ∀ i, below.go xs j f lo hi ≤ i → i < xs.size → j ≤ xs.getD i 0
  | 0, lo, hi, h1, h2, h3, h4, h5 => by
    have : lo = hi := by omega
    subst this
    exact ⟨h3, h4, h5⟩
  | f + 1, lo, hi, h1, h2, h3, h4, h5 => by
    unfold below.go
    by_cases hlt : lo < hi
    · rw [if_pos hlt]
      have m1 : lo ≤ (lo + hi) / 2 := by omega
      have m2 : (lo + hi) / 2 < hi := by omega
      dsimp only
      generalize (lo + hi) / 2 = md at *
      have e : xs.getD md j = xs.getD md 0 := by
        have : md < xs.size := by omega
        simp [Array.getD, this]
      rw [e]
      by_cases hc : xs.getD md 0 < j
      · rw [if_pos hc]
        refine below_go hs f (md + 1) hi (by omega) (by omega) h3 (fun i hi' => ?_) h5
        by_cases e2 : i = md
        · rw [e2]; exact hc
        · exact Nat.lt_trans (hs i md (by omega) (by omega)) hc
      · rw [if_neg hc]
        refine below_go hs f lo md (by omega) m1 (by omega) h4 fun i hi' hi2 => ?_
        by_cases e2 : i = md
        · rw [e2]; omega
        · have := hs md i (by omega) hi2
          omega
    · rw [if_neg hlt]
      have : lo = hi := by omega
      subst this
      exact ⟨h3, h4, h5⟩
theorem below_ok {xs : Array Nat} (j : Nat) (hs : Inc xs) : below xs j ≤ xs.size ∧ (∀ i < below xs j, xs.getD i 0 < j) ∧ ∀ i, below xs j ≤ i → i < xs.size → j ≤ xs.getD i 0 :=
  below_go hs xs.size 0 xs.size (Nat.le_refl _) (Nat.zero_le _) (Nat.le_refl _) (fun i hi => absurd hi (Nat.not_lt_zero _)) fun i h1 h2 => by omega

theorem insertAt_get {α : Type} (xs : Array α) {p : Nat} (hp : p ≤ xs.size) (x : α) (i : Nat) : (insertAt xs p x)[i]? = if i < p then xs[i]? else if i = p then some x else xs[i - 1]? := by
  rw [← Array.getElem?_toList, SetTable.toList_insertAt, List.getElem?_append]
  have hl : (xs.toList.take p).length = p := by rw [List.length_take, Array.length_toList]; omega
  rw [hl]
  by_cases h1 : i < p
  · rw [if_pos h1, if_pos h1, List.getElem?_take, if_pos h1, Array.getElem?_toList]
  · rw [if_neg h1, if_neg h1]
    by_cases h2 : i = p
    · rw [if_pos h2, h2, Nat.sub_self]; rfl
    · rw [if_neg h2]
      obtain ⟨q, hq⟩ : ∃ q, i - p = q + 1 := ⟨i - p - 1, by omega⟩
      rw [hq, List.getElem?_cons_succ, List.getElem?_drop, Array.getElem?_toList]
      congr 1
      omega
theorem insertAt_size {α : Type} (xs : Array α) {p : Nat} (x : α) : (insertAt xs p x).size = xs.size + 1 := by
  have := (SetTable.insertAt_perm xs p x).length_eq
  rw [Array.length_toList, Array.length_toList, Array.size_push] at this
  exact this
theorem Inc.insert {xs : Array Nat} {j : Nat} (hs : Inc xs) (hn : xs[below xs j]? ≠ some j) : Inc (insertAt xs (below xs j) j) := by
  obtain ⟨b1, b2, b3⟩ := below_ok j hs
  generalize hp : below xs j = p at *
  have get : ∀ i, (insertAt xs p j).getD i 0 = if i < p then xs.getD i 0 else if i = p then j else xs.getD (i - 1) 0 := by
    intro i
    rw [Array.getD_eq_getD_getElem?, insertAt_get xs b1]
    by_cases h1 : i < p
    · rw [if_pos h1, if_pos h1, Array.getD_eq_getD_getElem?]
    · rw [if_neg h1, if_neg h1]
      by_cases h2 : i = p
      · rw [if_pos h2, if_pos h2]; rfl
      · rw [if_neg h2, if_neg h2, Array.getD_eq_getD_getElem?]
  have b4 : ∀ i, p ≤ i → i < xs.size → j < xs.getD i 0 := by
    intro i h1 h2
    have h3 := b3 i h1 h2
    have hpp : xs.getD p 0 ≠ j := fun e => hn (by
      have hps : p < xs.size := by omega
      rw [Array.getElem?_eq_getElem hps]
      have : xs.getD p 0 = xs[p] := by simp [Array.getD, hps]
      rw [← this, e])
    by_cases e : i = p
    · rw [e]; rw [e] at h3; omega
    · have h4 := b3 p (Nat.le_refl _) (by omega)
      have h5 := hs p i (by omega) h2
      omega
  intro i k hik hk
  rw [insertAt_size] at hk
  rw [get, get]
  by_cases h1 : i < p
  · rw [if_pos h1]
    by_cases h2 : k < p
    · rw [if_pos h2]; exact hs i k hik (by omega)
    · rw [if_neg h2]
      by_cases h3 : k = p
      · rw [if_pos h3]; exact b2 i h1
      · rw [if_neg h3]
        exact hs i (k - 1) (by omega) (by omega)
  · rw [if_neg h1]
    by_cases h2 : i = p
    · rw [if_pos h2, if_neg (by omega), if_neg (by omega)]
      exact b4 (k - 1) (by omega) (by omega)
    · rw [if_neg h2, if_neg (by omega), if_neg (by omega)]
      exact hs (i - 1) (k - 1) (by omega) (by omega)

/- the table of a set that only grew -/
structure TK (led : Bool) (t : SetTable) (n : Nat) : Prop where
  f : t.fits n = true
  l : t.led = led
  s : Inc t.place
  d : t.dummies = #[]
theorem TK.fresh (led : Bool) : TK led (.fresh 0 0 led) 0 := ⟨rfl, rfl, fun _i _j _ hj => absurd hj (Nat.not_lt_zero _), rfl⟩
theorem TK.off {led : Bool} {t : SetTable} {n : Nat} (x : TK led t n) : TK led { t with plain := false } n := ⟨SetTable.fits_plain_off x.f, x.l, x.s, x.d⟩
theorem inc_range (n : Nat) : Inc (Array.range n) := fun i j hij hj => by
  have hj' : j < n := by simpa using hj
  have e : ∀ k < n, (Array.range n).getD k 0 = k := fun k hk => by simp [Array.getD, hk]
  rw [e i (by omega), e j hj']; exact hij
theorem TK.standIn {led : Bool} {t : SetTable} (hl : t.led = led) (n : Nat) : TK led (t.standIn n) n := ⟨SetTable.standIn_fits t n, hl, inc_range n, rfl⟩

theorem has_nil (j : Nat) : has #[] j = false := by
  unfold has
  simp

theorem probe_go {t : SetTable} (hd : t.dummies = #[]) (H : Nat → Int) (h : Int) : ∀ (f : Nat) (p : Probe) (j : Nat) (dm : Option Nat), p.dummy = none → probe.go t H h f p = some (.empty j dm) → dm = none ∧ t.place[below t.place j]? ≠ some j
  | 0, p, j, dm, _, e => by simp [probe.go] at e
  | f + 1, p, j, dm, hp, e => by
    unfold probe.go at e
    have hs : t.slot p.j = if t.place[below t.place p.j]? == some p.j then .live (below t.place p.j) else .empty := by
      unfold slot
      rw [hd, has_nil]
      simp
    rw [hs] at e
    have adv : (t.advance p).dummy = none := by
      unfold advance
      split
      · exact hp
      · split
        exact hp
    by_cases hc : (t.place[below t.place p.j]? == some p.j) = true
    · rw [if_pos hc] at e
      dsimp only at e
      split at e
      · cases e
      · exact probe_go hd H h f _ j dm adv e
    · rw [if_neg hc] at e
      dsimp only at e
      cases e
      exact ⟨hp, fun e' => hc (by rw [e']; simp)⟩
theorem TK.layNew {led : Bool} {t : SetTable} {es : Array (Int × Value)} {h : Int} {x : Value} (T : TK led t es.size) : TK led (layNew t es h x).2.1 (es.size + 1) := by
  unfold PySem.layNew
  split
  · rename_i slot wasDummy hfs
    have hfree : t.place[below t.place slot]? ≠ some slot := by
      unfold freeSlot at hfs
      split at hfs
      · rename_i j dm hpr
        obtain ⟨rfl, q⟩ := probe_go T.d _ _ _ _ j dm (by unfold probeStart; rfl) hpr
        cases hfs
        exact q
      · cases hfs
    have hput : (t.put slot).1.led = led ∧ Inc (t.put slot).1.place ∧ (t.put slot).1.dummies = #[] := by
      unfold put
      dsimp only
      rw [T.d, has_nil]
      exact ⟨T.l, T.s.insert hfree, rfl⟩
    have hsz : (insertAt es (t.put slot).2 (h, x)).size = es.size + 1 := insertAt_size _ _
    dsimp only
    rw [hsz]
    unfold orStandIn
    split
    · rename_i hf
      exact ⟨hf, hput.1, hput.2.1, hput.2.2⟩
    · exact TK.standIn hput.1 _
  · exact TK.standIn T.l _
theorem TK.relay {led : Bool} {t : SetTable} {es : Array (Int × Value)} {wanted : Nat} (T : TK led t es.size) : TK led (relayAll t es wanted).2.1 es.size := by
  unfold relayAll
  split
  · rename_i t' order hre
    dsimp only
    split
    · rename_i hc
      simp only [Bool.and_eq_true] at hc
      have hsz : (order.filterMap (es[·]?)).size = es.size := by
        have hp : List.Perm order.toList (List.range es.size) := List.isPerm_iff.mp (by simpa [coversAll] using hc.1)
        rw [← Array.length_toList, Array.toList_filterMap, (hp.filterMap _).length_eq, filterMap_getElem?_range, Array.length_toList]
      rw [hsz] at hc
      unfold relaid laid at hre
      simp only [Option.bind_eq_bind, Option.bind_eq_some_iff] at hre
      obtain ⟨owner, _, hre⟩ := hre
      have hre : some _ = some (t', order) := hre
      injection hre with hre
      injection hre with e1 e2
      subst e1
      refine ⟨hc.2, T.l, ?_, rfl⟩
      have hpw : (((List.range (SetTable.sizeAbove wanted - 1 + 1)).filterMap fun j => (owner.getD j none).map (j, ·)).map (·.1)).Pairwise (· < ·) := by
        rw [List.pairwise_map, List.pairwise_filterMap]
        refine List.pairwise_lt_range.imp ?_
        intro a b hab x hx y hy
        rw [Option.map_eq_some_iff] at hx hy
        obtain ⟨_, _, rfl⟩ := hx
        obtain ⟨_, _, rfl⟩ := hy
        exact hab
      intro i j hij hj
      have hj' : j < (((List.range (SetTable.sizeAbove wanted - 1 + 1)).filterMap fun j => (owner.getD j none).map (j, ·)).map (·.1)).length := by simpa using hj
      have := List.pairwise_iff_getElem.mp hpw i j (by omega) hj' hij
      have e : ∀ k (hk : k < (((List.range (SetTable.sizeAbove wanted - 1 + 1)).filterMap fun j => (owner.getD j none).map (j, ·)).map (·.1)).length), ((((List.range (SetTable.sizeAbove wanted - 1 + 1)).filterMap fun j => (owner.getD j none).map (j, ·)).map (·.1)).toArray).getD k 0 =
          (((List.range (SetTable.sizeAbove wanted - 1 + 1)).filterMap fun j => (owner.getD j none).map (j, ·)).map (·.1))[k] := fun k hk => by
        rw [Array.getD_eq_getD_getElem?, List.getElem?_toArray, List.getElem?_eq_getElem hk]; rfl
      rw [e i (by omega), e j hj']
      exact this
    · exact TK.standIn T.l _
  · exact TK.standIn T.l _
end Mine
end

section
/-! the plain law of a binary heap -/
namespace Mine
section
variable {α : Type} (lt : α → α → Bool)

structure Ord : Prop where
  asymm : ∀ x y, lt x y = true → lt y x = false
  trans : ∀ x y z, lt y x = false → lt z y = false → lt z x = false

noncomputable def GEdge (zs : Array α) (i : Nat) : Prop := ∀ x p, zs[i]? = some x → zs[(i - 1) / 2]? = some p → lt x p = false
noncomputable def HeapP (zs : Array α) : Prop := ∀ i, 0 < i → GEdge lt zs i
noncomputable def KidsOk (zs : Array α) (pos : Nat) : Prop := 0 < pos → ∀ c, 0 < c → (c - 1) / 2 = pos → ∀ x p, zs[c]? = some x → zs[(pos - 1) / 2]? = some p → lt x p = false
noncomputable def UpI (zs : Array α) (pos : Nat) : Prop := (∀ i, 0 < i → i ≠ pos → GEdge lt zs i) ∧ KidsOk lt zs pos
noncomputable def DnI (zs : Array α) (pos : Nat) : Prop := (∀ i, 0 < i → i ≠ pos → (i - 1) / 2 ≠ pos → GEdge lt zs i) ∧ KidsOk lt zs pos

theorem sw_get (zs : Array α) {i j : Nat} (hi : i < zs.size) (hj : j < zs.size) (k : Nat) :
    (zs.swap i j hi hj)[k]? = if k = i then zs[j]? else if k = j then zs[i]? else zs[k]? := by
  rw [Array.getElem?_swap]
  by_cases h1 : k = j
  · subst h1
    by_cases h2 : k = i
    · subst h2; simp [hi]
    · simp [h2, hi]
  · by_cases h2 : k = i
    · subst h2; simp [hj]; intro h; exact absurd h.symm h1
    · simp only [h1, h2, if_false]
      have e1 : ¬ j = k := fun h => h1 h.symm
      have e2 : ¬ i = k := fun h => h2 h.symm
      simp [e1, e2]

variable {lt}
theorem up_done {zs : Array α} {pos : Nat} (h : UpI lt zs pos) (hp : pos = 0 ∨ GEdge lt zs pos) : HeapP lt zs := fun i hi => by
  by_cases e : i = pos
  · subst e
    rcases hp with rfl | hp
    · exact absurd hi (Nat.lt_irrefl _)
    · exact hp
  · exact h.1 i hi e

theorem up_swap (O : Ord lt) {zs : Array α} {pos : Nat} (h : UpI lt zs pos) (h0 : 0 < pos) (hs : pos < zs.size) (hp : (pos - 1) / 2 < zs.size)
    (hl : lt zs[pos] zs[(pos - 1) / 2] = true) : UpI lt (zs.swap ((pos - 1) / 2) pos hp hs) ((pos - 1) / 2) := by
  have hne : (pos - 1) / 2 ≠ pos := by (first | lia | omega)
  have gp : zs[pos]? = some zs[pos] := by simp [hs]
  have gq : zs[(pos - 1) / 2]? = some zs[(pos - 1) / 2] := by simp [hp]
  have hpx := O.asymm _ _ hl
  refine ⟨fun i hi hin x p hx hpp => ?_, fun hq c hc hcp x p hx hpp => ?_⟩
  · rw [sw_get] at hx hpp
    rw [if_neg hin] at hx
    by_cases e1 : i = pos
    · subst e1
      rw [if_pos rfl, gq] at hx
      rw [if_pos rfl, gp] at hpp
      cases hx; cases hpp
      exact hpx
    · rw [if_neg e1] at hx
      by_cases e2 : (i - 1) / 2 = pos
      · rw [if_neg (by (first | lia | omega)), if_pos e2, gq] at hpp
        cases hpp
        exact h.2 h0 i hi e2 x _ hx gq
      · by_cases e3 : (i - 1) / 2 = (pos - 1) / 2
        · rw [if_pos e3, gp] at hpp
          cases hpp
          have := h.1 i hi e1 x _ hx (by rw [e3]; exact gq)
          exact O.trans _ _ _ hpx this
        · rw [if_neg e3, if_neg e2] at hpp
          exact h.1 i hi e1 x p hx hpp
  · rw [sw_get] at hx hpp
    rw [if_neg (by (first | lia | omega)), if_neg (by (first | lia | omega))] at hpp
    have hgp := h.1 _ hq hne _ p gq hpp
    by_cases e1 : c = pos
    · subst e1
      rw [if_neg (by (first | lia | omega)), if_pos rfl, gq] at hx
      cases hx
      exact hgp
    · rw [if_neg (by (first | lia | omega)), if_neg e1] at hx
      have := h.1 c hc e1 x _ hx (by rw [hcp]; exact gq)
      exact O.trans _ _ _ hgp this

theorem dn_leaf {zs : Array α} {pos : Nat} (h : DnI lt zs pos) (hs : zs.size / 2 ≤ pos) : UpI lt zs pos := by
  refine ⟨fun i hi hin => ?_, h.2⟩
  by_cases e : (i - 1) / 2 = pos
  · intro x p hx
    have := (Array.getElem?_eq_some_iff.mp hx).1
    (first | lia | omega)
  · exact h.1 i hi hin e

theorem dn_swap {zs : Array α} {pos child : Nat} (h : DnI lt zs pos) (hc : child = 2 * pos + 1 ∨ child = 2 * pos + 2) (hcs : child < zs.size) (hs : pos < zs.size)
    (hsib : ∀ o x, (o = 2 * pos + 1 ∨ o = 2 * pos + 2) → o ≠ child → zs[o]? = some x → lt x zs[child] = false) : DnI lt (zs.swap child pos hcs hs) child := by
  have gc : zs[child]? = some zs[child] := by simp [hcs]
  refine ⟨fun i hi hin hi2 x p hx hpp => ?_, fun hq g hg hgc x p hx hpp => ?_⟩
  · rw [sw_get] at hx hpp
    rw [if_neg hin] at hx
    rw [if_neg hi2] at hpp
    by_cases e1 : i = pos
    · subst e1
      rw [if_pos rfl, gc] at hx
      cases hx
      rw [if_neg (by (first | lia | omega))] at hpp
      exact h.2 hi child (by (first | lia | omega)) (by (first | lia | omega)) _ p gc hpp
    · rw [if_neg e1] at hx
      by_cases e2 : (i - 1) / 2 = pos
      · rw [if_pos e2, gc] at hpp
        cases hpp
        exact hsib i x (by (first | lia | omega)) hin hx
      · rw [if_neg e2] at hpp
        exact h.1 i hi e1 e2 x p hx hpp
  · rw [sw_get] at hx hpp
    rw [if_neg (by (first | lia | omega)), if_neg (by (first | lia | omega))] at hx
    rw [if_neg (by (first | lia | omega)), if_pos (by (first | lia | omega)), gc] at hpp
    cases hpp
    exact h.1 g hg (by (first | lia | omega)) (by (first | lia | omega)) x _ hx (by rw [hgc]; exact gc)

theorem heap_min (O : Ord lt) {zs : Array α} (h : HeapP lt zs) {m : α} (hm : zs[0]? = some m) : ∀ (i : Nat) (x : α), zs[i]? = some x → lt x m = false
  | 0, x, hx => by
    rw [hm] at hx; cases hx
    cases e : lt m m with
    | false => rfl
    | true => have := O.asymm _ _ e; rw [e] at this; cases this
  | i + 1, x, hx => by
    have hlt := (Array.getElem?_eq_some_iff.mp hx).1
    have hj : (i + 1 - 1) / 2 < zs.size := by (first | lia | omega)
    have gp : zs[(i + 1 - 1) / 2]? = some zs[(i + 1 - 1) / 2] := by simp
    have h1 := h (i + 1) (Nat.succ_pos _) x _ hx gp
    have h2 := heap_min O h hm ((i + 1 - 1) / 2) _ gp
    exact O.trans _ _ _ h2 h1
  termination_by i => i
  decreasing_by (first | lia | omega)

theorem push_up {zs : Array α} (h : HeapP lt zs) (x : α) : UpI lt (zs.push x) zs.size := by
  refine ⟨fun i hi hin y p hy hp => ?_, fun hq c hc hcp y p hy hp => ?_⟩
  · have hlt := (Array.getElem?_eq_some_iff.mp hy).1
    rw [Array.size_push] at hlt
    rw [Array.getElem?_push, if_neg hin] at hy
    rw [Array.getElem?_push, if_neg (by (first | lia | omega))] at hp
    exact h i hi y p hy hp
  · have hlt := (Array.getElem?_eq_some_iff.mp hy).1
    rw [Array.size_push] at hlt
    (first | lia | omega)

theorem pop_dn {zs : Array α} (h : HeapP lt zs) (x : α) : DnI lt (zs.pop.setIfInBounds 0 x) 0 := by
  refine ⟨fun i hi hin hi2 y p hy hp => ?_, fun hq => absurd hq (Nat.lt_irrefl _)⟩
  rw [Array.getElem?_setIfInBounds_ne (by (first | lia | omega))] at hy hp
  have e : ∀ k v, zs.pop[k]? = some v → zs[k]? = some v := fun k v hv => by
    rw [Array.getElem?_pop] at hv
    split at hv
    · exact hv
    · cases hv
  exact h i hi y p (e _ _ hy) (e _ _ hp)
end
end Mine
end

section
open PySem PySem.W PyProof.Rows PySem.Spec PySem.Calls
set_option maxRecDepth 100000
set_option maxHeartbeats 4000000
namespace Mine
variable {prog : Program} {w : World} {A : Around} {E : Value → Shared → Prop} {s : Shared} {h : Heap} {g : Array GenState} {d : Drawn} {tk : Nat} {os : OsState}

noncomputable abbrev Key := Int × List UInt8
noncomputable abbrev KV := Value × Key
noncomputable def zLt (x y : KV) : Bool := pLt x.2 y.2

theorem hq_items {M : Model} {a : Addr} {xs : Array Value} {n : Nat} {Q : Array Value → Shared → Prop} (hl : IsL s.heap a xs n) (hq : Q xs s) :
    wpAny M A (do
      let some xs ← seqItems? (.ref a) | unsupported "internal:_heapq"
      return xs) Q E s := wpAny_bind (wpAny_seqItems hl rfl (wpAny_pure hq))
theorem hq_at {M : Model} {xs : Array Value} {i : Nat} {v : Value} {Q : Value → Shared → Prop} (hv : xs[i]? = some v) (hq : Q v s) :
    wpAny M A (match xs[i]? with
      | some v => pure v
      | none => unsupported "internal:_heapq.index") Q E s := by
  rw [hv]; exact wpAny_pure hq

theorem entry_sift : entryFor table "_heapq.heapify.sift" = some Builtin.«_heapq.heapify.sift» := entryFor_of_tree (by kernel_rfl)
theorem plain_sift : plainId "_heapq.heapify.sift" = true := by decide +kernel

theorem hq_less {a : Addr} {xs : Array Value} {n : Nat} {v v' : Value} {p q : Key} {Q : Bool → Shared → Prop} (hl : IsL s.heap a xs n) (hv : PairAt s.heap v p) (hv' : PairAt s.heap v' q) (hu : A.units < cLine)
    (hq : Q (pLt p q) s) : wpAny (model prog w) A (do
      let less ← holding [v, v'] (do truthOfDropped (← richCompare .Lt v v'))
      if (← (do
        let some xs ← seqItems? (.ref a) | unsupported "internal:_heapq"
        return xs)).size != xs.size then rule "_heapq.size-changed"; raiseError "RuntimeError" "list changed size during iteration"
      return less) Q E s := by
  refine wpAny_bind (wpAny_holding (wpAny_bind (rc_lt_pair hv hv' hu ?_)))
  refine wpAny_bind (wpAny_truthy_bool (wpAny_bind (wpAny_pure (wpAny_pure ?_))))
  refine wpAny_bind (hq_items hl ?_)
  simp only [bne_self_eq_false, Bool.false_eq_true, if_false]
  exact wpAny_pure hq
theorem hq_swap {M : Model} {a : Addr} {xs : Array Value} {n i j : Nat} (hl : IsL h a xs n) (hi : i < xs.size) (hj : j < xs.size) {Q : Unit → Shared → Prop} (hz : xs.size ≤ sizeLine)
    (hq : ∀ h' n', IsL h' a (xs.swap i j hi hj) n' → Heap.SameBut a h h' → Q () ⟨h', g, d, tk, os⟩) :
    wpAny M A (do
      let xs ← (do
        let some xs ← seqItems? (.ref a) | unsupported "internal:_heapq"
        return xs)
      let x ← (match xs[i]? with
        | some v => pure v
        | none => unsupported "internal:_heapq.index")
      let y ← (match xs[j]? with
        | some v => pure v
        | none => unsupported "internal:_heapq.index")
      updateSeq a fun xs => (xs.setIfInBounds i y).setIfInBounds j x) Q E ⟨h, g, d, tk, os⟩ := by
  refine wpAny_bind (hq_items hl ?_)
  refine wpAny_bind (hq_at (v := xs[i]) (by simp [hi]) ?_)
  refine wpAny_bind (hq_at (v := xs[j]) (by simp [hj]) ?_)
  refine wpAny_updateSeq hl rfl ?_ hz (by simp; (first | lia | omega))
  have e : (xs.setIfInBounds i xs[j]).setIfInBounds j xs[i] = xs.swap i j hi hj := by
    rw [Array.swap_def]
    simp [Array.setIfInBounds, hi, hj]
  have := IsL.update hl (fun xs' => (xs'.setIfInBounds i xs[j]).setIfInBounds j xs[i])
  simp only [e] at this
  exact hq _ _ this (Heap.SameBut.update _ _ _)

/- the heap's rows -/
structure Pq (h : Heap) (a : Addr) (zs : Array KV) : Prop where
  l : ∃ n, IsL h a (zs.map (·.1)) n
  p : ∀ (i : Nat) (z : KV), zs[i]? = some z → PairAt h z.1 z.2
  lt : zs.size ≤ sizeLine

theorem Pq.ne {a : Addr} {zs : Array KV} (x : Pq h a zs) {i : Nat} {z : KV} (hz : zs[i]? = some z) {h' : Heap} (hk : Heap.SameBut a h h') : PairAt h' z.1 z.2 := by
  obtain ⟨b, t, u, e, ht⟩ := x.p _ _ hz
  refine ⟨b, t, u, e, (hk.2 b ?_).trans ht⟩
  rintro rfl
  obtain ⟨n, l⟩ := x.l
  have := l.symm.trans ht
  simp at this
theorem Pq.swap {a : Addr} {zs : Array KV} {i j : Nat} {h' : Heap} {n' : Nat} (x : Pq h a zs) (hi : i < zs.size) (hj : j < zs.size) (l' : IsL h' a ((zs.swap i j hi hj).map (·.1)) n') (hk : Heap.SameBut a h h') : Pq h' a (zs.swap i j hi hj) := by
  refine ⟨⟨_, l'⟩, fun k z hz => ?_, by simpa using x.lt⟩
  have : ∃ k' : Nat, zs[k']? = some z := by
    rw [sw_get] at hz
    split at hz
    · exact ⟨_, hz⟩
    · split at hz
      · exact ⟨_, hz⟩
      · exact ⟨_, hz⟩
  obtain ⟨k', hk'⟩ := this
  exact x.ne hk' hk

theorem pq_less {a : Addr} {zs : Array KV} {i j : Nat} {Q : Bool → Shared → Prop} (x : Pq s.heap a zs) (hi : i < zs.size) (hj : j < zs.size) (hu : A.units < cLine)
    (hq : Q (zLt zs[i] zs[j]) s) : wpAny (model prog w) A (do
      let less ← holding [zs[i].1, zs[j].1] (do truthOfDropped (← richCompare .Lt zs[i].1 zs[j].1))
      if (← (do
        let some xs ← seqItems? (.ref a) | unsupported "internal:_heapq"
        return xs)).size != (zs.map (·.1)).size then rule "_heapq.size-changed"; raiseError "RuntimeError" "list changed size during iteration"
      return less) Q E s := by
  obtain ⟨n, l⟩ := x.l
  exact hq_less l (x.p i zs[i] (by simp [hi])) (x.p j zs[j] (by simp [hj])) hu hq
theorem pq_swap {M : Model} {a : Addr} {zs : Array KV} {i j : Nat} (x : Pq h a zs) (hi : i < zs.size) (hj : j < zs.size) {Q : Unit → Shared → Prop}
    (hq : ∀ h', Pq h' a (zs.swap i j hi hj) → Heap.SameBut a h h' → Q () ⟨h', g, d, tk, os⟩) :
    wpAny M A (do
      let xs ← (do
        let some xs ← seqItems? (.ref a) | unsupported "internal:_heapq"
        return xs)
      let x ← (match xs[i]? with
        | some v => pure v
        | none => unsupported "internal:_heapq.index")
      let y ← (match xs[j]? with
        | some v => pure v
        | none => unsupported "internal:_heapq.index")
      updateSeq a fun xs => (xs.setIfInBounds i y).setIfInBounds j x) Q E ⟨h, g, d, tk, os⟩ := by
  obtain ⟨n, l⟩ := x.l
  refine hq_swap l (by simpa using hi) (by simpa using hj) (by simpa using x.lt) fun h' n' l' hk => ?_
  refine hq h' (x.swap hi hj (n' := n') ?_ hk) hk
  rw [show ((zs.swap i j hi hj).map (·.1)) = (zs.map (·.1)).swap i j (by simpa using hi) (by simpa using hj) from ?_]
  · exact l'
  · apply Array.ext_getElem?
    intro k
    rw [Array.getElem?_map, sw_get, sw_get]
    split
    · simp
    · split <;> simp

theorem sift_up (O : Ord zLt) {a : Addr} {r : Value} {R : Result → Shared → Prop} (hu : A.in1.units < cLine) : ∀ (pos : Nat) (zs : Array KV) (h : Heap), Pq h a zs → UpI zLt zs pos → pos < zs.size →
    (∀ h' zs', Pq h' a zs' → zs'.Perm zs → HeapP zLt zs' → Heap.SameBut a h h' → R (.ok (.ret r)) ⟨h', g, d, tk, os⟩) →
    codeAny (model prog w) A (.builtin "_heapq.heapify.sift" ⟨[.ref a, .bool false, .bool false, rawInt pos, rawInt 0, r, rawInt (-1)], []⟩) R ⟨h, g, d, tk, os⟩ := by
  intro pos
  induction pos using Nat.strongRecOn with
  | ind pos ih =>
    intro zs h x hup hp hR
    obtain ⟨n, l⟩ := id x.l
    refine codeAny_builtin entry_sift ?_
    rw [Around.under_plainId plain_sift]
    unfold Builtin.«_heapq.heapify.sift»
    simp only [rawInt, Bool.false_eq_true, if_false]
    refine wpAny_bind (hq_items l ?_)
    have e0 : ((pos : Int)).toNat = pos := rfl
    have e1 : Int.toNat 0 = 0 := rfl
    have e2 : (-1 : Int) < 0 := by decide
    simp only [e0, e1, e2, if_true]
    by_cases h0 : pos = 0
    · subst h0
      simp only [Nat.lt_irrefl, gt_iff_lt, if_false]
      exact wpAny_pure (hR h zs x (Array.Perm.refl _) (up_done hup (.inl rfl)) (Heap.SameBut.refl _ _))
    · have h1 : pos > 0 := Nat.pos_of_ne_zero h0
      simp only [h1, if_true]
      have hpp : (pos - 1) / 2 < zs.size := by (first | lia | omega)
      refine wpAny_bind (hq_at (v := zs[pos].1) (by simp [hp]) ?_)
      refine wpAny_bind (hq_at (v := zs[(pos - 1) / 2].1) (by simp [hpp]) ?_)
      refine wpAny_bind (pq_less x hp hpp hu ?_)
      cases hl : zLt zs[pos] zs[(pos - 1) / 2] with
      | true =>
        simp only [if_true]
        refine wpAny_bind (pq_swap x hpp hp fun h' x' hk => ?_)
        refine wpAny_pure ⟨plainId_quiet plain_sift _, ?_⟩
        refine ih _ (by (first | lia | omega)) _ h' x' (up_swap O hup h1 hp hpp hl) (by simpa using hpp) fun h'' zs' x'' hpm hh hk' => hR h'' zs' x'' (hpm.trans (Array.swap_perm _ _)) hh (hk.trans hk')
      | false =>
        simp only [Bool.false_eq_true, if_false]
        refine wpAny_pure (hR h zs x (Array.Perm.refl _) (up_done hup (.inr ?_)) (Heap.SameBut.refl _ _))
        intro y p hy hpy
        simp only [Array.getElem?_eq_getElem hp, Array.getElem?_eq_getElem hpp, Option.some.injEq] at hy hpy
        subst hy hpy
        exact hl

theorem sift_dn (O : Ord zLt) {a : Addr} {r : Value} {R : Result → Shared → Prop} (hu : A.in1.units < cLine) : ∀ (k pos : Nat) (zs : Array KV) (h : Heap), zs.size - pos ≤ k → Pq h a zs → DnI zLt zs pos → pos < zs.size →
    (∀ h' zs', Pq h' a zs' → zs'.Perm zs → HeapP zLt zs' → Heap.SameBut a h h' → R (.ok (.ret r)) ⟨h', g, d, tk, os⟩) →
    codeAny (model prog w) A (.builtin "_heapq.heapify.sift" ⟨[.ref a, .bool false, .bool true, rawInt pos, rawInt 0, r, rawInt (-1)], []⟩) R ⟨h, g, d, tk, os⟩ := by
  intro k
  induction k with
  | zero => intro pos zs h hk x hd hp; (first | lia | omega)
  | succ k ih =>
    intro pos zs h hk x hd hp hR
    obtain ⟨n, l⟩ := id x.l
    refine codeAny_builtin entry_sift ?_
    rw [Around.under_plainId plain_sift]
    unfold Builtin.«_heapq.heapify.sift»
    simp only [rawInt, Bool.false_eq_true, if_false, if_true]
    refine wpAny_bind (hq_items l ?_)
    have e0 : ((pos : Int)).toNat = pos := rfl
    have e1 : Int.toNat 0 = 0 := rfl
    simp only [e0, e1, Array.size_map]
    by_cases h0 : pos < zs.size / 2
    · simp only [h0, if_true]
      have hl1 : 2 * pos + 1 < zs.size := by (first | lia | omega)
      by_cases h1 : 2 * pos + 1 + 1 < zs.size
      · simp only [h1, if_true]
        refine wpAny_bind (hq_at (v := zs[2 * pos + 1].1) (by simp [hl1]) ?_)
        refine wpAny_bind (hq_at (v := zs[2 * pos + 1 + 1].1) (by simp [h1]) ?_)
        refine wpAny_bind (wpAny_mono (Q := fun b s' => b = zLt zs[2 * pos + 1] zs[2 * pos + 1 + 1] ∧ s' = ⟨h, g, d, tk, os⟩) ?_ ?_ fun _ _ x => x)
        · have := @pq_less prog w A.in1 (fun e s' => R (.error e) s') ⟨h, g, d, tk, os⟩ a zs (2 * pos + 1) (2 * pos + 1 + 1) (fun b s' => b = zLt zs[2 * pos + 1] zs[2 * pos + 1 + 1] ∧ s' = ⟨h, g, d, tk, os⟩) x hl1 h1 hu ⟨rfl, rfl⟩
          simp only [Array.size_map] at this
          exact this
        · rintro _ _ ⟨rfl, rfl⟩
          cases hl : zLt zs[2 * pos + 1] zs[2 * pos + 1 + 1] with
          | true =>
            simp only [Bool.not_true, Bool.false_eq_true, if_false]
            refine wpAny_bind (pq_swap x hl1 hp fun h' x' hk' => ?_)
            refine wpAny_pure ⟨plainId_quiet plain_sift _, ?_⟩
            refine ih _ _ h' (by simp; (first | lia | omega)) x' (dn_swap hd (.inl rfl) hl1 hp ?_) (by simpa using hl1) fun h'' zs' x'' hpm hh hk'' => hR h'' zs' x'' (hpm.trans (Array.swap_perm _ _)) hh (hk'.trans hk'')
            intro o y ho hne hy
            have : o = 2 * pos + 1 + 1 := by (first | lia | omega)
            subst this
            rw [Array.getElem?_eq_getElem h1] at hy
            cases hy
            exact O.asymm _ _ hl
          | false =>
            simp only [Bool.not_false, if_true]
            refine wpAny_bind (pq_swap x h1 hp fun h' x' hk' => ?_)
            refine wpAny_pure ⟨plainId_quiet plain_sift _, ?_⟩
            refine ih _ _ h' (by simp; (first | lia | omega)) x' (dn_swap hd (.inr rfl) h1 hp ?_) (by simpa using h1) fun h'' zs' x'' hpm hh hk'' => hR h'' zs' x'' (hpm.trans (Array.swap_perm _ _)) hh (hk'.trans hk'')
            intro o y ho hne hy
            have : o = 2 * pos + 1 := by (first | lia | omega)
            subst this
            rw [Array.getElem?_eq_getElem hl1] at hy
            cases hy
            exact hl
      · simp only [h1, if_false]
        refine wpAny_bind (pq_swap x hl1 hp fun h' x' hk' => ?_)
        refine wpAny_pure ⟨plainId_quiet plain_sift _, ?_⟩
        refine ih _ _ h' (by simp; (first | lia | omega)) x' (dn_swap hd (.inl rfl) hl1 hp ?_) (by simpa using hl1) fun h'' zs' x'' hpm hh hk'' => hR h'' zs' x'' (hpm.trans (Array.swap_perm _ _)) hh (hk'.trans hk'')
        intro o y ho hne hy
        have := (Array.getElem?_eq_some_iff.mp hy).1
        (first | lia | omega)
    · simp only [h0, if_false]
      refine wpAny_pure ⟨plainId_quiet plain_sift _, ?_⟩
      exact sift_up O hu pos zs h x (dn_leaf hd (by (first | lia | omega))) hp hR

theorem bLt_asymm : ∀ a b : List UInt8, bLt a b = true → bLt b a = false
  | [], [], h => by cases h
  | [], _ :: _, _ => rfl
  | _ :: _, [], h => by cases h
  | x :: xs, y :: ys, h => by
    unfold bLt at h ⊢
    simp only [Builtin.Bytes.order] at h ⊢
    by_cases h1 : x < y
    · have h2 : ¬ y < x := by rw [UInt8.lt_iff_toNat_lt] at h1 ⊢; (first | lia | omega)
      simp [h1, h2]
    · by_cases h2 : y < x
      · simp [h1, h2] at h
      · simp only [h1, h2, if_false] at h ⊢
        exact bLt_asymm xs ys h
theorem bLt_trans : ∀ a b c : List UInt8, bLt b a = false → bLt c b = false → bLt c a = false
  | a, b, [], h1, h2 => by
    cases b with
    | nil => exact h1
    | cons y ys => simp [bLt, Builtin.Bytes.order] at h2
  | [], b, z :: zs, h1, h2 => rfl
  | x :: xs, [], z :: zs, h1, h2 => by simp [bLt, Builtin.Bytes.order] at h1
  | x :: xs, y :: ys, z :: zs, h1, h2 => by
    unfold bLt at h1 h2 ⊢
    simp only [Builtin.Bytes.order] at h1 h2 ⊢
    by_cases a1 : y < x
    · simp [a1] at h1
    by_cases a2 : z < y
    · simp [a2] at h2
    rw [UInt8.lt_iff_toNat_lt] at a1 a2
    have a3 : ¬ z < x := by rw [UInt8.lt_iff_toNat_lt]; (first | lia | omega)
    simp only [a3, if_false]
    by_cases a4 : z > x
    · simp [a4]
    simp only [a4, if_false]
    have a5 : ¬ y > x := by rw [gt_iff_lt, UInt8.lt_iff_toNat_lt] at a4 ⊢; (first | lia | omega)
    have a6 : ¬ z > y := by rw [gt_iff_lt, UInt8.lt_iff_toNat_lt] at a4 ⊢; (first | lia | omega)
    have a7 : ¬ y < x := by rw [UInt8.lt_iff_toNat_lt]; (first | lia | omega)
    have a8 : ¬ z < y := by rw [UInt8.lt_iff_toNat_lt]; (first | lia | omega)
    simp only [a5, a7, if_false] at h1
    simp only [a6, a8, if_false] at h2
    exact bLt_trans xs ys zs h1 h2
theorem pLt_asymm (p q : Key) (h : pLt p q = true) : pLt q p = false := by
  unfold pLt at h ⊢
  by_cases e : p.1 = q.1
  · rw [if_pos e] at h; rw [if_pos e.symm]; exact bLt_asymm _ _ h
  · rw [if_neg e] at h; rw [if_neg (Ne.symm e)]
    simp only [decide_eq_true_eq, decide_eq_false_iff_not] at h ⊢
    (first | lia | omega)
theorem pLt_trans (p q r : Key) (h1 : pLt q p = false) (h2 : pLt r q = false) : pLt r p = false := by
  unfold pLt at h1 h2 ⊢
  by_cases e1 : q.1 = p.1 <;> by_cases e2 : r.1 = q.1
  · rw [if_pos e1] at h1; rw [if_pos e2] at h2; rw [if_pos (e2.trans e1)]; exact bLt_trans _ _ _ h1 h2
  · rw [if_pos e1] at h1; rw [if_neg e2] at h2; rw [if_neg (fun e => e2 (e.trans e1.symm))]; rw [← e1]; exact h2
  · rw [if_neg e1] at h1; rw [if_pos e2] at h2; rw [if_neg (fun e => e1 (e2.symm.trans e))]; rw [e2]; exact h1
  · rw [if_neg e1] at h1; rw [if_neg e2] at h2
    simp only [decide_eq_false_iff_not] at h1 h2
    rw [if_neg (by (first | lia | omega))]
    simp only [decide_eq_false_iff_not]
    (first | lia | omega)
theorem ordZ : Ord zLt := ⟨fun _x _y => pLt_asymm _ _, fun _x _y _z h1 h2 => pLt_trans _ _ _ h1 h2⟩

theorem kind_push : builtinKind "_heapq.heappush" = none := by decide +kernel
theorem plain_push : plainId "_heapq.heappush" = true := by decide +kernel
theorem entry_push : entryFor table "_heapq.heappush" = some Builtin.«_heapq.heappush» := entryFor_of_tree (by kernel_rfl)
theorem args_push (a b : Value) : argsOk "_heapq.heappush" ⟨[a, b], []⟩ := by unfold argsOk; kernel_rfl
theorem kind_pop : builtinKind "_heapq.heappop" = none := by decide +kernel
theorem plain_pop : plainId "_heapq.heappop" = true := by decide +kernel
theorem entry_pop : entryFor table "_heapq.heappop" = some Builtin.«_heapq.heappop» := entryFor_of_tree (by kernel_rfl)
theorem args_pop (a : Value) : argsOk "_heapq.heappop" ⟨[a], []⟩ := by unfold argsOk; kernel_rfl
theorem sub_list_self : isSubtype (.type "list") (.type "list") = pure true := by rw [isSubtype_type]; kernel_rfl

theorem heappush_ {a : Addr} {v : Value} {q : Key} {zs : Array KV} {Q : Value → Shared → Prop} (x : Pq h a zs) (hh : HeapP zLt zs) (hv : PairAt h v q) (hz : zs.size < sizeLine) (hu : A.in1.units < cLine)
    (hq : ∀ h' zs', Pq h' a zs' → zs'.Perm (zs.push (v, q)) → HeapP zLt zs' → Heap.SameBut a h h' → Q .none ⟨h', g, d, tk, os⟩) :
    wpAny (model prog w) A (call (.builtin "_heapq.heappush") [.ref a, v]) Q E ⟨h, g, d, tk, os⟩ := by
  refine call_function_tree kind_push plain_push entry_push (args_push _ _) ?_
  obtain ⟨n, l⟩ := id x.l
  unfold Builtin.«_heapq.heappush»
  refine wpAny_bind ?_
  refine wpAny_bind (wpAny_pure ?_)
  refine wpAny_bind (wpAny_pure ?_)
  refine wpAny_bind ?_
  refine wpAny_bind (wpAny_isInstance (T := "list") (b := true) ⟨_, l, rfl⟩ sub_list_self ?_)
  simp only [if_true]
  refine wpAny_pure (wpAny_pure ?_)
  dsimp only
  refine wpAny_bind ?_
  refine wpAny_updateSeq l rfl ?_ (by simpa using x.lt) (by simp; (first | lia | omega))
  have l' := IsL.update l (fun xs => xs.push v)
  refine wpAny_bind (hq_items l' ?_)
  have e : ((zs.map (·.1)).push v).size - 1 = zs.size := by simp
  rw [e]
  refine wpAny_pure ⟨plainId_quiet plain_sift _, ?_⟩
  have x' : Pq (h.update a (Obj.mapSeq fun xs => xs.push v)) a (zs.push (v, q)) := by
    refine ⟨⟨_, by simpa using l'⟩, fun i z hz' => ?_, by simp; (first | lia | omega)⟩
    rw [Array.getElem?_push] at hz'
    split at hz'
    · cases hz'
      obtain ⟨b, t, u, e, ht⟩ := hv
      refine ⟨b, t, u, e, ((Heap.SameBut.update h a _).2 b ?_).trans ht⟩
      rintro rfl
      have := l.symm.trans ht
      simp at this
    · exact x.ne hz' (Heap.SameBut.update h a _)
  exact sift_up ordZ hu zs.size _ _ x' (push_up hh _) (by simp) fun h' zs' x'' hp hh' hk => hq h' zs' x'' hp hh' ((Heap.SameBut.update h a _).trans hk)

theorem heappop_ {a : Addr} {zs : Array KV} {Q : Value → Shared → Prop} (x : Pq h a zs) (hh : HeapP zLt zs) (hz : 0 < zs.size) (hu : A.in1.units < cLine)
    (hq : ∀ z h' zs', zs[0]? = some z → PairAt h' z.1 z.2 → Pq h' a zs' → (zs'.push z).Perm zs → HeapP zLt zs' → Heap.SameBut a h h' → Q z.1 ⟨h', g, d, tk, os⟩) :
    wpAny (model prog w) A (call (.builtin "_heapq.heappop") [.ref a]) Q E ⟨h, g, d, tk, os⟩ := by
  refine call_function_tree kind_pop plain_pop entry_pop (args_pop _) ?_
  obtain ⟨n, l⟩ := id x.l
  unfold Builtin.«_heapq.heappop»
  refine wpAny_bind ?_
  refine wpAny_bind (wpAny_pure ?_)
  refine wpAny_bind ?_
  refine wpAny_bind (wpAny_isInstance (T := "list") (b := true) ⟨_, l, rfl⟩ sub_list_self ?_)
  simp only [if_true]
  refine wpAny_pure (wpAny_pure ?_)
  dsimp only
  refine wpAny_bind (hq_items l ?_)
  have hb : (zs.map (·.1)).back? = some (zs[zs.size - 1]'(by (first | lia | omega))).1 := by
    rw [Array.back?_eq_getElem?]
    rw [Array.getElem?_map, Array.size_map, Array.getElem?_eq_getElem (by (first | lia | omega))]
    rfl
  rw [hb]
  dsimp only
  refine wpAny_bind ?_
  refine wpAny_updateSeq l rfl ?_ (by simpa using x.lt) (by have := x.lt; simp; (first | lia | omega))
  have l1 := IsL.update l (fun x => x.pop)
  by_cases h1 : zs.size = 1
  · simp only [Array.size_map, h1, beq_self_eq_true, if_true]
    refine wpAny_pure ?_
    have em : (zs.map (fun z : KV => z.1)).pop = (#[] : Array KV).map (fun z : KV => z.1) := by
      have : (zs.map (fun z : KV => z.1)).pop.size = 0 := by rw [Array.size_pop, Array.size_map, h1]
      rw [Array.eq_empty_of_size_eq_zero this]; simp
    refine hq (zs[0]'hz) _ #[] (by simp [hz]) (x.ne (i := 0) (by simp [hz]) (Heap.SameBut.update h a _)) ⟨⟨_, em ▸ l1⟩, fun i z hz => by simp at hz, by simp⟩ ?_ (fun i hi x p hx => by simp at hx) (Heap.SameBut.update h a _)
    have : zs = #[zs[0]] := by
      apply Array.ext_getElem?
      intro i
      cases i with
      | zero => simp [hz]
      | succ i => simp; (first | lia | omega)
    exact Array.Perm.of_eq (by rw [show (#[] : Array KV).push zs[0] = #[zs[0]] from rfl]; exact this.symm)
  · simp only [Array.size_map, beq_iff_eq, h1, if_false]
    refine wpAny_bind (hq_at (v := (zs[0]'hz).1) (by simp [hz]) ?_)
    refine wpAny_bind ?_
    refine wpAny_updateSeq l1 rfl ?_ (by have := x.lt; simp; (first | lia | omega)) (by have := x.lt; simp; (first | lia | omega))
    have l2 := IsL.update l1 (fun x => x.setIfInBounds 0 (zs[zs.size - 1]'(by (first | lia | omega))).1)
    have sb := (Heap.SameBut.update h a (Obj.mapSeq fun x => x.pop)).trans (Heap.SameBut.update _ a (Obj.mapSeq fun x => x.setIfInBounds 0 (zs[zs.size - 1]'(by (first | lia | omega))).1))
    refine wpAny_pure ⟨plainId_quiet plain_sift _, ?_⟩
    have x' : Pq ((h.update a (Obj.mapSeq fun x => x.pop)).update a (Obj.mapSeq fun x => x.setIfInBounds 0 (zs[zs.size - 1]'(by (first | lia | omega))).1)) a (zs.pop.setIfInBounds 0 (zs[zs.size - 1]'(by (first | lia | omega)))) := by
      refine ⟨?_, fun i z hz' => ?_, by have := x.lt; simp; (first | lia | omega)⟩
      · have e1 : (zs.pop.setIfInBounds 0 (zs[zs.size - 1]'(by (first | lia | omega)))).map (·.1) = ((zs.map (·.1)).pop).setIfInBounds 0 (zs[zs.size - 1]'(by (first | lia | omega))).1 := by simp
        rw [e1]
        exact ⟨_, l2⟩
      · rw [Array.getElem?_setIfInBounds] at hz'
        split at hz'
        · split at hz'
          · cases hz'
            exact x.ne (i := zs.size - 1) (by simp) sb
          · cases hz'
        · rw [Array.getElem?_pop] at hz'
          split at hz'
          · exact x.ne hz' sb
          · cases hz'
    refine sift_dn ordZ hu _ 0 _ _ (Nat.le_refl _) x' (pop_dn hh _) (by simp; (first | lia | omega)) fun h' zs' x'' hp hh' hk => hq (zs[0]'hz) h' zs' (by simp [hz]) (x.ne (i := 0) (by simp [hz]) (sb.trans hk)) x'' ?_ hh' (sb.trans hk)
    have e2 : (zs.pop.setIfInBounds 0 (zs[zs.size - 1]'(by (first | lia | omega)))).push (zs[0]'hz) = zs.swap 0 (zs.size - 1) hz (by (first | lia | omega)) := by
      apply Array.ext_getElem?
      intro i
      rw [sw_get, Array.getElem?_push]
      simp only [Array.size_setIfInBounds, Array.size_pop]
      by_cases hi : i = zs.size - 1
      · rw [if_pos hi, if_neg (by (first | lia | omega)), if_pos hi]; simp [hz]
      · rw [if_neg hi, Array.getElem?_setIfInBounds]
        by_cases hi0 : 0 = i
        · rw [if_pos hi0, if_pos hi0.symm, if_pos (by simp; (first | lia | omega)), Array.getElem?_eq_getElem (by (first | lia | omega))]
        · rw [if_neg hi0, if_neg (fun e => hi0 e.symm), if_neg hi, Array.getElem?_pop]
          split
          · rfl
          · simp; (first | lia | omega)
    exact (hp.push _).trans (e2 ▸ Array.swap_perm _ _)
end Mine
end

section
open PySem PySem.W PyProof.Rows PySem.Spec PySem.Calls
set_option maxRecDepth 100000
set_option maxHeartbeats 4000000
namespace Mine
variable {w : World} {mg mb : Str → Option Value} {A : Around} {E : Value → Shared → Prop} {s : Shared} {env : Env}

theorem add_to {a b c : Int} {t u : Tok} {Q : Value → Shared → Prop} (e : a + c = b) (h : Q (.int b s.toks) { s with toks := s.toks + 1 }) : wpAny (model prog w) A (binaryOp .Add (.int a t) (.int c u)) Q E s := add_int (e ▸ h)

theorem law_name {k : Nat} {t : Tok} {Q : Value → Shared → Prop} (K : Ok w mg mb s.heap) (hroom : A.depth < recursionLimit) (hh : A.handled = none) (hk : k < 10)
    (h : ∀ v h' tk, IsNm v k → Kp s.heap h' → Q v { s with heap := h', toks := tk }) :
    wpAny (model PP w) A (call (.ref 128) [.int k t]) Q E s := by
  obtain ⟨b, hb⟩ : ∃ b : Int, 97 + (7 * (k : Int)).fmod 11 = b := ⟨_, rfl⟩
  refine callF [(Str.ofString "k", .int k t)] K hroom fun h₁ tk k₁ n₁ => ?_
  have K₁ := K.keeps k₁
  refine wpAny_execs_cons (wpAny_Return_some (wpAny_BinOp (Constant_bytes ?_)))
  refine Call_ (nmB K₁ (g_bytes w) b_bytes (by decide) (PyProof.Rows.callWith_type1 ?_))
  refine args_cons (List_ (args_cons (wpAny_BinOp (wpAny_Constant_int (wpAny_BinOp (wpAny_BinOp (wpAny_Constant_int (nmL n₁ rfl (mul_int ?_))))))) ))
  refine wpAny_Constant_int (mod_int' (by decide) (add_to hb (args_nil ?_)))
  refine wpAny_newObj_type ?_ (by size_fits)
  refine args_nil ?_
  have hb1 : b = ((97 + 7 * k % 11 : Nat) : Int) := by
    rw [← hb, Int.fmod_eq_emod_of_nonneg _ (by decide)]; (first | lia | omega)
  have hb2 : 97 + 7 * k % 11 < 256 := by (first | lia | omega)
  refine call_bytes_ints (ns := [b]) (vs := [.int b _]) ⟨_, Heap.get?_push_size _ rfl, rfl, _, rfl⟩ (by repeat constructor) (by simp; (first | lia | omega)) (by simp [sizeLine_eq]) hh fun h' t' tk' k' => ?_
  refine KBy.add_bytes (by simp [byteArr]) fun t'' tk'' => ?_
  refine h _ _ _ ⟨t'', ?_⟩ (k₁.trans ((Kp.push _ _).trans k'))
  have : (97 + 7 * k % 11 : Nat).toUInt8 = b.toNat.toUInt8 := by rw [hb1]; rfl
  simp only [nmL', this]
  rfl
end Mine
end

section
open PySem PySem.W PyProof.Rows PySem.Spec PySem.Calls
set_option maxRecDepth 100000
set_option maxHeartbeats 4000000
namespace Mine
section
variable {h h' h₁ h₂ h₃ : Heap} {P P' P'' : Nat → Prop} {a L : Nat}

/- all but P kept -/
noncomputable def Kx (P : Nat → Prop) (h h' : Heap) : Prop := ∀ b : Nat, ¬ P b → ∀ o, h.get? b = some o → h'.get? b = some o
noncomputable abbrev none_ : Nat → Prop := fun _ => False
theorem Kx.refl (P : Nat → Prop) (h : Heap) : Kx P h h := fun _ _ _ e => e
theorem Kx.trans (x : Kx P h₁ h₂) (y : Kx P' h₂ h₃) (hp : ∀ b, P' b → P b ∨ h₁.get? b = none) : Kx P h₁ h₃ :=
  fun b hb o e => y b (fun hb' => (hp b hb').elim hb fun e' => by rw [e] at e'; cases e') o (x b hb o e)
theorem Kx.tr (x : Kx P h₁ h₂) (y : Kx P h₂ h₃) : Kx P h₁ h₃ := x.trans y fun _ h => .inl h
theorem Kx.tn (x : Kx P h₁ h₂) (y : Kx none_ h₂ h₃) : Kx P h₁ h₃ := x.trans y fun _ h => h.elim
theorem Kx.t1 (x : Kx P h₁ h₂) (y : Kx (· = a) h₂ h₃) (hp : h₁.get? a = none) : Kx P h₁ h₃ := x.trans y fun _ e => .inr (e ▸ hp)
theorem Kx.mono (x : Kx P h h') (hp : ∀ b, P b → P' b ∨ h.get? b = none) : Kx P' h h' :=
  fun b hb o e => x b (fun hb' => (hp b hb').elim hb fun e' => by rw [e] at e'; cases e') o e
theorem Kx.any (x : Kx none_ h h') : Kx P h h' := x.mono fun _ h => h.elim
theorem Kx.of_same (x : Heap.SameBut a h h') : Kx (· = a) h h' := fun b hb _o e => (x.2 b hb).trans e
theorem Kx.of_kp (x : Kp h h') : Kx none_ h h' := fun b _ o e => x b o e
theorem Kx.push (h : Heap) (o : Obj) : Kx none_ h (h.push o) := fun _b _ _o' e => Heap.get?_push_of_some o e
theorem Kx.kp (x : Kx none_ h h') : Kp h h' := fun b o e => x b (fun hb => hb) o e
theorem Kx.of_ext (x : Heap.ExtBut a h h') : Kx (· = a) h h' := fun b hb o e => x b o hb e
theorem dead_size (h : Heap) : h.get? h.objs.size = none := by
  cases e : h.get? h.objs.size with
  | none => rfl
  | some o => exact absurd (Heap.lt_size e) (Nat.lt_irrefl _)
theorem Kx.of_ext_size (x : Heap.ExtBut h.objs.size h h') : Kx none_ h h' := (Kx.of_ext x).mono fun _b e => .inr (e ▸ dead_size h)
/- what is dead was dead -/
theorem Kx.dead (x : Kx P h h') {b : Nat} (e : h'.get? b = none) (hb : ¬ P b) : h.get? b = none := by
  cases e' : h.get? b with
  | none => rfl
  | some o => rw [x b hb o e'] at e; cases e
theorem Kx.dead0 (x : Kx none_ h h') {b : Nat} (e : h'.get? b = none) : h.get? b = none := x.dead e fun x => x
theorem Kx.deadS (x : Kx none_ h h') : h.get? h'.objs.size = none := x.dead0 (dead_size h')
theorem ne_dead {b : Nat} {o : Obj} (e : h.get? a = none) (e' : h.get? b = some o) : b ≠ a := by
  rintro rfl
  rw [e] at e'; cases e'

/- the frame at L holds the list -/
noncomputable def Fv (h : Heap) (L : Nat) (l : List (Str × Value)) : Prop := ∃ m, h.Ns L m ∧ ∀ x v, l.lookup x = some v → m x = some v
theorem Fv.keep {l} (F : Fv h L l) (k : Kx P h h') (hL : ¬ P L) : Fv h' L l :=
  let ⟨m, ⟨o, es, ep, ho, r⟩, q⟩ := F; ⟨m, ⟨o, es, ep, k _ hL _ ho, r⟩, q⟩
theorem Fv.lt {l} (F : Fv h L l) : L < h.objs.size := F.choose_spec.1.lt
theorem Fv.ne {l} (F : Fv h L l) (e : h.get? a = none) : L ≠ a := let ⟨_, ⟨_, _, _, ho, _⟩, _⟩ := F; ne_dead e ho
theorem Fv.ne_seq {l} (F : Fv h L l) {a : Nat} {c : Value} {dd : Option Addr} {xs : Array Value} {n : Nat} {sl : Array (Option Value)} (e : h.get? a = some ⟨c, dd, .seq xs n, sl⟩) : a ≠ L := by
  rintro rfl
  obtain ⟨m, ⟨o, es, ep, ho, hd, _⟩, _⟩ := F
  rw [e] at ho
  cases ho
  cases hd
theorem Fv.tup {l} (F : Fv h L l) {a : Nat} {vs : List Value} (t : IsT h a vs) (k : Kx (· = L) h h') : IsT h' a vs := k a (F.ne_seq t) _ t
theorem Fv.lst {l} (F : Fv h L l) {a : Nat} {vs : Array Value} {n : Nat} (t : IsL h a vs n) (k : Kx (· = L) h h') : IsL h' a vs n := k a (F.ne_seq t) _ t
theorem Fv.pq {l} (F : Fv h L l) {a : Nat} {zs : Array KV} (x : Pq h a zs) (k : Kx (· = L) h h') : Pq h' a zs :=
  ⟨x.l.imp fun _ t => F.lst t k, fun i z hz => let ⟨b, t, u, e, q⟩ := x.p i z hz; ⟨b, t, u, e, F.tup q k⟩, x.lt⟩
theorem Fv.sub {l l'} (F : Fv h L l) (q : ∀ x v, l'.lookup x = some v → l.lookup x = some v) : Fv h L l' :=
  let ⟨m, n, r⟩ := F; ⟨m, n, fun x v e => r x v (q x v e)⟩
/- the frame holds each of the rows -/
noncomputable def Rows (l : List (Str × Value)) : List (Str × Value) → Prop
  | [] => True
  | p :: r => l.lookup p.1 = some p.2 ∧ Rows l r
theorem Rows.sub {l : List (Str × Value)} : ∀ {l'}, Rows l l' → ∀ x v, l'.lookup x = some v → l.lookup x = some v
  | [], _, x, v, e => by cases e
  | p :: r, h, x, v, e => by
    rw [List.lookup_cons] at e
    split at e
    · rename_i hx
      cases e
      rw [beq_iff_eq.mp hx]
      exact h.1
    · exact Rows.sub h.2 x v e
theorem Fv.rows {l l'} (F : Fv h L l) (q : Rows l l') : Fv h L l' := F.sub q.sub
end

section
variable {w : World} {mg mb : Str → Option Value} {A : Around} {E : Value → Shared → Prop} {s : Shared} {env : Env} {h : Heap} {g : Array GenState} {d : Drawn} {tk : Nat} {os : OsState} {M : Model} {prog : Program}

theorem Ok.kx {h' : Heap} {P : Nat → Prop} (K : Ok w mg mb h) (k : Kx P h h') (hp : ∀ b : Nat, P b → b = 87 ∨ b = 135 ∨ 138 < b) : Ok w mg mb h' := by
  have hK : ((KK w).all fun p => p.1 != 87 && p.1 != 135 && decide (p.1 ≤ 138)) = true := by kernel_rfl
  have key : ∀ (a : Nat) o, (KK w).lookup a = some o → ¬ P a := by
    intro a o e hP
    have hm : ∃ o', (a, o') ∈ KK w := by
      generalize KK w = l at e
      induction l with
      | nil => cases e
      | cons p r ih =>
        rw [List.lookup_cons] at e
        split at e
        · rename_i hx
          cases e
          rw [beq_iff_eq.mp hx]
          exact ⟨_, .head _⟩
        · obtain ⟨o', ho'⟩ := ih e
          exact ⟨o', .tail _ ho'⟩
    obtain ⟨o', hm⟩ := hm
    have h1 := List.all_eq_true.mp hK _ hm
    simp only [Bool.and_eq_true, bne_iff_ne, ne_eq, decide_eq_true_eq] at h1
    have h2 : ¬ a = 87 := h1.1.1
    have h3 : ¬ a = 135 := h1.1.2
    have h4 : a ≤ 138 := h1.2
    have h5 : a = 87 ∨ a = 135 ∨ 138 < a := hp a hP
    (first | lia | omega)
  have ns : ∀ {a : Nat} {m}, a < 87 → h.Ns a m → h'.Ns a m := fun {a m} ha n => by
    obtain ⟨o, es, ep, ho, r⟩ := n
    refine ⟨o, es, ep, k _ (fun hP => ?_) _ ho, r⟩
    have := hp a hP
    (first | lia | omega)
  refine ⟨fun a o e => k a (key a o e) o (K.x a o e), ns (by decide) K.g, ns (by decide) K.b, ?_, K.bb, let ⟨o, e, r⟩ := K.bm; ⟨o, k 4 (fun hP => by have := hp 4 hP; (first | lia | omega)) _ e, r⟩⟩
  obtain ⟨mc, n, q⟩ := K.nl
  exact ⟨mc, ns (by decide) n, q⟩

theorem nmF {x : Str} {pos : Pos} {v : Value} {l : List (Str × Value)} {L : Nat} {Q : Value → Shared → Prop} (hn : Fv s.heap L l) (hv : l.lookup x = some v) (h : Q v s) (hL : env.locals = L := by rfl)
    (hk : env.scope.kind = .function := by rfl) (hl : env.kindOf x = some .local := by rfl) (hd : (x == ("__debug__" : Str)) = false := by decide) :
    wpAny M A (eval (.Name x pos) env) Q E s := by
  subst hL
  obtain ⟨m, n, q⟩ := hn
  exact wpAny_Name (wpAny_loadName_local hk hl n (q _ _ hv) h) hd
theorem stF {x : Str} {v : Value} {l : List (Str × Value)} {L : Nat} {Q : Unit → Shared → Prop} (hn : Fv h L l)
    (hq : ∀ h' tk', Fv h' L ((x, v) :: l) → Kx (· = L) h h' → Q () ⟨h', g, d, tk', os⟩) (hL : env.locals = L := by rfl)
    (hl : env.kindOf x = some .local := by rfl)
    (hp : (env.scope.kind == .class || (env.scope.kind == .module && env.locals != env.globals)) = false := by rfl) :
    wpAny M A (storeName env x v) Q E ⟨h, g, d, tk, os⟩ := by
  subst hL
  obtain ⟨m, n, q⟩ := hn
  refine wpAny_storeName_local hl n (fun h' n' hs => hq h' _ ⟨_, n', fun y u e => ?_⟩ (Kx.of_same hs)) hp
  rw [List.lookup_cons] at e
  split at e
  · rename_i hx; cases e; exact if_pos (beq_iff_eq.mp hx)
  · rename_i hx
    exact (if_neg (fun e' => by rw [e'] at hx; simp at hx)).trans (q _ _ e)

theorem cI {i : Int} {k pos} {Q : Value → Shared → Prop} (hq : ∀ t tk', Q (.int i t) ⟨h, g, d, tk', os⟩) : wpAny M A (eval (.Constant (.int i) k pos) env) Q E ⟨h, g, d, tk, os⟩ :=
  wpAny_Constant_int (hq _ _)
variable {a b : Int} {t u : Tok} {Q : Value → Shared → Prop}
theorem bAdd (hq : ∀ t tk', Q (.int (a + b) t) ⟨h, g, d, tk', os⟩) : wpAny (model prog w) A (binaryOp .Add (.int a t) (.int b u)) Q E ⟨h, g, d, tk, os⟩ := P.add_int (hq _ _)
theorem bSub (hq : ∀ t tk', Q (.int (a - b) t) ⟨h, g, d, tk', os⟩) : wpAny (model prog w) A (binaryOp .Sub (.int a t) (.int b u)) Q E ⟨h, g, d, tk, os⟩ := P.sub_int (hq _ _)
theorem bMul (hq : ∀ t tk', Q (.int (a * b) t) ⟨h, g, d, tk', os⟩) (hm : IntMulOk a b := by mul_fits) : wpAny (model prog w) A (binaryOp .Mult (.int a t) (.int b u)) Q E ⟨h, g, d, tk, os⟩ := P.mul_int (hq _ _) hm
theorem bAnd (hq : ∀ t tk', Q (.int (Builtin.bitAnd a b) t) ⟨h, g, d, tk', os⟩) : wpAny (model prog w) A (binaryOp .BitAnd (.int a t) (.int b u)) Q E ⟨h, g, d, tk, os⟩ := and_int (hq _ _)
theorem bOr (hq : ∀ t tk', Q (.int (Builtin.bitOr a b) t) ⟨h, g, d, tk', os⟩) : wpAny (model prog w) A (binaryOp .BitOr (.int a t) (.int b u)) Q E ⟨h, g, d, tk, os⟩ := or_int (hq _ _)
theorem uNeg (hq : ∀ t tk', Q (.int (-a) t) ⟨h, g, d, tk', os⟩) : wpAny (model prog w) A (unaryOp .USub (.int a t)) Q E ⟨h, g, d, tk, os⟩ := P.neg_int (hq _ _)

theorem nList {vs : List Value} (hq : ∀ h', Kx none_ h h' → IsL h' h.objs.size vs.toArray 0 → Q (.ref h.objs.size) ⟨h', g, d, tk, os⟩) (hz : vs.length ≤ sizeLine := by size_fits) :
    wpAny M A (newList vs) Q E ⟨h, g, d, tk, os⟩ :=
  wpAny_newObj_type (hq _ (Kx.push _ _) (Heap.get?_push_size _ rfl)) (by show vs.toArray.size ≤ sizeLine; rw [List.size_toArray]; exact hz)
theorem nTup {vs : List Value} (hq : ∀ h', Kx none_ h h' → IsT h' h.objs.size vs → Q (.ref h.objs.size) ⟨h', g, d, tk, os⟩) (hz : vs.length ≤ sizeLine := by size_fits) :
    wpAny M A (newTuple vs) Q E ⟨h, g, d, tk, os⟩ :=
  wpAny_newObj_type (hq _ (Kx.push _ _) (Heap.get?_push_size _ rfl)) (by show vs.toArray.size ≤ sizeLine; rw [List.size_toArray]; exact hz)

theorem asg2 {x y : Str} {px py pos : Pos} {n : Nat} {t : Nat} {v1 v2 : Value} {l : List (Str × Value)} {L : Nat} {Q : Unit → Shared → Prop} (hh : A.handled = none) (ht : IsT h t [v1, v2]) (hn : Fv h L l)
    (hq : ∀ h' tk', Fv h' L ((y, v2) :: (x, v1) :: l) → Kx (· = L) h h' → Q () ⟨h', g, d, tk', os⟩) (hL : env.locals = L := by rfl)
    (hx : env.kindOf x = some .local := by rfl) (hy : env.kindOf y = some .local := by rfl)
    (hp : (env.scope.kind == .class || (env.scope.kind == .module && env.locals != env.globals)) = false := by rfl) :
    wpAny (model prog w) A (assign (.Tuple [.Name x px, .Name y py] n pos) env (.ref t)) Q E ⟨h, g, d, tk, os⟩ := by
  refine assign_Tuple_tuple (items := #[v1, v2]) hh ⟨_, ht, rfl, _, rfl⟩ rfl rfl fun h' he => ?_
  have k1 : Kx none_ h h' := Kx.of_ext_size he
  refine assignInOrder_cons (PyProof.Rows.assign_Name ?_)
  refine stF (hn.keep k1 fun x => x) (fun h₂ tk₂ F₂ k₂ => ?_) hL hx hp
  refine assignInOrder_cons (PyProof.Rows.assign_Name ?_)
  refine stF F₂ (fun h₃ tk₃ F₃ k₃ => ?_) hL hy hp
  exact assignInOrder_nil (hq _ _ F₃ ((k1.any.tr k₂).tr k₃))

noncomputable def Rm (A : Around) (n : Nat) : Prop := A.handled = none ∧ A.depth + n ≤ 900 ∧ A.units + 20 * n ≤ 9000
theorem Rm.deeper {n : Nat} (r : Rm A (n + 1)) (env : Env) : Rm (A.deeper env) n := ⟨r.1, by have := r.2.1; show A.depth + 1 + n ≤ 900; (first | lia | omega), by have := r.2.2; show A.units + 3 + 20 * n ≤ 9000; (first | lia | omega)⟩
theorem Rm.in1 {n : Nat} (r : Rm A (n + 1)) : Rm A.in1 n := ⟨r.1, by have := r.2.1; show A.depth + n ≤ 900; (first | lia | omega), by have := r.2.2; show A.units + 1 + 20 * n ≤ 9000; (first | lia | omega)⟩
theorem Rm.less {n m : Nat} (r : Rm A n) (hm : m ≤ n) : Rm A m := ⟨r.1, by have := r.2.1; (first | lia | omega), by have := r.2.2; (first | lia | omega)⟩
theorem Rm.room {n : Nat} (r : Rm A (n + 1)) : A.depth < recursionLimit := by have := r.2.1; show A.depth < 1000; (first | lia | omega)
theorem Rm.un {n : Nat} (r : Rm A (n + 1)) : A.in1.units < cLine := by have := r.2.2; show A.units + 1 < 9900; (first | lia | omega)
theorem Rm.un0 {n : Nat} (r : Rm A n) : A.units < cLine := by have := r.2.2; show A.units < 9900; (first | lia | omega)

theorem Ok.sz (K : Ok w mg mb h) : 138 < h.objs.size := Heap.lt_size (K.x 138 (fnObj w 138) (by kernel_rfl))
theorem Ok.dead {a : Nat} (K : Ok w mg mb h) (_e : h.get? a = none) (_hs : h.objs.size ≤ a) : 138 < a := Nat.lt_of_lt_of_le K.sz _hs
theorem Ok.n (K : Ok w mg mb h) {h' : Heap} (k : Kx none_ h h') : Ok w mg mb h' := K.keeps k.kp
theorem Ok.l {h' : Heap} {L : Nat} (K : Ok w mg mb h) (k : Kx (· = L) h h') (hL : 138 < L) : Ok w mg mb h' := K.kx k fun _b e => .inr (.inr (e ▸ hL))

theorem codeFs {f : Nat} {pos : List Value} {kw : List (Str × Value)} (binds : List (Str × Value)) {R : Result → Shared → Prop} {n : Nat}
    (K : Ok w mg mb h) (hr : Rm A (n + 1))
    (hb : ∀ L h₁ tk', h.get? L = none → h.objs.size = L → 138 < L → Kx none_ h h₁ → Fv h₁ L binds.reverse → Ok w mg mb h₁ → Rm (A.deeper (callEnv (fdAt w f) L f)) n →
      wpAny (model PP w) (A.deeper (callEnv (fdAt w f) L f)) (execs (bodyAt w f) (callEnv (fdAt w f) L f)) (fun fl s' => R (.ok (.ret (match fl with | .ret v => v | _ => .none))) s') (fun _ _ => False) ⟨h₁, g, d, tk', os⟩)
    (hbind : bindArgs (fdAt w f) ⟨pos, kw⟩ = pure binds := by kernel_rfl)
    (ho : (KK w).lookup f = some (fnObj w f) := by kernel_rfl) (hcd : codeIn (KK w) (fdAt w f).code (fdAt w f).qualname = true := by kernel_rfl)
    (hbody : (fdAt w f).body = .stmts (bodyAt w f) := by kernel_rfl)
    (hcell : ((fdAt w f).scope.names.all fun x => x.2 != .cell) = true := by kernel_rfl) (hloc : (binds.all fun x => (fdAt w f).scope.names.lookup x.1 == some .local) = true := by kernel_rfl)
    (hco : (fdAt w f).scope.isCoroutine = false := by kernel_rfl) (hgen : (fdAt w f).scope.isGenerator = false := by kernel_rfl) (hk : (fdAt w f).scope.kind = .function := by kernel_rfl) :
    codeAny (model PP w) A (.call (.ref f) ⟨pos, kw⟩) R ⟨h, g, d, tk, os⟩ := by
  refine codeAny_call_def hr.room (K.x _ _ ho) rfl K.nl (codeRec_of K.x hcd) hbody (BindsTo.of_eq hbind) (fun x hx => ?_) (fun x hx => ?_) (fun h₀ hns hk' => ?_) hco hgen hk
  · have := List.all_eq_true.mp hcell x hx
    simpa using this
  · have := List.all_eq_true.mp hloc x hx
    simpa using this
  · exact wpAny_mono (hb _ h₀ _ (dead_size h) rfl K.sz (Kx.of_kp hk') ⟨_, hns, fun _ _ e => e⟩ (K.keeps hk') (hr.deeper _)) (fun _ _ x => x) (fun _ _ x => x.elim)
theorem codeF {f : Nat} {pos : List Value} {kw : List (Str × Value)} (binds : List (Str × Value)) {R : Result → Shared → Prop} {n : Nat}
    (K : Ok w mg mb h) (hr : Rm A (n + 1))
    (hb : ∀ L h₁ tk', h.get? L = none → 138 < L → Kx none_ h h₁ → Fv h₁ L binds.reverse → Ok w mg mb h₁ → Rm (A.deeper (callEnv (fdAt w f) L f)) n →
      wpAny (model PP w) (A.deeper (callEnv (fdAt w f) L f)) (execs (bodyAt w f) (callEnv (fdAt w f) L f)) (fun fl s' => R (.ok (.ret (match fl with | .ret v => v | _ => .none))) s') (fun _ _ => False) ⟨h₁, g, d, tk', os⟩)
    (hbind : bindArgs (fdAt w f) ⟨pos, kw⟩ = pure binds := by kernel_rfl)
    (ho : (KK w).lookup f = some (fnObj w f) := by kernel_rfl) (hcd : codeIn (KK w) (fdAt w f).code (fdAt w f).qualname = true := by kernel_rfl)
    (hbody : (fdAt w f).body = .stmts (bodyAt w f) := by kernel_rfl)
    (hcell : ((fdAt w f).scope.names.all fun x => x.2 != .cell) = true := by kernel_rfl) (hloc : (binds.all fun x => (fdAt w f).scope.names.lookup x.1 == some .local) = true := by kernel_rfl)
    (hco : (fdAt w f).scope.isCoroutine = false := by kernel_rfl) (hgen : (fdAt w f).scope.isGenerator = false := by kernel_rfl) (hk : (fdAt w f).scope.kind = .function := by kernel_rfl) :
    codeAny (model PP w) A (.call (.ref f) ⟨pos, kw⟩) R ⟨h, g, d, tk, os⟩ :=
  codeFs binds K hr (fun L h₁ tk' a _ b c e => hb L h₁ tk' a b c e) hbind ho hcd hbody hcell hloc hco hgen hk
theorem callF' {f : Nat} {pos : List Value} {kw : List (Str × Value)} (binds : List (Str × Value)) {Q : Value → Shared → Prop} {n : Nat}
    (K : Ok w mg mb h) (hr : Rm A (n + 1))
    (hb : ∀ L h₁ tk', h.get? L = none → 138 < L → Kx none_ h h₁ → Fv h₁ L binds.reverse → Ok w mg mb h₁ → Rm (A.deeper (callEnv (fdAt w f) L f)) n →
      wpAny (model PP w) (A.deeper (callEnv (fdAt w f) L f)) (execs (bodyAt w f) (callEnv (fdAt w f) L f)) (fun fl s' => Q (match fl with | .ret v => v | _ => .none) s') (fun _ _ => False) ⟨h₁, g, d, tk', os⟩)
    (hbind : bindArgs (fdAt w f) ⟨pos, kw⟩ = pure binds := by kernel_rfl)
    (ho : (KK w).lookup f = some (fnObj w f) := by kernel_rfl) (hcd : codeIn (KK w) (fdAt w f).code (fdAt w f).qualname = true := by kernel_rfl)
    (hbody : (fdAt w f).body = .stmts (bodyAt w f) := by kernel_rfl)
    (hcell : ((fdAt w f).scope.names.all fun x => x.2 != .cell) = true := by kernel_rfl) (hloc : (binds.all fun x => (fdAt w f).scope.names.lookup x.1 == some .local) = true := by kernel_rfl)
    (hco : (fdAt w f).scope.isCoroutine = false := by kernel_rfl) (hgen : (fdAt w f).scope.isGenerator = false := by kernel_rfl) (hk : (fdAt w f).scope.kind = .function := by kernel_rfl) :
    wpAny (model PP w) A (call (.ref f) pos kw) Q E ⟨h, g, d, tk, os⟩ :=
  wpAny_call (codeF binds K hr hb hbind ho hcd hbody hcell hloc hco hgen hk)
end
end Mine
end

section
open PySem PySem.W PyProof.Rows PySem.Spec PySem.Calls
set_option maxRecDepth 100000
set_option maxHeartbeats 4000000
namespace Mine
variable {w : World} {mg mb : Str → Option Value} {A : Around} {E : Value → Shared → Prop} {s : Shared} {env : Env} {h : Heap} {g : Array GenState} {d : Drawn} {tk : Nat} {os : OsState}

/- the work list at x with its list at p -/
structure Wl (h : Heap) (x dx p : Nat) : Prop where
  i : h.get? x = some (instObj 80 dx)
  d : ∃ es n, h.get? dx = some (dictOf es n) ∧ getL (Str.ofString "pq") es = some (some (.ref p)) ∧ ∀ x, x = Str.ofString "add" ∨ x = Str.ofString "get" ∨ x = Str.ofString "rows" → getL x es = some none
theorem Wl.at {x dx p : Nat} (X : Wl h x dx p) : ∃ ox es n, InstAt h x ox 80 (some (dictOf es n)) ∧ getL (Str.ofString "pq") es = some (some (.ref p)) ∧ ∀ x, x = Str.ofString "add" ∨ x = Str.ofString "get" ∨ x = Str.ofString "rows" → getL x es = some none := by
  refine hide fun Gz kz => ?_
  obtain ⟨h1, es, n, h2, h3⟩ := X
  refine kz ?_
  clear kz Gz
  exact ⟨_, es, n, ⟨h1, rfl, rfl, h2⟩, h3⟩

theorem wl_meth {x dx p f : Nat} {name : Str} {pl : Sem Bool} {Q : Value × List Value → Shared → Prop} (K : Ok w mg mb s.heap) (X : Wl s.heap x dx p) (hn : name = Str.ofString "add" ∨ name = Str.ofString "get" ∨ name = Str.ofString "rows")
    (hq : Q (.ref f, [.ref x]) s) (hg : plainGet (KK w) 80 name = true := by kernel_rfl) (hf : findIn (KK w) (.ref 80) name = some (some (.ref f)) := by kernel_rfl) (ht : isFn (KK w) (.ref f) = true := by kernel_rfl) :
    wpAny (model PP w) A (getMethod (.ref x) name pl) Q E s := by
  obtain ⟨ox, es, n, I, _, e⟩ := X.at
  exact method_fn K.x I (plainGet_of hg).1 (plainGet_of hg).2 hf (beq_iff_eq.mp ht) (by show (lookIn name (dictOf es n)).map _ = _; rw [lookIn_dict, e _ hn]; rfl) hq

theorem get_pq {x dx p : Nat} {expr : Bool} {Q : Value → Shared → Prop} (K : Ok w mg mb h) (X : Wl h x dx p) (hq : ∀ tk', Q (.ref p) ⟨h, g, d, tk', os⟩) :
    wpAny (model PP w) A (getAttr (.ref x) (Str.ofString "pq") expr) Q E ⟨h, g, d, tk, os⟩ := by
  refine hide fun Gz kz => ?_
  obtain ⟨ox, es, n, I, e, _⟩ := X.at
  refine kz ?_
  clear kz Gz
  exact get_value (s := ⟨h, g, d, tk, os⟩) K.x I (by kernel_rfl) (findObj_own (attr := none) (by kernel_rfl) (by kernel_rfl) rfl e) rfl (hq _)

theorem Wl.keep {P : Nat → Prop} {h' : Heap} {x dx p : Nat} (X : Wl h x dx p) (k : Kx P h h') (h1 : ¬ P x) (h2 : ¬ P dx) : Wl h' x dx p :=
  ⟨k _ h1 _ X.i, let ⟨es, n, q, r⟩ := X.d; ⟨es, n, k _ h2 _ q, r⟩⟩
theorem Wl.n {h' : Heap} {x dx p : Nat} (X : Wl h x dx p) (k : Kx none_ h h') : Wl h' x dx p := X.keep k id id

theorem Pq.n {h' : Heap} {p : Nat} {zs : Array KV} (x : Pq h p zs) (k : Kx none_ h h') : Pq h' p zs :=
  ⟨x.l.imp fun _ l => k.kp _ _ l, fun i z hz => (x.p i z hz).keeps k.kp, x.lt⟩

theorem wl_add {x dx p t : Nat} {dt : Int} {nm : List UInt8} {tt tn : Tok} {zs : Array KV} {Q : Value → Shared → Prop} (K : Ok w mg mb h) (hr : Rm A 5)
    (X : Wl h x dx p) (hz : Pq h p zs) (hp : HeapP zLt zs) (hs : zs.size < sizeLine) (ht : IsT h t [.int dt tt, .bytes nm.toArray tn])
    (hq : ∀ h' tk' zs' v, Pq h' p zs' → HeapP zLt zs' → zs'.Perm (zs.push (v, (-dt, nm))) → Kx (· = p) h h' → Q .none ⟨h', g, d, tk', os⟩) :
    wpAny (model PP w) A (call (.ref 63) [.ref x, .ref t]) Q E ⟨h, g, d, tk, os⟩ := by
  refine callF' [(Str.ofString "self", .ref x), (Str.ofString "item", .ref t)] K hr fun L h₁ tk₁ hL hL' k₁ F₁ K₁ hr' => ?_
  refine wpAny_execs_cons (Assign_Tuple (nmF F₁ rfl ?_))
  refine asg2 hr.1 (k₁.kp _ _ ht) F₁ fun h₂ tk₂ F₂ k₂ => ?_
  have K₂ := K₁.l k₂ hL'
  refine wpAny_execs_cons (wpAny_Expr (Call_ ?_))
  refine nmG K₂ (g_heappush w) (PyProof.Rows.callWith_builtin1 (args_cons ?_))
  refine Attribute_any_ (nmF F₂ rfl (get_pq K₂ (X.n (k₁.t1 k₂ hL)) fun tk₃ => ?_))
  refine args_cons (Tuple_ (args_cons (UnaryOp_ (nmF F₂ rfl (uNeg fun t₄ tk₄ => args_cons (nmF F₂ rfl (args_nil ?_)))))))
  refine nTup fun h₃ k₃ t₃ => args_nil ?_
  have k : Kx none_ h h₃ := (k₁.t1 k₂ hL).tn k₃
  refine heappush_ (q := (-dt, nm)) (hz.n k) hp ⟨_, _, _, rfl, t₃⟩ hs hr'.un fun h₄ zs' z' pm hp' sb => ?_
  exact wpAny_execs_nil (hq _ _ zs' _ z' hp' pm (k.any.tr (Kx.of_same sb)))

theorem g_heappop (w : World) : nsIn (KK w) mainGlobals (Str.ofString "heappop") = some (some (.builtin "_heapq.heappop")) := by kernel_rfl

theorem wl_get {x dx p : Nat} {zs : Array KV} {Q : Value → Shared → Prop} (K : Ok w mg mb h) (hr : Rm A 5)
    (X : Wl h x dx p) (hz : Pq h p zs) (hp : HeapP zLt zs) (hs : 0 < zs.size)
    (hq : ∀ h' tk' zs' z t tt tn, zs[0]? = some z → Pq h' p zs' → HeapP zLt zs' → (zs'.push z).Perm zs → Kx (· = p) h h' → IsT h' t [.int (-z.2.1) tt, .bytes z.2.2.toArray tn] → h.get? t = none → Q (.ref t) ⟨h', g, d, tk', os⟩) :
    wpAny (model PP w) A (call (.ref 70) [.ref x]) Q E ⟨h, g, d, tk, os⟩ := by
  refine callF' [(Str.ofString "self", .ref x)] K hr fun L h₁ tk₁ hL hL' k₁ F₁ K₁ hr' => ?_
  refine wpAny_execs_cons (wpAny_Assign_Name (Call_ ?_))
  refine nmG K₁ (g_heappop w) (PyProof.Rows.callWith_builtin1 (args_cons ?_))
  refine Attribute_any_ (nmF F₁ rfl (get_pq K₁ (X.n k₁) fun tk₂ => args_nil ?_))
  refine heappop_ (hz.n k₁) hp hs hr'.un fun z h₂ zs' hz0 hzp hz' pm hp' sb => ?_
  have k₂ := Kx.of_same sb
  have F₂ := F₁.keep k₂ (fun e => by obtain ⟨n, l⟩ := hz.l; exact ne_dead hL l e.symm)
  refine hide fun Gz kz => ?_
  obtain ⟨a, t, u, ez, tz⟩ := hzp
  refine kz ?_
  clear kz Gz
  refine stF F₂ fun h₃ tk₃ F₃ k₃ => ?_
  have tz₃ := F₂.tup tz k₃
  refine wpAny_execs_cons (wpAny_If (isTrue_plain (nmF F₃ rfl ?_)))
  rw [ez]
  refine truthy_tuple (s := ⟨h₃, g, d, tk₃, os⟩) ⟨_, tz₃, rfl, _, rfl⟩ (show (2 : Int) < 2 ^ 63 by decide) ?_
  simp only [List.isEmpty_toArray, List.isEmpty_cons, Bool.not_false, if_true]
  rw [ez] at F₃
  refine wpAny_execs_cons (Assign_Tuple (nmF F₃ rfl ?_))
  refine asg2 hr.1 tz₃ F₃ fun h₄ tk₄ F₄ k₄ => ?_
  refine wpAny_execs_cons (wpAny_Return_some (Tuple_ (args_cons (UnaryOp_ (nmF F₄ rfl (uNeg fun t₅ tk₅ => args_cons (nmF F₄ rfl (args_nil ?_))))))))
  refine nTup fun h₅ k₅ t₅ => ?_
  have kL := k₃.tr k₄
  have k4 : Kx (· = p) h h₄ := (k₁.any.tr k₂).t1 kL hL
  refine hq h₅ _ zs' z _ _ _ hz0 (Pq.n (F₂.pq hz' kL) k₅) hp' pm (k4.tn k₅) t₅ ?_
  obtain ⟨n, l⟩ := (F₂.pq hz' kL).l
  exact k4.dead (dead_size _) (fun e => ne_dead (dead_size h₄) l e.symm)

theorem wl_new {Q : Value → Shared → Prop} (K : Ok w mg mb h) (hr : Rm A 5)
    (hq : ∀ h' tk' x dx p, Wl h' x dx p → Pq h' p #[] → h.get? x = none → h.get? dx = none → h.get? p = none → 138 < p → Kx none_ h h' → Q (.ref x) ⟨h', g, d, tk', os⟩) :
    wpAny (model PP w) A (call (.ref 80) []) Q E ⟨h, g, d, tk, os⟩ := by
  refine wpAny_call (make_core (makes_of K.x (by kernel_rfl)) (looks_findIn (r := some (.ref 56)) K.x (by kernel_rfl)) (fun self => bind_fn K.x self (by kernel_rfl)) (.inl rfl) ?_)
  have k₀ : Kx none_ h ((h.push emptyDict).push (instObj 80 h.objs.size)) := (Kx.push _ _).tn (Kx.push _ _)
  have e1 : ((h.push emptyDict).push (instObj 80 h.objs.size)).get? (h.objs.size + 1) = some (instObj 80 h.objs.size) := by
    have := Heap.get?_push_size (h.push emptyDict) (o := instObj 80 h.objs.size) rfl
    rwa [Heap.size_push] at this
  have e2 : ((h.push emptyDict).push (instObj 80 h.objs.size)).get? h.objs.size = some (dictOf [] 0) := Heap.get?_push_of_some _ (Heap.get?_push_size _ rfl)
  have dx : h.get? (h.objs.size + 1) = none := by
    have := (Kx.push h emptyDict).dead0 (dead_size (h.push emptyDict))
    rwa [Heap.size_push] at this
  have hsz : h.objs.size ≤ ((h.push emptyDict).push (instObj 80 h.objs.size)).objs.size := by simp; (first | lia | omega)
  generalize ((h.push emptyDict).push (instObj 80 h.objs.size)) = h₀ at *
  have K₀ := K.n k₀
  have hr' : Rm (A.under (.builtin "type.__call__" ⟨[.ref 80], []⟩)) 3 := by
    have e1 : (Code.builtin "type.__call__" ⟨[.ref 80], []⟩).weight ≤ 1 := by decide +kernel
    have e2 : (Code.builtin "type.__call__" ⟨[.ref 80], []⟩).cUnits ≤ 2 := by decide +kernel
    refine ⟨hr.1, ?_, ?_⟩
    · have := hr.2.1; show A.depth + _ + 3 ≤ 900; (first | lia | omega)
    · have := hr.2.2; show A.units + _ + 20 * 3 ≤ 9000; (first | lia | omega)
  refine codeFs [(Str.ofString "self", .ref (h.objs.size + 1))] K₀ hr' fun L h₁ tk₁ hL hLs hL' k₁ F₁ K₁ hr₁ => ?_
  refine wpAny_execs_cons (plainObj_wpAny_Assign_Attribute (List_ (args_nil (nList fun h₂ k₂ l₂ => ?_))))
  have k₂' := k₁.tn k₂
  have F₂ := F₁.keep k₂ id
  refine nmF F₂ rfl ?_
  have I : InstAt h₂ (h.objs.size + 1) (instObj 80 h.objs.size) 80 (some (dictOf [] 0)) := ⟨k₂' _ id _ e1, rfl, rfl, k₂' _ id _ e2⟩
  obtain ⟨m, nm, -⟩ := id F₂
  have Fr₂ : Fr h L h₂ m := ⟨nm, fun b o e => k₂' _ id _ (k₀ _ id _ e), by rw [← hLs]; exact hsz⟩
  have dp : h.get? h₁.objs.size = none := (k₀.tn k₁).dead0 (dead_size h₁)
  have n1 : h.objs.size + 1 ≠ h.objs.size := by (first | lia | omega)
  have n2 : h₁.objs.size ≠ h.objs.size := (ne_dead (dead_size h₁) (k₁ _ id _ e2)).symm
  have N : News h L h₂ [(h.objs.size, dictOf [] 0), (h.objs.size + 1, instObj 80 h.objs.size), (h₁.objs.size, { cls := .type "list", data := .seq #[] 0 })] := by
    intro p hp
    rcases List.mem_cons.mp hp with rfl | hp
    · exact ⟨k₂' _ id _ e2, ne_dead hL e2, dead_size h⟩
    rcases List.mem_cons.mp hp with rfl | hp
    · exact ⟨k₂' _ id _ e1, ne_dead hL e1, dx⟩
    rcases List.mem_cons.mp hp with rfl | hp
    · exact ⟨l₂, F₂.ne_seq l₂, dp⟩
    · cases hp
  refine set_dict (s := ⟨h₂, g, d, tk₁, os⟩) Fr₂ K.x N I rfl (by kernel_rfl) (by kernel_rfl) (by kernel_rfl) (by kernel_rfl) rfl rfl (.head ?_) ?_ fun h₃ F₃ N₃ => ?_
  · intro p hp
    rcases List.mem_cons.mp hp with rfl | hp
    · exact n1
    rcases List.mem_cons.mp hp with rfl | hp
    · exact n2
    · cases hp
  · exact (by decide : (1 : Nat) ≤ 1000)
  refine wpAny_execs_nil ⟨rfl, ?_⟩
  refine hq h₃ _ (h.objs.size + 1) h.objs.size h₁.objs.size ⟨(N₃ _ (.tail _ (.head _))).1, _, _, (N₃ _ (.head _)).1, rfl, by rintro x (rfl | rfl | rfl) <;> rfl⟩ ⟨⟨0, by simpa using (N₃ _ (.tail _ (.tail _ (.head _)))).1⟩, fun i z hz => by simp at hz, by simp⟩ dx (dead_size h) dp K₁.sz (Kx.of_kp F₃.keep)
end Mine
end

section
open PySem PySem.W PyProof.Rows PySem.Spec PySem.Calls
set_option maxRecDepth 100000
set_option maxHeartbeats 4000000
namespace Mine
variable {w : World} {mg mb : Str → Option Value} {A : Around} {E : Value → Shared → Prop} {s : Shared} {env : Env} {h : Heap} {g : Array GenState} {d : Drawn} {tk : Nat} {os : OsState}

theorem pyNext_genQ {prog : Program} {a : Addr} {g n : Nat} {gs : GenState} {P : Nat → Shared → Shared → Prop} {Y : Protocol} {Q : Option Value → Shared → Prop} (hh : A.handled = none)
    (hl : s.heap.NoLimit) (hroom : A.depth < recursionLimit)
    (hg : s.heap.IsGen a g) (hgs : s.gens[g]? = some gs)
    (hgo : gs.Goes (model prog w) A.in1 (fun n s₀ r s₁ => r = .ok (.ret .none) ∧ P n s₀ s₁) Y n (.send .none) (s.setGen g .running))
    (hY : ∀ v s₁ gs', gs'.bare = true → Y (n - 1) (s.setGen g .running) v s₁ (fun r' s'' => match n with
        | 0 => False
        | m + 1 => gs'.Goes (model prog w) A.in1 (fun n s₀ r s₁ => r = .ok (.ret .none) ∧ P n s₀ s₁) Y m r' s'') → Q (some v) (s₁.setGen g gs'))
    (hP : ∀ s₁, P n (s.setGen g .running) s₁ → ∀ h', (∀ b o, s₁.heap.get? b = some o → h'.get? b = some o) → Q none { s₁.setGen g .finished with heap := h' }) :
    wpAny (model prog w) A (pyNext (.ref a)) Q E s := by
  unfold pyNext
  refine wpAny_bind (wpAny_attempt (wpAny_callSpecial?_slot (name := Str.ofString "__next__") hg.typeIs slot_gen_next
    (wpAny_call_entry slot_gen_next hg.typeIs entry_gen_next ?_ (args_gen_next _))))
  show wpAny _ A.in1 (Builtin.Generator.genWake (.ref a) (.send .none)) _ _ s
  unfold Builtin.Generator.genWake
  refine wpAny_bind (wpAny_holding (wpAny_genNumber hg (wpAny_bind (wpAny_genState hgs ?_))))
  cases gs with
  | running => exact hgo.elim
  | finished => exact hgo.elim
  | _ =>
    refine wpAny_bind (wpAny_roomToWake hl hroom ?_)
    show wpAny _ A.in1 (.resume g (.send .none) [] _) _ _ s
    refine wpAny_resumeQ hgs hgo (fun x s₁ hx => ?_) (fun v s₁ gs' hb hv => ?_)
    · obtain ⟨rfl, hp⟩ := hx
      show wpAny _ A.in1 (newExc (.type "StopIteration") [] >>= _) _ _ _
      refine wpAny_bind ?_
      simp only [newExc, newTuple]
      refine wpAny_bind (wpAny_newObj_type ?_ (by size_fits))
      refine wpAny_bind (m := firstArgMember _ _) (wpAny_of_eq (a := Value.none) (by first | rfl | (simp only [firstArgMember]; rfl)) ?_)
      refine wpAny_newObj_type ?_ (by size_fits)
      simp only [raiseNew]
      refine wpAny_bind (wpAny_bind (wpAny_handled ?_))
      first | rw [show A.in1.handled = none from hh] | rw [hh]
      refine wpAny_throw ?_
      refine wpAny_bind (wpAny_isInstance (T := "StopIteration") (b := true) ⟨_, Heap.get?_push_size _ rfl, rfl⟩ isSubtype_stop ?_)
      exact wpAny_pure (hP s₁ hp _ fun b o hb => Heap.get?_push_of_some _ (Heap.get?_push_of_some _ hb))
    · exact wpAny_pure ⟨v, rfl, wpAny_pure (hY v s₁ gs' hb hv)⟩

noncomputable def IsIt (o : Obj) : Prop := o.cls = .type "list_iterator" ∧ ∃ vs, o.data = .fields vs
theorem Fv.ne_it {L it : Nat} {l : List (Str × Value)} (F : Fv h L l) (q : ∀ o, h.get? it = some o → IsIt o) : L ≠ it := by
  rintro rfl
  obtain ⟨_, ⟨o, es, ep, ho, hd, _⟩, _⟩ := F
  obtain ⟨_, vs, e⟩ := q _ ho
  rw [hd] at e
  cases e
/- one step of the rows -/
structure Stp (hb : Heap) (C : Nat) (s₀ s₁ : Shared) : Prop where
  g : s₁.gens = s₀.gens
  d : s₁.drawn = s₀.drawn
  o : s₁.os = s₀.os
  k : ∃ it, hb.get? it = none ∧ (∀ o, s₀.heap.get? it = some o → IsIt o) ∧ Kx (fun b => b = C ∨ b = it) s₀.heap s₁.heap
noncomputable def Closed (hb : Heap) (C : Nat) (D : Heap → Prop) : Prop := ∀ h h' L l, D h → Fv h L l → hb.get? L = none → C ≠ L → Kx (· = L) h h' → D h'
noncomputable def YY (hb : Heap) (C : Nat) (zs : Array KV) : Protocol := fun n s₀ v s₁ kap =>
  (∃ z t u u', zs[zs.size - 1 - n]? = some z ∧ n < zs.size ∧ v = .ref t ∧ IsT s₁.heap t [.int (-z.2.1) u, .bytes z.2.2.toArray u']) ∧ Stp hb C s₀ s₁ ∧
    ∃ D : Heap → Prop, D s₁.heap ∧ Closed hb C D ∧ ∀ s'' : Shared, D s''.heap → kap (.send .none) s''
noncomputable abbrev RR (hb : Heap) (C : Nat) : GenEnd := fun n s₀ r s₁ => r = .ok (.ret .none) ∧ n = 0 ∧ Stp hb C s₀ s₁

noncomputable abbrev gEnv (w : World) (C : Nat) : Env := callEnv (fdAt w 77) C 77


theorem Stp.refl (hb : Heap) (C : Nat) (s : Shared) {it : Nat} (h1 : hb.get? it = none) (h2 : ∀ o, s.heap.get? it = some o → IsIt o) : Stp hb C s s := ⟨rfl, rfl, rfl, it, h1, h2, Kx.refl _ _⟩

theorem seg_rows_loop {hb : Heap} {p C it : Nat} {zs : Array KV} {c₀ : Code} {p₀ p1 p2 p3 p4 p5 p6 p7 p8 p9 : Pos} {k1 k2 : Nat} {kont : Result → Sem Fin}
    (hh : A.handled = none) (hz : Pq hb p zs) (hit0 : hb.get? it = none) (hC0 : hb.get? C = none) (hne : C ≠ it) (hk : kont (.ok .next) = .pure (.done (.ret .none))) :
    ∀ (k j : Nat) (s₀ s : Shared) (l : List (Str × Value)), zs.size - j = k → j ≤ zs.size → Kx none_ hb s.heap → s.heap.IsListIter it p j → Fv s.heap C l →
      s.gens = s₀.gens → s.drawn = s₀.drawn → s.os = s₀.os → Kx (fun b => b = C ∨ b = it) s₀.heap s.heap → (∀ o, s₀.heap.get? it = some o → IsIt o) →
      Seg (model PP w) A (RR hb C) (YY hb C zs) (zs.size - j) s₀ (.forLoop (.Tuple [.Name (Str.ofString "pr") p1, .Name (Str.ofString "cmt") p2] k1 p3) (.ref it) [.Expr (.Yield (some (.Tuple [.UnaryOp .USub (.Name (Str.ofString "pr") p4) p5, .Name (Str.ofString "cmt") p6] k2 p7)) p8) p9] [] (gEnv w C))
        ((model PP w).den (.forLoop (.Tuple [.Name (Str.ofString "pr") p1, .Name (Str.ofString "cmt") p2] k1 p3) (.ref it) [.Expr (.Yield (some (.Tuple [.UnaryOp .USub (.Name (Str.ofString "pr") p4) p5, .Name (Str.ofString "cmt") p6] k2 p7)) p8) p9] [] (gEnv w C))) [.ret kont none false [] c₀ p₀ []] s := by
  intro k
  induction k with
  | zero =>
    intro j s₀ s l hk' hj kb hit F e1 e2 e3 ks hi0
    have hjz : j = zs.size := by omega
    subst hjz
    show Seg _ A _ _ _ s₀ _ ((forTurn _ (.ref it) _ [] (gEnv w C)).onRaise (fun x => do noteFrame x (gEnv w C); theTreesLotGoes x)) _ s
    rw [Sem.onRaise_eq_wrap]
    unfold forTurn
    refine seg_bind_wrap (wpAny_standAt ?_)
    obtain ⟨n, lz⟩ := (hz.n kb).l
    refine seg_bind_wrap (wpAny_onRaise (wpAny_pyNext_list_end (by exact hh) hit lz.isList (by simp) fun h' he => ?_))
    refine seg_again rfl ?_
    show Seg _ A _ _ _ s₀ _ (((execs [] (gEnv w C)).onRaise _) >>= fun f => (pure (Fin.done f) : Sem Fin)) _ _
    refine seg_leaf (.ok .next) ?_
    rw [hk]
    refine seg_end (.ok (.ret .none)) ⟨rfl, by omega, e1, e2, e3, it, hit0, hi0, ?_⟩
    exact ks.trans (Kx.of_ext he) fun b e => .inl (.inr e)
  | succ k ih =>
    intro j s₀ s l hk' hj kb hit F e1 e2 e3 ks hi0
    have hlt : j < zs.size := by omega
    show Seg _ A _ _ _ s₀ _ ((forTurn _ (.ref it) _ [] (gEnv w C)).onRaise (fun x => do noteFrame x (gEnv w C); theTreesLotGoes x)) _ s
    rw [Sem.onRaise_eq_wrap]
    unfold forTurn
    refine seg_bind_wrap (wpAny_standAt ?_)
    obtain ⟨n, lz⟩ := (hz.n kb).l
    refine seg_bind_wrap (wpAny_onRaise (wpAny_pyNext_list_item (x := zs[j].1) hit lz.isList (by simp [hlt]) fun h₁ hit₁ hs₁ => ?_))
    have k₁ := Kx.of_same hs₁
    have kb₁ : Kx none_ hb h₁ := kb.t1 k₁ hit0
    refine hide fun Gz kz => ?_
    obtain ⟨a, t, u, ez, tz⟩ := hz.p j zs[j] (by simp [hlt])
    refine kz ?_
    clear kz Gz
    rw [ez]
    refine seg_bind_wrap (wpAny_letOwnedTupleGo_listiter hit₁ ?_)
    refine hide fun Gz kz => ?_
    obtain ⟨hp, gg, dd, tk, os⟩ := s
    refine kz ?_
    clear kz Gz
    refine seg_bind_wrap ?_
    refine asg2 (by exact hh) (kb₁.kp _ _ tz) (F.keep k₁ hne) fun h₂ tk₂ F₂ k₂ => ?_
    rw [Sem.bind_eq_wrap', Sem.wrap_wrap]
    refine seg_execs_cons ?_
    have ej : zs.size - j = (zs.size - (j + 1)) + 1 := by omega
    rw [ej]
    refine seg_Expr_Yield rfl rfl rfl ?_
    refine Tuple_ (args_cons (UnaryOp_ (nmF F₂ rfl (uNeg fun t₃ tk₃ => args_cons (nmF F₂ rfl (args_nil ?_))))))
    refine nTup fun h₃ k₃ t₃' => ?_
    intro kap hkap
    have hit₂ : h₂.IsListIter it p (j + 1) := by
      obtain ⟨o, ho, r⟩ := hit₁
      exact ⟨o, k₂ it (fun e => hne e.symm) _ ho, r⟩
    have kb₃ : Kx none_ hb h₃ := (kb₁.t1 k₂ hC0).tn k₃
    have ks₃ : Kx (fun b => b = C ∨ b = it) s₀.heap h₃ := ((ks.trans k₁ fun b e => .inl (.inr e)).trans k₂ fun b e => .inl (.inl e)).tn k₃
    refine ⟨⟨zs[j], h₂.objs.size, _, _, ?_, by omega, rfl, t₃'⟩, ⟨e1, e2, e3, it, hit0, hi0, ks₃⟩, fun h => Kx none_ hb h ∧ h.IsListIter it p (j + 1) ∧ Fv h C [], ⟨kb₃, ?_, (F₂.keep k₃ id).sub fun _ _ e => by cases e⟩, ?_, ?_⟩
    · rw [show zs.size - 1 - (zs.size - (j + 1)) = j by omega]; simp [hlt]
    · obtain ⟨o, ho, r⟩ := hit₂
      exact ⟨o, k₃ it id _ ho, r⟩
    · rintro h h' L l ⟨q1, ⟨o, ho, hc, hd⟩, q3⟩ FL hL hCL kL
      refine ⟨q1.t1 kL hL, ⟨o, kL it ?_ _ ho, hc, hd⟩, q3.keep kL hCL⟩
      rintro rfl
      obtain ⟨_, ⟨o', es, ep, ho', hd', _⟩, _⟩ := FL
      rw [ho] at ho'
      cases ho'
      rw [hd] at hd'
      cases hd'
    · rintro s'' ⟨q1, q2, q3⟩
      refine hkap .none s'' ?_
      refine seg_again rfl ?_
      refine ih (j + 1) s'' s'' [] (by omega) (by omega) q1 q2 q3 rfl rfl rfl (Kx.refl _ _) ?_
      obtain ⟨o, ho, hc, hd⟩ := q2
      intro o' ho'
      rw [ho] at ho'
      cases ho'
      exact ⟨hc, _, hd⟩

theorem seg_rows_start {hb : Heap} {x dx p C : Nat} {zs : Array KV} (hh : A.handled = none) (K : Ok w mg mb hb) (X : Wl hb x dx p) (hz : Pq hb p zs) (hC0 : hb.get? C = none) (s : Shared)
    (kb : Kx none_ hb s.heap) (F : Fv s.heap C [(Str.ofString "self", .ref x)]) :
    Seg (model PP w) A (RR hb C) (YY hb C zs) zs.size s (.func (bodyAt w 77) (gEnv w C)) ((model PP w).den (.func (bodyAt w 77) (gEnv w C))) [] s := by
  refine seg_func ?_
  refine seg_execs_cons ?_
  rw [exec_For]
  refine seg_bind_wrap (wpAny_standAt ?_)
  refine seg_bind_wrap ?_
  refine hide fun Gz kz => ?_
  obtain ⟨hp, gg, dd, tk, os⟩ := s
  refine kz ?_
  clear kz Gz
  refine Attribute_any_ (nmF F rfl (get_pq (K.n kb) (X.n kb) fun tk₁ => ?_))
  refine seg_bind_wrap (wpAny_of_eq (a := Value.ref p) rfl ?_)
  refine seg_bind_wrap (wpAny_standAt ?_)
  obtain ⟨n, l⟩ := (hz.n kb).l
  refine seg_bind_wrap (wpAny_holding (wpAny_pyIter_list l.isList ?_))
  refine seg_call fun p' => ?_
  have k₁ : Kx none_ hp (hp.push { cls := .type "list_iterator", data := .fields #[.ref p, .int 0 0] }) := Kx.push _ _
  exact seg_rows_loop hh hz kb.deadS hC0 (F.ne (dead_size _)) rfl zs.size 0 _ _ _ rfl (Nat.zero_le _) (kb.tn k₁) ⟨_, Heap.get?_push_size _ rfl, rfl, rfl⟩ (F.keep k₁ id) rfl rfl rfl k₁.any
    (fun o ho => by rw [dead_size] at ho; cases ho)

noncomputable def AllB (g : Array GenState) : Prop := ∀ x ∈ g, x.bare = true
theorem AllB.push {g : Array GenState} (x : AllB g) {y : GenState} (hy : y.bare = true) : AllB (g.push y) := fun z hz => by
  rcases Array.mem_push.mp hz with h | rfl
  · exact x z h
  · exact hy
theorem AllB.set {g : Array GenState} (x : AllB g) {y : GenState} (hy : y.bare = true) (i : Nat) : AllB (g.setIfInBounds i y) := fun z hz => by
  obtain ⟨k, hk, rfl⟩ := Array.mem_iff_getElem.mp hz
  have hk' : k < g.size := by simpa using hk
  rw [Array.getElem_setIfInBounds hk']
  split
  · exact hy
  · exact x _ (Array.getElem_mem _)

/- the generator of the rows, j drawn -/
structure GR (w : World) (A : Around) (hb : Heap) (a gi C : Nat) (zs : Array KV) (j : Nat) (s : Shared) : Prop where
  gen : s.heap.IsGen a gi
  st : ∃ gs, s.gens[gi]? = some gs ∧ ∃ D : Heap → Prop, D s.heap ∧ Closed hb C D ∧ ∀ s'' : Shared, D s''.heap → gs.Goes (model PP w) A.in1 (RR hb C) (YY hb C zs) (zs.size - j) (.send .none) s''

theorem rows_call {hb : Heap} {x dx p : Nat} {zs : Array KV} {n : Nat} {Q : Value → Shared → Prop} (K : Ok w mg mb hb) (X : Wl hb x dx p) (hz : Pq hb p zs) (hr : Rm A (n + 1)) (kb : Kx none_ hb h)
    (ab : AllB g)
    (hq : ∀ a C gi h' tk' g', AllB g' → GR w A hb a gi C zs 0 ⟨h', g', d, tk', os⟩ → hb.get? a = none → hb.get? C = none → h.get? C = none → C ≠ a → Kx none_ h h' → Q (.ref a) ⟨h', g', d, tk', os⟩) :
    wpAny (model PP w) A (call (.ref 77) [.ref x]) Q E ⟨h, g, d, tk, os⟩ := by
  have K₁ := K.n kb
  have hfo : h.get? 77 = some (fnObj w 77) := K₁.x _ _ (by kernel_rfl)
  have hbind : bindArgs (fdAt w 77) ⟨[.ref x], []⟩ = pure [(Str.ofString "self", .ref x)] := by kernel_rfl
  refine wpAny_call (codeAny_call_generator hr.room hfo rfl (by kernel_rfl) (by kernel_rfl) (body := bodyAt w 77) (by kernel_rfl) (codeRec_of K₁.x (by kernel_rfl)) ?_)
  refine bnd hbind ?_
  have hcell : ((fdAt w 77).scope.names.all fun x => x.2 != .cell) = true := by kernel_rfl
  have hloc : ([(Str.ofString "self", Value.ref x)].all fun x => (fdAt w 77).scope.names.lookup x.1 == some .local) = true := by kernel_rfl
  refine wpAny_newFunctionEnv (fun x hx => ?_) (fun x hx => ?_) (fun h₀ hns₀ hsb₀ => ⟨K₁.nl.fresh _ hsb₀, ?_⟩) (by kernel_rfl)
  · have := List.all_eq_true.mp hcell x hx
    simpa using this
  · have := List.all_eq_true.mp hloc x hx
    simpa using this
  · have k₀ : Kx none_ h h₀ := Kx.of_kp fun b o e => hsb₀.extBut b o (Nat.ne_of_lt (Heap.lt_size e)) (Heap.get?_push_of_some _ e)
    have F₀ : Fv h₀ h.objs.size [(Str.ofString "self", .ref x)] := ⟨_, hns₀, fun _ _ e => e⟩
    refine hq h₀.objs.size h.objs.size g.size _ _ _ (ab.push (y := .fresh (.func (bodyAt w 77) (gEnv w h.objs.size))) rfl) ⟨⟨_, _, _, Heap.get?_push_size _ rfl, rfl, rfl, rfl⟩, _, Array.getElem?_push_size .., fun h => Kx none_ hb h ∧ Fv h _ [(Str.ofString "self", .ref x)], ⟨(kb.tn k₀).tn (Kx.push _ _), F₀.keep (Kx.push _ _) id⟩, ?_, ?_⟩ ((kb.tn k₀).deadS) kb.deadS (dead_size h) (F₀.ne (dead_size h₀)) (k₀.tn (Kx.push _ _))
    · rintro h h' L l ⟨q1, q3⟩ FL hL hCL kL
      exact ⟨q1.t1 kL hL, q3.keep kL hCL⟩
    · rintro s'' ⟨q1, q2⟩
      exact ⟨rfl, seg_rows_start (A := A.in1) hr.1 K X hz kb.deadS s'' q1 q2⟩

theorem GR.keep {hb : Heap} {a gi C : Nat} {zs : Array KV} {j L : Nat} {l : List (Str × Value)} {h' : Heap} {tk' : Nat} (x : GR w A hb a gi C zs j ⟨h, g, d, tk, os⟩) (F : Fv h L l) (hL : hb.get? L = none) (hCL : C ≠ L) (k : Kx (· = L) h h') :
    GR w A hb a gi C zs j ⟨h', g, d, tk', os⟩ := by
  refine hide fun Gz kz => ?_
  obtain ⟨⟨o, nm, qn, ho, hc, hd⟩, gs, e, D, hD, hcl, hgo⟩ := x
  refine kz ?_
  clear kz Gz
  refine ⟨⟨o, nm, qn, k a ?_ _ ho, hc, hd⟩, gs, e, D, hcl _ _ _ _ hD F hL hCL k, hcl, hgo⟩
  rintro rfl
  obtain ⟨_, ⟨o', es, ep, ho', hd', _⟩, _⟩ := F
  have ho2 := ho
  rw [show Heap.get? _ a = Heap.get? h a from rfl] at ho2
  rw [ho2] at ho'
  cases ho'
  rw [hd.1] at hd'
  cases hd'

theorem rows_next {hb : Heap} {a gi C : Nat} {zs : Array KV} {j n L : Nat} {l : List (Str × Value)} {Q : Option Value → Shared → Prop} (hr : Rm A (n + 1)) (K : Ok w mg mb h) (x : GR w A hb a gi C zs j ⟨h, g, d, tk, os⟩) (hj : j < zs.size)
    (_hab : hb.get? a = none) (hC : hb.get? C = none) (F : Fv h L l) (_hL : hb.get? L = none) (hCL : C ≠ L) (kb : Kx none_ hb h) (ab : AllB g) (hCa : C ≠ a)
    (hq : ∀ z t u u' h' tk' g', zs[j]? = some z → AllB g' → IsT h' t [.int (-z.2.1) u, .bytes z.2.2.toArray u'] → GR w A hb a gi C zs (j + 1) ⟨h', g', d, tk', os⟩ → Kx none_ hb h' → Fv h' L l → Q (some (.ref t)) ⟨h', g', d, tk', os⟩) :
    wpAny (model PP w) A (pyNext (.ref a)) Q E ⟨h, g, d, tk, os⟩ := by
  refine hide fun Gz kz => ?_
  obtain ⟨hg, gs, e, D, hD, hcl, hgo⟩ := x
  refine kz ?_
  clear kz Gz
  obtain ⟨m, hm⟩ : ∃ m, zs.size - j = m + 1 := ⟨zs.size - j - 1, by omega⟩
  rw [hm] at hgo
  refine pyNext_genQ (P := fun n s₀ s₁ => n = 0 ∧ Stp hb C s₀ s₁) hr.1 K.nl hr.room hg e (hgo _ hD) (fun v s₁ gs' hbare hY => ?_) (fun s₁ hp => absurd hp.1 (Nat.succ_ne_zero m))
  refine hide fun Gz kz => ?_
  obtain ⟨⟨z, t, u, u', hz, hlt, rfl, ht⟩, ⟨q1, q2, q3, it, q4, q5, q6⟩, D', hD', hcl', hgo'⟩ := hY
  obtain ⟨h₁, g₁, d₁, tk₁, os₁⟩ := s₁
  refine kz ?_
  clear kz Gz
  have q2' : d₁ = d := q2
  have q3' : os₁ = os := q3
  have q1' : g₁ = g.setIfInBounds gi .running := q1
  have q6' : Kx (fun b => b = C ∨ b = it) h h₁ := q6
  have q5' : ∀ o, h.get? it = some o → IsIt o := q5
  subst q2' q3' q1'
  have hgi : gi < g.size := (Array.getElem?_eq_some_iff.mp e).1
  refine hq z t u u' h₁ tk₁ _ ?_ ((ab.set (y := .running) rfl gi).set hbare gi) ht ⟨?_, gs', ?_, D', hD', hcl', ?_⟩ ?_ (F.keep q6' ?_)
  · rw [show zs.size - 1 - (m + 1 - 1) = j by omega] at hz; exact hz
  · refine hide fun Gz kz => ?_
    obtain ⟨o, nm, qn, ho, hc, hd⟩ := hg
    refine kz ?_
    clear kz Gz
    refine ⟨o, nm, qn, q6' a ?_ _ ho, hc, hd⟩
    rintro (rfl | rfl)
    · exact hCa rfl
    · have := (q5' _ ho).1
      rw [hc] at this
      injection this with this
      exact absurd this (by decide)
  · simp [hgi]
  · intro s'' hs''
    have := hgo' s'' hs''
    rw [show zs.size - (j + 1) = m by omega]
    exact this
  · exact kb.trans q6' fun b hbb => hbb.elim (fun e => .inr (e ▸ hC)) fun e => .inr (e ▸ q4)
  · rintro (rfl | rfl)
    · exact hCL rfl
    · exact F.ne_it q5' rfl

theorem rows_end {hb : Heap} {a gi C : Nat} {zs : Array KV} {n L : Nat} {l : List (Str × Value)} {Q : Option Value → Shared → Prop} (hr : Rm A (n + 1)) (K : Ok w mg mb h) (x : GR w A hb a gi C zs zs.size ⟨h, g, d, tk, os⟩)
    (_hab : hb.get? a = none) (hC : hb.get? C = none) (F : Fv h L l) (_hL : hb.get? L = none) (hCL : C ≠ L) (kb : Kx none_ hb h) (ab : AllB g)
    (hq : ∀ h' tk' g', AllB g' → Kx none_ hb h' → Fv h' L l → Q none ⟨h', g', d, tk', os⟩) :
    wpAny (model PP w) A (pyNext (.ref a)) Q E ⟨h, g, d, tk, os⟩ := by
  refine hide fun Gz kz => ?_
  obtain ⟨hg, gs, e, D, hD, hcl, hgo⟩ := x
  refine kz ?_
  clear kz Gz
  rw [Nat.sub_self] at hgo
  refine pyNext_genQ (P := fun n s₀ s₁ => n = 0 ∧ Stp hb C s₀ s₁) hr.1 K.nl hr.room hg e (hgo _ hD) (fun v s₁ gs' hbare hY => ?_) (fun s₁ hp h' hk => ?_)
  · obtain ⟨_, _, D', hD', _, hgo'⟩ := hY
    exact (hgo' s₁ hD').elim
  · refine hide fun Gz kz => ?_
    obtain ⟨-, q1, q2, q3, it, q4, q5, q6⟩ := hp
    obtain ⟨h₁, g₁, d₁, tk₁, os₁⟩ := s₁
    refine kz ?_
    clear kz Gz
    have q2' : d₁ = d := q2
    have q3' : os₁ = os := q3
    have q1' : g₁ = g.setIfInBounds gi .running := q1
    have q6' : Kx (fun b => b = C ∨ b = it) h h₁ := q6
    have q5' : ∀ o, h.get? it = some o → IsIt o := q5
    subst q2' q3' q1'
    have k2 : Kx none_ h₁ h' := Kx.of_kp hk
    refine hq h' _ _ ((ab.set (y := .running) rfl gi).set (y := .finished) rfl gi) ((kb.trans q6' fun b hbb => hbb.elim (fun e => .inr (e ▸ hC)) fun e => .inr (e ▸ q4)).tn k2) ((F.keep q6' ?_).keep k2 id)
    rintro (rfl | rfl)
    · exact hCL rfl
    · exact F.ne_it q5' rfl
end Mine
end

section
open PySem PySem.W PyProof.Rows PySem.Spec PySem.Calls
set_option maxRecDepth 100000
set_option maxHeartbeats 4000000
namespace Mine
variable {w : World} {mg mb : Str → Option Value} {A : Around} {E : Value → Shared → Prop} {s : Shared} {env : Env} {h : Heap} {g : Array GenState} {d : Drawn} {tk : Nat} {os : OsState}

noncomputable def hcStmt (w : World) : Stmt := (bodyAt w 90).getD 6 default
noncomputable def hcBody (w : World) : List Stmt := match hcStmt w with | .FunctionDef _ _ b _ _ _ _ _ _ _ => b | _ => []
noncomputable def hcParams (w : World) : Arguments := match hcStmt w with | .FunctionDef _ a _ _ _ _ _ _ _ _ => a | _ => default
noncomputable def hcScope (w : World) : Scope := match hcStmt w with | .FunctionDef _ _ _ _ _ _ s _ _ _ => s | _ => default

/- a call of a nested plain def -/
theorem callN {f : Nat} {pos : List Value} {kw : List (Str × Value)} {fd : FuncData} {body : List Stmt} {o : Obj} (binds : List (Str × Value)) {R : Result → Shared → Prop} {n : Nat}
    (K : Ok w mg mb h) (hr : Rm A (n + 1)) (ho : h.get? f = some o) (hdata : o.data = .func fd) (hcd : h.CodeRec fd.code fd.qualname)
    (hb : ∀ L h₁ tk', h.get? L = none → 138 < L → Kx none_ h h₁ → Fv h₁ L binds.reverse → Ok w mg mb h₁ → Rm (A.deeper (callEnv fd L f)) n →
      wpAny (model PP w) (A.deeper (callEnv fd L f)) (execs body (callEnv fd L f)) (fun fl s' => R (.ok (.ret (match fl with | .ret v => v | _ => .none))) s') (fun _ _ => False) ⟨h₁, g, d, tk', os⟩)
    (hbind : bindArgs fd ⟨pos, kw⟩ = pure binds)
    (hbody : fd.body = .stmts body)
    (hcell : (fd.scope.names.all fun x => x.2 != .cell) = true) (hloc : (binds.all fun x => fd.scope.names.lookup x.1 == some .local) = true)
    (hco : fd.scope.isCoroutine = false) (hgen : fd.scope.isGenerator = false) (hk : fd.scope.kind = .function) :
    codeAny (model PP w) A (.call (.ref f) ⟨pos, kw⟩) R ⟨h, g, d, tk, os⟩ := by
  refine codeAny_call_def hr.room ho hdata K.nl hcd hbody (BindsTo.of_eq hbind) (fun x hx => ?_) (fun x hx => ?_) (fun h₀ hns hk' => ?_) hco hgen hk
  · have := List.all_eq_true.mp hcell x hx
    simpa using this
  · have := List.all_eq_true.mp hloc x hx
    simpa using this
  · exact wpAny_mono (hb _ h₀ _ (dead_size h) K.sz (Kx.of_kp hk') ⟨_, hns, fun _ _ e => e⟩ (K.keeps hk') (hr.deeper _)) (fun _ _ x => x) (fun _ _ x => x.elim)

noncomputable abbrev hcFn (w : World) (c : Nat) (name qual : Str) (doc pm cv ctv : Value) : FuncData := fnX name qual (hcParams w) (hcBody w) (hcScope w) [(Str.ofString "_DNC", c)] .none .none doc pm none cv ctv

/- the states' table -/
noncomputable def Cs (w : World) (h : Heap) (c : Nat) (kvs : List (List UInt8 × Value)) : Prop := h.DictOf (bytesKind PP w) c kvs
noncomputable def FlOk (kvs : List (List UInt8 × Value)) (fl : List UInt8 → Option Nat) : Prop := ∀ nm, match fl nm with
  | none => valueAt kvs nm = none
  | some i => i < 16 ∧ ∃ t, valueAt kvs nm = some (.int (i : Nat) t)
noncomputable def isC (fl : List UInt8 → Option Nat) (z : KV) : Bool := match fl z.2.2 with
  | none => false
  | some i => i &&& 4 != 4
noncomputable def hasC (fl : List UInt8 → Option Nat) (zs : Array KV) : Bool := zs.any (isC fl)

theorem bAnd_nat : ∀ i < 16, ∀ j < 16, Builtin.bitAnd ((i : Nat) : Int) ((j : Nat) : Int) = ((i &&& j : Nat) : Int) := by decide +kernel
theorem bOr_nat : ∀ i < 16, ∀ j < 16, Builtin.bitOr ((i : Nat) : Int) ((j : Nat) : Int) = ((i ||| j : Nat) : Int) := by decide +kernel

theorem nmFree {x : Str} {pos : Pos} {v : Value} {c : Nat} {Q : Value → Shared → Prop} {M : Model} (hv : s.heap.IsCell c (some v)) (h : Q v s) (hc : env.cells.lookup x = some c := by rfl)
    (hk : env.scope.kind = .function := by rfl) (hl : env.kindOf x = some .free := by rfl) (hd : (x == ("__debug__" : Str)) = false := by decide) (hn : (x == ("__classdict__" : Str)) = false := by decide) :
    wpAny M A (eval (.Name x pos) env) Q E s := wpAny_Name (wpAny_loadName_free hk hl hc hv h hn) hd

theorem Cs.n {h' : Heap} {c : Nat} {kvs : List (List UInt8 × Value)} (x : Cs w h c kvs) (k : Kx none_ h h') : Cs w h' c kvs :=
  let ⟨o, es, ep, ho, r⟩ := x; ⟨o, es, ep, k.kp _ _ ho, r⟩
theorem itemDict {prog : Program} {k : List UInt8} {key v : Value} {f : List UInt8 → Option Value} {d : Nat} {Q : Value → Shared → Prop} (hkey : (bytesKind prog w).is k key = true) (hm : s.heap.MapOf (bytesKind prog w) d f) (hv : f k = some v)
    (hq : Q v { s with toks := s.toks + 1 }) : ItemOn (model prog w) A E (.ref d) key Q s :=
  ⟨"dict", _, slot_dict_getitem.lookup, hm.typeIs, wpAny_getItem_of hkey hm hv hq⟩
theorem wpAny_letOwnedTupleGo_gen {elts : List Expr} {x1} {pos : Pos} {I T gi : Nat} {Q : Unit → Shared → Prop} {M : Model} (hit : s.heap.IsGen I gi) (hQ : Q () s) :
    wpAny M A (letOwnedTupleGo (.Tuple elts x1 pos) (.ref I) (.ref T)) Q E s := by
  refine hide fun Gz kz => ?_
  obtain ⟨o, nm, qn, ho, hc, hd, _⟩ := hit
  refine kz ?_
  clear kz Gz
  unfold letOwnedTupleGo
  refine wpAny_bind (wpAny_load ho ?_)
  rw [hc, hd]
  show wpAny _ A (if (["enumerate", "zip", "dict_itemiterator", "dict_reverseitemiterator", "odict_iterator", "itertools.zip_longest", "itertools.pairwise"].contains "generator" && _) = true then _ else _) Q E s
  rw [if_neg (by
    intro h
    rw [show (["enumerate", "zip", "dict_itemiterator", "dict_reverseitemiterator", "odict_iterator", "itertools.zip_longest", "itertools.pairwise"].contains "generator") = false from by decide, Bool.false_and] at h
    cases h)]
  exact wpAny_pure hQ

/- the loop's state -/
inductive HcS (w : World) (h : Heap) (A1 : Around) (a gi C L cs : Nat) (zs : Array KV) (fl : List UInt8 → Option Nat) (d : Drawn) (os : OsState) (n : Nat) (s : Shared) : Prop
  | mk (j : Nat)
      (l : List (Str × Value))
      (q1 : n = zs.size - j)
      (q2 : j ≤ zs.size)
      (q3 : (∀ i z, i < j → zs[i]? = some z → isC fl z = false))
      (q4 : GR w A1 h a gi C zs j s)
      (q5 : Fv s.heap L l)
      (q6 : Rows l [(Str.ofString "cstates", .ref cs)])
      (q7 : Kx none_ h s.heap)
      (q8 : AllB s.gens)
      (q9 : s.drawn = d)
      (q10 : s.os = os) : HcS w h A1 a gi C L cs zs fl d os n s
theorem has_cands {fa c cs x dx p : Nat} {name qual : Str} {doc pm cv ctv : Value} {o : Obj} {t4 : Tok} {zs : Array KV} {kvs : List (List UInt8 × Value)} {fl : List UInt8 → Option Nat} {Q : Value → Shared → Prop}
    (K : Ok w mg mb h) (hr : Rm A 10) (X : Wl h x dx p) (hz : Pq h p zs) (hD : Cs w h cs kvs) (hf : FlOk kvs fl) (hcs : 138 < cs)
    (ho : h.get? fa = some o) (hod : o.data = .func (hcFn w c name qual doc pm cv ctv)) (hcr : h.CodeRec cv qual) (hcell : h.IsCell c (some (.int 4 t4))) (ab : AllB g)
    (hq : ∀ h' tk' g', Kx none_ h h' → AllB g' → Q (.bool (hasC fl zs)) ⟨h', g', d, tk', os⟩) :
    wpAny (model PP w) A (call (.ref fa) [.ref x, .ref cs]) Q E ⟨h, g, d, tk, os⟩ := by
  refine wpAny_call (callN (fd := hcFn w c name qual doc pm cv ctv) (body := hcBody w) [(Str.ofString "wlst", .ref x), (Str.ofString "cstates", .ref cs)] K hr ho hod hcr (fun L h₁ tk₁ hL hL' k₁ F₁ K₁ hr₁ => ?_)
    (by kernel_rfl) rfl (by kernel_rfl) (by kernel_rfl) (by kernel_rfl) (by kernel_rfl) (by kernel_rfl))
  refine wpAny_execs_cons (wpAny_For ?_)
  refine MethodCall_ (nmF F₁ rfl ?_)
  refine wl_meth (f := 77) K₁ (X.n k₁) (.inr (.inr rfl)) ?_
  refine callWith_K0 K₁.x (by kernel_rfl) ?_
  refine rows_call K X hz hr₁ k₁ ab fun a C gi h₂ tk₂ g₂ ab₂ G₂ ha hC hC₁ hCa k₂ => ?_
  refine wpAny_pyIter_gen G₂.gen ?_
  have kb : Kx none_ h h₂ := k₁.tn k₂
  have F₂ := F₁.keep k₂ id
  have hCL : C ≠ L := (F₁.ne hC₁).symm
  refine codeAny_forLoop_any (HcS w h (A.deeper (callEnv (hcFn w c name qual doc pm cv ctv) L fa)) a gi C L cs zs fl d os) ?_ zs.size ⟨0, _, rfl, Nat.zero_le _, fun i z hi => absurd hi (Nat.not_lt_zero _), G₂, F₂, ⟨rfl, trivial⟩, kb, ab₂, rfl, rfl⟩
  rintro n ⟨h₃, g₃, d₃, tk₃, os₃⟩ xz
  refine hide fun Gz kz => ?_
  obtain ⟨j, l, rfl, hj, hno, G₃, F₃, hl₃, kb₃, ab₃, e1, e2⟩ := xz
  refine kz ?_
  clear kz Gz
  have e1' : d₃ = d := e1
  have e2' : os₃ = os := e2
  subst e1' e2'
  have K₃ : Ok w mg mb h₃ := K.n kb₃
  by_cases hlt : j < zs.size
  · refine rows_next hr₁ K₃ G₃ hlt ha hC F₃ hL hCL kb₃ ab₃ hCa fun z t u u' h₄ tk₄ g₄ hz4 ab₄ t₄ G₄ kb₄ F₄ => ?_
    obtain ⟨o₄, hg4, -⟩ := G₄.gen
    refine wpAny_letOwnedTupleGo_gen G₄.gen ?_
    refine asg2 hr₁.1 t₄ F₄ fun h₅ tk₅ F₅ k₅ => ?_
    have kb₅ : Kx none_ h h₅ := kb₄.t1 k₅ hL
    have G₅ := G₄.keep (tk' := tk₅) F₄ hL hCL k₅
    have hcs5 : List.lookup (Str.ofString "cstates") l = some (.ref cs) := hl₃.1
    have hD₅ : Cs w h₅ cs kvs := Cs.n hD kb₅
    have hkey : (bytesKind PP w).is z.2.2 (.bytes z.2.2.toArray u') = true := by simp [bytesKind, isBytes]
    have hsys : (cs == sysModules) = false := by
      rw [beq_eq_false_iff_ne]
      intro e
      rw [e] at hcs
      exact absurd hcs (by decide)
    have hgo : ∀ h' tk' tk'' g' l', Kx none_ h h' → AllB g' → GR w (A.deeper (callEnv (hcFn w c name qual doc pm cv ctv) L fa)) h a gi C zs (j + 1) ⟨h', g', d₃, tk'', os₃⟩ → Fv h' L l' → Rows l' [(Str.ofString "cstates", .ref cs)] → isC fl z = false →
        ∃ m, m < zs.size - j ∧ HcS w h (A.deeper (callEnv (hcFn w c name qual doc pm cv ctv) L fa)) a gi C L cs zs fl d₃ os₃ m ⟨h', g', d₃, tk', os₃⟩ := by
      intro h' tk' tk'' g' l' q1 q2 q3 q4 q5 q6
      refine ⟨zs.size - (j + 1), Nat.sub_lt_sub_left (by assumption) (Nat.lt_succ_self _), j + 1, l', rfl, by (first | lia | omega), fun i z' hi hz' => ?_, ⟨q3.gen, q3.st⟩, q4, q5, q1, q2, rfl, rfl⟩
      by_cases e : i = j
      · subst e; rw [hz4] at hz'; cases hz'; exact q6
      · exact hno i z' (by (first | lia | omega)) hz'
    refine wpAny_execs_cons (wpAny_If (wpAny_isTrue_Compare1 (nmF F₅ rfl (nmF F₅ hcs5 (wpAny_in_of hkey hsys hD₅.mapOf (wpAny_truthy_bool ?_))))))
    have hf' := hf z.2.2
    cases hfl : fl z.2.2 with
    | none =>
      rw [hfl] at hf'
      simp only [hf', Option.isSome_none, Bool.false_eq_true, if_false]
      refine wpAny_execs_nil (wpAny_execs_nil ?_)
      exact hgo _ _ _ _ _ kb₅ ab₄ G₅ F₅ ⟨hcs5, trivial⟩ (by simp [isC, hfl])
    | some i =>
      rw [hfl] at hf'
      obtain ⟨hi16, t', hv⟩ := hf'
      simp only [hv, Option.isSome_some, if_true]
      refine wpAny_execs_cons (wpAny_If (isTrue_not (wpAny_isTrue_Compare1 (wpAny_BinOp (Subscript_Name ?_)))))
      refine nmF F₅ hcs5 (nmF F₅ rfl (itemDict hkey hD₅.mapOf hv ?_))
      have hc5 : h₅.IsCell c (some (.int 4 t4)) := hcell.keeps kb₅.kp
      refine nmFree hc5 (bAnd fun t₆ tk₆ => nmFree hc5 (P.eq_int (wpAny_truthy_bool ?_)))
      have e4 : Builtin.bitAnd ((i : Nat) : Int) 4 = ((i &&& 4 : Nat) : Int) := bAnd_nat i hi16 4 (by decide)
      rw [e4]
      by_cases h4 : i &&& 4 = 4
      · have : ((((i &&& 4 : Nat) : Int)) == 4) = true := by rw [h4]; rfl
        rw [this]
        simp only [Bool.not_true, Bool.false_eq_true, if_false]
        refine wpAny_execs_nil (wpAny_execs_nil (wpAny_execs_nil ?_))
        exact hgo _ _ _ _ _ kb₅ ab₄ G₅ F₅ ⟨hcs5, trivial⟩ (by simp [isC, hfl, h4])
      · have : ((((i &&& 4 : Nat) : Int)) == 4) = false := by
          rw [beq_eq_false_iff_ne]
          intro e
          exact h4 (by exact_mod_cast e)
        rw [this]
        simp only [Bool.not_false, if_true]
        refine wpAny_execs_cons (wpAny_Return_some (Constant_bool ?_))
        have e0 : hasC fl zs = true := by
          unfold hasC
          rw [Array.any_eq_true]
          obtain ⟨hj', e⟩ := Array.getElem?_eq_some_iff.mp hz4
          exact ⟨j, hj', by rw [e]; simp [isC, hfl, h4]⟩
        rw [← e0]
        exact hq _ _ _ kb₅ ab₄
  · have hjz : j = zs.size := by (first | lia | omega)
    subst hjz
    refine rows_end hr₁ K₃ G₃ ha hC F₃ hL hCL kb₃ ab₃ fun h₄ tk₄ g₄ ab₄ kb₄ F₄ => ?_
    refine wpAny_execs_nil ?_
    refine wpAny_execs_cons (wpAny_Return_some (Constant_bool ?_))
    have e0 : hasC fl zs = false := by
      unfold hasC
      rw [Array.any_eq_false]
      intro i hi
      have := hno i zs[i] hi (by simp [hi])
      simpa using this
    rw [← e0]
    exact hq _ _ _ kb₄ ab₄
end Mine
end

section
set_option maxRecDepth 100000
set_option maxHeartbeats 4000000
/-! the plain law of the search -/
namespace Mine
section
variable (par : Nat → List Nat)
/- a is a forebear of b, itself counted -/
inductive Up : Nat → Nat → Prop
  | refl (a : Nat) : Up a a
  | step {a b p : Nat} : p ∈ par b → Up a p → Up a b
end
section
variable {par : Nat → List Nat} {st : Nat → Nat}
theorem Up.trans {a b c : Nat} (x : Up par a b) (y : Up par b c) : Up par a c := by
  induction y with
  | refl => exact x
  | step hp _ ih => exact .step hp ih

noncomputable def upd (fl : Nat → Nat) (k v : Nat) : Nat → Nat := fun x => if x = k then v else fl x
theorem upd_self (fl : Nat → Nat) (k v : Nat) : upd fl k v k = v := if_pos rfl
theorem upd_ne (fl : Nat → Nat) {k x : Nat} (v : Nat) (h : x ≠ k) : upd fl k v x = fl x := if_neg h

noncomputable def cfl (f : Nat) : Nat := if f &&& 7 = 3 then 7 else f &&& 7
noncomputable def miss (f : Nat) : Nat := (if f &&& 1 = 1 then 0 else 1) + (if f &&& 2 = 2 then 0 else 1) + (if f &&& 4 = 4 then 0 else 1)

theorem bits1 : ∀ f < 16, ∀ c < 8, ((f ||| c) &&& 1 = 1 ↔ f &&& 1 = 1 ∨ c &&& 1 = 1) ∧ ((f ||| c) &&& 2 = 2 ↔ f &&& 2 = 2 ∨ c &&& 2 = 2) ∧ ((f ||| c) &&& 4 = 4 ↔ f &&& 4 = 4 ∨ c &&& 4 = 4) ∧ ((f ||| c) &&& 8 = 8 ↔ f &&& 8 = 8) ∧ f ||| c < 16 ∧ (f ||| c) &&& c = c := by decide +kernel
theorem bits2 : ∀ f < 16, cfl f < 8 ∧ (cfl f &&& 1 = 1 ↔ f &&& 1 = 1) ∧ (cfl f &&& 2 = 2 ↔ f &&& 2 = 2) ∧ (cfl f &&& 4 = 4 ↔ f &&& 4 = 4 ∨ (f &&& 1 = 1 ∧ f &&& 2 = 2)) ∧ cfl (f ||| 8) = cfl f ∧ (f ||| 8) &&& 7 = f &&& 7 ∧ f ||| 8 < 16 ∧ (f ||| 8) &&& 8 = 8 ∧ miss (f ||| 8) = miss f ∧
    ((f ||| 8) &&& 1 = f &&& 1) ∧ ((f ||| 8) &&& 2 = f &&& 2) ∧ ((f ||| 8) &&& 4 = f &&& 4) ∧ ((f ||| 8) &&& 3 = f &&& 3) ∧ (f &&& 7 = 3 ↔ f &&& 1 = 1 ∧ f &&& 2 = 2 ∧ ¬ f &&& 4 = 4) ∧ (f &&& 3 = 3 ↔ f &&& 1 = 1 ∧ f &&& 2 = 2) ∧ (f &&& 7 ≠ 0 ↔ f &&& 1 = 1 ∨ f &&& 2 = 2 ∨ f &&& 4 = 4) := by decide +kernel
theorem bits3 : ∀ f < 16, ∀ c < 8, f &&& c = c ↔ (c &&& 1 = 1 → f &&& 1 = 1) ∧ (c &&& 2 = 2 → f &&& 2 = 2) ∧ (c &&& 4 = 4 → f &&& 4 = 4) := by decide +kernel
theorem bits4 : ∀ f < 16, ∀ c < 8, ¬ f &&& c = c → miss (f ||| c) + 1 ≤ miss f := by decide +kernel

noncomputable def key (st : Nat → Nat) (k : Nat) : Key := (-(st k : Int), nmL' k)

/- the search's invariant; K is the commit whose parents are being walked, ps those that are done -/
structure Inv (par : Nat → List Nat) (st : Nat → Nat) (c1 c2 : Nat) (K : Option Nat) (ps : List Nat) (qs : List Nat) (fl : Nat → Nat) (cands : List Nat) : Prop where
  lt : ∀ k, fl k < 16
  s1 : ∀ k, fl k &&& 1 = 1 → Up par k c1
  s2 : ∀ k, fl k &&& 2 = 2 → Up par k c2
  s4 : ∀ k, fl k &&& 4 = 4 → ∃ m, Up par m c1 ∧ Up par m c2 ∧ k ≠ m ∧ Up par k m
  i1 : fl c1 &&& 1 = 1
  i2 : fl c2 &&& 2 = 2
  pr : ∀ k, k ∉ qs → some k ≠ K → ∀ p ∈ par k, fl p &&& cfl (fl k) = cfl (fl k)
  pk : ∀ k, K = some k → ∀ p ∈ ps, fl p &&& cfl (fl k) = cfl (fl k)
  cd : ∀ k, k ∈ cands ↔ fl k &&& 8 = 8
  c3 : ∀ k ∈ cands, fl k &&& 3 = 3
  nc : ∀ k, k ∉ qs → fl k &&& 7 = 3 → k ∈ cands
  nd : cands.Nodup
  fr : ∀ c ∈ cands, ∀ q ∈ qs, pLt (key st q) (key st c) = false
  od : cands.Pairwise fun a b => pLt (key st b) (key st a) = false

theorem Inv.perm {c1 c2 : Nat} {K : Option Nat} {ps qs qs' : List Nat} {fl : Nat → Nat} {cands : List Nat} (I : Inv par st c1 c2 K ps qs fl cands) (h : ∀ q, q ∈ qs' ↔ q ∈ qs) : Inv par st c1 c2 K ps qs' fl cands :=
  { I with
    pr := fun k hk => I.pr k (fun h' => hk ((h k).mpr h'))
    nc := fun k hk => I.nc k (fun h' => hk ((h k).mpr h'))
    fr := fun c hc q hq => I.fr c hc q ((h q).mp hq) }

theorem key_lt {p k : Nat} (h : st p < st k) : pLt (key st p) (key st k) = false := by
  unfold pLt key
  rw [if_neg (by simp only; (first | lia | omega))]
  simp only [decide_eq_false_iff_not]
  (first | lia | omega)

/- the pop -/
theorem Inv.pop {c1 c2 k : Nat} {qs rest : List Nat} {fl : Nat → Nat} {cands : List Nat} (I : Inv par st c1 c2 none [] qs fl cands) (hq : ∀ q, q ∈ qs ↔ q = k ∨ q ∈ rest)
    (hm : ∀ q ∈ qs, pLt (key st q) (key st k) = false) :
    Inv par st c1 c2 (some k) [] rest (if fl k &&& 7 = 3 ∧ ¬ fl k &&& 8 = 8 then upd fl k (fl k ||| 8) else fl) (if fl k &&& 7 = 3 ∧ ¬ fl k &&& 8 = 8 then cands ++ [k] else cands) := by
  have hkq : k ∈ qs := (hq k).mpr (.inl rfl)
  by_cases hc : fl k &&& 7 = 3 ∧ ¬ fl k &&& 8 = 8
  · rw [if_pos hc, if_pos hc]
    refine hide fun Gz kz => ?_
    obtain ⟨b1, b2, b3, b4, b5, b6, b7, b8, b9, b10, b11, b12, b13, b14, b15, b16⟩ := bits2 _ (I.lt k)
    refine kz ?_
    clear kz Gz
    have hkc : k ∉ cands := fun h => hc.2 ((I.cd k).mp h)
    have e : ∀ x, (x = k ∧ upd fl k (fl k ||| 8) x = fl k ||| 8) ∨ (x ≠ k ∧ upd fl k (fl k ||| 8) x = fl x) := fun x => by
      by_cases h : x = k
      · subst h; exact .inl ⟨rfl, upd_self ..⟩
      · exact .inr ⟨h, upd_ne _ _ h⟩
    have ecf : ∀ x, cfl (upd fl k (fl k ||| 8) x) = cfl (fl x) := fun x => by
      rcases e x with ⟨rfl, h⟩ | ⟨_, h⟩ <;> rw [h]
      exact b5
    have e7 : ∀ x, upd fl k (fl k ||| 8) x &&& 7 = fl x &&& 7 := fun x => by
      rcases e x with ⟨rfl, h⟩ | ⟨_, h⟩ <;> rw [h]
      exact b6
    have e1 : ∀ x, upd fl k (fl k ||| 8) x &&& 1 = fl x &&& 1 := fun x => by
      rcases e x with ⟨rfl, h⟩ | ⟨_, h⟩ <;> rw [h]
      exact b10
    have e2 : ∀ x, upd fl k (fl k ||| 8) x &&& 2 = fl x &&& 2 := fun x => by
      rcases e x with ⟨rfl, h⟩ | ⟨_, h⟩ <;> rw [h]
      exact b11
    have e4 : ∀ x, upd fl k (fl k ||| 8) x &&& 4 = fl x &&& 4 := fun x => by
      rcases e x with ⟨rfl, h⟩ | ⟨_, h⟩ <;> rw [h]
      exact b12
    have e3 : ∀ x, upd fl k (fl k ||| 8) x &&& 3 = fl x &&& 3 := fun x => by
      rcases e x with ⟨rfl, h⟩ | ⟨_, h⟩ <;> rw [h]
      exact b13
    have hlt : ∀ x, upd fl k (fl k ||| 8) x < 16 := fun x => by
      rcases e x with ⟨rfl, h⟩ | ⟨_, h⟩ <;> rw [h]
      · exact b7
      · exact I.lt x
    refine ⟨hlt, fun x h => I.s1 x (by rw [← e1]; exact h), fun x h => I.s2 x (by rw [← e2]; exact h), fun x h => I.s4 x (by rw [← e4]; exact h), by rw [e1]; exact I.i1, by rw [e2]; exact I.i2, ?_, ?_, ?_, ?_, ?_, ?_, ?_, ?_⟩
    · intro x hx hxk p hp
      have hxk' : x ≠ k := fun h => hxk (by rw [h])
      have := I.pr x (fun h => ((hq x).mp h).elim hxk' hx) (by simp) p hp
      rw [ecf]
      have hc8 := (bits2 _ (I.lt x)).1
      rw [bits3 _ (hlt p) _ hc8, e1, e2, e4, ← bits3 _ (I.lt p) _ hc8]
      exact this
    · intro x _ p hp; cases hp
    · intro x
      rw [List.mem_append, List.mem_singleton]
      rcases e x with ⟨rfl, h⟩ | ⟨hne, h⟩ <;> rw [h]
      · exact ⟨fun _ => b8, fun _ => .inr rfl⟩
      · rw [← I.cd x]
        exact ⟨fun h => h.elim id fun h => absurd h hne, .inl⟩
    · intro x hx
      rw [e3]
      rcases List.mem_append.mp hx with hx | hx
      · exact I.c3 x hx
      · rw [List.mem_singleton.mp hx]
        have := b14.mp hc.1
        exact b15.mpr ⟨this.1, this.2.1⟩
    · intro x hx h
      rw [e7] at h
      by_cases hxk : x = k
      · rw [hxk]; simp
      · exact List.mem_append_left _ (I.nc x (fun h' => ((hq x).mp h').elim hxk hx) h)
    · rw [List.nodup_append]
      refine ⟨I.nd, by simp, ?_⟩
      intro a ha b hb
      rw [List.mem_singleton.mp hb]
      rintro rfl
      exact hkc ha
    · intro c hc' q hq'
      rcases List.mem_append.mp hc' with hc' | hc'
      · exact I.fr c hc' q ((hq q).mpr (.inr hq'))
      · rw [List.mem_singleton.mp hc']
        exact hm q ((hq q).mpr (.inr hq'))
    · rw [List.pairwise_append]
      refine ⟨I.od, by simp, ?_⟩
      intro a ha b hb
      rw [List.mem_singleton.mp hb]
      exact I.fr a ha k hkq
  · rw [if_neg hc, if_neg hc]
    refine { I with pr := ?_, pk := ?_, nc := ?_, fr := ?_ }
    · intro x hx hxk p hp
      have hxk' : x ≠ k := fun h => hxk (by rw [h])
      exact I.pr x (fun h => ((hq x).mp h).elim hxk' hx) (by simp) p hp
    · intro x _ p hp; cases hp
    · intro x hx h
      by_cases hxk : x = k
      · subst hxk
        rw [I.cd]
        exact Classical.byContradiction fun h8 => hc ⟨h, h8⟩
      · exact I.nc x (fun h' => ((hq x).mp h').elim hxk hx) h
    · intro c hc' q hq'
      exact I.fr c hc' q ((hq q).mpr (.inr hq'))

theorem Up.tm (hs : ∀ k, ∀ p ∈ par k, st p < st k) {a b : Nat} (x : Up par a b) : a = b ∨ st a < st b := by
  induction x with
  | refl => exact .inl rfl
  | step hp _ ih => rcases ih with rfl | h; exact .inr (hs _ _ hp); exact .inr (Nat.lt_trans h (hs _ _ hp))

theorem Inv.skip {c1 c2 k p : Nat} {ps qs : List Nat} {fl : Nat → Nat} {cands : List Nat} (I : Inv par st c1 c2 (some k) ps qs fl cands) (h : fl p &&& cfl (fl k) = cfl (fl k)) :
    Inv par st c1 c2 (some k) (ps ++ [p]) qs fl cands :=
  { I with
    pk := fun x hx q hq => by
      cases hx
      rcases List.mem_append.mp hq with hq | hq
      · exact I.pk k rfl q hq
      · rw [List.mem_singleton.mp hq]; exact h }

theorem Inv.mark (hs : ∀ k, ∀ p ∈ par k, st p < st k) {c1 c2 k p : Nat} {ps qs : List Nat} {fl : Nat → Nat} {cands : List Nat} (I : Inv par st c1 c2 (some k) ps qs fl cands) (hp : p ∈ par k)
    (hk : ∀ c ∈ cands, pLt (key st k) (key st c) = false) :
    Inv par st c1 c2 (some k) (ps ++ [p]) (p :: qs) (upd fl p (fl p ||| cfl (fl k))) cands := by
  have hpk : k ≠ p := fun h => by have := hs k p hp; rw [h] at this; (first | lia | omega)
  refine hide fun Gz kz => ?_
  obtain ⟨b1, b2, b3, b4, b5, b6, b7, b8, b9, b10, b11, b12, b13, b14, b15, b16⟩ := bits2 _ (I.lt k)
  obtain ⟨d1, d2, d4, d8, d16, dc⟩ := bits1 _ (I.lt p) _ b1
  refine kz ?_
  clear kz Gz
  have e : ∀ x, (x = p ∧ upd fl p (fl p ||| cfl (fl k)) x = fl p ||| cfl (fl k)) ∨ (x ≠ p ∧ upd fl p (fl p ||| cfl (fl k)) x = fl x) := fun x => by
    by_cases h : x = p
    · subst h; exact .inl ⟨rfl, upd_self ..⟩
    · exact .inr ⟨h, upd_ne _ _ h⟩
  have ek : upd fl p (fl p ||| cfl (fl k)) k = fl k := upd_ne _ _ hpk
  have hup : Up par p k := .step hp (.refl _)
  have mono : ∀ x, ∀ c < 8, fl x &&& c = c → upd fl p (fl p ||| cfl (fl k)) x &&& c = c := fun x c hc h => by
    rcases e x with ⟨rfl, h'⟩ | ⟨_, h'⟩ <;> rw [h']
    · rw [bits3 _ d16 _ hc]
      rw [bits3 _ (I.lt x) _ hc] at h
      exact ⟨fun q => d1.mpr (.inl (h.1 q)), fun q => d2.mpr (.inl (h.2.1 q)), fun q => d4.mpr (.inl (h.2.2 q))⟩
    · exact h
  have hlt : ∀ x, upd fl p (fl p ||| cfl (fl k)) x < 16 := fun x => by
    rcases e x with ⟨rfl, h⟩ | ⟨_, h⟩ <;> rw [h]
    · exact d16
    · exact I.lt x
  refine ⟨hlt, ?_, ?_, ?_, mono _ 1 (by decide) I.i1, mono _ 2 (by decide) I.i2, ?_, ?_, ?_, ?_, ?_, I.nd, ?_, I.od⟩
  · intro x h
    rcases e x with ⟨rfl, h'⟩ | ⟨_, h'⟩ <;> rw [h'] at h
    · rcases d1.mp h with h | h
      · exact I.s1 x h
      · exact hup.trans (I.s1 k (b2.mp h))
    · exact I.s1 x h
  · intro x h
    rcases e x with ⟨rfl, h'⟩ | ⟨_, h'⟩ <;> rw [h'] at h
    · rcases d2.mp h with h | h
      · exact I.s2 x h
      · exact hup.trans (I.s2 k (b3.mp h))
    · exact I.s2 x h
  · intro x h
    rcases e x with ⟨rfl, h'⟩ | ⟨_, h'⟩ <;> rw [h'] at h
    · rcases d4.mp h with h | h
      · exact I.s4 x h
      · rcases b4.mp h with h | ⟨h1, h2⟩
        · obtain ⟨m, q1, q2, q3, q4⟩ := I.s4 k h
          refine ⟨m, q1, q2, ?_, hup.trans q4⟩
          rintro rfl
          have := hs k x hp
          rcases q4.tm hs with rfl | q
          · (first | lia | omega)
          · (first | lia | omega)
        · exact ⟨k, I.s1 k h1, I.s2 k h2, Ne.symm hpk, hup⟩
    · exact I.s4 x h
  · intro x hx hxk q hq
    rw [List.mem_cons, not_or] at hx
    rw [upd_ne _ _ hx.1]
    exact mono _ _ (bits2 _ (I.lt x)).1 (I.pr x hx.2 hxk q hq)
  · intro x hx q hq
    cases hx
    rw [ek]
    rcases List.mem_append.mp hq with hq | hq
    · exact mono _ _ b1 (I.pk k rfl q hq)
    · rw [List.mem_singleton.mp hq, upd_self]
      exact dc
  · intro x
    rcases e x with ⟨rfl, h⟩ | ⟨_, h⟩ <;> rw [h]
    · rw [d8]; exact I.cd x
    · exact I.cd x
  · intro x hx
    exact mono _ 3 (by decide) (I.c3 x hx)
  · intro x hx h
    rw [List.mem_cons, not_or] at hx
    rw [upd_ne _ _ hx.1] at h
    exact I.nc x hx.2 h
  · intro c hc q hq
    rcases List.mem_cons.mp hq with rfl | hq
    · exact pLt_trans _ _ _ (hk c hc) (key_lt (hs k _ hp))
    · exact I.fr c hc q hq

theorem Inv.close {c1 c2 k : Nat} {qs : List Nat} {fl : Nat → Nat} {cands : List Nat} (I : Inv par st c1 c2 (some k) (par k) qs fl cands) : Inv par st c1 c2 none [] qs fl cands :=
  { I with
    pr := fun x hx _ p hp => by
      by_cases h : x = k
      · subst h; exact I.pk x rfl p hp
      · exact I.pr x hx (fun h' => by cases h'; exact h rfl) p hp
    pk := fun x hx => by cases hx }

/- what is common to both -/
noncomputable def Com (par : Nat → List Nat) (c1 c2 k : Nat) : Prop := Up par k c1 ∧ Up par k c2
noncomputable def Best (par : Nat → List Nat) (c1 c2 k : Nat) : Prop := Com par c1 c2 k ∧ ∀ m, Com par c1 c2 m → Up par k m → k = m

/- a bit that all the proper descendants hand on comes down -/
theorem down {fl : Nat → Nat} {b c k : Nat} (P : Nat → Prop) (hup : Up par k c) (h0 : fl c &&& b = b) (hP : ∀ x, Up par k x → k ≠ x → P x) (hst : ∀ x y, Up par y x → Up par k y → k = x → k = y)
    (hpr : ∀ x, P x → fl x &&& b = b → ∀ p ∈ par x, fl p &&& b = b) : fl k &&& b = b := by
  induction hup with
  | refl => exact h0
  | @step c p hp hup ih =>
    refine ih ?_
    by_cases h : k = c
    · subst h
      have := hst k p (.step hp (.refl _)) hup rfl
      subst this
      exact h0
    · exact hpr c (hP c (.step hp hup) h) h0 p hp

theorem Inv.best (hs : ∀ k, ∀ p ∈ par k, st p < st k) {c1 c2 : Nat} {qs : List Nat} {fl : Nat → Nat} {cands : List Nat} (I : Inv par st c1 c2 none [] qs fl cands) (hq : ∀ q ∈ qs, fl q &&& 4 = 4) (k : Nat) :
    (k ∈ cands ∧ ¬ fl k &&& 4 = 4) ↔ Best par c1 c2 k := by
  have anti : ∀ x y, Up par y x → Up par k y → k = x → k = y := fun x y h1 h2 e => by
    subst e
    rcases h1.tm hs with h | h
    · exact h.symm
    · rcases h2.tm hs with h' | h'
      · exact h'
      · (first | lia | omega)
  have give : ∀ b, (b = 1 ∨ b = 2 ∨ b = 4) → ∀ x, x ∉ qs → fl x &&& b = b → ∀ p ∈ par x, fl p &&& b = b := by
    intro b hb x hx h p hp
    have h1 := I.pr x hx (by simp) p hp
    obtain ⟨b1, b2, b3, b4, _⟩ := bits2 _ (I.lt x)
    rw [bits3 _ (I.lt p) _ b1] at h1
    rcases hb with rfl | rfl | rfl
    · exact h1.1 (b2.mpr h)
    · exact h1.2.1 (b3.mpr h)
    · exact h1.2.2 (b4.mpr (.inl h))
  constructor
  · rintro ⟨hk, h4⟩
    refine hide fun Gz kz => ?_
    obtain ⟨_, _, _, _, _, _, _, _, _, _, _, _, _, _, b15, _⟩ := bits2 _ (I.lt k)
    obtain ⟨h1, h2⟩ := b15.mp (I.c3 k hk)
    refine kz ?_
    clear kz Gz
    refine ⟨⟨I.s1 k h1, I.s2 k h2⟩, fun m hm hkm => Classical.byContradiction fun hne => h4 ?_⟩
    -- proper descendants are settled
    have set : ∀ x, Up par k x → k ≠ x → x ∉ qs := fun x hx hkx hxq => by
      have h' := I.fr k hk x hxq
      have hlt := (hx.tm hs).resolve_left hkx
      unfold pLt key at h'
      rw [if_neg (by simp only; (first | lia | omega))] at h'
      simp only [decide_eq_false_iff_not] at h'
      (first | lia | omega)
    have antim : ∀ x y, Up par y x → Up par m y → m = x → m = y := fun x y h1 h2 e => by
      subst e
      rcases h1.tm hs with h | h
      · exact h.symm
      · rcases h2.tm hs with h' | h'
        · exact h'
        · (first | lia | omega)
    have setm : ∀ x, Up par m x → m ≠ x → x ∉ qs := fun x hx hmx => set x (hkm.trans hx) fun e => by
      subst e
      rcases hkm.tm hs with h | h
      · exact hne h
      · rcases hx.tm hs with h' | h'
        · exact hmx h'
        · (first | lia | omega)
    have m1 := down (fl := fl) (b := 1) (fun x => x ∉ qs) hm.1 I.i1 setm antim (give 1 (.inl rfl))
    have m2 := down (fl := fl) (b := 2) (fun x => x ∉ qs) hm.2 I.i2 setm antim (give 2 (.inr (.inl rfl)))
    have hmq := set m hkm hne
    have m4 : ∀ p ∈ par m, fl p &&& 4 = 4 := fun p hp => by
      have h1 := I.pr m hmq (by simp) p hp
      obtain ⟨b1, b2, b3, b4, _⟩ := bits2 _ (I.lt m)
      rw [bits3 _ (I.lt p) _ b1] at h1
      exact h1.2.2 (b4.mpr (.inr ⟨m1, m2⟩))
    cases hkm with
    | refl => exact absurd rfl hne
    | @step _ p hp hup => exact down (fl := fl) (b := 4) (fun x => x ∉ qs) hup (m4 p hp) set anti (give 4 (.inr (.inr rfl)))
  · rintro ⟨⟨hc1, hc2⟩, hbest⟩
    have n4 : ∀ x, Up par k x → ¬ fl x &&& 4 = 4 := fun x hx h => by
      obtain ⟨m, q1, q2, q3, q4⟩ := I.s4 x h
      have := hbest m ⟨q1, q2⟩ (hx.trans q4)
      subst this
      rcases hx.tm hs with h' | h'
      · exact q3 h'.symm
      · rcases q4.tm hs with h'' | h''
        · exact q3 h''
        · (first | lia | omega)
    have nq : ∀ x, Up par k x → k ≠ x → x ∉ qs := fun x hx _ hxq => n4 x hx (hq x hxq)
    have k1 := down (fl := fl) (b := 1) (fun x => x ∉ qs) hc1 I.i1 nq anti (give 1 (.inl rfl))
    have k2 := down (fl := fl) (b := 2) (fun x => x ∉ qs) hc2 I.i2 nq anti (give 2 (.inr (.inl rfl)))
    have k4 := n4 k (.refl _)
    refine hide fun Gz kz => ?_
    obtain ⟨_, _, _, _, _, _, _, _, _, _, _, _, _, b14, _, _⟩ := bits2 _ (I.lt k)
    refine kz ?_
    clear kz Gz
    exact ⟨I.nc k (fun h => k4 (hq k h)) (b14.mpr ⟨k1, k2, k4⟩), k4⟩
end
end Mine
end

section
open PySem PySem.W PyProof.Rows PySem.Spec PySem.Calls
set_option maxRecDepth 100000
set_option maxHeartbeats 4000000
namespace Mine
section
variable {w : World} {mg mb : Str → Option Value} {A : Around} {E : Value → Shared → Prop} {s : Shared} {env : Env} {h : Heap} {g : Array GenState} {d : Drawn} {tk : Nat} {os : OsState} {M : Model}

theorem codeAmong_app {q : Pos} {a b : Int} {c : Value} (l : List Value) (h : TriplesOk l) :
    codeAmong q (l ++ [rawInt a, rawInt b, c]) = match codeAmong q l with | some v => some v | none => if a == q.line && b == q.col then some c else none := by
  fun_induction TriplesOk l with
  | case1 => simp [codeAmong, rawInt]
  | case2 a' t b' u x rest ih =>
    simp only [List.cons_append, codeAmong]
    split
    · rfl
    · exact ih h
  | case3 l h1 h2 => exact h.elim

/- the table of a code: what stands in it at the given places has the given names -/
noncomputable def Tb (h : Heap) (P : Nat) (qs : List (Pos × Str)) : Prop :=
  ∃ ps, h.get? P = some (tabObj ps) ∧ TriplesOk ps.toList ∧ ∀ q ∈ qs, ∀ cv, codeAmong q.1 ps.toList = some cv → h.CodeRec cv q.2
theorem Tb.empty {P : Nat} (qs : List (Pos × Str)) (e : h.get? P = some (tabObj #[])) : Tb h P qs := ⟨#[], e, trivial, fun _ _ _ h => by cases h⟩
theorem Heap.CodeRec.ne {cv : Value} {q : Str} {P : Nat} {ps : Array Value} (x : h.CodeRec cv q) (e : h.get? P = some (tabObj ps)) (ht : TriplesOk ps.toList) {h' : Heap} (k : Kx (· = P) h h') : h'.CodeRec cv q := by
  obtain ⟨c, o, vs, t, rfl, ho, hd, hv⟩ := x
  refine ⟨c, o, vs, t, rfl, k c ?_ _ ho, hd, hv⟩
  rintro rfl
  rw [e] at ho
  cases ho
  cases hd
  exact triples_no_str ht q t (by simpa using hv)
theorem Tb.keep {P : Nat} {qs : List (Pos × Str)} (T : Tb h P qs) {R : Nat → Prop} {h' : Heap} (k : Kx R h h') (hP : ¬ R P) (hR : ∀ b, R b → ∀ o, h.get? b = some o → ∀ vs, o.data ≠ .fields vs) : Tb h' P qs := by
  obtain ⟨ps, e, ht, r⟩ := T
  refine ⟨ps, k P hP _ e, ht, fun q hq cv hc => ?_⟩
  obtain ⟨c, o, vs, t, rfl, ho, hd, hv⟩ := r q hq cv hc
  exact ⟨c, o, vs, t, rfl, k c (fun hb => hR c hb o ho vs hd) _ ho, hd, hv⟩
theorem Tb.n {P : Nat} {qs : List (Pos × Str)} (T : Tb h P qs) {h' : Heap} (k : Kx none_ h h') : Tb h' P qs := T.keep k id fun _ hb => hb.elim
theorem Tb.fr {P : Nat} {qs : List (Pos × Str)} (T : Tb h P qs) {h' : Heap} {L : Nat} {l : List (Str × Value)} (F : Fv h L l) (k : Kx (· = L) h h') : Tb h' P qs := by
  obtain ⟨m, ⟨o, es, ep, ho, hd, _⟩, _⟩ := F
  refine T.keep k ?_ ?_
  · rintro rfl
    obtain ⟨ps, e, _⟩ := T
    rw [e] at ho; cases ho; cases hd
  · rintro b rfl o' ho' vs hvs
    rw [ho] at ho'; cases ho'; rw [hd] at hvs; cases hvs

theorem Ok.ba (K : Ok w mg mb h) {P : Nat} (hP : 4 ≠ P) : h.BuiltinsAt mg P := by
  obtain ⟨o, e, r⟩ := K.bm
  exact ⟨4, o, mg_of K.x K.g (by kernel_rfl : nsIn (KK w) mainGlobals (Str.ofString "__builtins__") = some (some (.ref 4))), by decide, by decide, hP, e, r⟩

noncomputable def placesOk (qs : List (Pos × Str)) : Bool := qs.all fun q => qs.all fun r => (q.1.line == r.1.line && q.1.col == r.1.col) == false || q.2 == r.2

/- makeFunction of a def -/
theorem mkDef {name qual : Str} {params : Arguments} {body : List Stmt} {scope : Scope} {c P : Nat} {pos : Pos} {fl : Nat} {clos : List (Str × Addr)} {qs : List (Pos × Str)} {Q : Value → Shared → Prop}
    (K : Ok w mg mb h) (T : Tb h P qs) (C : CodeHd h c P) (hm : (pos, qual) ∈ qs) (hP : 4 < P) (hpl : placesOk qs = true) (hcl : closureFor scope env = pure clos) (hcode : env.code = .ref c) (hge : env.globals = mainGlobals)
    (hq : ∀ fa h' tk' cv doc pm ctv, h.get? fa = none → Kx (· = P) h h' → Tb h' P qs → h'.get? fa = some { cls := .type "function", data := .func (fnX name qual params body scope clos .none .none doc pm none cv ctv) } → h'.CodeRec cv qual → Q (.ref fa) ⟨h', g, d, tk', os⟩) :
    wpAny M A (makeFunction name qual params (.stmts body) scope env [] [] [] pos fl) Q E ⟨h, g, d, tk, os⟩ := by
  obtain ⟨ps, e, ht, r⟩ := T
  have hgP : mainGlobals ≠ P := fun h => by rw [← h] at hP; exact absurd hP (by decide)
  cases hc : codeAmong pos ps.toList with
  | some cv =>
    refine makeFunction_hit (s := ⟨h, g, d, tk, os⟩) hcl hge K.g hcode C e ht hc (K.ba (Nat.ne_of_lt hP)) fun ctv doc h' tk' hk hs => ?_
    have k : Kx none_ h h' := Kx.of_kp hk
    have k2 := k.tn (Kx.push h' { cls := .type "function", data := .func (fnX name qual params body scope clos .none .none doc ((mg "__name__").getD .none) none cv ctv) })
    refine hq _ _ _ cv doc _ ctv (k.deadS) k2.any (Tb.n ⟨ps, e, ht, r⟩ k2) (Heap.get?_push_size _ rfl) ((r _ hm cv hc).keeps k2.kp)
  | none =>
    refine makeFunction_K (s := ⟨h, g, d, tk, os⟩) hcl hge K.g hcode C e ht hc hgP (K.ba (Nat.ne_of_lt hP)) fun c' ctv doc h' tk' hx hge' hlt hrec htb => ?_
    have k : Kx (· = P) h h' := Kx.of_ext hx
    have k2 := Kx.push h' (fnMade name qual params body scope clos doc ((mg "__name__").getD .none) c' ctv)
    have hne : h'.objs.size ≠ P := (ne_dead (dead_size h') htb).symm
    refine hq _ _ _ (.ref c') doc _ ctv (k.dead (dead_size h') hne) (k.tn k2) (Tb.n ⟨_, htb, ?_, ?_⟩ k2) (Heap.get?_push_size _ rfl) (hrec.keeps k2.kp)
    · rw [Array.toList_append]; exact TriplesOk_snoc _ _ _ _ ht
    · intro q hq' cv hcv
      rw [Array.toList_append, show (#[rawInt pos.line, rawInt pos.col, Value.ref c'] : Array Value).toList = [rawInt pos.line, rawInt pos.col, Value.ref c'] from rfl, codeAmong_app _ ht] at hcv
      split at hcv
      · rename_i v hv
        cases hcv
        exact Heap.CodeRec.ne (r q hq' _ hv) e ht k
      · split at hcv
        · rename_i _ hpos
          cases hcv
          have h1 := List.all_eq_true.mp (List.all_eq_true.mp hpl _ hm) _ hq'
          have hq2 : qual = q.2 := by
            simp only [Bool.or_eq_true, beq_iff_eq] at h1
            rcases h1 with h1 | h1
            · exfalso
              simp only [Bool.and_eq_true, beq_iff_eq] at hpos
              simp only [Bool.and_eq_false_iff, beq_eq_false_iff_ne] at h1
              rcases h1 with h1 | h1
              · exact h1 (by exact_mod_cast hpos.1)
              · exact h1 (by exact_mod_cast hpos.2)
            · exact h1
          rw [← hq2]
          exact hrec
        · cases hcv
/- makeFunction of a lambda -/
theorem mkLam {name qual : Str} {params : Arguments} {body : Expr} {scope : Scope} {c P : Nat} {pos : Pos} {fl : Nat} {clos : List (Str × Addr)} {qs : List (Pos × Str)} {Q : Value → Shared → Prop}
    (K : Ok w mg mb h) (T : Tb h P qs) (C : CodeHd h c P) (hm : (pos, qual) ∈ qs) (hP : 4 < P) (hpl : placesOk qs = true) (hcl : closureFor scope env = pure clos) (hcode : env.code = .ref c) (hge : env.globals = mainGlobals)
    (hq : ∀ fa h' tk' cv pm ctv, h.get? fa = none → Kx (· = P) h h' → Tb h' P qs → h'.get? fa = some { cls := .type "function", data := .func (kla_fn name qual params body scope clos pm cv ctv) } → h'.CodeRec cv qual → Q (.ref fa) ⟨h', g, d, tk', os⟩) :
    wpAny M A (makeFunction name qual params (.expr body) scope env [] [] [] pos fl) Q E ⟨h, g, d, tk, os⟩ := by
  obtain ⟨ps, e, ht, r⟩ := T
  have hgP : mainGlobals ≠ P := fun h => by rw [← h] at hP; exact absurd hP (by decide)
  cases hc : codeAmong pos ps.toList with
  | some cv =>
    refine kla_makeFunctionHit (s := ⟨h, g, d, tk, os⟩) hcl hge K.g hcode C e ht hc (K.ba (Nat.ne_of_lt hP)) fun ctv h' tk' hk hs => ?_
    have k : Kx none_ h h' := Kx.of_kp hk
    have k2 := k.tn (Kx.push h' { cls := .type "function", data := .func (kla_fn name qual params body scope clos ((mg "__name__").getD .none) cv ctv) })
    refine hq _ _ _ cv _ ctv (k.deadS) k2.any (Tb.n ⟨ps, e, ht, r⟩ k2) (Heap.get?_push_size _ rfl) ((r _ hm cv hc).keeps k2.kp)
  | none =>
    refine kla_makeFunction (s := ⟨h, g, d, tk, os⟩) hcl hge K.g hcode C e ht hc hgP (K.ba (Nat.ne_of_lt hP)) fun c' ctv h' tk' hx hge' hlt hrec htb => ?_
    have k : Kx (· = P) h h' := Kx.of_ext hx
    have k2 := Kx.push h' (kla_obj name qual params body scope clos ((mg "__name__").getD .none) c' ctv)
    have hne : h'.objs.size ≠ P := (ne_dead (dead_size h') htb).symm
    refine hq _ _ _ (.ref c') _ ctv (k.dead (dead_size h') hne) (k.tn k2) (Tb.n ⟨_, htb, ?_, ?_⟩ k2) (Heap.get?_push_size _ rfl) (hrec.keeps k2.kp)
    · rw [Array.toList_append]; exact TriplesOk_snoc _ _ _ _ ht
    · intro q hq' cv hcv
      rw [Array.toList_append, show (#[rawInt pos.line, rawInt pos.col, Value.ref c'] : Array Value).toList = [rawInt pos.line, rawInt pos.col, Value.ref c'] from rfl, codeAmong_app _ ht] at hcv
      split at hcv
      · rename_i v hv
        cases hcv
        exact Heap.CodeRec.ne (r q hq' _ hv) e ht k
      · split at hcv
        · rename_i _ hpos
          cases hcv
          have h1 := List.all_eq_true.mp (List.all_eq_true.mp hpl _ hm) _ hq'
          have hq2 : qual = q.2 := by
            simp only [Bool.or_eq_true, beq_iff_eq] at h1
            rcases h1 with h1 | h1
            · exfalso
              simp only [Bool.and_eq_true, beq_iff_eq] at hpos
              simp only [Bool.and_eq_false_iff, beq_eq_false_iff_ne] at h1
              rcases h1 with h1 | h1
              · exact h1 (by exact_mod_cast hpos.1)
              · exact h1 (by exact_mod_cast hpos.2)
            · exact h1
          rw [← hq2]
          exact hrec
        · cases hcv
end
end Mine
end

section
open PySem PySem.W PyProof.Rows PySem.Spec PySem.Calls
set_option maxRecDepth 100000
set_option maxHeartbeats 4000000
namespace Mine
section
variable {w : World} {mg mb : Str → Option Value} {A : Around} {E : Value → Shared → Prop} {s : Shared} {env : Env} {h : Heap} {g : Array GenState} {d : Drawn} {tk : Nat} {os : OsState} {M : Model}

theorem valueAt_stored {K : Type} [DecidableEq K] (kvs : List (K × Value)) (k : K) (v : Value) (x : K) : valueAt (stored kvs k v) x = if x = k then some v else valueAt kvs x := by
  unfold stored valueAt
  split
  · rename_i hany
    induction kvs with
    | nil => simp at hany
    | cons kv r ih =>
      rw [List.map_cons, List.find?_cons, List.find?_cons]
      by_cases h1 : kv.1 = k
      · rw [if_pos h1]
        by_cases h2 : x = k
        · subst h2; simp [h1]
        · have h3 : ¬ kv.1 = x := fun e => h2 (e.symm.trans h1)
          simp only [h3, decide_false, if_neg h2]
          by_cases h4 : r.any (fun kv => decide (kv.1 = k)) = true
          · have := ih h4; rw [if_neg h2] at this; exact this
          · have e : (r.map fun kv => if kv.1 = k then (kv.1, v) else kv) = r := by
              simp only [Bool.not_eq_true, List.any_eq_false, decide_eq_true_eq] at h4
              clear ih hany
              induction r with
              | nil => rfl
              | cons a b ih =>
                rw [List.map_cons, if_neg (h4 a (.head _)), ih fun y hy => h4 y (.tail _ hy)]
            rw [e]
      · rw [if_neg h1]
        have hany' : r.any (fun kv => decide (kv.1 = k)) = true := by simpa [h1] using hany
        by_cases h2 : kv.1 = x
        · have h3 : ¬ x = k := fun e => h1 (h2.trans e)
          simp [h2, h3]
        · simp only [h2, decide_false]
          exact ih hany'
  · rename_i hany
    rw [List.find?_append]
    by_cases h2 : x = k
    · subst h2
      have : kvs.find? (fun kv => decide (kv.1 = x)) = none := by
        rw [List.find?_eq_none]
        intro y hy
        simp only [Bool.not_eq_true, List.any_eq_false] at hany
        have := hany y hy
        rw [this]; exact Bool.false_ne_true
      rw [this]
      simp
    · have h3 : ¬ k = x := fun e => h2 e.symm
      simp [h2, h3]
theorem stored_keys {K : Type} [DecidableEq K] (kvs : List (K × Value)) (k : K) (v : Value) (P : K → Prop) (hk : P k) (h : ∀ kv ∈ kvs, P kv.1) : ∀ kv ∈ stored kvs k v, P kv.1 := by
  unfold stored
  split
  · intro kv hkv
    obtain ⟨a, ha, e⟩ := List.mem_map.mp hkv
    split at e <;> subst e <;> exact h a ha
  · intro kv hkv
    rcases List.mem_append.mp hkv with hkv | hkv
    · exact h kv hkv
    · rw [List.mem_singleton.mp hkv]; exact hk

theorem nodup_le {α : Type} [DecidableEq α] : ∀ (l r : List α), l.Nodup → (∀ x ∈ l, x ∈ r) → l.length ≤ r.length
  | [], r, _, _ => Nat.zero_le _
  | a :: t, r, hn, hs => by
    rw [List.nodup_cons] at hn
    have h1 := nodup_le t (r.erase a) hn.2 fun x hx => (List.mem_erase_of_ne (fun e : x = a => hn.1 (by rw [← e]; exact hx))).mpr (hs x (.tail _ hx))
    have h2 := List.length_erase_of_mem (hs a (.head _))
    have h3 := List.length_pos_of_mem (hs a (.head _))
    rw [List.length_cons]
    (first | lia | omega)

/- the states hold the flags -/
structure FlR (n : Nat) (kvs : List (List UInt8 × Value)) (fl : Nat → Nat) : Prop where
  at_ : ∀ k < n, (fl k = 0 ∧ valueAt kvs (nmL' k) = none) ∨ (fl k ≠ 0 ∧ ∃ t, valueAt kvs (nmL' k) = some (.int (fl k : Nat) t))
  keys : ∀ kv ∈ kvs, ∃ k < n, kv.1 = nmL' k
theorem nm_inj : ∀ a < 10, ∀ b < 10, nmL' a = nmL' b → a = b := by decide +kernel
theorem FlR.set {n k : Nat} {kvs : List (List UInt8 × Value)} {fl : Nat → Nat} (x : FlR n kvs fl) (hn : n ≤ 10) (hk : k < n) (v : Nat) (hv : v ≠ 0) (t : Tok) : FlR n (stored kvs (nmL' k) (.int (v : Nat) t)) (upd fl k v) := by
  refine ⟨fun j hj => ?_, stored_keys _ _ _ (fun nm => ∃ k < n, nm = nmL' k) ⟨k, hk, rfl⟩ x.keys⟩
  rw [valueAt_stored]
  by_cases e : j = k
  · subst e
    rw [upd_self, if_pos rfl]
    exact .inr ⟨hv, t, rfl⟩
  · rw [upd_ne _ _ e, if_neg (fun e' => e (nm_inj j (by (first | lia | omega)) k (by (first | lia | omega)) e'))]
    exact x.at_ j hj
theorem FlR.len {n : Nat} {kvs : List (List UInt8 × Value)} {fl : Nat → Nat} (x : FlR n kvs fl) (hnd : (kvs.map (·.1)).Nodup) : kvs.length ≤ n := by
  have := nodup_le (kvs.map (·.1)) ((List.range n).map nmL') hnd fun y hy => by
    obtain ⟨kv, hkv, rfl⟩ := List.mem_map.mp hy
    obtain ⟨k, hk, e⟩ := x.keys kv hkv
    rw [e]
    exact List.mem_map.mpr ⟨k, List.mem_range.mpr hk, rfl⟩
  simpa using this
noncomputable def flOf (kvs : List (List UInt8 × Value)) (nm : List UInt8) : Option Nat := match valueAt kvs nm with
  | some (.int i _) => some i.toNat
  | _ => none
theorem valueAt_mem {kvs : List (List UInt8 × Value)} {nm : List UInt8} {v : Value} (e : valueAt kvs nm = some v) : ∃ kv ∈ kvs, kv.1 = nm := by
  unfold valueAt at e
  cases hf : kvs.find? (fun kv => decide (kv.1 = nm)) with
  | none => rw [hf] at e; cases e
  | some kv => exact ⟨kv, List.mem_of_find?_eq_some hf, by simpa using List.find?_some hf⟩
theorem FlR.ok {n : Nat} {kvs : List (List UInt8 × Value)} {fl : Nat → Nat} (x : FlR n kvs fl) (hlt : ∀ k, fl k < 16) : FlOk kvs (flOf kvs) := by
  intro nm
  unfold flOf
  cases e : valueAt kvs nm with
  | none => rfl
  | some v =>
    refine hide fun Gz kz => ?_
    obtain ⟨kv, hkv, rfl⟩ := valueAt_mem e
    obtain ⟨k, hk, e'⟩ := x.keys kv hkv
    refine kz ?_
    clear kz Gz
    rw [e'] at e
    rcases x.at_ k hk with ⟨_, h⟩ | ⟨_, t, h⟩
    · rw [h] at e; cases e
    · rw [h] at e; cases e
      exact ⟨hlt k, t, rfl⟩
theorem FlR.flOf {n k : Nat} {kvs : List (List UInt8 × Value)} {fl : Nat → Nat} (x : FlR n kvs fl) (hk : k < n) (h0 : fl k ≠ 0) : flOf kvs (nmL' k) = some (fl k) := by
  unfold Mine.flOf
  rcases x.at_ k hk with ⟨h, _⟩ | ⟨_, t, h⟩
  · exact absurd h h0
  · rw [h]; rfl

/- the places of find_lcas -/
structure Ad where
  (L c x dx p cs ca fa lp ls : Nat)

noncomputable def qsL (_ : World) : List (Pos × Str) := [(⟨30, 4, 35, 20⟩, Str.ofString "_find_lcas.<locals>._has_candidates"), (⟨89, 21, 89, 35⟩, Str.ofString "_find_lcas.<locals>.<lambda>")]

/- the queue's rows -/
noncomputable def QR (st : Nat → Nat) (n : Nat) (zs : Array KV) (qs : List Nat) : Prop := (zs.toList.map (·.2)).Perm (qs.map (key st)) ∧ ∀ q ∈ qs, q < n
/- the candidates' rows -/
noncomputable def CR (st : Nat → Nat) (n : Nat) (h : Heap) (cvs : Array Value) (cands : List Nat) : Prop :=
  cvs.size = cands.length ∧ (∀ (i : Nat) (k : Nat), cands[i]? = some k → ∃ v, cvs[i]? = some v ∧ PairAt h v ((st k : Int), nmL' k)) ∧ ∀ k ∈ cands, k < n
theorem CR.keep {st : Nat → Nat} {n : Nat} {cvs : Array Value} {cands : List Nat} (x : CR st n h cvs cands) {h' : Heap} {P : Nat → Prop} (k : Kx P h h') (hP : ∀ b, P b → ∀ vs, ¬ IsT h b vs) : CR st n h' cvs cands :=
  ⟨x.1, fun i k' hk => let ⟨v, e, b, t, u, ev, ht⟩ := x.2.1 i k' hk; ⟨v, e, b, t, u, ev, k b (fun hb => hP b hb _ ht) _ ht⟩, x.2.2⟩

noncomputable def rowsB (D : Ad) (t1 t2 t8 t0 : Tok) : List (Str × Value) :=
  [(Str.ofString "cands", .ref D.ca), (Str.ofString "cstates", .ref D.cs), (Str.ofString "_ANC_OF_1", .int 1 t1), (Str.ofString "_ANC_OF_2", .int 2 t2), (Str.ofString "_LCA", .int 8 t8), (Str.ofString "_has_candidates", .ref D.fa),
   (Str.ofString "wlst", .ref D.x), (Str.ofString "lookup_parents", .ref D.lp), (Str.ofString "lookup_stamp", .ref D.ls), (Str.ofString "min_stamp", .int 0 t0), (Str.ofString "shallows", .none)]

/- the search's heap -/
structure LS (w : World) (mg mb : Str → Option Value) (h00 : Heap) (D : Ad) (st : Nat → Nat) (n : Nat) (h : Heap) (l : List (Str × Value)) (kvs : List (List UInt8 × Value)) (fl : Nat → Nat) (zs : Array KV) (qs : List Nat) (cvs : Array Value) (cands : List Nat) : Prop where
  base : Kx (· = 87) h00 h
  K : Ok w mg mb h
  T : Tb h 87 (qsL w)
  F : Fv h D.L l
  cell : ∃ t, h.IsCell D.c (some (.int 4 t))
  X : Wl h D.x D.dx D.p
  z : Pq h D.p zs
  hp : HeapP zLt zs
  qr : QR st n zs qs
  qf : ∀ q ∈ qs, fl q ≠ 0
  cst : Cs w h D.cs kvs
  fr : FlR n kvs fl
  ca : ∃ m, IsL h D.ca cvs m
  cr : CR st n h cvs cands
  fn : ∃ name qual doc pm cv ctv, h.get? D.fa = some { cls := .type "function", data := .func (hcFn w D.c name qual doc pm cv ctv) } ∧ h.CodeRec cv qual
  dL : h00.get? D.L = none
  dp : h00.get? D.p = none
  dcs : h00.get? D.cs = none
  dca : h00.get? D.ca = none
  big : 138 < D.L ∧ 138 < D.cs ∧ 138 < D.p ∧ 138 < D.ca
  ne1 : D.L ≠ D.cs ∧ D.L ≠ D.dx
  ne2 : D.cs ≠ D.dx
  ne3 : D.p ≠ D.ca

section
variable {w : World} {mg mb : Str → Option Value} {h h' : Heap} {h00 : Heap} {D : Ad} {st : Nat → Nat} {n : Nat} {l l' : List (Str × Value)} {kvs kvs' : List (List UInt8 × Value)} {fl fl' : Nat → Nat} {zs zs' : Array KV} {qs qs' : List Nat} {cvs cvs' : Array Value} {cands cands' : List Nat}

/- a list or a dict -/
noncomputable def LD (h : Heap) (a : Nat) : Prop := ∀ o, h.get? a = some o → (o.cls = .type "list" ∧ ∃ xs n, o.data = .seq xs n) ∨ ∃ es ep, o.data = .dict es ep
theorem LD.tup {a : Nat} (x : LD h a) {vs : List Value} : ¬ IsT h a vs := fun t => by
  rcases x _ t with ⟨e, _⟩ | ⟨es, ep, e⟩
  · injection e with e; exact absurd e (by decide)
  · cases e

structure LSr (w : World) (mg mb : Str → Option Value) (h00 : Heap) (D : Ad) (st : Nat → Nat) (n : Nat) (a : Nat) (h' : Heap) (l : List (Str × Value)) (kvs : List (List UInt8 × Value)) (zs : Array KV) (cvs : Array Value) (cands : List Nat) : Prop where
  base : Kx (· = 87) h00 h'
  K : Ok w mg mb h'
  T : Tb h' 87 (qsL w)
  F : D.L ≠ a → Fv h' D.L l
  cell : ∃ t, h'.IsCell D.c (some (.int 4 t))
  X : D.dx ≠ a → Wl h' D.x D.dx D.p
  z : D.p ≠ a → Pq h' D.p zs
  cst : D.cs ≠ a → Cs w h' D.cs kvs
  ca : D.ca ≠ a → ∃ m, IsL h' D.ca cvs m
  cr : CR st n h' cvs cands
  fn : ∃ name qual doc pm cv ctv, h'.get? D.fa = some { cls := .type "function", data := .func (hcFn w D.c name qual doc pm cv ctv) } ∧ h'.CodeRec cv qual

theorem LS.rest (S : LS w mg mb h00 D st n h l kvs fl zs qs cvs cands) {a : Nat} (k : Kx (· = a) h h') (hd : h00.get? a = none) (hb : 138 < a) (hl : LD h a) : LSr w mg mb h00 D st n a h' l kvs zs cvs cands := by
  have nf : ∀ b, b = a → ∀ o, h.get? b = some o → ∀ vs, o.data ≠ .fields vs := by
    rintro b rfl o ho vs hvs
    rcases hl o ho with ⟨_, xs, n, e⟩ | ⟨es, ep, e⟩ <;> rw [hvs] at e <;> cases e
  refine ⟨S.base.t1 k hd, S.K.l k hb, S.T.keep k (fun e => by (first | lia | omega)) nf, fun hL => S.F.keep k hL, ?_, fun hdx => S.X.keep k ?_ hdx, fun hp => ?_, fun hc => ?_, fun hc => ?_, ?_, ?_⟩
  · obtain ⟨t, o, ho, hd'⟩ := S.cell
    refine ⟨t, o, k _ ?_ _ ho, hd'⟩
    intro e
    rw [e] at ho
    rcases hl o ho with ⟨_, xs, n, e⟩ | ⟨es, ep, e⟩ <;> rw [hd'] at e <;> cases e
  · intro e
    have := S.X.i
    rw [e] at this
    rcases hl _ this with ⟨_, xs, n, e⟩ | ⟨es, ep, e⟩ <;> cases e
  · refine ⟨S.z.l.imp fun _ t => k _ hp _ t, fun i z hz => ?_, S.z.lt⟩
    obtain ⟨b, t, u, e, ht⟩ := S.z.p i z hz
    refine ⟨b, t, u, e, k _ ?_ _ ht⟩
    intro e; rw [e] at ht; exact hl.tup ht
  · obtain ⟨o, es, ep, ho, r⟩ := S.cst
    exact ⟨o, es, ep, k _ hc _ ho, r⟩
  · exact S.ca.imp fun _ t => k _ hc _ t
  · exact S.cr.keep k fun b e vs t => by rw [e] at t; exact hl.tup t
  · refine hide fun Gz kz => ?_
    obtain ⟨name, qual, doc, pm, cv, ctv, hf, c, o, vs, t, rfl, ho, hd', hv⟩ := S.fn
    refine kz ?_
    clear kz Gz
    refine ⟨name, qual, doc, pm, _, ctv, k _ ?_ _ hf, c, o, vs, t, rfl, k _ (fun e => nf c e o ho vs hd') _ ho, hd', hv⟩
    intro e
    rw [e] at hf
    rcases hl _ hf with ⟨_, xs, n, e⟩ | ⟨es, ep, e⟩ <;> cases e

theorem LS.ldL (S : LS w mg mb h00 D st n h l kvs fl zs qs cvs cands) : LD h D.L := fun o ho => by
  refine hide fun Gz kz => ?_
  obtain ⟨m, ⟨o', es, ep, ho', hd, _⟩, _⟩ := S.F
  refine kz ?_
  clear kz Gz
  rw [ho] at ho'; cases ho'; exact .inr ⟨es, ep, hd⟩
theorem LS.ldp (S : LS w mg mb h00 D st n h l kvs fl zs qs cvs cands) : LD h D.p := fun o ho => by
  obtain ⟨m, e⟩ := S.z.l
  have e := ho.symm.trans e; cases e; exact .inl ⟨rfl, _, _, rfl⟩
theorem LS.ldca (S : LS w mg mb h00 D st n h l kvs fl zs qs cvs cands) : LD h D.ca := fun o ho => by
  obtain ⟨m, e⟩ := S.ca
  have e := ho.symm.trans e; cases e; exact .inl ⟨rfl, _, _, rfl⟩
theorem LS.ldcs (S : LS w mg mb h00 D st n h l kvs fl zs qs cvs cands) : LD h D.cs := fun o ho => by
  refine hide fun Gz kz => ?_
  obtain ⟨o', es, ep, ho', _, hd, _⟩ := S.cst
  refine kz ?_
  clear kz Gz
  rw [ho] at ho'; cases ho'; exact .inr ⟨es, ep, hd⟩
theorem LS.neLp (S : LS w mg mb h00 D st n h l kvs fl zs qs cvs cands) : D.L ≠ D.p := fun e => by
  obtain ⟨m, t⟩ := S.z.l
  exact S.F.ne_seq t e.symm
theorem LS.neLca (S : LS w mg mb h00 D st n h l kvs fl zs qs cvs cands) : D.L ≠ D.ca := fun e => by
  obtain ⟨m, t⟩ := S.ca
  exact S.F.ne_seq t e.symm
theorem LS.necsp (S : LS w mg mb h00 D st n h l kvs fl zs qs cvs cands) : D.cs ≠ D.p := fun e => by
  obtain ⟨m, t⟩ := S.z.l
  obtain ⟨o', es, ep, ho', _, hd, _⟩ := S.cst
  rw [e, t] at ho'; cases ho'; cases hd
theorem LS.necsca (S : LS w mg mb h00 D st n h l kvs fl zs qs cvs cands) : D.cs ≠ D.ca := fun e => by
  obtain ⟨m, t⟩ := S.ca
  obtain ⟨o', es, ep, ho', _, hd, _⟩ := S.cst
  rw [e, t] at ho'; cases ho'; cases hd
theorem LS.nedxp (S : LS w mg mb h00 D st n h l kvs fl zs qs cvs cands) : D.dx ≠ D.p := fun e => by
  obtain ⟨m, t⟩ := S.z.l
  obtain ⟨es, n, ho', _⟩ := S.X.d
  rw [e, t] at ho'
  have ho' := congrArg (fun o : Option Obj => o.map (·.data)) ho'
  cases ho'
theorem LS.nedxca (S : LS w mg mb h00 D st n h l kvs fl zs qs cvs cands) : D.dx ≠ D.ca := fun e => by
  obtain ⟨m, t⟩ := S.ca
  obtain ⟨es, n, ho', _⟩ := S.X.d
  rw [e, t] at ho'
  have ho' := congrArg (fun o : Option Obj => o.map (·.data)) ho'
  cases ho'

theorem LS.no (S : LS w mg mb h00 D st n h l kvs fl zs qs cvs cands) (k : Kx none_ h h') : LS w mg mb h00 D st n h' l kvs fl zs qs cvs cands :=
  { S with
    base := S.base.tn k
    K := S.K.n k
    T := S.T.n k
    F := S.F.keep k id
    cell := let ⟨t, c⟩ := S.cell; ⟨t, c.keeps k.kp⟩
    X := S.X.n k
    z := S.z.n k
    cst := S.cst.n k
    ca := S.ca.imp fun _ t => k.kp _ _ t
    cr := S.cr.keep k fun _ hb => hb.elim
    fn := let ⟨a, b, c, d, e, f, g, i⟩ := S.fn; ⟨a, b, c, d, e, f, k.kp _ _ g, i.keeps k.kp⟩ }
theorem LS.store (S : LS w mg mb h00 D st n h l kvs fl zs qs cvs cands) (k : Kx (· = D.L) h h') (F' : Fv h' D.L l') : LS w mg mb h00 D st n h' l' kvs fl zs qs cvs cands :=
  let R := S.rest k S.dL S.big.1 S.ldL
  { S with base := R.base, K := R.K, T := R.T, F := F', cell := R.cell, X := R.X S.ne1.2.symm, z := R.z S.neLp.symm, cst := R.cst S.ne1.1.symm, ca := R.ca S.neLca.symm, cr := R.cr, fn := R.fn }
theorem LS.queue (S : LS w mg mb h00 D st n h l kvs fl zs qs cvs cands) (k : Kx (· = D.p) h h') (z' : Pq h' D.p zs') (hp' : HeapP zLt zs') (qr' : QR st n zs' qs') (qf' : ∀ q ∈ qs', fl q ≠ 0) : LS w mg mb h00 D st n h' l kvs fl zs' qs' cvs cands :=
  let R := S.rest k S.dp S.big.2.2.1 S.ldp
  { S with base := R.base, K := R.K, T := R.T, F := R.F S.neLp, cell := R.cell, X := R.X S.nedxp, z := z', hp := hp', qr := qr', qf := qf', cst := R.cst S.necsp, ca := R.ca S.ne3.symm, cr := R.cr, fn := R.fn }
theorem LS.flags (S : LS w mg mb h00 D st n h l kvs fl zs qs cvs cands) (k : Kx (· = D.cs) h h') (c' : Cs w h' D.cs kvs') (f' : FlR n kvs' fl') (qf' : ∀ q ∈ qs, fl' q ≠ 0) : LS w mg mb h00 D st n h' l kvs' fl' zs qs cvs cands :=
  let R := S.rest k S.dcs S.big.2.1 S.ldcs
  { S with base := R.base, K := R.K, T := R.T, F := R.F S.ne1.1, cell := R.cell, X := R.X S.ne2.symm, z := R.z S.necsp.symm, cst := c', fr := f', qf := qf', ca := R.ca S.necsca.symm, cr := R.cr, fn := R.fn }
theorem LS.cand (S : LS w mg mb h00 D st n h l kvs fl zs qs cvs cands) (k : Kx (· = D.ca) h h') (c' : ∃ m, IsL h' D.ca cvs' m) (cr' : CR st n h' cvs' cands') : LS w mg mb h00 D st n h' l kvs fl zs qs cvs' cands' :=
  let R := S.rest k S.dca S.big.2.2.2 S.ldca
  { S with base := R.base, K := R.K, T := R.T, F := R.F S.neLca, cell := R.cell, X := R.X S.nedxca, z := R.z S.ne3, cst := R.cst S.necsca, ca := c', cr := cr', fn := R.fn }
end
end
end Mine
end

section
open PySem PySem.W PyProof.Rows PySem.Spec PySem.Calls
set_option maxRecDepth 100000
set_option maxHeartbeats 4000000
namespace Mine
variable {w : World} {mg mb : Str → Option Value} {A : Around} {E : Value → Shared → Prop} {s : Shared} {env : Env} {h : Heap} {g : Array GenState} {d : Drawn} {tk : Nat} {os : OsState} {M : Model}

noncomputable def whBody (w : World) : List Stmt := match (bodyAt w 90).getD 11 default with | .While _ b _ _ => b | _ => []
noncomputable def inFor (w : World) : Stmt := match (whBody w).getD 6 default with | .If _ b _ _ => b.getD 0 default | _ => default
noncomputable def inBody (w : World) : List Stmt := match inFor w with | .For _ _ b _ _ => b | _ => []

/- the two lookups -/
noncomputable def Nms (vs : Array Value) (ks : List Nat) : Prop := vs.size = ks.length ∧ ∀ (i : Nat) (k : Nat), ks[i]? = some k → ∃ t, vs[i]? = some (.bytes (nmL' k).toArray t)
structure Lk (w : World) (mg mb : Str → Option Value) (h00 : Heap) (lp ls : Nat) (par : Nat → List Nat) (st : Nat → Nat) (n : Nat) : Prop where
  fp : FnAt lp h00
  fs : FnAt ls h00
  n87 : lp ≠ 87 ∧ ls ≠ 87
  p : ∀ {A : Around} {E : Value → Shared → Prop} {Q : Value → Shared → Prop} {g d tk os} {h : Heap} {k : Nat} {t : Tok}, Rm A 5 → k < n → Kx (· = 87) h00 h → Ok w mg mb h →
    (∀ a vs m h' tk', a ≠ 87 → IsL h00 a vs m → Nms vs (par k) → Kx none_ h h' → Q (.ref a) ⟨h', g, d, tk', os⟩) → wpAny (model PP w) A (call (.ref lp) [.bytes (nmL' k).toArray t]) Q E ⟨h, g, d, tk, os⟩
  s : ∀ {A : Around} {E : Value → Shared → Prop} {Q : Value → Shared → Prop} {g d tk os} {h : Heap} {k : Nat} {t : Tok}, Rm A 5 → k < n → Kx (· = 87) h00 h → Ok w mg mb h →
    (∀ h' t' tk', Kx none_ h h' → Q (.int (st k : Nat) t') ⟨h', g, d, tk', os⟩) → wpAny (model PP w) A (call (.ref ls) [.bytes (nmL' k).toArray t]) Q E ⟨h, g, d, tk, os⟩

noncomputable abbrev lEnv (w : World) (L : Nat) : Env := callEnvC (fdAt w 90) L 90

noncomputable def rowsI (D : Ad) (t1 t2 t8 t0 : Tok) (cf : Nat) (tc : Tok) : List (Str × Value) := (Str.ofString "cflags", .int (cf : Nat) tc) :: rowsB D t1 t2 t8 t0

theorem fnAt_k {a : Nat} {h00 : Heap} {P : Nat → Prop} (x : FnAt a h00) (k : Kx P h00 h) (hp : ¬ P a) : FnAt a h := let ⟨oc, od, fd, sl, e⟩ := x; ⟨oc, od, fd, sl, k a hp _ e⟩

theorem key_is (w : World) (k : Nat) (t : Tok) : (bytesKind PP w).is (nmL' k) (.bytes (nmL' k).toArray t) = true := by simp [bytesKind, isBytes]
theorem sys_ne {a : Nat} (h : 138 < a) : (a == sysModules) = false := by
  rw [beq_eq_false_iff_ne]
  intro e
  rw [e] at h
  exact absurd h (by decide)

theorem QR.push {st : Nat → Nat} {n k : Nat} {zs zs' : Array KV} {qs : List Nat} {v : Value} (x : QR st n zs qs) (hk : k < n) (hp : zs'.Perm (zs.push (v, key st k))) : QR st n zs' (k :: qs) := by
  refine ⟨?_, fun q hq => ?_⟩
  · have h1 : (zs'.toList.map (·.2)).Perm ((zs.push (v, key st k)).toList.map (·.2)) := (Array.perm_iff_toList_perm.mp hp).map _
    refine h1.trans ?_
    rw [Array.toList_push, List.map_append, List.map_cons]
    exact (List.perm_append_singleton _ _).trans (x.1.cons _)
  · rcases List.mem_cons.mp hq with rfl | hq
    · exact hk
    · exact x.2 q hq
theorem QR.size {st : Nat → Nat} {n : Nat} {zs : Array KV} {qs : List Nat} (x : QR st n zs qs) : zs.size = qs.length := by
  have := x.1.length_eq
  simpa using this

noncomputable def W3 (D : Ad) (b : Nat) : Prop := b = D.L ∨ b = D.cs ∨ b = D.p
theorem dget2 {x : Str} {px pc pos : Pos} {c : Const} {kc : Nat} {a : Nat} {Q : Value → Shared → Prop} (hd : (a == sysModules) = false)
    (hq : wpAny (model PP w) A (eval (.Name x px) env) (fun key s₁ => wpAny (model PP w) A (eval (.Constant c kc pc) env) (fun dflt s₂ => ∃ k f, (bytesKind PP w).is k key = true ∧ s₂.heap.MapOf (bytesKind PP w) a f ∧ Q ((f k).getD dflt) { s₂ with toks := s₂.toks + 1 }) E s₁) E s) :
    wpAny (model PP w) A (callWith pos (.builtin "dict.get") [.ref a] (backTo pos (starEach [.Name x px, .Constant c kc pc] env)) []) Q E s :=
  wpAny_dict_get2 (knd := bytesKind PP w) hd hq

theorem in_turn {h00 : Heap} {D : Ad} {par : Nat → List Nat} {st : Nat → Nat} {n p cf : Nat} {l : List (Str × Value)} {kvs : List (List UInt8 × Value)} {fl : Nat → Nat} {zs : Array KV} {qs : List Nat} {cvs : Array Value} {cands : List Nat}
    {t1 t2 t8 t0 tc t : Tok} {Q : Flow → Shared → Prop} (hr : Rm A 7) (LK : Lk w mg mb h00 D.lp D.ls par st n) (hn : n ≤ 10) (S : LS w mg mb h00 D st n h ((Str.ofString "pcmt", .bytes (nmL' p).toArray t) :: l) kvs fl zs qs cvs cands)
    (R : Rows l (rowsI D t1 t2 t8 t0 cf tc)) (hp : p < n) (hcf : cf < 8) (hlt : ∀ k, fl k < 16) (hsz : qs.length < 100)
    (hskip : fl p &&& cf = cf → ∀ h' tk' l', Kx (W3 D) h h' → LS w mg mb h00 D st n h' l' kvs fl zs qs cvs cands → Rows l' (rowsI D t1 t2 t8 t0 cf tc) → Q .cont ⟨h', g, d, tk', os⟩)
    (hmark : ¬ fl p &&& cf = cf → ∀ h' tk' l' kvs' zs', Kx (W3 D) h h' → LS w mg mb h00 D st n h' l' kvs' (upd fl p (fl p ||| cf)) zs' (p :: qs) cvs cands → Rows l' (rowsI D t1 t2 t8 t0 cf tc) → Q .next ⟨h', g, d, tk', os⟩) :
    wpAny (model PP w) A (execs (inBody w) (lEnv w D.L)) Q E ⟨h, g, d, tk, os⟩ := by
  have hkey := key_is w p t
  have hsys := sys_ne S.big.2.1
  refine wpAny_execs_cons (wpAny_Assign_Name (MethodCall_ (nmF S.F (R.sub (Str.ofString "cstates") _ rfl) ?_)))
  refine getMethod_builtin (s := ⟨h, g, d, tk, os⟩) (id := "dict.get") S.cst.mapOf.typeIs PySem.F.plainAttrs_dict PySem.F.slot_dict_get PySem.F.type_dict_get S.cst.mapOf.noDict ?_
  refine dget2 hsys ?_
  refine nmF S.F rfl (cI fun t₁ tk₁ => ?_)
  refine ⟨nmL' p, _, hkey, S.cst.mapOf, ?_⟩
  have hpf : ∃ tp, (valueAt kvs (nmL' p)).getD (.int 0 t₁) = .int (fl p : Nat) tp := by
    rcases S.fr.at_ p hp with ⟨h1, h2⟩ | ⟨h1, t', h2⟩
    · exact ⟨t₁, by rw [h2, h1]; rfl⟩
    · exact ⟨t', by rw [h2]; rfl⟩
  obtain ⟨tp, ep⟩ := hpf
  rw [ep]
  refine stF S.F fun h₂ tk₂ F₂ k₂ => ?_
  have S₂ := S.store k₂ F₂
  refine wpAny_execs_cons (wpAny_If (wpAny_isTrue_Compare1 (wpAny_BinOp (nmF S₂.F rfl (nmF S₂.F (R.sub (Str.ofString "cflags") _ rfl) (bAnd fun t₃ tk₃ => ?_))))))
  rw [bAnd_nat _ (hlt p) _ (by (first | lia | omega) : cf < 16)]
  refine nmF S₂.F (R.sub (Str.ofString "cflags") _ rfl) (P.eq_int (wpAny_truthy_bool ?_))
  by_cases hin : fl p &&& cf = cf
  · have : ((((fl p &&& cf : Nat) : Int)) == ((cf : Nat) : Int)) = true := by rw [hin]; exact beq_self_eq_true _
    rw [this]
    simp only [if_true]
    refine wpAny_execs_cons (wpAny_Continue ?_)
    exact hskip hin _ _ _ (k₂.mono fun b e => .inl (.inl e)) S₂ R
  · have : ((((fl p &&& cf : Nat) : Int)) == ((cf : Nat) : Int)) = false := by
      rw [beq_eq_false_iff_ne]
      intro e
      exact hin (by exact_mod_cast e)
    rw [this]
    simp only [Bool.false_eq_true, if_false]
    refine wpAny_execs_nil ?_
    refine wpAny_execs_cons (wpAny_Try_except ?_)
    refine wpAny_execs_cons (wpAny_Assign_Name (Call_ (nmF S₂.F (R.sub (Str.ofString "lookup_stamp") _ rfl) ?_)))
    refine callWith_F (fnAt_k LK.fs S₂.base LK.n87.2) (args_cons (nmF S₂.F rfl (args_nil ⟨fnAt_k LK.fs S₂.base LK.n87.2, ?_⟩)))
    refine LK.s (hr.less (by decide)) hp S₂.base S₂.K fun h₄ t₄ tk₄ k₄ => ?_
    have S₄ := S₂.no k₄
    refine stF S₄.F fun h₅ tk₅ F₅ k₅ => ?_
    have S₅ := S₄.store k₅ F₅
    refine wpAny_execs_nil (wpAny_execs_nil ?_)
    refine wpAny_execs_cons (wpAny_If (wpAny_isTrue_Compare1 (nmF S₅.F rfl (nmF S₅.F (R.sub (Str.ofString "min_stamp") _ rfl) (P.lt_int (wpAny_truthy_bool ?_))))))
    have : decide (((st p : Nat) : Int) < 0) = false := by simp
    rw [this]
    simp only [Bool.false_eq_true, if_false]
    refine wpAny_execs_nil ?_
    refine wpAny_execs_cons (wpAny_Assign_Subscript ?_)
    refine wpAny_BinOp (nmF S₅.F rfl (nmF S₅.F (R.sub (Str.ofString "cflags") _ rfl) (bOr fun t₆ tk₆ => ?_)))
    rw [bOr_nat _ (hlt p) _ (by (first | lia | omega) : cf < 16)]
    refine nmF S₅.F (R.sub (Str.ofString "cstates") _ rfl) (nmF S₅.F rfl ?_)
    refine wpAny_setItem_pairs hkey S₅.cst (fun h₇ c₇ sb₇ => ?_) (by
      have h1 := S₅.fr.len (by obtain ⟨_, _, _, _, _, _, _, _, hnd⟩ := S₅.cst; exact hnd)
      exact Nat.le_trans (Nat.le_trans h1 hn) (by decide))
    have hne : fl p ||| cf ≠ 0 := by
      intro e
      have := (bits1 _ (hlt p) _ hcf).2.2.2.2.2
      rw [e] at this
      apply hin
      rw [← this]
      simp
    have S₇ := S₅.flags (Kx.of_same sb₇) c₇ (S₅.fr.set hn hp _ hne t₆) (fun q hq => by
      by_cases e : q = p
      · subst e; rw [upd_self]; exact hne
      · rw [upd_ne _ _ e]; exact S₅.qf q hq)
    refine wpAny_execs_cons (wpAny_Expr (MethodCall_ (nmF S₇.F (R.sub (Str.ofString "wlst") _ rfl) ?_)))
    refine wl_meth (f := 63) S₇.K S₇.X (.inl rfl) ?_
    refine callWith_K S₇.K.x (by kernel_rfl) (args_cons (Tuple_ (args_cons (nmF S₇.F rfl (args_cons (nmF S₇.F rfl (args_nil ?_)))))))
    refine nTup fun h₈ k₈ t₈' => args_nil ⟨(S₇.no k₈).K.x, ?_⟩
    have S₈ := S₇.no k₈
    have hz : zs.size = qs.length := S₈.qr.size
    refine wl_add (dt := (st p : Nat)) (nm := nmL' p) S₈.K (hr.less (by decide)) S₈.X S₈.z S₈.hp (by rw [hz]; exact Nat.lt_of_lt_of_le hsz (by decide)) t₈' fun h₉ tk₉ zs' v z₉ hp₉ pm k₉ => ?_
    refine wpAny_execs_nil ?_
    refine hmark hin _ _ _ _ _ ((((((k₂.tn k₄).tr k₅).mono fun b e => .inl (.inl e)).trans (Kx.of_same sb₇) fun b e => .inl (.inr (.inl e))).tn k₈).trans k₉ fun b e => .inl (.inr (.inr e))) (S₈.queue k₉ z₉ hp₉ (S₈.qr.push hp pm) (fun q hq => ?_)) R
    rcases List.mem_cons.mp hq with rfl | hq
    · rw [upd_self]; exact hne
    · exact S₈.qf q hq
end Mine
end

section
open PySem PySem.W PyProof.Rows PySem.Spec PySem.Calls
set_option maxRecDepth 100000
set_option maxHeartbeats 4000000
namespace Mine
section
variable {w : World} {mg mb : Str → Option Value} {h h' : Heap} {h00 : Heap} {D : Ad} {st : Nat → Nat} {n : Nat} {l l' : List (Str × Value)} {kvs kvs' : List (List UInt8 × Value)} {fl fl' : Nat → Nat} {zs zs' : Array KV} {qs qs' : List Nat} {cvs cvs' : Array Value} {cands cands' : List Nat}

theorem LS.iter (S : LS w mg mb h00 D st n h l kvs fl zs qs cvs cands) {it a i : Nat} (hit : h.IsListIter it a i) (k : Kx (· = it) h h') (hd : h00.get? it = none) (hb : 138 < it) : LS w mg mb h00 D st n h' l kvs fl zs qs cvs cands := by
  obtain ⟨oi, hoi, hci, hdi⟩ := hit
  have ne : ∀ {b : Nat} {o : Obj}, h.get? b = some o → o.data ≠ oi.data → b ≠ it := fun {b o} ho hne e => by
    rw [e, hoi] at ho; cases ho; exact hne rfl
  have nefd : ∀ {b : Nat} {o : Obj} {vs : Array Value}, h.get? b = some o → o.data = .fields vs → (∀ t q, vs[1]? = some (.str q t) → b ≠ it) := fun {b o vs} ho hd' t q hv e => by
    rw [e, hoi] at ho; cases ho
    rw [hdi] at hd'; cases hd'
    simp at hv
  refine { S with base := S.base.t1 k hd, K := S.K.l k hb, T := ?_, F := S.F.keep k ?_, cell := ?_, X := S.X.keep k ?_ ?_, z := ?_, cst := ?_, ca := ?_, cr := ?_, fn := ?_ }
  · obtain ⟨ps, e, ht, r⟩ := S.T
    refine ⟨ps, k 87 ?_ _ e, ht, fun q hq cv hc => ?_⟩
    · intro e'
      have : (87 : Nat) = it := e'
      (first | lia | omega)
    · obtain ⟨c, o, vs, t, rfl, ho, hd', hv⟩ := r q hq cv hc
      exact ⟨c, o, vs, t, rfl, k c (nefd ho hd' t _ hv) _ ho, hd', hv⟩
  · obtain ⟨m, ⟨o, es, ep, ho, hd', _⟩, _⟩ := S.F
    exact ne ho (by rw [hd', hdi]; intro e; cases e)
  · obtain ⟨t, o, ho, hd'⟩ := S.cell
    exact ⟨t, o, k _ (ne ho (by rw [hd', hdi]; intro e; cases e)) _ ho, hd'⟩
  · exact ne S.X.i (by rw [hdi]; intro e; cases e)
  · obtain ⟨es, n, q, r⟩ := S.X.d
    exact ne q (by rw [hdi]; intro e; cases e)
  · refine ⟨S.z.l.imp fun _ t => k _ (ne t (by rw [hdi]; intro e; cases e)) _ t, fun i z hz => ?_, S.z.lt⟩
    obtain ⟨b, t, u, e, ht⟩ := S.z.p i z hz
    exact ⟨b, t, u, e, k _ (ne ht (by rw [hdi]; intro e; cases e)) _ ht⟩
  · obtain ⟨o, es, ep, ho, hc, hd', r⟩ := S.cst
    exact ⟨o, es, ep, k _ (ne ho (by rw [hd', hdi]; intro e; cases e)) _ ho, hc, hd', r⟩
  · exact S.ca.imp fun _ t => k _ (ne t (by rw [hdi]; intro e; cases e)) _ t
  · exact S.cr.keep k fun b e vs t => ne t (by rw [hdi]; intro e; cases e) e
  · refine hide fun Gz kz => ?_
    obtain ⟨name, qual, doc, pm, cv, ctv, hf, c, o, vs, t, rfl, ho, hd', hv⟩ := S.fn
    refine kz ?_
    clear kz Gz
    exact ⟨name, qual, doc, pm, _, ctv, k _ (ne hf (by rw [hdi]; intro e; cases e)) _ hf, c, o, vs, t, rfl, k c (nefd ho hd' t _ hv) _ ho, hd', hv⟩

noncomputable def pot (n : Nat) (fl : Nat → Nat) : Nat := ((List.range n).map fun k => miss (fl k)).sum
theorem pot_upd {p v : Nat} (hp : p < n) (hv : miss v + 1 ≤ miss (fl p)) : pot n (upd fl p v) + 1 ≤ pot n fl := by
  unfold pot
  have key : ∀ l : List Nat, (l.map fun k => miss (upd fl p v k)).sum ≤ (l.map fun k => miss (fl k)).sum ∧ (p ∈ l → (l.map fun k => miss (upd fl p v k)).sum + 1 ≤ (l.map fun k => miss (fl k)).sum) := by
    intro l
    induction l with
    | nil => exact ⟨Nat.le_refl _, fun h => by cases h⟩
    | cons a r ih =>
      simp only [List.map_cons, List.sum_cons]
      have h1 : miss (upd fl p v a) ≤ miss (fl a) := by
        by_cases e : a = p
        · subst e; rw [upd_self]; (first | lia | omega)
        · rw [upd_ne _ _ e]; exact Nat.le_refl _
      refine ⟨by (first | lia | omega), fun hm => ?_⟩
      rcases List.mem_cons.mp hm with rfl | hm
      · rw [upd_self]; (first | lia | omega)
      · have := ih.2 hm; (first | lia | omega)
  exact (key (List.range n)).2 (List.mem_range.mpr hp)
end

variable {w : World} {mg mb : Str → Option Value} {A : Around} {E : Value → Shared → Prop} {s : Shared} {env : Env} {h : Heap} {g : Array GenState} {d : Drawn} {tk : Nat} {os : OsState} {M : Model}

/- the state of the loop over the parents -/
inductive InS (w : World) (mg mb : Str → Option Value) (h00 : Heap) (D : Ad) (par : Nat → List Nat) (st : Nat → Nat) (n k c1 c2 a Mx : Nat) (cvs : Array Value) (cands : List Nat) (fl : Nat → Nat) (t1 t2 t8 t0 tc : Tok) (it : Nat) (g : Array GenState) (d : Drawn) (os : OsState) (N : Nat) (s : Shared) : Prop
  | mk (j : Nat)
      (l : List (Str × Value))
      (kvs' : List (List UInt8 × Value))
      (fl' : Nat → Nat)
      (zs' : Array KV)
      (qs' : List Nat)
      (q1 : N = (par k).length - j)
      (q2 : j ≤ (par k).length)
      (q3 : LS w mg mb h00 D st n s.heap l kvs' fl' zs' qs' cvs cands)
      (q4 : Rows l (rowsI D t1 t2 t8 t0 (cfl (fl k)) tc))
      (q5 : Inv par st c1 c2 (some k) ((par k).take j) qs' fl' cands)
      (q6 : fl' k = fl k)
      (q7 : qs'.length + pot n fl' ≤ Mx)
      (q8 : s.heap.IsListIter it a j)
      (q9 : s.gens = g)
      (q10 : s.drawn = d)
      (q11 : s.os = os) : InS w mg mb h00 D par st n k c1 c2 a Mx cvs cands fl t1 t2 t8 t0 tc it g d os N s
theorem in_loop {h00 : Heap} {D : Ad} {par : Nat → List Nat} {st : Nat → Nat} {n k c1 c2 a Mx : Nat} {l : List (Str × Value)} {kvs : List (List UInt8 × Value)} {fl : Nat → Nat} {zs : Array KV} {qs : List Nat} {cvs : Array Value} {cands : List Nat} {vs : Array Value} {m : Nat}
    {t1 t2 t8 t0 tc : Tok} {Q : Flow → Shared → Prop} (hr : Rm A 8) (LK : Lk w mg mb h00 D.lp D.ls par st n) (hn : n ≤ 10) (hpar : ∀ k, ∀ p ∈ par k, p < k) (hst : ∀ k, ∀ p ∈ par k, st p < st k) (hk : k < n)
    (S : LS w mg mb h00 D st n h l kvs fl zs qs cvs cands) (R : Rows l ((Str.ofString "parents", .ref a) :: rowsI D t1 t2 t8 t0 (cfl (fl k)) tc)) (I : Inv par st c1 c2 (some k) [] qs fl cands)
    (hkc : ∀ c ∈ cands, pLt (key st k) (key st c) = false) (ha : a ≠ 87) (hl : IsL h00 a vs m) (hvs : Nms vs (par k)) (hM : qs.length + pot n fl ≤ Mx) (hMx : Mx < 100)
    (hq : ∀ h' tk' l' kvs' fl' zs' qs', LS w mg mb h00 D st n h' l' kvs' fl' zs' qs' cvs cands → Rows l' (rowsB D t1 t2 t8 t0) → Inv par st c1 c2 none [] qs' fl' cands → qs'.length + pot n fl' ≤ Mx → Q .next ⟨h', g, d, tk', os⟩) :
    wpAny (model PP w) A (exec (inFor w) (lEnv w D.L)) Q E ⟨h, g, d, tk, os⟩ := by
  refine wpAny_For (nmF S.F (R.sub (Str.ofString "parents") _ rfl) ?_)
  have hla : IsL h a vs m := S.base a ha _ hl
  refine wpAny_pyIter_list hla.isList ?_
  have k₁ : Kx none_ h (h.push { cls := .type "list_iterator", data := .fields #[.ref a, .int 0 0] }) := Kx.push _ _
  have hit₁ : (h.push { cls := .type "list_iterator", data := .fields #[.ref a, .int 0 0] }).IsListIter h.objs.size a 0 := ⟨_, Heap.get?_push_size _ rfl, rfl, rfl⟩
  have hit0 : h00.get? h.objs.size = none := S.base.dead (dead_size h) (fun e => by have := S.K.sz; rw [e] at this; exact absurd this (by decide))
  have hitb : 138 < h.objs.size := S.K.sz
  generalize hgit : h.objs.size = it at *
  have S₁ := S.no k₁
  refine codeAny_forLoop (InS w mg mb h00 D par st n k c1 c2 a Mx cvs cands fl t1 t2 t8 t0 tc it g d os) ?_ ((par k).length) ⟨0, l, kvs, fl, zs, qs, rfl, Nat.zero_le _, S₁, R.2, I, rfl, hM, hit₁, rfl, rfl, rfl⟩
  rintro N ⟨h₂, g₂, d₂, tk₂, os₂⟩ xz
  refine hide fun Gz kz => ?_
  obtain ⟨j, l₂, kvs₂, fl₂, zs₂, qs₂, rfl, hj, S₂, R₂, I₂, ek, hM₂, hit₂, e1, e2, e3⟩ := xz
  refine kz ?_
  clear kz Gz
  have e1' : g₂ = g := e1
  have e2' : d₂ = d := e2
  have e3' : os₂ = os := e3
  subst e1' e2' e3'
  have hla₂ : IsL h₂ a vs m := S₂.base a ha _ hl
  by_cases hlt : j < (par k).length
  · have hjp : (par k)[j]? = some (par k)[j] := by simp [hlt]
    obtain ⟨t, hv⟩ := hvs.2 j _ hjp
    have hmem : (par k)[j] ∈ par k := List.getElem_mem hlt
    have hpk := hpar k _ hmem
    refine wpAny_pyNext_list_item (s := ⟨h₂, g₂, d₂, tk₂, os₂⟩) hit₂ hla₂.isList hv fun h₃ hit₃ sb₃ => ?_
    have S₃ := S₂.iter hit₂ (Kx.of_same sb₃) hit0 hitb
    refine wpAny_assign_Name (stF S₃.F fun h₄ tk₄ F₄ k₄ => ?_)
    have hit₄ : h₄.IsListIter it a (j + 1) := by
      obtain ⟨o, ho, hc, hd⟩ := hit₃
      refine ⟨o, k₄ _ ?_ _ ho, hc, hd⟩
      rintro rfl
      obtain ⟨_, ⟨o', es, ep, ho', hd', _⟩, _⟩ := S₃.F
      rw [ho] at ho'; cases ho'; rw [hd] at hd'; cases hd'
    have S₄ := S₃.store k₄ F₄
    have itk : ∀ {h₅ : Heap}, Kx (W3 D) h₄ h₅ → h₅.IsListIter it a (j + 1) := fun {h₅} kk => by
      obtain ⟨o, ho, hc, hd⟩ := hit₄
      refine ⟨o, kk _ ?_ _ ho, hc, hd⟩
      rintro (e | e | e) <;> rw [e] at ho
      · rcases S₄.ldL o ho with ⟨_, xs, n, e⟩ | ⟨es, ep, e⟩ <;> rw [hd] at e <;> cases e
      · rcases S₄.ldcs o ho with ⟨_, xs, n, e⟩ | ⟨es, ep, e⟩ <;> rw [hd] at e <;> cases e
      · rcases S₄.ldp o ho with ⟨_, xs, n, e⟩ | ⟨es, ep, e⟩ <;> rw [hd] at e <;> cases e
    have hcf := (bits2 _ (I₂.lt k)).1
    rw [ek] at hcf
    have etake : (par k).take (j + 1) = (par k).take j ++ [(par k)[j]] := by rw [List.take_add_one, hjp]; rfl
    refine in_turn (hr.less (by decide)) LK hn S₄ R₂ (Nat.lt_trans hpk hk) hcf I₂.lt (by (first | lia | omega)) (fun hin h₅ tk₅ l₅ kk S₅ R₅ => ?_) (fun hin h₅ tk₅ l₅ kvs₅ zs₅ kk S₅ R₅ => ?_)
    · refine ⟨(par k).length - (j + 1), Nat.sub_lt_sub_left (by assumption) (Nat.lt_succ_self _), j + 1, l₅, kvs₂, fl₂, zs₂, qs₂, rfl, hlt, S₅, R₅, ?_, ek, hM₂, itk kk, rfl, rfl, rfl⟩
      rw [etake]
      exact I₂.skip (by rw [ek]; exact hin)
    · refine ⟨(par k).length - (j + 1), Nat.sub_lt_sub_left (by assumption) (Nat.lt_succ_self _), j + 1, l₅, kvs₅, _, zs₅, _, rfl, hlt, S₅, R₅, ?_, ?_, ?_, itk kk, rfl, rfl, rfl⟩
      · rw [etake]
        have := I₂.mark hst hmem hkc
        rw [ek] at this
        exact this
      · exact (upd_ne _ _ (by (first | lia | omega))).trans ek
      · have hb := bits4 _ (I₂.lt (par k)[j]) _ hcf hin
        have := pot_upd (n := n) (fl := fl₂) (p := (par k)[j]) (by (first | lia | omega)) hb
        rw [List.length_cons]
        (first | lia | omega)
  · have hjz : j = (par k).length := by (first | lia | omega)
    subst hjz
    refine wpAny_pyNext_list_end (s := ⟨h₂, g₂, d₂, tk₂, os₂⟩) hr.1 hit₂ hla₂.isList (by simp [hvs.1]) fun h₃ he => ?_
    have S₃ := S₂.iter hit₂ (Kx.of_ext he) hit0 hitb
    refine wpAny_execs_nil ?_
    rw [List.take_length] at I₂
    exact hq _ _ _ _ _ _ _ S₃ R₂.2 I₂.close hM₂
end Mine
end

section
open PySem PySem.W PyProof.Rows PySem.Spec PySem.Calls
set_option maxRecDepth 100000
set_option maxHeartbeats 4000000
namespace Mine
variable {w : World} {mg mb : Str → Option Value} {A : Around} {E : Value → Shared → Prop} {s : Shared} {env : Env} {h : Heap} {g : Array GenState} {d : Drawn} {tk : Nat} {os : OsState} {M : Model}

theorem nmCell {x : Str} {pos : Pos} {v : Value} {c : Nat} {Q : Value → Shared → Prop} {M : Model} (hv : s.heap.IsCell c (some v)) (h : Q v s) (hc : env.cells.lookup x = some c)
    (hk : env.scope.kind = .function := by rfl) (hl : env.kindOf x = some .cell := by rfl) (hd : (x == ("__debug__" : Str)) = false := by decide) :
    wpAny M A (eval (.Name x pos) env) Q E s := wpAny_Name (wpAny_loadName_cell hk hl hc hv h) hd

noncomputable def rowsC (D : Ad) (t1 t2 t8 t0 : Tok) (k : Nat) (tm : Tok) (cf : Nat) (tc : Tok) : List (Str × Value) := (Str.ofString "cmt", .bytes (nmL' k).toArray tm) :: rowsI D t1 t2 t8 t0 cf tc

theorem hsz_kvs {h00 : Heap} {D : Ad} {st : Nat → Nat} {n : Nat} {l : List (Str × Value)} {kvs : List (List UInt8 × Value)} {fl : Nat → Nat} {zs : Array KV} {qs : List Nat} {cvs : Array Value} {cands : List Nat}
    (S : LS w mg mb h00 D st n h l kvs fl zs qs cvs cands) (hn : n ≤ 10) : kvs.length ≤ sizeLine := by
  have h1 := S.fr.len (by obtain ⟨_, _, _, _, _, _, _, _, hnd⟩ := S.cst; exact hnd)
  exact Nat.le_trans (Nat.le_trans h1 hn) (by decide)

/- the turn's test of the candidate -/
theorem wh_if {h00 : Heap} {D : Ad} {st : Nat → Nat} {n k : Nat} {l : List (Str × Value)} {kvs : List (List UInt8 × Value)} {fl : Nat → Nat} {zs : Array KV} {qs : List Nat} {cvs : Array Value} {cands : List Nat}
    {t1 t2 t8 t0 tc td tm : Tok} {Q : Flow → Shared → Prop} (hn : n ≤ 10) (hDc : D.c = D.L + 1) (hk : k < n) (hk0 : fl k ≠ 0) (hlt : ∀ k, fl k < 16) (hcl : cands.length < 100)
    (S : LS w mg mb h00 D st n h l kvs fl zs qs cvs cands) (R : Rows l ((Str.ofString "dt", .int (st k : Nat) td) :: rowsC D t1 t2 t8 t0 k tm (fl k &&& 7) tc))
    (hq : ∀ h' tk' l' kvs' cvs' tc', LS w mg mb h00 D st n h' l' kvs' (if fl k &&& 7 = 3 ∧ ¬ fl k &&& 8 = 8 then upd fl k (fl k ||| 8) else fl) zs qs cvs' (if fl k &&& 7 = 3 ∧ ¬ fl k &&& 8 = 8 then cands ++ [k] else cands) →
      Rows l' (rowsC D t1 t2 t8 t0 k tm (cfl (fl k)) tc') → Q .next ⟨h', g, d, tk', os⟩) :
    wpAny (model PP w) A (exec ((whBody w).getD 4 default) (lEnv w D.L)) Q E ⟨h, g, d, tk, os⟩ := by
  have hcell : ∀ L c : Nat, c = L + 1 → (lEnv w L).cells.lookup (Str.ofString "_DNC") = some c := by rintro L c rfl; rfl
  have hkey := key_is w k tm
  have hval : ∃ t, valueAt kvs (nmL' k) = some (.int (fl k : Nat) t) := by
    rcases S.fr.at_ k hk with ⟨h0, _⟩ | ⟨_, t, e⟩
    · exact absurd h0 hk0
    · exact ⟨t, e⟩
  refine hide fun Gz kz => ?_
  obtain ⟨tv, hval⟩ := hval
  obtain ⟨b1, b2, b3, b4, b5, b6, b7, b8, b9, b10, b11, b12, b13, b14, b15, b16⟩ := bits2 _ (hlt k)
  refine kz ?_
  clear kz Gz
  refine wpAny_If (wpAny_isTrue_Compare1 (nmF S.F (R.sub (Str.ofString "cflags") _ rfl) (wpAny_BinOp (nmF S.F (R.sub (Str.ofString "_ANC_OF_1") _ rfl) (nmF S.F (R.sub (Str.ofString "_ANC_OF_2") _ rfl) (bOr fun t₁ tk₁ => P.eq_int (wpAny_truthy_bool ?_)))))))
  have e12 : Builtin.bitOr 1 2 = ((3 : Nat) : Int) := bOr_nat 1 (by decide) 2 (by decide)
  rw [e12]
  by_cases h3 : fl k &&& 7 = 3
  · have : (((fl k &&& 7 : Nat) : Int) == ((3 : Nat) : Int)) = true := by rw [h3]; rfl
    rw [this]
    simp only [if_true]
    have hcfl : cfl (fl k) = 7 := by unfold cfl; rw [if_pos h3]
    have tail : ∀ {h' : Heap} {tk' : Nat} {l' : List (Str × Value)} {kvs' : List (List UInt8 × Value)} {fl' : Nat → Nat} {cvs' : Array Value} {cands' : List Nat}, LS w mg mb h00 D st n h' l' kvs' fl' zs qs cvs' cands' →
        Rows l' ((Str.ofString "dt", .int (st k : Nat) td) :: rowsC D t1 t2 t8 t0 k tm (fl k &&& 7) tc) → fl' = (if fl k &&& 7 = 3 ∧ ¬ fl k &&& 8 = 8 then upd fl k (fl k ||| 8) else fl) → cands' = (if fl k &&& 7 = 3 ∧ ¬ fl k &&& 8 = 8 then cands ++ [k] else cands) →
        wpAny (model PP w) A (execs (match (whBody w).getD 4 default with | .If _ b _ _ => b.drop 1 | _ => []) (lEnv w D.L)) Q E ⟨h', g, d, tk', os⟩ := by
      rintro h' tk' l' kvs' fl' cvs' cands' S' R' rfl rfl
      refine wpAny_execs_cons (wpAny_Assign_Name (wpAny_BinOp (nmF S'.F (R'.sub (Str.ofString "cflags") _ rfl) ?_)))
      obtain ⟨tcell, hc⟩ := S'.cell
      refine nmCell hc (bOr fun t₂ tk₂ => stF S'.F fun h₃ tk₃ F₃ k₃ => ?_) (hcell _ _ hDc)
      refine wpAny_execs_nil ?_
      have e7 : Builtin.bitOr ((fl k &&& 7 : Nat) : Int) 4 = ((cfl (fl k) : Nat) : Int) := by rw [h3, hcfl]; exact bOr_nat 3 (by decide) 4 (by decide)
      rw [e7] at F₃
      exact hq _ _ _ _ _ t₂ (S'.store k₃ F₃) ⟨R'.2.1, rfl, R'.2.2.2⟩
    refine wpAny_execs_cons ?_
    refine wpAny_If (isTrue_not (wpAny_isTrue_Compare1 (wpAny_BinOp (Subscript_Name (nmF S.F (R.sub (Str.ofString "cstates") _ rfl) (nmF S.F (R.sub (Str.ofString "cmt") _ rfl) (itemDict hkey S.cst.mapOf hval ?_)))))))
    refine nmF S.F (R.sub (Str.ofString "_LCA") _ rfl) (bAnd fun t₂ tk₂ => nmF S.F (R.sub (Str.ofString "_LCA") _ rfl) (P.eq_int (wpAny_truthy_bool ?_)))
    have e8 : Builtin.bitAnd ((fl k : Nat) : Int) 8 = ((fl k &&& 8 : Nat) : Int) := bAnd_nat _ (hlt k) 8 (by decide)
    rw [e8]
    by_cases h8 : fl k &&& 8 = 8
    · have : (((fl k &&& 8 : Nat) : Int) == 8) = true := by rw [h8]; rfl
      rw [this]
      simp only [Bool.not_true, Bool.false_eq_true, if_false]
      refine wpAny_execs_nil ?_
      exact tail S R (by rw [if_neg (fun h => h.2 h8)]) (by rw [if_neg (fun h => h.2 h8)])
    · have : (((fl k &&& 8 : Nat) : Int) == 8) = false := by
        rw [beq_eq_false_iff_ne]; intro e; exact h8 (by exact_mod_cast e)
      rw [this]
      simp only [Bool.not_false, if_true]
      refine wpAny_execs_cons (wpAny_Assign_Subscript (wpAny_BinOp (Subscript_Name (nmF S.F (R.sub (Str.ofString "cstates") _ rfl) (nmF S.F (R.sub (Str.ofString "cmt") _ rfl) (itemDict hkey S.cst.mapOf hval ?_))))))
      refine nmF S.F (R.sub (Str.ofString "_LCA") _ rfl) (bOr fun t₃ tk₃ => nmF S.F (R.sub (Str.ofString "cstates") _ rfl) (nmF S.F (R.sub (Str.ofString "cmt") _ rfl) ?_))
      have e8' : Builtin.bitOr ((fl k : Nat) : Int) 8 = ((fl k ||| 8 : Nat) : Int) := bOr_nat _ (hlt k) 8 (by decide)
      rw [e8']
      refine wpAny_setItem_pairs hkey S.cst (fun h₄ c₄ sb₄ => ?_) (hsz_kvs S hn)
      have hne : fl k ||| 8 ≠ 0 := by intro e; rw [e] at b8; exact absurd b8 (by decide)
      have S₄ := S.flags (Kx.of_same sb₄) c₄ (S.fr.set hn hk _ hne t₃) (fun q hq => by
        by_cases e : q = k
        · subst e; rw [upd_self]; exact hne
        · rw [upd_ne _ _ e]; exact S.qf q hq)
      obtain ⟨m₄, hca⟩ := S₄.ca
      refine wpAny_execs_cons (wpAny_Expr (MethodCall_ (nmF S₄.F (R.sub (Str.ofString "cands") _ rfl) ?_)))
      refine getMethod_list_append hca rfl rfl ?_
      refine callWith_method1 (args_cons (Tuple_ (args_cons (nmF S₄.F (R.sub (Str.ofString "dt") _ rfl) (args_cons (nmF S₄.F (R.sub (Str.ofString "cmt") _ rfl) (args_nil ?_)))))))
      refine nTup fun h₅ k₅ t₅ => args_nil ?_
      have S₅ := S₄.no k₅
      have hca₅ := k₅.kp _ _ hca
      have hsz5 : cvs.size ≤ sizeLine := by rw [S.cr.1]; exact Nat.le_trans (Nat.le_of_lt hcl) (by decide)
      refine append_at hca₅ (fun h₆ sb₆ ho₆ => ?_) hsz5
      refine wpAny_execs_nil ?_
      have hpair : ∃ v, v = Value.ref h₄.objs.size ∧ PairAt h₆ v ((st k : Int), nmL' k) := ⟨_, rfl, _, _, _, rfl, (sb₆.2 _ (by
        intro e
        rw [← e] at hca₅
        have := hca₅.symm.trans t₅
        simp at this)).trans t₅⟩
      obtain ⟨v, ev, hpv⟩ := hpair
      have CR₆ : CR st n h₆ (cvs.push (.ref h₄.objs.size)) (cands ++ [k]) := by
        have c0 := S₅.cr.keep (Kx.of_same sb₆) fun b e vs t => by rw [e] at t; exact S₅.ldca.tup t
        refine ⟨by simp [c0.1], fun i j hij => ?_, fun j hj => ?_⟩
        · rw [List.getElem?_append] at hij
          split at hij
          · rename_i hi
            obtain ⟨v', e', pv⟩ := c0.2.1 i j hij
            exact ⟨v', by rw [Array.getElem?_push, if_neg (by rw [c0.1]; omega)]; exact e', pv⟩
          · rename_i hi
            have hi0 : i - cands.length = 0 := by
              cases hh : i - cands.length with
              | zero => rfl
              | succ m => rw [hh] at hij; simp at hij
            rw [hi0] at hij
            simp only [List.getElem?_cons_zero, Option.some.injEq] at hij
            subst hij
            exact ⟨v, by rw [ev, Array.getElem?_push, if_pos (by rw [c0.1]; omega)], hpv⟩
        · rcases List.mem_append.mp hj with hj | hj
          · exact c0.2.2 j hj
          · rw [List.mem_singleton.mp hj]; exact hk
      have S₆ := S₅.cand (Kx.of_same sb₆) ⟨_, ho₆⟩ CR₆
      exact tail S₆ R (by rw [if_pos ⟨h3, h8⟩]) (by rw [if_pos ⟨h3, h8⟩])
  · have : (((fl k &&& 7 : Nat) : Int) == ((3 : Nat) : Int)) = false := by
      rw [beq_eq_false_iff_ne]; intro e; exact h3 (by exact_mod_cast e)
    rw [this]
    simp only [Bool.false_eq_true, if_false]
    refine wpAny_execs_nil ?_
    refine hq h _ l kvs cvs tc ?_ ?_
    · rw [if_neg (fun h => h3 h.1), if_neg (fun h => h3 h.1)]; exact S
    · have : cfl (fl k) = fl k &&& 7 := by unfold cfl; rw [if_neg h3]
      rw [this]
      exact R.2
end Mine
end

section
open PySem PySem.W PyProof.Rows PySem.Spec PySem.Calls
set_option maxRecDepth 100000
set_option maxHeartbeats 4000000
namespace Mine
variable {w : World} {mg mb : Str → Option Value} {A : Around} {E : Value → Shared → Prop} {s : Shared} {env : Env} {h : Heap} {g : Array GenState} {d : Drawn} {tk : Nat} {os : OsState} {M : Model}

theorem QR.pop {st : Nat → Nat} {n : Nat} {zs zs' : Array KV} {qs : List Nat} {z : KV} (x : QR st n zs qs) (hz : zs[0]? = some z) (hp : (zs'.push z).Perm zs) :
    ∃ k ∈ qs, z.2 = key st k ∧ QR st n zs' (qs.erase k) := by
  have hzm : z ∈ zs.toList := by
    rw [Array.mem_toList_iff]
    exact Array.mem_of_getElem? hz
  have h1 : z.2 ∈ zs.toList.map (·.2) := List.mem_map.mpr ⟨z, hzm, rfl⟩
  obtain ⟨k, hk, e⟩ := List.mem_map.mp (x.1.mem_iff.mp h1)
  refine ⟨k, hk, e.symm, ?_, fun q hq => x.2 q (List.mem_of_mem_erase hq)⟩
  have h2 : ((zs'.push z).toList.map (·.2)).Perm (zs.toList.map (·.2)) := (Array.perm_iff_toList_perm.mp hp).map _
  rw [Array.toList_push, List.map_append, List.map_cons, List.map_nil] at h2
  have h3 : ((z.2 : Key) :: zs'.toList.map (·.2)).Perm (key st k :: (qs.erase k).map (key st)) := by
    refine (List.perm_append_singleton _ _).symm.trans (h2.trans (x.1.trans ?_))
    have := (List.perm_cons_erase hk).map (key st)
    rwa [List.map_cons] at this
  rw [← e] at h3
  exact h3.cons_inv

theorem QR.min {st : Nat → Nat} {n : Nat} {zs : Array KV} {qs : List Nat} {z : KV} {k : Nat} (x : QR st n zs qs) (hz : zs[0]? = some z) (hh : HeapP zLt zs) (e : z.2 = key st k) : ∀ q ∈ qs, pLt (key st q) (key st k) = false := by
  intro q hq
  have h1 : key st q ∈ zs.toList.map (·.2) := x.1.mem_iff.mpr (List.mem_map.mpr ⟨q, hq, rfl⟩)
  obtain ⟨y, hy, ey⟩ := List.mem_map.mp h1
  rw [Array.mem_toList_iff] at hy
  obtain ⟨i, hi, hy'⟩ := Array.getElem_of_mem hy
  have := heap_min ordZ hh hz i y (by rw [← hy']; simp [hi])
  unfold zLt at this
  rw [ey, e] at this
  exact this

/- one turn -/
theorem wh_turn {h00 : Heap} {D : Ad} {par : Nat → List Nat} {st : Nat → Nat} {n c1 c2 Mx : Nat} {l : List (Str × Value)} {kvs : List (List UInt8 × Value)} {fl : Nat → Nat} {zs : Array KV} {qs : List Nat} {cvs : Array Value} {cands : List Nat}
    {t1 t2 t8 t0 : Tok} {Q : Flow → Shared → Prop} (hr : Rm A 9) (LK : Lk w mg mb h00 D.lp D.ls par st n) (hn : n ≤ 10) (hDc : D.c = D.L + 1) (hpar : ∀ k, ∀ p ∈ par k, p < k) (hst : ∀ k, ∀ p ∈ par k, st p < st k) (hpl : ∀ k, (par k).length ≤ 10)
    (S : LS w mg mb h00 D st n h l kvs fl zs qs cvs cands) (R : Rows l (rowsB D t1 t2 t8 t0)) (I : Inv par st c1 c2 none [] qs fl cands)
    (hM : qs.length + pot n fl ≤ Mx) (hMx : Mx < 100) (hne : qs ≠ [])
    (hq : ∀ h' tk' l' kvs' fl' zs' qs' cvs' cands', LS w mg mb h00 D st n h' l' kvs' fl' zs' qs' cvs' cands' → Rows l' (rowsB D t1 t2 t8 t0) → Inv par st c1 c2 none [] qs' fl' cands' → qs'.length + pot n fl' + 1 ≤ qs.length + pot n fl → Q .next ⟨h', g, d, tk', os⟩) :
    wpAny (model PP w) A (execs (whBody w) (lEnv w D.L)) Q E ⟨h, g, d, tk, os⟩ := by
  have hcell : ∀ L c : Nat, c = L + 1 → (lEnv w L).cells.lookup (Str.ofString "_DNC") = some c := by rintro L c rfl; rfl
  have hzs : 0 < zs.size := by
    rw [S.qr.size]
    cases qs with
    | nil => exact absurd rfl hne
    | cons a r => simp
  refine wpAny_execs_cons (wpAny_Assign_Name (MethodCall_ (nmF S.F (R.sub (Str.ofString "wlst") _ rfl) ?_)))
  refine wl_meth (f := 70) S.K S.X (.inr (.inl rfl)) (callWith_K0 S.K.x (by kernel_rfl) ?_)
  refine wl_get S.K (hr.less (by decide)) S.X S.z S.hp hzs fun h₁ tk₁ zs₁ z t tt tn hz0 z₁ hp₁ pm k₁ ht₁ hdt => ?_
  refine hide fun Gz kz => ?_
  obtain ⟨k, hkq, ek, qr₁⟩ := S.qr.pop hz0 pm
  refine kz ?_
  clear kz Gz
  have hmin := S.qr.min hz0 S.hp ek
  have hk : k < n := S.qr.2 k hkq
  have hk0 : fl k ≠ 0 := S.qf k hkq
  have S₁ := S.queue (qs' := qs.erase k) k₁ z₁ hp₁ qr₁ fun q hq => S.qf q (List.mem_of_mem_erase hq)
  rw [ek] at ht₁
  have ht₁ : IsT h₁ t [.int (st k : Nat) tt, .bytes (nmL' k).toArray tn] := by
    have : -(key st k).1 = ((st k : Nat) : Int) := Int.neg_neg _
    rw [← this]; exact ht₁
  refine stF S₁.F fun h₂ tk₂ F₂ k₂ => ?_
  have S₂ := S₁.store k₂ F₂
  have ht₂ := S₁.F.tup ht₁ k₂
  refine wpAny_execs_cons (wpAny_If (wpAny_isTrue_Compare1 (nmF S₂.F rfl (Constant_none (is_ref_none (wpAny_truthy_bool ?_))))))
  simp only [Bool.false_eq_true, if_false]
  refine wpAny_execs_nil ?_
  refine wpAny_execs_cons (Assign_Tuple (nmF S₂.F rfl ?_))
  refine asg2 hr.1 ht₂ S₂.F fun h₃ tk₃ F₃ k₃ => ?_
  have S₃ := S₂.store k₃ F₃
  have hkey := key_is w k tn
  have hval : ∃ t, valueAt kvs (nmL' k) = some (.int (fl k : Nat) t) := by
    rcases S.fr.at_ k hk with ⟨h0, _⟩ | ⟨_, t, e⟩
    · exact absurd h0 hk0
    · exact ⟨t, e⟩
  obtain ⟨tv, hval⟩ := hval
  refine wpAny_execs_cons (wpAny_Assign_Name (wpAny_BinOp (Subscript_Name (nmF S₃.F (R.sub (Str.ofString "cstates") _ rfl) (nmF S₃.F rfl (itemDict hkey S₃.cst.mapOf hval ?_))))))
  obtain ⟨tcell, hc⟩ := S₃.cell
  refine wpAny_BinOp (wpAny_BinOp (nmF S₃.F (R.sub (Str.ofString "_ANC_OF_1") _ rfl) (nmF S₃.F (R.sub (Str.ofString "_ANC_OF_2") _ rfl) (bOr fun t₄ tk₄ => ?_))))
  refine nmCell hc (bOr fun t₅ tk₅ => bAnd fun t₆ tk₆ => ?_) (hcell _ _ hDc)
  have e7 : Builtin.bitAnd ((fl k : Nat) : Int) (Builtin.bitOr (Builtin.bitOr 1 2) 4) = ((fl k &&& 7 : Nat) : Int) := by
    have h1 : Builtin.bitOr 1 2 = ((3 : Nat) : Int) := bOr_nat 1 (by decide) 2 (by decide)
    have h2 : Builtin.bitOr ((3 : Nat) : Int) 4 = ((7 : Nat) : Int) := bOr_nat 3 (by decide) 4 (by decide)
    rw [h1, h2]
    exact bAnd_nat _ (I.lt k) 7 (by decide)
  rw [e7]
  refine stF S₃.F fun h₇ tk₇ F₇ k₇ => ?_
  have S₇ := S₃.store k₇ F₇
  have hqk : ∀ q, q ∈ qs ↔ q = k ∨ q ∈ qs.erase k := fun q => by
    have := (List.perm_cons_erase hkq).mem_iff (a := q)
    rw [this, List.mem_cons]
  have I₁ := I.pop hqk hmin
  have hlen : (qs.erase k).length + 1 = qs.length := by
    have := List.length_erase_of_mem hkq
    have := List.length_pos_of_mem hkq
    (first | lia | omega)
  have hcl : cands.length < 100 := by
    have := nodup_le cands (List.range n) I.nd fun x hx => List.mem_range.mpr (S.cr.2.2 x hx)
    rw [List.length_range] at this
    (first | lia | omega)
  refine wpAny_execs_cons ?_
  refine wh_if (k := k) (td := tt) (tm := tn) (tc := t₆) hn hDc hk hk0 I.lt hcl S₇ ⟨rfl, rfl, rfl, R⟩ fun h₈ tk₈ l₈ kvs₈ cvs₈ tc₈ S₈ R₈ => ?_
  have hkc : ∀ c ∈ (if fl k &&& 7 = 3 ∧ ¬ fl k &&& 8 = 8 then cands ++ [k] else cands), pLt (key st k) (key st c) = false := by
    intro c hc
    split at hc
    · rcases List.mem_append.mp hc with hc | hc
      · exact I.fr c hc k hkq
      · rw [List.mem_singleton.mp hc]; exact hmin k hkq
    · exact I.fr c hc k hkq
  have hpot : pot n (if fl k &&& 7 = 3 ∧ ¬ fl k &&& 8 = 8 then upd fl k (fl k ||| 8) else fl) = pot n fl := by
    split
    · unfold pot
      congr 1
      apply List.map_congr_left
      intro x _
      by_cases e : x = k
      · subst e; rw [upd_self]; exact (bits2 _ (I.lt x)).2.2.2.2.2.2.2.2.1
      · rw [upd_ne _ _ e]
    · rfl
  have hcf : cfl ((if fl k &&& 7 = 3 ∧ ¬ fl k &&& 8 = 8 then upd fl k (fl k ||| 8) else fl) k) = cfl (fl k) := by
    split
    · rw [upd_self]; exact (bits2 _ (I.lt k)).2.2.2.2.1
    · rfl
  generalize (if fl k &&& 7 = 3 ∧ ¬ fl k &&& 8 = 8 then upd fl k (fl k ||| 8) else fl) = fl₈ at *
  generalize (if fl k &&& 7 = 3 ∧ ¬ fl k &&& 8 = 8 then cands ++ [k] else cands) = cands₈ at *
  refine wpAny_execs_cons (wpAny_Try_except ?_)
  refine wpAny_execs_cons (wpAny_Assign_Name (Call_ (nmF S₈.F (R₈.sub (Str.ofString "lookup_parents") _ rfl) ?_)))
  refine callWith_F (fnAt_k LK.fp S₈.base LK.n87.1) (args_cons (nmF S₈.F (R₈.sub (Str.ofString "cmt") _ rfl) (args_nil ⟨fnAt_k LK.fp S₈.base LK.n87.1, ?_⟩)))
  refine LK.p (hr.less (by decide)) hk S₈.base S₈.K fun a vs m h₉ tk₉ ha hla hvs k₉ => ?_
  have S₉ := S₈.no k₉
  refine stF S₉.F fun h₁₀ tk₁₀ F₁₀ k₁₀ => ?_
  have S₁₀ := S₉.store k₁₀ F₁₀
  refine wpAny_execs_nil (wpAny_execs_nil ?_)
  have hla₁₀ : IsL h₁₀ a vs m := S₁₀.base a ha _ hla
  refine wpAny_execs_cons (wpAny_If (isTrue_plain (nmF S₁₀.F rfl ?_)))
  have hvl := hpl k
  refine wpAny_truthy_list hla₁₀.isList (by rw [hvs.1]; have : ((par k).length : Int) ≤ 10 := by exact_mod_cast hvl
                                            exact Int.lt_of_le_of_lt this (by decide)) ?_
  by_cases hemp : par k = []
  · have : (!vs.isEmpty) = false := by
      have : vs.size = 0 := by rw [hvs.1, hemp]; rfl
      simp [Array.isEmpty, this]
    rw [this]
    simp only [Bool.false_eq_true, if_false]
    refine wpAny_execs_nil (wpAny_execs_nil ?_)
    have I₂ : Inv par st c1 c2 (some k) (par k) (qs.erase k) fl₈ cands₈ := by rw [hemp]; exact I₁
    exact hq _ _ _ _ _ _ _ _ _ S₁₀ R₈.2.2 I₂.close (by (first | lia | omega))
  · have : (!vs.isEmpty) = true := by
      have : vs.size ≠ 0 := by rw [hvs.1]; exact fun e => hemp (List.eq_nil_of_length_eq_zero e)
      simp [Array.isEmpty, this]
    rw [this]
    simp only [if_true]
    refine wpAny_execs_cons ?_
    refine in_loop (hr.less (by decide)) LK hn hpar hst hk S₁₀ (tc := tc₈) ⟨rfl, by rw [hcf]; exact R₈.2⟩ I₁ hkc ha hla hvs (Mx := (qs.erase k).length + pot n fl₈) (Nat.le_refl _) (by (first | lia | omega)) fun h₁₁ tk₁₁ l₁₁ kvs₁₁ fl₁₁ zs₁₁ qs₁₁ S₁₁ R₁₁ I₁₁ hM₁₁ => ?_
    refine wpAny_execs_nil (wpAny_execs_nil ?_)
    exact hq _ _ _ _ _ _ _ _ _ S₁₁ R₁₁ I₁₁ (by (first | lia | omega))

noncomputable def whStmt (w : World) : Stmt := (bodyAt w 90).getD 11 default

/- the search's state -/
inductive WhS (w : World) (mg mb : Str → Option Value) (h00 : Heap) (D : Ad) (par : Nat → List Nat) (st : Nat → Nat) (n c1 c2 Mx : Nat) (t1 t2 t8 t0 : Tok) (d : Drawn) (os : OsState) (N : Nat) (s : Shared) : Prop
  | mk (l : List (Str × Value))
      (kvs : List (List UInt8 × Value))
      (fl : Nat → Nat)
      (zs : Array KV)
      (qs : List Nat)
      (cvs : Array Value)
      (cands : List Nat)
      (q1 : N = qs.length + pot n fl)
      (q2 : LS w mg mb h00 D st n s.heap l kvs fl zs qs cvs cands)
      (q3 : Rows l (rowsB D t1 t2 t8 t0))
      (q4 : Inv par st c1 c2 none [] qs fl cands)
      (q5 : N ≤ Mx)
      (q6 : AllB s.gens)
      (q7 : s.drawn = d)
      (q8 : s.os = os) : WhS w mg mb h00 D par st n c1 c2 Mx t1 t2 t8 t0 d os N s
/- the search -/
theorem wh_loop {h00 : Heap} {D : Ad} {par : Nat → List Nat} {st : Nat → Nat} {n c1 c2 Mx : Nat} {l : List (Str × Value)} {kvs : List (List UInt8 × Value)} {fl : Nat → Nat} {zs : Array KV} {qs : List Nat} {cvs : Array Value} {cands : List Nat}
    {t1 t2 t8 t0 : Tok} {Q : Flow → Shared → Prop} (hr : Rm A 11) (LK : Lk w mg mb h00 D.lp D.ls par st n) (hn : n ≤ 10) (hDc : D.c = D.L + 1) (hpar : ∀ k, ∀ p ∈ par k, p < k) (hst : ∀ k, ∀ p ∈ par k, st p < st k) (hpl : ∀ k, (par k).length ≤ 10)
    (S : LS w mg mb h00 D st n h l kvs fl zs qs cvs cands) (R : Rows l (rowsB D t1 t2 t8 t0)) (I : Inv par st c1 c2 none [] qs fl cands) (ab : AllB g)
    (hM : qs.length + pot n fl ≤ Mx) (hMx : Mx < 100)
    (hq : ∀ h' g' tk' l' kvs' fl' zs' qs' cvs' cands', LS w mg mb h00 D st n h' l' kvs' fl' zs' qs' cvs' cands' → Rows l' (rowsB D t1 t2 t8 t0) → Inv par st c1 c2 none [] qs' fl' cands' → AllB g' → (∀ q ∈ qs', fl' q &&& 4 = 4) → Q .next ⟨h', g', d, tk', os⟩) :
    wpAny (model PP w) A (exec (whStmt w) (lEnv w D.L)) Q E ⟨h, g, d, tk, os⟩ := by
  refine wpAny_While ?_
  refine codeAny_whileLoop (WhS w mg mb h00 D par st n c1 c2 Mx t1 t2 t8 t0 d os)
    ?_ (qs.length + pot n fl) ⟨l, kvs, fl, zs, qs, cvs, cands, rfl, S, R, I, hM, ab, rfl, rfl⟩
  rintro N ⟨h₂, g₂, d₂, tk₂, os₂⟩ xz
  refine hide fun Gz kz => ?_
  obtain ⟨l, kvs, fl, zs, qs, cvs, cands, rfl, S, R, I, hM, ab, e2, e3⟩ := xz
  refine kz ?_
  clear kz Gz
  have e2' : d₂ = d := e2
  have e3' : os₂ = os := e3
  subst e2' e3'
  refine hide fun Gz kz => ?_
  obtain ⟨name, qual, doc, pm, cv, ctv, hf, hcr⟩ := S.fn
  refine kz ?_
  clear kz Gz
  have hfn : FnAt D.fa h₂ := ⟨_, _, _, _, hf⟩
  obtain ⟨t4, hcell⟩ := S.cell
  refine isTrue_plain (Call_ (nmF S.F (R.sub (Str.ofString "_has_candidates") _ rfl) (callWith_F hfn (args_cons (nmF S.F (R.sub (Str.ofString "wlst") _ rfl) (args_cons (nmF S.F (R.sub (Str.ofString "cstates") _ rfl) (args_nil ⟨hfn, ?_⟩))))))))
  refine has_cands S.K (hr.less (by decide)) S.X S.z S.cst (S.fr.ok I.lt) S.big.2.1 hf rfl hcr hcell ab fun h₃ tk₃ g₃ k₃ ab₃ => ?_
  have S₃ := S.no k₃
  refine wpAny_truthy_bool ?_
  have hzq : ∀ z ∈ zs, ∃ q ∈ qs, z.2 = key st q := fun z hz => by
    have h1 : z.2 ∈ zs.toList.map (·.2) := List.mem_map.mpr ⟨z, Array.mem_toList_iff.mpr hz, rfl⟩
    obtain ⟨q, hq', e⟩ := List.mem_map.mp (S.qr.1.mem_iff.mp h1)
    exact ⟨q, hq', e.symm⟩
  cases hc : hasC (flOf kvs) zs with
  | true =>
    simp only [if_true]
    have hne : qs ≠ [] := by
      rintro rfl
      unfold hasC at hc
      rw [Array.any_eq_true] at hc
      obtain ⟨i, hi, _⟩ := hc
      have := S.qr.size
      rw [List.length_nil] at this
      (first | lia | omega)
    refine wh_turn (hr.less (by decide)) LK hn hDc hpar hst hpl S₃ R I (Mx := Mx) hM hMx hne fun h₄ tk₄ l₄ kvs₄ fl₄ zs₄ qs₄ cvs₄ cands₄ S₄ R₄ I₄ hM₄ => ?_
    exact ⟨qs₄.length + pot n fl₄, by (first | lia | omega), l₄, kvs₄, fl₄, zs₄, qs₄, cvs₄, cands₄, rfl, S₄, R₄, I₄, by (first | lia | omega), ab₃, rfl, rfl⟩
  | false =>
    simp only [Bool.false_eq_true, if_false]
    refine wpAny_execs_nil ?_
    refine hq _ _ _ _ _ _ _ _ _ _ S₃ R I ab₃ fun q hqq => ?_
    unfold hasC at hc
    rw [Array.any_eq_false] at hc
    have h1 : key st q ∈ zs.toList.map (·.2) := S.qr.1.mem_iff.mpr (List.mem_map.mpr ⟨q, hqq, rfl⟩)
    obtain ⟨z, hz, ez⟩ := List.mem_map.mp h1
    obtain ⟨i, hi, hzi⟩ := Array.getElem_of_mem (Array.mem_toList_iff.mp hz)
    have h2 := hc i hi
    rw [hzi] at h2
    unfold isC at h2
    have ez2 : z.2.2 = nmL' q := by
      have := congrArg Prod.snd ez
      exact this
    rw [ez2, S.fr.flOf (S.qr.2 q hqq) (S.qf q hqq)] at h2
    simpa using h2
end Mine
end

section
open PySem PySem.W PyProof.Rows PySem.Spec PySem.Calls
set_option maxRecDepth 100000
set_option maxHeartbeats 4000000
/-! the sort of a descending list is stable -/
namespace Mine
section
variable {prog : Program} {w : World} {A : Around} {E : Value → Shared → Prop} {s : Shared} {a₀ : Array Keyed} {T : Value → Value → Prop}

noncomputable def Dsc (T : Value → Value → Prop) (u v : Keyed) : Prop := numOf v.1 < numOf u.1 ∨ (numOf u.1 = numOf v.1 ∧ T v.2 u.2)
noncomputable def Asc (T : Value → Value → Prop) (u v : Keyed) : Prop := numOf u.1 < numOf v.1 ∨ (numOf u.1 = numOf v.1 ∧ T u.2 v.2)
noncomputable def PwD (T : Value → Value → Prop) (xs : Array Keyed) (k : Nat) : Prop := ∀ (i j : Nat) (u v : Keyed), i < j → j < k → xs[i]? = some u → xs[j]? = some v → Dsc T u v
noncomputable def PwA (T : Value → Value → Prop) (xs : Array Keyed) (k : Nat) : Prop := ∀ (i j : Nat) (u v : Keyed), i < j → j < k → xs[i]? = some u → xs[j]? = some v → Asc T u v
noncomputable def Ties (T : Value → Value → Prop) (xs : Array Keyed) : Prop := ∀ (i j : Nat) (u v : Keyed), i < j → xs[i]? = some u → xs[j]? = some v → numOf u.1 = numOf v.1 → T u.2 v.2

theorem K_of {xs : Array Keyed} {i : Nat} {u : Keyed} (h : xs[i]? = some u) : K xs i = numOf u.1 := by unfold K; rw [h]

/- the state in the descending walk -/
structure DW (T : Value → Value → Prop) (a₀ : Array Keyed) (st : SortSt) (x neq : Nat) : Prop where
  b : SBase a₀ st
  k : ∀ i, K (arrOf st) i = K a₀ i
  rest : ∀ i, x - (neq + 1) ≤ i → (arrOf st)[i]? = a₀[i]?
  le : neq + 1 ≤ x
  blk : ∀ i, x - (neq + 1) ≤ i → i < x → K a₀ i = K a₀ (x - 1)
  cut : ∀ i, i < x - (neq + 1) → K a₀ (x - 1) < K a₀ i
  pre : PwD T (arrOf st) (x - (neq + 1))

/- the block turned -/
theorem DW.turn {st : SortSt} {x neq : Nat} (D : DW T a₀ st x neq) (ht : Ties T a₀) (hx : x ≤ a₀.size) :
    PwD T (mirror (arrOf st) (x - (neq + 1)) x ((x - (x - (neq + 1))) / 2)) x ∧ (∀ i, x ≤ i → (mirror (arrOf st) (x - (neq + 1)) x ((x - (x - (neq + 1))) / 2))[i]? = a₀[i]?) ∧ (∀ i, K (mirror (arrOf st) (x - (neq + 1)) x ((x - (x - (neq + 1))) / 2)) i = K a₀ i) := by
  have hsz : x ≤ (arrOf st).size := by rw [D.b.size]; exact hx
  have hle := D.le
  have get := fun k => getElem?_mirror_all (i := x - (neq + 1)) (j := x) hsz k
  refine ⟨fun i j u v hij hj hu hv => ?_, fun i hi => ?_, fun i => ?_⟩
  · rw [get] at hu hv
    by_cases hjb : x - (neq + 1) ≤ j
    · rw [if_pos ⟨hjb, hj⟩, D.rest _ (by (first | lia | omega))] at hv
      by_cases hib : x - (neq + 1) ≤ i
      · rw [if_pos ⟨hib, by (first | lia | omega)⟩, D.rest _ (by (first | lia | omega))] at hu
        refine .inr ⟨?_, ht _ _ v u (by (first | lia | omega)) hv hu ?_⟩
        · rw [← K_of hu, ← K_of hv]; exact (D.blk _ (by (first | lia | omega)) (by (first | lia | omega))).trans (D.blk _ (by (first | lia | omega)) (by (first | lia | omega))).symm
        · rw [← K_of hu, ← K_of hv]; exact (D.blk _ (by (first | lia | omega)) (by (first | lia | omega))).trans (D.blk _ (by (first | lia | omega)) (by (first | lia | omega))).symm
      · rw [if_neg (by (first | lia | omega))] at hu
        refine .inl ?_
        rw [← K_of hu, ← K_of hv, D.k, D.blk _ (by (first | lia | omega)) (by (first | lia | omega))]
        exact D.cut i (by (first | lia | omega))
    · rw [if_neg (by (first | lia | omega))] at hv hu
      exact D.pre i j u v hij (by (first | lia | omega)) hu hv
  · rw [get, if_neg (by (first | lia | omega))]
    exact D.rest i (by (first | lia | omega))
  · rw [K_mirror_equal hsz (fun k h1 h2 => by rw [D.k, D.k, D.blk k h1 h2]), D.k]

theorem desc_loop {st : SortSt} {n : Nat} {Q : DescSt → SortSt → Prop} (h0 : IntKeys a₀) (hni : NonInc a₀ a₀.size) (ht : Ties T a₀) (hnn : n ≤ a₀.size) (D : DW T a₀ st n 0)
    (h : ∀ neq st', DW T a₀ st' a₀.size neq → Q (none, a₀.size, neq) st') :
    wpS (model prog w) A E s (descLoop n a₀.size) Q st := by
  unfold descLoop
  refine wpS_forRange (I := fun x c st' => ∃ neq, c = (none, x, neq) ∧ DW T a₀ st' x neq) ?step ?fin ⟨0, rfl, D⟩
  case fin =>
    rintro c st' ⟨neq, rfl, D'⟩
    rw [show max n a₀.size = a₀.size by (first | lia | omega)] at D' ⊢
    exact h neq st' D'
  case step =>
    rintro x c st' hax hxn ⟨neq, rfl, D'⟩
    dsimp only
    have hle := D'.le
    refine wpS_bind (wpS_ltK D'.b h0 (by (first | lia | omega)) (by (first | lia | omega)) ?_)
    rw [D'.k, D'.k]
    by_cases hless : K a₀ x < K a₀ (x - 1)
    · simp only [hless, decide_true, if_true]
      have cut : ∀ i, i < x → K a₀ x < K a₀ i := fun i hi => Int.lt_of_lt_of_le hless (hni i (x - 1) (by (first | lia | omega)) (by (first | lia | omega)))
      by_cases hneq : neq > 0
      · rw [if_pos hneq]
        obtain ⟨t1, t2, t3⟩ := D'.turn ht (by (first | lia | omega))
        refine wpS_bind (wpS_reverse (wpS_pure ⟨0, rfl, D'.b.setArr (mirror_perm _ _ _ _), t3, fun i hi => t2 i (by (first | lia | omega)), by (first | lia | omega), fun i h1 h2 => by congr 1; (first | lia | omega), fun i hi => ?_, ?_⟩))
        · rw [show x + 1 - 1 = x by (first | lia | omega)]; exact cut i (by (first | lia | omega))
        · rw [show x + 1 - (0 + 1) = x by (first | lia | omega)]; exact t1
      · rw [if_neg hneq]
        have hn0 : neq = 0 := by (first | lia | omega)
        subst hn0
        refine wpS_pure ⟨0, rfl, D'.b, D'.k, fun i hi => D'.rest i (by (first | lia | omega)), by (first | lia | omega), fun i h1 h2 => by congr 1; (first | lia | omega), fun i hi => ?_, ?_⟩
        · rw [show x + 1 - 1 = x by (first | lia | omega)]; exact cut i (by (first | lia | omega))
        · rw [show x + 1 - (0 + 1) = x by (first | lia | omega)]
          intro i j u v hij hj hu hv
          by_cases hjx : j < x - 1
          · exact D'.pre i j u v hij (by (first | lia | omega)) hu hv
          · refine .inl ?_
            have hjx' : j = x - 1 := by (first | lia | omega)
            rw [← K_of hu, ← K_of hv, D'.k, D'.k, hjx']
            exact D'.cut i (by (first | lia | omega))
    · simp only [hless, decide_false, Bool.false_eq_true, if_false]
      refine wpS_bind (wpS_ltK D'.b h0 (by (first | lia | omega)) (by (first | lia | omega)) ?_)
      rw [D'.k, D'.k]
      have hge : K a₀ x ≤ K a₀ (x - 1) := hni (x - 1) x (by (first | lia | omega)) hxn
      have hnl : ¬ K a₀ (x - 1) < K a₀ x := by (first | lia | omega)
      simp only [hnl, decide_false, Bool.false_eq_true, if_false]
      have heq : K a₀ x = K a₀ (x - 1) := by (first | lia | omega)
      refine wpS_pure ⟨neq + 1, rfl, D'.b, D'.k, fun i hi => D'.rest i (by (first | lia | omega)), by (first | lia | omega), fun i h1 h2 => ?_, fun i hi => ?_, ?_⟩
      · rw [show x + 1 - 1 = x by (first | lia | omega)]
        by_cases e : i = x
        · rw [e]
        · rw [D'.blk i (by (first | lia | omega)) (by (first | lia | omega)), heq]
      · rw [show x + 1 - 1 = x by (first | lia | omega), heq]
        exact D'.cut i (by (first | lia | omega))
      · rw [show x + 1 - (neq + 1 + 1) = x - (neq + 1) by (first | lia | omega)]
        exact D'.pre

theorem desc_tail {st : SortSt} {Q : Option Nat → SortSt → Prop} (h0 : IntKeys a₀) (h1 : 1 ≤ a₀.size) (hB : SBase a₀ st) (hp : PwD T (arrOf st) a₀.size) (hn : NonInc (arrOf st) a₀.size)
    (h : ∀ st', SBase a₀ st' → PwA T (arrOf st') a₀.size → SortedTo (arrOf st') a₀.size → Q (some a₀.size) st') :
    wpS (model prog w) A E s (tail3 a₀.size a₀.size) Q st := by
  unfold tail3
  have hsz : a₀.size ≤ (arrOf st).size := by rw [hB.size]; exact Nat.le_refl _
  refine wpS_bind (wpS_reverse ?_)
  have hB' : SBase a₀ (setArr st (mirror (arrOf st) 0 a₀.size ((a₀.size - 0) / 2))) := hB.setArr (mirror_perm _ _ _ _)
  have hso : SortedTo (mirror (arrOf st) 0 a₀.size ((a₀.size - 0) / 2)) a₀.size := by
    intro i j hij hj
    rw [K_mirror hsz, K_mirror hsz, if_pos (by (first | lia | omega)), if_pos (by (first | lia | omega))]
    exact hn _ _ (by (first | lia | omega)) (by (first | lia | omega))
  refine wpS_bind (wpS_ascLoop h0 (Nat.le_refl _) h1 (Nat.le_refl _) hB' hso fun m hm1 hm2 hsm _ => ?_)
  have hm : m = a₀.size := by (first | lia | omega)
  subst hm
  refine wpS_pure (h _ hB' ?_ hso)
  intro i j u v hij hj hu hv
  have hu : (mirror (arrOf st) 0 a₀.size ((a₀.size - 0) / 2))[i]? = some u := hu
  have hv : (mirror (arrOf st) 0 a₀.size ((a₀.size - 0) / 2))[j]? = some v := hv
  rw [getElem?_mirror_all hsz, if_pos (by (first | lia | omega))] at hu hv
  rcases hp _ _ v u (by (first | lia | omega)) (by (first | lia | omega)) hv hu with q | ⟨q1, q2⟩
  · exact .inl q
  · exact .inr ⟨q1.symm, q2⟩

theorem NonInc_of {xs : Array Keyed} (hk : ∀ i, K xs i = K a₀ i) (h : NonInc a₀ a₀.size) : NonInc xs a₀.size := fun i j hij hj => by rw [hk, hk]; exact h i j hij hj

theorem desc_part {st : SortSt} {n : Nat} {Q : Option Nat → SortSt → Prop} (h0 : IntKeys a₀) (hni : NonInc a₀ a₀.size) (ht : Ties T a₀) (hnn : n + 1 ≤ a₀.size) (D : DW T a₀ st (n + 1) 0)
    (h : ∀ st', SBase a₀ st' → PwA T (arrOf st') a₀.size → SortedTo (arrOf st') a₀.size → Q (some a₀.size) st') :
    wpS (model prog w) A E s (descPart n a₀.size) Q st := by
  unfold descPart
  refine wpS_bind (wpS_lift (wpAny_rule ⟨rfl, ?_⟩))
  refine wpS_bind (desc_loop h0 hni ht hnn D fun neq st' D' => ?_)
  dsimp only
  obtain ⟨t1, t2, t3⟩ := D'.turn ht (Nat.le_refl _)
  by_cases hneq : neq > 0
  · rw [if_pos hneq]
    refine wpS_bind (wpS_reverse (desc_tail h0 (by (first | lia | omega)) (D'.b.setArr (mirror_perm _ _ _ _)) t1 (NonInc_of t3 hni) h))
  · rw [if_neg hneq]
    have hn0 : neq = 0 := by (first | lia | omega)
    subst hn0
    have : mirror (arrOf st') (a₀.size - (0 + 1)) a₀.size ((a₀.size - (a₀.size - (0 + 1))) / 2) = arrOf st' := by
      have : (a₀.size - (a₀.size - (0 + 1))) / 2 = 0 := by (first | lia | omega)
      rw [this]; rfl
    rw [this] at t1
    exact desc_tail h0 (by (first | lia | omega)) D'.b t1 (NonInc_of D'.k hni) h

theorem desc_count {st : SortSt} {Q : Option Nat → SortSt → Prop} (h0 : IntKeys a₀) (hni : NonInc a₀ a₀.size) (ht : Ties T a₀) (h1 : 1 ≤ a₀.size) (hB : SBase a₀ st) (he : arrOf st = a₀)
    (h : ∀ st', SBase a₀ st' → PwA T (arrOf st') a₀.size → SortedTo (arrOf st') a₀.size → Q (some a₀.size) st') :
    wpS (model prog w) A E s (countRun' 0 a₀.size) Q st := by
  rw [countRun0_eq]
  have hs1 : SortedTo (arrOf st) 1 := fun i j hij hj => by
    have : i = j := by (first | lia | omega)
    subst this
    exact Int.le_refl _
  refine wpS_bind (wpS_ascLoop h0 (Nat.le_refl _) (Nat.le_refl 1) h1 hB hs1 fun n hn1 hn2 hsn hor => ?_)
  dsimp only
  have hall : ∀ k, k < n → K a₀ k = K a₀ (n - 1) := by
    intro k hk
    have a2 := hsn k (n - 1) (by (first | lia | omega)) (by (first | lia | omega))
    rw [he] at a2
    have a3 := hni k (n - 1) (by (first | lia | omega)) (by (first | lia | omega))
    (first | lia | omega)
  by_cases hnn : n = a₀.size
  · rw [if_pos (by simpa using hnn)]
    subst hnn
    refine wpS_pure (h st hB ?_ hsn)
    intro i j u v hij hj hu hv
    rw [he] at hu hv
    have e : numOf u.1 = numOf v.1 := by rw [← K_of hu, ← K_of hv, hall i (by (first | lia | omega)), hall j hj]
    exact .inr ⟨e, ht i j u v hij hu hv e⟩
  · rw [if_neg (by simpa using hnn)]
    have hlt : K a₀ n < K a₀ (n - 1) := by
      have := hor.resolve_left hnn
      rwa [he] at this
    by_cases hgt : n > 1
    · rw [if_pos hgt]
      refine wpS_bind (wpS_ltK hB h0 (by (first | lia | omega)) (by (first | lia | omega)) ?_)
      rw [he]
      have hrose : ¬ K a₀ 0 < K a₀ (n - 1) := by rw [hall 0 (by (first | lia | omega))]; exact Int.lt_irrefl _
      simp only [hrose, decide_false, Bool.false_eq_true, if_false]
      have D0 : DW T a₀ st n (n - 1) := ⟨hB, fun i => by rw [he], fun i _ => by rw [he], by (first | lia | omega), fun i _ hi => hall i hi, fun i hi => by (first | lia | omega), fun i j u v hij hj => by (first | lia | omega)⟩
      obtain ⟨t1, t2, t3⟩ := D0.turn ht hn2
      rw [show n - (n - 1 + 1) = 0 by (first | lia | omega)] at t1 t2 t3
      refine wpS_bind (wpS_reverse (desc_part h0 hni ht (by (first | lia | omega)) ⟨hB.setArr (mirror_perm _ _ _ _), t3, fun i hi => t2 i (by (first | lia | omega)), by (first | lia | omega), fun i h1 h2 => by congr 1; (first | lia | omega), fun i hi => ?_, ?_⟩ h))
      · rw [show n + 1 - 1 = n by (first | lia | omega)]
        rw [hall i (by (first | lia | omega))]
        exact hlt
      · rw [show n + 1 - (0 + 1) = n by (first | lia | omega)]
        exact t1
    · rw [if_neg hgt]
      have hn1' : n = 1 := by (first | lia | omega)
      subst hn1'
      refine desc_part h0 hni ht (by (first | lia | omega)) ⟨hB, fun i => by rw [he], fun i _ => by rw [he], by (first | lia | omega), fun i h1 h2 => by congr 1; (first | lia | omega), fun i hi => ?_, fun i j u v hij hj => by (first | lia | omega)⟩ h
      have : i = 0 := by (first | lia | omega)
      subst this
      exact hlt

theorem desc_sort {st : SortSt} {Q : Unit → SortSt → Prop} (h0 : IntKeys a₀) (hni : NonInc a₀ a₀.size) (ht : Ties T a₀) (hB : SBase a₀ st) (he : arrOf st = a₀) (h2 : 2 ≤ a₀.size) (h64 : a₀.size < 64)
    (h : ∀ st', (arrOf st').Perm a₀ → failedOf st' = none → PwA T (arrOf st') a₀.size → Q () st') : wpS (model prog w) A E s sortRuns' Q st := by
  rw [sortRuns'_eq]
  refine wpS_bind (wpS_get ?_)
  dsimp only
  have hmr : minRun' a₀.size a₀.size 0 = a₀.size := by
    obtain ⟨f, hf⟩ : ∃ f, a₀.size = f + 1 := ⟨a₀.size - 1, by (first | lia | omega)⟩
    have : minRun' (f + 1) a₀.size 0 = a₀.size := by rw [minRun'_succ, if_pos h64]; rfl
    rwa [← hf] at this
  simp only [hB.size, hmr]
  refine wpS_bind (wpS_mono (wpS_forRange
    (I := fun x c st' => (x = 0 ∧ c = (none, 0) ∧ st' = st) ∨ (1 ≤ x ∧ c = (none, a₀.size) ∧ SDone a₀ st' ∧ PwA T (arrOf st') a₀.size))
    (Q := fun c st' => c = (none, a₀.size) ∧ SDone a₀ st' ∧ PwA T (arrOf st') a₀.size) ?step ?fin (.inl ⟨rfl, rfl, rfl⟩)) ?post)
  case fin =>
    rintro c st' (⟨hx, _, _⟩ | ⟨_, hc, hD⟩)
    · (first | lia | omega)
    · exact ⟨hc, hD⟩
  case step =>
    rintro x c st' _ hx (⟨rfl, rfl, rfl⟩ | ⟨hx1, rfl, hD⟩)
    · dsimp only
      rw [if_neg (by (first | lia | omega))]
      simp only [Nat.sub_zero, Nat.min_self, Nat.zero_add]
      refine wpS_bind (desc_count h0 hni ht (by (first | lia | omega)) hB he fun st2 hB2 hp2 hs2 => ?_)
      dsimp only
      rw [if_neg (Nat.lt_irrefl _)]
      refine wpS_bind (wpS_get ?_)
      have hb : (pendingOf st2).back? = none := by rw [hB2.pend]; rfl
      rw [hb]
      dsimp only
      exact wpS_bind (wpS_modify (wpS_pure (.inr ⟨by (first | lia | omega), rfl, hB2.done hs2, hp2⟩)))
    · dsimp only
      rw [if_pos (Nat.le_refl _)]
      exact wpS_pure ⟨rfl, hD⟩
  case post =>
    rintro c st' ⟨rfl, hD, hp⟩
    dsimp only
    refine wpS_bind (wpS_mono (wpS_forRange (I := fun _ c st'' => st'' = st' ∧ c = (none, ())) (Q := fun c st'' => st'' = st' ∧ c = (none, ())) ?_ (fun _ _ hh => hh) ⟨rfl, rfl⟩) ?_)
    · rintro x c st'' _ _ ⟨rfl, rfl⟩
      refine wpS_bind (wpS_get ?_)
      rw [if_pos (by rw [hD.2.2.1]; exact Nat.le_refl 1)]
      exact wpS_pure ⟨rfl, rfl⟩
    · rintro c st'' ⟨rfl, rfl⟩
      exact wpS_pure (h _ hD.1 hD.2.1 hp)
end
end Mine
end

section
open PySem PySem.W PyProof.Rows PySem.Spec PySem.Calls
set_option maxRecDepth 100000
set_option maxHeartbeats 4000000
namespace Mine
variable {prog : Program} {w : World} {A : Around} {E : Value → Shared → Prop} {s : Shared} {T : Value → Value → Prop} {h : Heap} {g : Array GenState} {d : Drawn} {tk : Nat} {os : OsState}

/- what the sort leaves -/
noncomputable def Sorted_ (T : Value → Value → Prop) (kz : List Int) (vs out : List Value) : Prop :=
  ∃ ps : List (Int × Value), ps.Perm (kz.zip vs) ∧ out = ps.map (·.2) ∧ ps.Pairwise fun x y => x.1 < y.1 ∨ (x.1 = y.1 ∧ T x.2 y.2)

theorem sorted_of {keys : Array Value} {vs : List Value} {kz : List Int} (hk : IntsAre keys.toList kz) {xs : Array Keyed} (hp : xs.Perm (keys.zip vs.toArray)) (hs : PwA T xs xs.size) :
    Sorted_ T kz vs (xs.map (·.2)).toList := by
  have hl : xs.toList.Perm (keys.toList.zip vs) := by rw [← ksk_zip]; exact Array.perm_iff_toList_perm.mp hp
  refine ⟨xs.toList.map (fun p : Keyed => (numOf p.1, p.2)), ?_, ?_, ?_⟩
  · have e2 : (keys.toList.zip vs).map (fun p : Keyed => (numOf p.1, p.2)) = kz.zip vs := by
      rw [← hk.nums, List.zip_map_left]
      exact List.map_congr_left fun ⟨x, y⟩ _ => rfl
    rw [← e2]
    exact hl.map _
  · rw [Array.toList_map, List.map_map]
    rfl
  · rw [List.pairwise_iff_getElem]
    intro i j hi hj hij
    have hi' : i < xs.size := by simpa using hi
    have hj' : j < xs.size := by simpa using hj
    have := hs i j xs[i] xs[j] hij hj' (by simp [hi']) (by simp [hj'])
    simpa [Asc] using this

theorem sort_key {a q n : Nat} {vs : List Value} {kz : List Int} {Q : Value → Shared → Prop} (hl : IsL h a vs.toArray n) (hlen : kz.length = vs.length) (h64 : vs.length < 64)
    (hdesc : ∀ (i j : Nat) (x y : Int), i ≤ j → kz[i]? = some x → kz[j]? = some y → y ≤ x)
    (hties : ∀ (i j : Nat) (x : Int) (u v : Value), i < j → kz[i]? = some x → kz[j]? = some x → vs[i]? = some u → vs[j]? = some v → T u v)
    (turn : ∀ (i : Nat) (v : Value) (k : Int) (h₁ : Heap) (tk₁ : Nat) (Q' : Value → Shared → Prop), vs[i]? = some v → kz[i]? = some k → Kx (· = a) h h₁ → (∀ h₂ tk₂ t, Kx none_ h₁ h₂ → Q' (.int k t) ⟨h₂, g, d, tk₂, os⟩) →
      wpAny (model prog w) A.in1 (call (.ref q) [v]) Q' (fun _ _ => False) ⟨h₁, g, d, tk₁, os⟩)
    (hq : ∀ h' tk' out m, IsL h' a out m → Sorted_ T kz vs out.toList → Kx (· = a) h h' → Q .none ⟨h', g, d, tk', os⟩) :
    wpAny (model prog w) A (call (.builtin "list.sort") [.ref a] [(Str.ofString "key", .ref q)]) Q E ⟨h, g, d, tk, os⟩ := by
  refine wpAny_call_entry_kw slot_list_sort ⟨_, hl, rfl⟩ entry_list_sort ?_ (ksk_l1 _ _)
  rw [ksk_t1]
  have s1 := Heap.SameBut.update h a (Obj.mapSeq fun _ => (#[] : Array Value))
  obtain ⟨e1, ho1⟩ : ∃ e1, (h.update a (Obj.mapSeq fun _ => (#[] : Array Value))).get? a = some (seqObj "list" #[] e1) := ⟨_, get?_update_seq hl fun _ => #[]⟩
  have k1 := Kx.of_same s1
  unfold ksk_tree
  refine wpAny_bind (listItems_at hl rfl ?_)
  refine wpAny_bind (listUpdate_at hl rfl ?_ (by rw [List.size_toArray, sizeLine_eq]; (first | lia | omega)) (Nat.zero_le _))
  generalize (h.update a (Obj.mapSeq fun _ => (#[] : Array Value))) = h1 at *
  refine wpAny_bind (seqEpoch_at ho1 rfl ?_)
  refine wpAny_bind (nTup (fun h2 k2 t2 => ?_) (by show vs.length ≤ _; rw [sizeLine_eq]; (first | lia | omega)))
  refine wpAny_bind (nList (fun h3 k3 l3 => ?_) (Nat.zero_le _))
  have k03 : Kx (· = a) h h3 := (k1.tn k2).tn k3
  have kSd : h.get? h2.objs.size = none := (k1.tn k2).dead (dead_size h2) (fun e => ne_dead (dead_size h2) ((k2.kp) _ _ ho1) e.symm)
  have hka : h2.objs.size ≠ a := (ne_dead kSd hl).symm
  have ha3 : h3.get? a = some (seqObj "list" #[] e1) := k3.kp _ _ (k2.kp _ _ ho1)
  generalize h2.objs.size = kS at *
  refine wpAny_holding ?_
  unfold ksk_rest
  refine wpAny_bind (wpAny_rule ?_)
  first
    | rw [List.forIn_toArray]
    | (rw [← Array.forIn_toList]; simp only [List.toList_toArray])
    | rw [← Array.forIn_toList]
  refine wpAny_bind (ksk_fold (fun i s' => ∃ h' tk kA e, s' = ⟨h', g, d, tk, os⟩ ∧ Kx (· = a) h h' ∧ IsL h' kS kA e ∧ h'.get? a = some (seqObj "list" #[] e1) ∧ IntsAre kA.toList (kz.take i)) vs 0 _
    ⟨h3, _, #[], 0, rfl, k03, l3, ha3, by simpa using IntsAre.nil⟩ ?step ?done)
  case step =>
    rintro j x s' hx xz
    refine hide fun Gz kz => ?_
    obtain ⟨h', tk', kA, e, rfl, kh, lk, la, hk⟩ := xz
    refine kz ?_
    clear kz Gz
    simp only [Nat.zero_add] at hk ⊢
    have hj : j < vs.length := (List.getElem?_eq_some_iff.mp hx).1
    obtain ⟨k, hkj⟩ : ∃ k, kz[j]? = some k := ⟨_, List.getElem?_eq_getElem (by (first | lia | omega))⟩
    have hz : kA.size ≤ vs.length := by
      have h1 := hk.length
      rw [Array.length_toList, List.length_take] at h1
      (first | lia | omega)
    refine wpAny_bind (wpAny_attempt ?_)
    refine wpAny_mono (turn j x k h' tk' (fun v s'' => ∃ h₂ tk₂ t, v = .int k t ∧ s'' = ⟨h₂, g, d, tk₂, os⟩ ∧ Kx none_ h' h₂) hx hkj kh fun h₂ tk₂ t k₂ => ⟨h₂, tk₂, t, rfl, rfl, k₂⟩) (fun v s'' he => ?_) fun _ _ hF => hF.elim
    refine hide fun Gz kz => ?_
    obtain ⟨h₂, tk₂, t2, rfl, rfl, k₂⟩ := he
    refine kz ?_
    clear kz Gz
    try dsimp only
    have lk₂ : h₂.get? kS = some (seqObj "list" kA e) := k₂.kp _ _ lk
    have s1 := Heap.SameBut.update h₂ kS (Obj.mapSeq (·.push (.int k t2)))
    obtain ⟨c2, hc2⟩ : ∃ c2, (h₂.update kS (Obj.mapSeq (·.push (.int k t2)))).get? kS = some (seqObj "list" (kA.push (.int k t2)) c2) := ⟨_, get?_update_seq lk₂ (·.push (.int k t2))⟩
    have ek : kz.take (j + 1) = kz.take j ++ [k] := by rw [List.take_add_one, hkj]; simp
    have ea : (kA.push (Value.int k t2)).toList = kA.toList ++ [Value.int k t2] := by simp
    refine wpAny_bind (listUpdate_at lk₂ rfl ?_ (by rw [sizeLine_eq]; (first | lia | omega)) (Nat.le_trans (Nat.le_of_eq (Array.size_push ..)) (by rw [sizeLine_eq]; (first | lia | omega))))
    refine wpAny_pure ⟨rfl, _, _, kA.push (.int k t2), c2, rfl, (kh.tn k₂).t1 (Kx.of_same s1) kSd, hc2, (s1.2 a hka.symm).trans (k₂.kp _ _ la), by rw [ea, ek]; exact ksk_snoc hk⟩
  case done =>
    rintro s' xz
    refine hide fun Gz kz => ?_
    obtain ⟨h', tk', kA, e, rfl, kh, lk, la, hk⟩ := xz
    refine kz ?_
    clear kz Gz
    have hk' : IntsAre kA.toList kz := by
      have e3 : kz.take (0 + vs.length) = kz := List.take_of_length_le (by (first | lia | omega))
      rw [e3] at hk
      exact hk
    try dsimp only
    refine wpAny_bind (listItems_at lk rfl ?_)
    have hsz : kA.size = vs.length := by
      have h1 := hk'.length
      rw [Array.length_toList] at h1
      (first | lia | omega)
    have hzs : (kA.zip vs.toArray).size = vs.length := by rw [Array.size_zip, hsz, List.size_toArray, Nat.min_self]
    have tail : ∀ st : SortSt, (arrOf st).Perm (kA.zip vs.toArray) → failedOf st = none → PwA T (arrOf st) (arrOf st).size →
        wpAny (model prog w) A.in1 (ksk_tail a false e1 (.ref kS) st) (fun fin s' => ∃ v, fin = .done (.ret v) ∧ Q v s') E ⟨h', g, d, tk', os⟩ := by
      intro st hp hfl hs
      have hsz2 : (arrOf st).size = vs.length := by rw [hp.size_eq, hzs]
      have s1 := Heap.SameBut.update h' kS (Obj.mapSeq fun _ => (#[] : Array Value))
      have na1 : (h'.update kS (Obj.mapSeq fun _ => (#[] : Array Value))).get? a = some (seqObj "list" #[] e1) := (s1.2 a hka.symm).trans la
      have s2 := Heap.SameBut.update (h'.update kS (Obj.mapSeq fun _ => (#[] : Array Value))) a (Obj.mapSeq fun _ => (arrOf st).map (·.2))
      obtain ⟨c2, hc2⟩ : ∃ c2, ((h'.update kS (Obj.mapSeq fun _ => (#[] : Array Value))).update a (Obj.mapSeq fun _ => (arrOf st).map (·.2))).get? a = some (seqObj "list" ((arrOf st).map (·.2)) c2) :=
        ⟨_, get?_update_seq na1 fun _ => (arrOf st).map (·.2)⟩
      unfold ksk_tail
      try dsimp only
      refine wpAny_bind (listUpdate_at lk rfl ?_ (by rw [hsz, sizeLine_eq]; (first | lia | omega)) (Nat.zero_le _))
      refine wpAny_bind (wpAny_letGo ?_)
      refine wpAny_bind (seqEpoch_at na1 rfl ?_)
      simp only [Bool.false_eq_true, if_false]
      refine wpAny_bind (listUpdate_at na1 rfl ?_ (Nat.zero_le _) (Nat.le_trans (Nat.le_of_eq ((Array.size_map ..).trans hsz2)) (by rw [sizeLine_eq]; (first | lia | omega))))
      rw [hfl]
      simp only [bne_self_eq_false, Bool.false_eq_true, if_false]
      refine wpAny_pure ⟨.none, rfl, hq _ _ _ _ hc2 (sorted_of hk' hp hs) ?_⟩
      exact (kh.t1 (Kx.of_same s1) kSd).tr (Kx.of_same s2)
    unfold ksk_end
    try dsimp only
    simp only [Bool.false_eq_true, if_false]
    by_cases h2 : vs.toArray.size < 2
    · rw [if_pos h2, if_pos h2]
      refine wpAny_bind (wpAny_pure ?_)
      rw [StateT.run_pure]
      refine wpAny_bind (wpAny_pure ?_)
      try dsimp only
      refine tail (SortSt.mk' general' (kA.zip vs.toArray) #[] 7 none) (Array.Perm.refl _) rfl ?_
      intro i j u v hij hj
      have hj2 : j < (kA.zip vs.toArray).size := hj
      rw [hzs] at hj2
      rw [List.size_toArray] at h2
      (first | lia | omega)
    · rw [if_neg h2, if_neg h2]
      rw [List.size_toArray] at h2
      rw [ksk_kind hk' (by rw [hsz]; (first | lia | omega))]
      refine wpAny_bind (wpAny_pure ?_)
      have hget : ∀ (i : Nat) (u : Keyed), (kA.zip vs.toArray)[i]? = some u → ∃ k, kz[i]? = some k ∧ numOf u.1 = k ∧ vs[i]? = some u.2 := by
        intro i u hu
        have hi : i < (kA.zip vs.toArray).size := (Array.getElem?_eq_some_iff.mp hu).1
        rw [hzs] at hi
        rw [Array.getElem?_eq_getElem (by rw [hzs]; exact hi), Array.getElem_zip] at hu
        simp only [Option.some.injEq] at hu
        subst hu
        obtain ⟨t, ht⟩ := hk'.get i (kz[i]'(by (first | lia | omega))) (List.getElem?_eq_getElem (by (first | lia | omega)))
        refine ⟨kz[i]'(by (first | lia | omega)), List.getElem?_eq_getElem (by (first | lia | omega)), ?_, by simp [hi]⟩
        have : kA[i]? = some (Value.int (kz[i]'(by (first | lia | omega))) t) := by rw [← Array.getElem?_toList]; exact ht
        rw [Array.getElem?_eq_getElem (by (first | lia | omega))] at this
        simp only [Option.some.injEq] at this
        simp only
        rw [this]
        rfl
      refine wpAny_bind (wpAny_mono (desc_sort (T := T) (a₀ := kA.zip vs.toArray) (st := SortSt.mk' oneType' (kA.zip vs.toArray) #[] 7 none)
        (Q := fun _ st' => (arrOf st').Perm (kA.zip vs.toArray) ∧ failedOf st' = none ∧ PwA T (arrOf st') (kA.zip vs.toArray).size)
        (ksk_intKeys hk') ?_ ?_ ⟨Array.Perm.refl _, rfl, rfl, rfl⟩ rfl (by rw [hzs]; (first | lia | omega)) (by rw [hzs]; exact h64) fun st' a1 a2 a3 => ⟨a1, a2, a3⟩) ?_ fun _ _ e => e)
      · intro i j hij hj
        have hi : i < (kA.zip vs.toArray).size := by (first | lia | omega)
        refine hide fun Gz kz => ?_
        obtain ⟨x, hx, ex, _⟩ := hget i _ (Array.getElem?_eq_getElem hi)
        obtain ⟨y, hy, ey, _⟩ := hget j _ (Array.getElem?_eq_getElem hj)
        refine kz ?_
        clear kz Gz
        rw [K_of (Array.getElem?_eq_getElem hi), K_of (Array.getElem?_eq_getElem hj), ex, ey]
        exact hdesc i j x y hij hx hy
      · intro i j u v hij hu hv e
        obtain ⟨x, hx, ex, hu'⟩ := hget i u hu
        obtain ⟨y, hy, ey, hv'⟩ := hget j v hv
        rw [ex, ey] at e
        subst e
        exact hties i j x _ _ hij hx hy hu' hv'
      · rintro ⟨⟨⟩, st'⟩ s' xz
        refine hide fun Gz kz => ?_
        obtain ⟨rfl, hp, hf, hs⟩ := xz
        refine kz ?_
        clear kz Gz
        try dsimp only
        exact tail st' hp hf (by rw [hp.size_eq]; exact hs)
end Mine
end

section
open PySem PySem.W PyProof.Rows PySem.Spec PySem.Calls
set_option maxRecDepth 100000
set_option maxHeartbeats 4000000
namespace Mine
section
variable {w : World} {mg mb : Str → Option Value} {h h' : Heap} {h00 : Heap} {D : Ad} {st : Nat → Nat} {n : Nat} {l l' : List (Str × Value)} {kvs kvs' : List (List UInt8 × Value)} {fl fl' : Nat → Nat} {zs zs' : Array KV} {qs qs' : List Nat} {cvs cvs' : Array Value} {cands cands' : List Nat}
theorem LS.other (S : LS w mg mb h00 D st n h l kvs fl zs qs cvs cands) {a : Nat} (k : Kx (· = a) h h') (hd : h00.get? a = none) (hb : 138 < a) (hl : LD h a) (n1 : D.L ≠ a) (n2 : D.dx ≠ a) (n3 : D.p ≠ a) (n4 : D.cs ≠ a) (n5 : D.ca ≠ a) : LS w mg mb h00 D st n h' l kvs fl zs qs cvs cands :=
  let R := S.rest k hd hb hl
  { S with base := R.base, K := R.K, T := R.T, F := R.F n1, cell := R.cell, X := R.X n2, z := R.z n3, cst := R.cst n4, ca := R.ca n5, cr := R.cr, fn := R.fn }
/- what is new is no part -/
theorem LS.fresh (S : LS w mg mb h00 D st n h l kvs fl zs qs cvs cands) {a : Nat} (hd : h.get? a = none) : h00.get? a = none ∧ D.L ≠ a ∧ D.dx ≠ a ∧ D.p ≠ a ∧ D.cs ≠ a ∧ D.ca ≠ a := by
  refine ⟨S.base.dead hd ?_, S.F.ne hd, ?_, ?_, ?_, ?_⟩
  · rintro rfl
    obtain ⟨ps, e, _⟩ := S.T
    rw [hd] at e; cases e
  · obtain ⟨es, n, q, r⟩ := S.X.d; exact ne_dead hd q
  · obtain ⟨m, t⟩ := S.z.l; exact ne_dead hd t
  · obtain ⟨o, es, ep, ho, _⟩ := S.cst; exact ne_dead hd ho
  · obtain ⟨m, t⟩ := S.ca; exact ne_dead hd t
end
variable {w : World} {mg mb : Str → Option Value} {A : Around} {E : Value → Shared → Prop} {s : Shared} {env : Env} {h : Heap} {g : Array GenState} {d : Drawn} {tk : Nat} {os : OsState} {M : Model}

noncomputable def keepF (fl : Nat → Nat) (l : List Nat) : List Nat := l.filter fun k => !(fl k &&& 4 == 4)

noncomputable def resFor (w : World) : Stmt := (bodyAt w 90).getD 13 default

theorem CR.push {st : Nat → Nat} {n k : Nat} {cvs : Array Value} {cands : List Nat} (c0 : CR st n h cvs cands) {v : Value} (hv : PairAt h v ((st k : Int), nmL' k)) (hk : k < n) : CR st n h (cvs.push v) (cands ++ [k]) := by
  refine ⟨by simp [c0.1], fun i j hij => ?_, fun j hj => ?_⟩
  · rw [List.getElem?_append] at hij
    split at hij
    · rename_i hi
      obtain ⟨v', e', pv⟩ := c0.2.1 i j hij
      exact ⟨v', by rw [Array.getElem?_push, if_neg (by rw [c0.1]; (first | lia | omega))]; exact e', pv⟩
    · rename_i hi
      have hi0 : i - cands.length = 0 := by
        cases hh : i - cands.length with
        | zero => rfl
        | succ m => rw [hh] at hij; simp at hij
      rw [hi0] at hij
      simp only [List.getElem?_cons_zero, Option.some.injEq] at hij
      subst hij
      exact ⟨v, by rw [Array.getElem?_push, if_pos (by rw [c0.1]; (first | lia | omega))], hv⟩
  · rcases List.mem_append.mp hj with hj | hj
    · exact c0.2.2 j hj
    · rw [List.mem_singleton.mp hj]; exact hk

theorem pair_ne {b c : Nat} {i j : Int} {x y : List UInt8} {t t' u u' : Tok} (hb : IsT s.heap b [.int i t, .bytes x.toArray t']) (hc : IsT s.heap c [.int j u, .bytes y.toArray u']) (hne : b ≠ c) (hxy : ¬ x = y) (hu : A.units < cLine) :
    PySem.SeqAt.EqAt A s (.ref b) (.ref c) false := by
  refine PySem.SeqAt.EqAt.of_refs hne ?_
  have key := PySem.SeqAt.RcAt.tuples (A := A) (s := s) (l := b) (b := c) (e := fun k => if k = 0 then (i == j) else false) ⟨_, hb, rfl, _, rfl⟩ ⟨_, hc, rfl, _, rfl⟩ hu (fun k h1 h2 => by
    match k, h1, h2 with
    | 0, _, _ => exact (PySem.MeetsSeq.EqGives.int i j t u).at _ _
    | 1, _, _ =>
      intro prog w E Q hq
      refine eqBool_bytes ?_
      have : decide (x.toArray.toList = y.toArray.toList) = false := by simpa using hxy
      rw [this]
      exact hq)
  have e : ((List.range (min (#[Value.int i t, Value.bytes x.toArray t'] : Array Value).size (#[Value.int j u, Value.bytes y.toArray u'] : Array Value).size)).all (fun k => if k = 0 then (i == j) else false) && (#[Value.int i t, Value.bytes x.toArray t'] : Array Value).size == (#[Value.int j u, Value.bytes y.toArray u'] : Array Value).size) = false := by
    show ((List.range 2).all _ && _) = false
    simp [List.range, List.range.loop]
  rw [e] at key
  exact key

/- the state of the last loop -/
inductive ResI (w : World) (mg mb : Str → Option Value) (h00 : Heap) (D : Ad) (st : Nat → Nat) (n : Nat) (kvs : List (List UInt8 × Value)) (fl : Nat → Nat) (zs : Array KV) (qs : List Nat) (cvs : Array Value) (cands : List Nat) (rl : Nat) (t1 t2 t8 t0 : Tok) (it : Nat)     (g : Array GenState) (d : Drawn) (os : OsState) (N : Nat) (s : Shared) : Prop
  | mk (j : Nat)
      (l : List (Str × Value))
      (rvs : Array Value)
      (m : Nat)
      (q1 : N = cands.length - j)
      (q2 : j ≤ cands.length)
      (q3 : LS w mg mb h00 D st n s.heap l kvs fl zs qs cvs cands)
      (q4 : Rows l ((Str.ofString "results", .ref rl) :: rowsB D t1 t2 t8 t0))
      (q5 : IsL s.heap rl rvs m)
      (q6 : CR st n s.heap rvs (keepF fl (cands.take j)))
      (q7 : s.heap.IsListIter it D.ca j)
      (q8 : s.gens = g)
      (q9 : s.drawn = d)
      (q10 : s.os = os) : ResI w mg mb h00 D st n kvs fl zs qs cvs cands rl t1 t2 t8 t0 it g d os N s

theorem res_loop {h00 : Heap} {D : Ad} {st : Nat → Nat} {n rl : Nat} {l : List (Str × Value)} {kvs : List (List UInt8 × Value)} {fl : Nat → Nat} {zs : Array KV} {qs : List Nat} {cvs : Array Value} {cands : List Nat}
    {t1 t2 t8 t0 : Tok} {Q : Flow → Shared → Prop} (hr : Rm A 5) (hn : n ≤ 10) (hDc : D.c = D.L + 1) (hlt : ∀ k, fl k < 16) (hnd : cands.Nodup) (hc8 : ∀ k ∈ cands, fl k ≠ 0)
    (S : LS w mg mb h00 D st n h l kvs fl zs qs cvs cands) (R : Rows l ((Str.ofString "results", .ref rl) :: rowsB D t1 t2 t8 t0)) (hrl : ∃ m, IsL h rl #[] m) (hrd : h00.get? rl = none) (hrb : 138 < rl)
    (n2 : D.p ≠ rl) (n3 : D.ca ≠ rl)
    (hq : ∀ h' tk' l' rvs m, LS w mg mb h00 D st n h' l' kvs fl zs qs cvs cands → Rows l' ((Str.ofString "results", .ref rl) :: rowsB D t1 t2 t8 t0) → IsL h' rl rvs m → CR st n h' rvs (keepF fl cands) → Q .next ⟨h', g, d, tk', os⟩) :
    wpAny (model PP w) A (exec (resFor w) (lEnv w D.L)) Q E ⟨h, g, d, tk, os⟩ := by
  have hcell : ∀ L c : Nat, c = L + 1 → (lEnv w L).cells.lookup (Str.ofString "_DNC") = some c := by rintro L c rfl; rfl
  refine wpAny_For (nmF S.F (R.sub (Str.ofString "cands") _ rfl) ?_)
  obtain ⟨mc, hca⟩ := S.ca
  refine wpAny_pyIter_list hca.isList ?_
  have k₁ : Kx none_ h (h.push { cls := .type "list_iterator", data := .fields #[.ref D.ca, .int 0 0] }) := Kx.push _ _
  have hit₁ : (h.push { cls := .type "list_iterator", data := .fields #[.ref D.ca, .int 0 0] }).IsListIter h.objs.size D.ca 0 := ⟨_, Heap.get?_push_size _ rfl, rfl, rfl⟩
  have hit0 : h00.get? h.objs.size = none := (S.fresh (dead_size h)).1
  have hitb : 138 < h.objs.size := S.K.sz
  obtain ⟨mr, hrl⟩ := hrl
  generalize hgit : h.objs.size = it at *
  have S₁ := S.no k₁
  refine codeAny_forLoop_any (ResI w mg mb h00 D st n kvs fl zs qs cvs cands rl t1 t2 t8 t0 it g d os) ?_ cands.length ⟨0, l, #[], mr, rfl, Nat.zero_le _, S₁, R, k₁.kp _ _ hrl, ⟨rfl, fun i k hk => by simp [keepF] at hk, fun k hk => by simp [keepF] at hk⟩, hit₁, rfl, rfl, rfl⟩
  rintro N ⟨h₂, g₂, d₂, tk₂, os₂⟩ xz
  refine hide fun Gz kz => ?_
  obtain ⟨j, l₂, rvs, m, rfl, hj, S₂, R₂, hrl₂, CR₂, hit₂, e1, e2, e3⟩ := xz
  refine kz ?_
  clear kz Gz
  have e1' : g₂ = g := e1
  have e2' : d₂ = d := e2
  have e3' : os₂ = os := e3
  subst e1' e2' e3'
  generalize notedBy _ _ _ _ = E1
  obtain ⟨mc₂, hca₂⟩ := S₂.ca
  have neit : ∀ {hh : Heap} {b : Nat} {o : Obj} {i : Nat}, hh.IsListIter it D.ca i → hh.get? b = some o → (∀ vs, o.data ≠ .fields vs) → b ≠ it := by
    rintro hh b o i ⟨oi, ho, _, hd⟩ hb hne rfl
    rw [hb] at ho; cases ho; exact hne _ hd
  by_cases hltj : j < cands.length
  · have hjc : cands[j]? = some cands[j] := by simp [hltj]
    refine hide fun Gz kz => ?_
    obtain ⟨v, hv, a, ta, ua, rfl, hta⟩ := S₂.cr.2.1 j _ hjc
    refine kz ?_
    clear kz Gz
    have hmem : cands[j] ∈ cands := List.getElem_mem hltj
    have hk : cands[j] < n := S₂.cr.2.2 _ hmem
    have hk0 := hc8 _ hmem
    refine wpAny_pyNext_list_item (s := ⟨h₂, g₂, d₂, tk₂, os₂⟩) hit₂ hca₂.isList hv fun h₃ hit₃ sb₃ => ?_
    have k₃ := Kx.of_same sb₃
    have S₃ := S₂.iter hit₂ k₃ hit0 hitb
    have hta₃ : IsT h₃ a _ := k₃ _ (neit hit₂ hta fun vs e => by cases e) _ hta
    have hrl₃ : IsL h₃ rl rvs m := k₃ _ (neit hit₂ hrl₂ fun vs e => by cases e) _ hrl₂
    have CR₃ := CR₂.keep k₃ fun b e vs t => neit hit₂ t (fun vs e => by cases e) e
    refine wpAny_letOwnedTupleGo_listiter hit₃ ?_
    refine asg2 hr.1 hta₃ S₃.F fun h₄ tk₄ F₄ k₄ => ?_
    have S₄ := S₃.store k₄ F₄
    have hrl₄ : IsL h₄ rl rvs m := S₃.F.lst hrl₃ k₄
    have CR₄ := CR₃.keep k₄ fun b e vs t => S₃.F.ne_seq t e
    have hit₄ : h₄.IsListIter it D.ca (j + 1) := by
      obtain ⟨o, ho, hc, hd⟩ := hit₃
      refine ⟨o, k₄ _ ?_ _ ho, hc, hd⟩
      rintro rfl
      obtain ⟨_, ⟨o', es, ep, ho', hd', _⟩, _⟩ := S₃.F
      rw [ho] at ho'; cases ho'; rw [hd] at hd'; cases hd'
    have R₄ : Rows ((Str.ofString "cmt", Value.bytes (nmL' cands[j]).toArray ua) :: (Str.ofString "dt", Value.int ((st cands[j] : Nat) : Int) ta) :: l₂) ((Str.ofString "results", .ref rl) :: rowsB D t1 t2 t8 t0) := R₂
    have etake : cands.take (j + 1) = cands.take j ++ [cands[j]] := by rw [List.take_add_one, hjc]; rfl
    have hkey := key_is w cands[j] ua
    have hval : ∃ t, valueAt kvs (nmL' cands[j]) = some (.int (fl cands[j] : Nat) t) := by
      rcases S₄.fr.at_ _ hk with ⟨h0, _⟩ | ⟨_, t, e⟩
      · exact absurd h0 hk0
      · exact ⟨t, e⟩
    obtain ⟨tv, hval⟩ := hval
    obtain ⟨tc, hc⟩ := S₄.cell
    refine wpAny_execs_cons (wpAny_If (isTrue_and (isTrue_not (wpAny_isTrue_Compare1 (wpAny_BinOp (Subscript_Name (nmF S₄.F (R₄.sub (Str.ofString "cstates") _ rfl) (nmF S₄.F rfl (itemDict hkey S₄.cst.mapOf hval ?_)))))))))
    refine nmCell hc (bAnd fun t₅ tk₅ => nmCell hc (P.eq_int (wpAny_truthy_bool ?_)) (hcell _ _ hDc)) (hcell _ _ hDc)
    have e4 : Builtin.bitAnd ((fl cands[j] : Nat) : Int) 4 = ((fl cands[j] &&& 4 : Nat) : Int) := bAnd_nat _ (hlt _) 4 (by decide)
    rw [e4]
    by_cases h4 : fl cands[j] &&& 4 = 4
    · have : (((fl cands[j] &&& 4 : Nat) : Int) == 4) = true := by rw [h4]; rfl
      rw [this]
      simp only [Bool.not_true, Bool.false_eq_true, if_false]
      refine wpAny_execs_nil (wpAny_execs_nil ?_)
      refine ⟨cands.length - (j + 1), Nat.sub_lt_sub_left (by assumption) (Nat.lt_succ_self _), j + 1, _, rvs, m, rfl, hltj, S₄, R₄, hrl₄, ?_, hit₄, rfl, rfl, rfl⟩
      have : keepF fl (cands.take (j + 1)) = keepF fl (cands.take j) := by unfold keepF; rw [etake, List.filter_append]; simp [h4]
      rw [this]; exact CR₄
    · have : (((fl cands[j] &&& 4 : Nat) : Int) == 4) = false := by
        rw [beq_eq_false_iff_ne]; intro e; exact h4 (by exact_mod_cast e)
      rw [this]
      simp only [Bool.not_false, if_true]
      refine isTrue_and (wpAny_isTrue_Compare1 (Tuple_ (args_cons (nmF S₄.F rfl (args_cons (nmF S₄.F rfl (args_nil ?_)))))))
      refine nTup fun h₆ k₆ t₆ => ?_
      have S₆ := S₄.no k₆
      have hrl₆ : IsL h₆ rl rvs m := k₆.kp _ _ hrl₄
      have CR₆ := CR₄.keep k₆ fun b e => e.elim
      refine nmF S₆.F (R₄.sub (Str.ofString "results") _ rfl) ?_
      refine PySem.SeqAt.notIn_listAt (fun _ => false) hrl₆.isList (fun y hy => ?_) (wpAny_truthy_bool ?_)
      · obtain ⟨i, hi, hyi⟩ := Array.getElem_of_mem hy
        have hi' : i < (keepF fl (cands.take j)).length := by rw [← CR₆.1]; exact hi
        refine hide fun Gz kz => ?_
        obtain ⟨v', hv', b, tb, ub, rfl, htb₄⟩ := CR₄.2.1 i _ (List.getElem?_eq_getElem hi')
        refine kz ?_
        clear kz Gz
        have htb := k₆.kp _ _ htb₄
        rw [Array.getElem?_eq_getElem hi, hyi] at hv'
        cases hv'
        have hk' : (keepF fl (cands.take j))[i] ∈ cands.take j := (List.mem_filter.mp (List.getElem_mem hi')).1
        have hkn : (keepF fl (cands.take j))[i] < n := S₂.cr.2.2 _ (List.mem_of_mem_take hk')
        have hne : (keepF fl (cands.take j))[i] ≠ cands[j] := by
          intro e
          rw [e] at hk'
          have hnd' := hnd
          rw [← List.take_append_drop (j + 1) cands, etake] at hnd'
          have := (List.nodup_append.mp (List.nodup_append.mp hnd').1).2.2
          exact this _ hk' _ (List.mem_singleton.mpr rfl) rfl
        have hnm : ¬ nmL' (keepF fl (cands.take j))[i] = nmL' cands[j] := fun e => hne (nm_inj _ (by (first | lia | omega)) _ (by (first | lia | omega)) e)
        exact pair_ne htb t₆ (ne_dead (dead_size h₄) htb₄) hnm hr.un
      · have : (rvs.any fun _ => false) = false := by simp
        rw [this]
        simp only [Bool.not_false, if_true]
        refine isTrue_and_nil ?_
        simp only [if_true]
        refine wpAny_execs_cons (wpAny_Expr (MethodCall_ (nmF S₆.F (R₄.sub (Str.ofString "results") _ rfl) ?_)))
        refine getMethod_list_append hrl₆ rfl rfl ?_
        refine callWith_method1 (args_cons (Tuple_ (args_cons (nmF S₆.F rfl (args_cons (nmF S₆.F rfl (args_nil ?_)))))))
        refine nTup fun h₇ k₇ t₇ => args_nil ?_
        have S₇ := S₆.no k₇
        have hrl₇ : IsL h₇ rl rvs m := k₇.kp _ _ hrl₆
        have CR₇ := CR₆.keep k₇ fun b e => e.elim
        have hlen : (keepF fl (cands.take j)).length ≤ 10 := by
          have h1 : (keepF fl (cands.take j)).length ≤ (cands.take j).length := List.length_filter_le ..
          have h2 : (cands.take j).length ≤ cands.length := by rw [List.length_take]; (first | lia | omega)
          have h3 := nodup_le cands (List.range n) hnd fun x hx => List.mem_range.mpr (S₂.cr.2.2 x hx)
          rw [List.length_range] at h3
          (first | lia | omega)
        refine append_at hrl₇ (fun h₈ sb₈ ho₈ => ?_) (by rw [CR₇.1]; exact Nat.le_trans hlen (by decide))
        have k₈ := Kx.of_same sb₈
        have ldr : LD h₇ rl := fun o ho => by rw [hrl₇] at ho; cases ho; exact .inl ⟨rfl, _, _, rfl⟩
        have ndx : D.dx ≠ rl := fun e => by
          obtain ⟨es, n, q, r⟩ := S₇.X.d
          rw [e, hrl₇] at q
          have q := congrArg (fun o : Option Obj => o.map (·.data)) q
          cases q
        have ncs : D.cs ≠ rl := fun e => by
          obtain ⟨o, es, ep, ho, _, hd, _⟩ := S₇.cst
          rw [e, hrl₇] at ho; cases ho; cases hd
        have S₈ := S₇.other k₈ hrd hrb ldr (S₇.F.ne_seq hrl₇).symm ndx n2 ncs n3
        refine wpAny_execs_nil (wpAny_execs_nil ?_)
        refine ⟨cands.length - (j + 1), Nat.sub_lt_sub_left (by assumption) (Nat.lt_succ_self _), j + 1, _, rvs.push (.ref h₆.objs.size), _, rfl, hltj, S₈, R₄, ho₈, ?_, ?_, rfl, rfl, rfl⟩
        · have : keepF fl (cands.take (j + 1)) = keepF fl (cands.take j) ++ [cands[j]] := by unfold keepF; rw [etake, List.filter_append]; simp [h4]
          rw [this]
          refine (CR₇.keep k₈ fun b e vs t => by rw [e] at t; exact ldr.tup t).push ⟨_, _, _, rfl, k₈ _ ?_ _ t₇⟩ hk
          intro e
          rw [← e] at hrl₇
          have := hrl₇.symm.trans t₇
          simp at this
        · obtain ⟨o, ho, hc', hd'⟩ := hit₄
          have ho₇ := k₇.kp _ _ (k₆.kp _ _ ho)
          refine ⟨o, k₈ _ ?_ _ ho₇, hc', hd'⟩
          intro e
          rw [e, hrl₇] at ho₇; cases ho₇; cases hd'
  · have hjz : j = cands.length := by (first | lia | omega)
    subst hjz
    refine wpAny_pyNext_list_end (s := ⟨h₂, g₂, d₂, tk₂, os₂⟩) hr.1 hit₂ hca₂.isList (by simp [S₂.cr.1]) fun h₃ he => ?_
    have S₃ := S₂.iter hit₂ (Kx.of_ext he) hit0 hitb
    refine wpAny_execs_nil ?_
    rw [List.take_length] at CR₂
    exact hq _ _ _ rvs m S₃ R₂ (Kx.of_ext he _ (neit hit₂ hrl₂ fun vs e => by cases e) _ hrl₂) (CR₂.keep (Kx.of_ext he) fun b e vs t => neit hit₂ t (fun vs e => by cases e) e)
end Mine
end

section
open PySem PySem.W PyProof.Rows PySem.Spec PySem.Calls
set_option maxRecDepth 100000
set_option maxHeartbeats 4000000
namespace Mine
section
variable {prog : Program} {w : World} {A : Around} {E : Value → Shared → Prop} {s : Shared} {env cenv : Env} {h : Heap} {g : Array GenState} {d : Drawn} {tk : Nat} {os : OsState} {M : Model}

/- the target's place -/
noncomputable def Tgt (cenv : Env) (x : Str) (b : Nat) (h : Heap) (ov : Option Value) : Prop :=
  (cenv.kindOf x = some .local ∧ b = cenv.locals ∧ ∃ m, h.Ns b m ∧ ∀ v, ov = some v → m x = some v) ∨ (cenv.kindOf x = some .cell ∧ cenv.cells.lookup x = some b ∧ h.IsCell b ov)
theorem Tgt.keep {x : Str} {b : Nat} {ov : Option Value} {h' : Heap} (T : Tgt cenv x b h ov) {P : Nat → Prop} (k : Kx P h h') (hb : ¬ P b) : Tgt cenv x b h' ov := by
  rcases T with ⟨h1, h2, m, ⟨o, es, ep, ho, r⟩, h3⟩ | ⟨h1, h2, o, ho, r⟩
  · exact .inl ⟨h1, h2, m, ⟨o, es, ep, k b hb _ ho, r⟩, h3⟩
  · exact .inr ⟨h1, h2, o, k b hb _ ho, r⟩
theorem Tgt.live {x : Str} {b : Nat} {ov : Option Value} (T : Tgt cenv x b h ov) : ∃ o, h.get? b = some o := by
  rcases T with ⟨_, _, m, ⟨o, es, ep, ho, r⟩, h3⟩ | ⟨h1, h2, o, ho, r⟩
  · exact ⟨o, ho⟩
  · exact ⟨o, ho⟩
theorem Tgt.assign {x : Str} {px : Pos} {b : Nat} {ov : Option Value} {v : Value} {Q : Unit → Shared → Prop} (T : Tgt cenv x b h ov) (hk : cenv.scope.kind = .function)
    (hq : ∀ h' tk', Tgt cenv x b h' (some v) → Kx (· = b) h h' → Q () ⟨h', g, d, tk', os⟩) : wpAny M A (assign (.Name x px) cenv v) Q E ⟨h, g, d, tk, os⟩ := by
  refine PyProof.Rows.assign_Name ?_
  rcases T with ⟨h1, rfl, m, hn, h3⟩ | ⟨h1, h2, hc⟩
  · refine wpAny_storeName_local h1 hn (fun h' hn' hs' => hq h' _ (.inl ⟨h1, rfl, _, hn', fun u e => by cases e; simp⟩) (Kx.of_same hs')) (by rw [hk]; rfl)
  · exact wpAny_storeName_cell hk h1 h2 hc fun h' hc' hs' => hq h' _ (.inr ⟨h1, h2, hc'⟩) (Kx.of_same hs')
theorem Tgt.name {x : Str} {pos : Pos} {b : Nat} {v : Value} {Q : Value → Shared → Prop} (T : Tgt cenv x b s.heap (some v)) (hq : Q v s) (hk : cenv.scope.kind = .function := by rfl) (hd : (x == ("__debug__" : Str)) = false := by decide) :
    wpAny M A (eval (.Name x pos) cenv) Q E s := by
  rcases T with ⟨h1, rfl, m, hn, h3⟩ | ⟨h1, h2, hc⟩
  · exact wpAny_Name (wpAny_loadName_local hk h1 hn (h3 _ rfl) hq) hd
  · exact wpAny_Name (wpAny_loadName_cell hk h1 h2 hc hq) hd

/- what a comprehension has made -/
noncomputable def CompR (F : Nat → Value → Heap → Prop) (pz : Nat → Bool) (n : Nat) (h : Heap) (ys : Array Value) : Prop :=
  ys.size = ((List.range n).filter pz).length ∧ ∀ (j i : Nat), ((List.range n).filter pz)[j]? = some i → ∃ y, ys[j]? = some y ∧ F i y h

noncomputable def cellsC (ck : Bool) (x : Str) (cl : List (Str × Addr)) (C : Nat) : List (Str × Addr) := if ck then (x, C + 1) :: cl else cl

theorem CompR.step_no {F : Nat → Value → Heap → Prop} {pz : Nat → Bool} {i : Nat} {ys : Array Value} (x : CompR F pz i h ys) (hp : pz i = false) : CompR F pz (i + 1) h ys := by
  unfold CompR at x ⊢
  rw [List.range_succ, List.filter_append]
  simpa [hp] using x
theorem CompR.step_yes {F : Nat → Value → Heap → Prop} {pz : Nat → Bool} {i : Nat} {ys : Array Value} {y : Value} (x : CompR F pz i h ys) (hp : pz i = true) (hy : F i y h) : CompR F pz (i + 1) h (ys.push y) := by
  unfold CompR at x ⊢
  rw [List.range_succ, List.filter_append]
  have e : [i].filter pz = [i] := by simp [hp]
  rw [e]
  refine ⟨by simp [x.1], fun j k hj => ?_⟩
  rw [List.getElem?_append] at hj
  split at hj
  · rename_i hlt
    obtain ⟨y', e', f'⟩ := x.2 j k hj
    exact ⟨y', by rw [Array.getElem?_push, if_neg (by rw [x.1]; (first | lia | omega))]; exact e', f'⟩
  · rename_i hlt
    have h0 : j - ((List.range i).filter pz).length = 0 := by
      cases hh : j - ((List.range i).filter pz).length with
      | zero => rfl
      | succ m => rw [hh] at hj; simp at hj
    rw [h0] at hj
    simp only [List.getElem?_cons_zero, Option.some.injEq] at hj
    subst hj
    exact ⟨y, by rw [Array.getElem?_push, if_pos (by rw [x.1]; (first | lia | omega))], hy⟩
theorem CompR.mono {F : Nat → Value → Heap → Prop} {pz : Nat → Bool} {i : Nat} {ys : Array Value} {h' : Heap} (x : CompR F pz i h ys) (hF : ∀ i y, F i y h → F i y h') : CompR F pz i h' ys :=
  ⟨x.1, fun j k hj => let ⟨y, e, f⟩ := x.2 j k hj; ⟨y, e, hF _ _ f⟩⟩

theorem tup_keep {a : Nat} {h h' : Heap} (k : Kx (· = a) h h') (ha : ∀ o, h.get? a = some o → o.cls ≠ .type "tuple" ∨ ∀ xs n, o.data ≠ .seq xs n) : ∀ b vs, IsT h b vs → IsT h' b vs := fun b vs t => k b (fun e => by
  rw [e] at t
  rcases ha _ t with q | q
  · exact q rfl
  · exact q _ _ rfl) _ t
theorem Tgt.nt {x : Str} {b : Nat} {ov : Option Value} (T : Tgt cenv x b h ov) : ∀ o, h.get? b = some o → o.cls ≠ .type "tuple" ∨ ∀ xs n, o.data ≠ .seq xs n := fun o ho => by
  rcases T with ⟨_, _, m, ⟨o', es, ep, ho', hd, r⟩, h3⟩ | ⟨h1, h2, o', ho', hd⟩
  · rw [ho] at ho'; cases ho'; exact .inr fun xs n e => by rw [hd] at e; cases e
  · rw [ho] at ho'; cases ho'; exact .inr fun xs n e => by rw [hd] at e; cases e

/- the comprehension's state -/
inductive CoS (g : Array GenState) (d : Drawn) (os : OsState) (n : Nat) (St : Nat → Heap → Prop) (h₀ : Heap) (cenv : Env) (x : Str) (b Dl : Nat) (F : Nat → Value → Heap → Prop) (pz : Nat → Bool) (N : Nat) (s' : Shared) : Prop
  | mk (h' : Heap)
      (tk' : Tok)
      (i : Nat)
      (ys : Array Value)
      (m : Nat)
      (m' : Str → Option Value)
      (q1 : s' = ⟨h', g, d, tk', os⟩)
      (q2 : i ≤ n)
      (q3 : N = n + 1 - i)
      (q4 : St i h')
      (q5 : Kx none_ h₀ h')
      (q6 : (∃ ov, Tgt cenv x b h' ov))
      (q7 : h'.Ns cenv.locals m')
      (q8 : IsL h' Dl ys m)
      (q9 : CompR F pz i h' ys) : CoS g d os n St h₀ cenv x b Dl F pz N s'
/- the loop of a comprehension -/
theorem comp_loop {elt iter : Expr} {x : Str} {px : Pos} {ifs : List Expr} {scope : Scope} {pos : Pos} {I b Dl n : Nat} {fp : List Addr} {P : Nat → Value → Prop} {St : Nat → Heap → Prop} {h₀ : Heap} {m₀ : Str → Option Value}
    (W : Walks prog w A I fp [I] n P St) (hn : n ≤ 1000) (F : Nat → Value → Heap → Prop) (pz : Nat → Bool) {R : Result → Shared → Prop}
    (hF : ∀ i y (h h' : Heap), F i y h → (∀ a vs, IsT h a vs → IsT h' a vs) → F i y h')
    (hk : cenv.scope.kind = .function) (hT : ∃ ov, Tgt cenv x b h ov) (hCn : h.Ns cenv.locals m₀) (hb0 : h₀.get? b = none) (_hC0 : h₀.get? cenv.locals = none) (hD0 : h₀.get? Dl = none) (hI0 : h₀.get? I = none)
    (hst : St 0 h) (hD : IsL h Dl #[] 0) (k0 : Kx none_ h₀ h) (hbf : b ∉ fp) (hDf : Dl ∉ fp)
    (hIl : ∀ i h, St i h → ∃ o, h.get? I = some o ∧ ∃ vs, o.data = .fields vs)
    (tests : ∀ i v (h₂ : Heap) tk₂ (Q' : Bool → Shared → Prop) (E' : Value → Shared → Prop), i < n → P i v → Tgt cenv x b h₂ (some v) → Kx none_ h₀ h₂ → (∀ h₃ tk₃, Kx none_ h₂ h₃ → Q' (pz i) ⟨h₃, g, d, tk₃, os⟩) →
      wpAny (model prog w) A (forIn ifs true fun c r => if r = true then do let ok ← isTrue c cenv (eval c cenv); pure (ForInStep.yield ok) else pure (ForInStep.yield r)) Q' E' ⟨h₂, g, d, tk₂, os⟩)
    (elts : ∀ i v (h₂ : Heap) tk₂ (Q' : Value → Shared → Prop) (E' : Value → Shared → Prop), i < n → P i v → pz i = true → Tgt cenv x b h₂ (some v) → Kx none_ h₀ h₂ → (∀ y h₃ tk₃, Kx none_ h₂ h₃ → F i y h₃ → Q' y ⟨h₃, g, d, tk₃, os⟩) →
      wpAny (model prog w) A (eval elt cenv) Q' E' ⟨h₂, g, d, tk₂, os⟩)
    (hR : ∀ h' tk' ys m m', Kx none_ h₀ h' → IsL h' Dl ys m → CompR F pz n h' ys → h'.Ns cenv.locals m' → R (.ok .next) ⟨h', g, d, tk', os⟩) :
    codeAny (model prog w) A (.compLoop (.ListComp elt [⟨.Name x px, iter, ifs, 0⟩] scope pos) 0 (.ref I) (.ref Dl) cenv) R ⟨h, g, d, tk, os⟩ := by
  have hIf : I ∈ fp := W.sub I (List.mem_singleton.mpr rfl)
  have hbI : b ≠ I := fun e => hbf (e ▸ hIf)
  have hDI : Dl ≠ I := fun e => hDf (e ▸ hIf)
  refine codeAny_compLoop_tests (CoS g d os n St h₀ cenv x b Dl F pz) ?_ (n + 1)
    ⟨h, tk, 0, #[], 0, m₀, rfl, Nat.zero_le _, rfl, hst, k0, hT, hCn, hD, ⟨rfl, fun j i hj => by simp at hj⟩⟩
  rintro N s' xz
  refine hide fun Gz kz => ?_
  obtain ⟨h₁, tk₁, i, ys, m, m', rfl, hi, rfl, hst₁, k₁, ⟨ov, T₁⟩, hC₁, hD₁, CR₁⟩ := xz
  refine kz ?_
  clear kz Gz
  have neC : ∀ {hh : Heap} {a : Nat} {mm : Str → Option Value} {o : Obj}, hh.Ns cenv.locals mm → hh.get? a = some o → (∀ es ep, o.data ≠ .dict es ep) → cenv.locals ≠ a := by
    rintro hh a mm o ⟨o', es, ep, ho', hd, _⟩ ho hne e
    rw [e, ho] at ho'; cases ho'; exact hne _ _ hd
  by_cases hlt : i < n
  · refine W.item i _ _ _ hlt hst₁ fun v h₂ tk₂ hPv hst₂ hk₂ => ?_
    have kI : Kx (· = I) h₁ h₂ := fun b hb o e => hk₂ b o (by simpa using hb) e
    refine hide fun Gz kz => ?_
    obtain ⟨oI, hoI, vI, hdI⟩ := hIl _ _ hst₁
    refine kz ?_
    clear kz Gz
    have T₂ : Tgt cenv x b h₂ ov := T₁.keep kI hbI
    have D₂ : IsL h₂ Dl ys m := kI _ hDI _ hD₁
    have C₂ : h₂.Ns cenv.locals m' := by
      obtain ⟨o, es, ep, ho, hd, r⟩ := id hC₁
      exact ⟨o, es, ep, kI _ (neC hC₁ hoI fun es ep e => by rw [hdI] at e; cases e) _ ho, hd, r⟩
    have CR₂ := CR₁.mono fun i y f => hF i y _ _ f (tup_keep kI fun o ho => .inr fun xs n e => by rw [hoI] at ho; cases ho; rw [hdI] at e; cases e)
    have k₂ : Kx none_ h₀ h₂ := k₁.t1 kI hI0
    refine T₂.assign hk fun h₃ tk₃ T₃ kb => ?_
    have k₃ : Kx none_ h₀ h₃ := k₂.t1 kb hb0
    have hst₃ : St (i + 1) h₃ := W.frame _ _ _ hst₂ fun a ha o e => kb a (fun e' => hbf (by rw [← e']; exact ha)) o e
    have D₃ : IsL h₃ Dl ys m := kb _ (fun e => by
      have e : Dl = b := e
      obtain ⟨o, ho⟩ := T₂.live
      rcases T₂.nt o ho with q | q
      · rcases T₂ with ⟨_, _, mm, ⟨o', es, ep, ho', hd, _⟩, _⟩ | ⟨_, _, o', ho', hd⟩
        · rw [← e, D₂] at ho'; cases ho'; cases hd
        · rw [← e, D₂] at ho'; cases ho'; cases hd
      · rw [← e, D₂] at ho; cases ho; exact q _ _ rfl) _ D₂
    have C₃ : ∃ m₃, h₃.Ns cenv.locals m₃ := by
      rcases T₃ with ⟨_, hb', mm, hn', _⟩ | ⟨h1, h2, o', ho', hd⟩
      · exact ⟨mm, hb' ▸ hn'⟩
      · rcases T₂ with ⟨h1', _⟩ | ⟨_, _, o2, ho2, hd2⟩
        · rw [h1] at h1'; cases h1'
        · obtain ⟨o, es, ep, ho, hd3, r⟩ := id C₂
          exact ⟨_, o, es, ep, kb _ (neC C₂ ho2 fun es ep e => by rw [hd2] at e; cases e) _ ho, hd3, r⟩
    obtain ⟨m₃, C₃⟩ := C₃
    have CR₃ := CR₂.mono fun i y f => hF i y _ _ f (tup_keep kb T₂.nt)
    refine tests i v h₃ tk₃ _ _ hlt hPv T₃ k₃ fun h₄ tk₄ k₄ => ?_
    have hst₄ : St (i + 1) h₄ := W.frame _ _ _ hst₃ fun a _ o e => k₄.kp a o e
    have T₄ := T₃.keep k₄ id
    have D₄ : IsL h₄ Dl ys m := k₄.kp _ _ D₃
    have C₄ := C₃.keeps k₄.kp
    have CR₄ := CR₃.mono fun i y f => hF i y _ _ f fun a vs t => k₄.kp _ _ t
    cases hp : pz i with
    | false =>
      simp only [Bool.false_eq_true, if_false]
      exact ⟨n + 1 - (i + 1), Nat.sub_lt_sub_left (Nat.lt_succ_of_lt (by assumption)) (Nat.lt_succ_self _), h₄, tk₄, i + 1, ys, m, m₃, rfl, hlt, rfl, hst₄, k₃.tn k₄, ⟨_, T₄⟩, C₄, D₄, CR₄.step_no hp⟩
    | true =>
      simp only [if_true]
      refine elts i v h₄ tk₄ _ _ hlt hPv hp T₄ (k₃.tn k₄) fun y h₅ tk₅ k₅ Fy => ?_
      have D₅ : IsL h₅ Dl ys m := k₅.kp _ _ D₄
      have CR₅ := (CR₄.mono fun i y f => hF i y _ _ f fun a vs t => k₅.kp _ _ t).step_yes hp Fy
      have hys : ys.size ≤ 1000 := by
        rw [CR₁.1]
        have := List.length_filter_le pz (List.range i)
        rw [List.length_range] at this
        (first | lia | omega)
      refine append_at D₅ (fun h₆ sb₆ ho₆ => ?_) (Nat.le_trans hys (by decide))
      have kD := Kx.of_same sb₆
      have C₅ := C₄.keeps k₅.kp
      have T₅ := T₄.keep k₅ id
      refine ⟨n + 1 - (i + 1), Nat.sub_lt_sub_left (Nat.lt_succ_of_lt (by assumption)) (Nat.lt_succ_self _), h₆, tk₅, i + 1, ys.push y, m + 1, m₃, rfl, hlt, rfl, ?_, ((k₃.tn k₄).tn k₅).t1 kD hD0, ⟨_, T₅.keep kD fun e => ?_⟩, ?_, ho₆, CR₅.mono fun i y f => hF i y _ _ f (tup_keep kD fun o ho => .inl fun e => by
        rw [D₅] at ho; cases ho; injection e with e; exact absurd e (by decide))⟩
      · exact W.frame _ _ _ (W.frame _ _ _ hst₄ fun a _ o e => k₅.kp a o e) fun a ha o e => kD a (fun e' => hDf (by rw [← e']; exact ha)) o e
      · have e : b = Dl := e
        rcases T₅ with ⟨_, _, mm, ⟨o', es, ep, ho', hd, _⟩, _⟩ | ⟨_, _, o', ho', hd⟩
        · rw [e, D₅] at ho'; cases ho'; cases hd
        · rw [e, D₅] at ho'; cases ho'; cases hd
      · obtain ⟨o, es, ep, ho, hd3, r⟩ := id C₅
        exact ⟨o, es, ep, kD _ (neC C₅ D₅ fun es ep e => by cases e) _ ho, hd3, r⟩
  · obtain rfl : i = n := by (first | lia | omega)
    refine W.done _ _ _ hst₁ fun h₂ tk₂ hk₂ => ?_
    have kI : Kx (· = I) h₁ h₂ := fun b hb o e => hk₂ b o (by simpa using hb) e
    refine hide fun Gz kz => ?_
    obtain ⟨oI, hoI, vI, hdI⟩ := hIl _ _ hst₁
    refine kz ?_
    clear kz Gz
    have C₂ : h₂.Ns cenv.locals m' := by
      obtain ⟨o, es, ep, ho, hd, r⟩ := id hC₁
      exact ⟨o, es, ep, kI _ (neC hC₁ hoI fun es ep e => by rw [hdI] at e; cases e) _ ho, hd, r⟩
    exact hR h₂ tk₂ ys m m' (k₁.t1 kI hI0) (kI _ hDI _ hD₁) (CR₁.mono fun i y f => hF i y _ _ f (tup_keep kI fun o ho => .inr fun xs n e => by rw [hoI] at ho; cases ho; rw [hdI] at e; cases e)) C₂
end
end Mine
end

section
open PySem PySem.W PyProof.Rows PySem.Spec PySem.Calls
set_option maxRecDepth 100000
set_option maxHeartbeats 4000000
namespace Mine
section
variable {prog : Program} {w : World} {A : Around} {E : Value → Shared → Prop} {s : Shared} {env cenv : Env} {h : Heap} {g : Array GenState} {d : Drawn} {tk : Nat} {os : OsState} {M : Model}

theorem nfe_comp {scope : Scope} {cl : List (Str × Addr)} {Q : Env → Shared → Prop}
    (hq : Q { scope, locals := h.objs.size, globals := env.globals, cells := cellsFrom (h.objs.size + 1) scope.names cl, qual := env.qual, func := none, code := env.code, frame := env.frame, builtins := env.builtins }
      ⟨pushCells (h.push { cls := .type "dict", data := .dict #[] }) scope.names, g, d, tk, os⟩) :
    wpAny M A (newFunctionEnv scope env.globals cl [] env.qual none .none (some env)) Q E ⟨h, g, d, tk, os⟩ := by
  simp only [newFunctionEnv, Option.isSome_some, if_true]
  refine wpAny_bind (wpAny_alloc ?_)
  refine wpAny_bind (wpAny_layCells _ (fun name kind cells => by cases hkc : kind == NameKind.cell <;> simp) _ _ _ _ ?_)
  rw [show ({ (⟨h, g, d, tk, os⟩ : Shared) with heap := h.push { cls := .type "dict", data := .dict #[] } } : Shared).heap.objs.size = h.objs.size + 1 from Heap.size_push ..]
  simp only [List.forIn_nil]
  exact wpAny_bind (wpAny_pure (wpAny_pure hq))

/- the comprehension's own env -/
noncomputable abbrev cE (scope : Scope) (cl : List (Str × Addr)) (ck : Bool) (x : Str) (env : Env) (C : Nat) : Env := compEnvC scope (cellsC ck x cl C) C env

structure CompOk (scope : Scope) (cl : List (Str × Addr)) (ck : Bool) (x : Str) (env : Env) : Prop where
  kind : scope.kind = .function
  names : ∀ y ∈ scope.names, y.2 = .local → scope.names.lookup y.1 = some .local
  cells : ∀ C : Nat, cellsFrom (C + 1) scope.names cl = cellsC ck x cl C
  push : ∀ h : Heap, pushCells h scope.names = if ck then h.push { cls := .type "cell", data := .cell none } else h
  tgt : ∀ C : Nat, (cE scope cl ck x env C).kindOf x = some (if ck then .cell else .local)

theorem comp_block {elt iter : Expr} {x : Str} {px : Pos} {ifs : List Expr} {scope : Scope} {cl : List (Str × Addr)} {ck : Bool} {pos : Pos} {I n : Nat} {fp : List Addr} {P : Nat → Value → Prop} {St : Nat → Heap → Prop} {h₀ : Heap} {RR : Value → Addr → Result → Shared → Prop}
    (CO : CompOk scope cl ck x env) (W : Walks prog w A I fp [I] n P St) (hn : n ≤ 1000) (F : Nat → Value → Heap → Prop) (pz : Nat → Bool)
    (hF : ∀ i y (h h' : Heap), F i y h → (∀ a vs, IsT h a vs → IsT h' a vs) → F i y h')
    (hI0 : h₀.get? I = none) (hst : St 0 h) (k0 : Kx none_ h₀ h) (hfp : ∀ a ∈ fp, ∃ o, h.get? a = some o)
    (hIl : ∀ i h, St i h → ∃ o, h.get? I = some o ∧ ∃ vs, o.data = .fields vs)
    (tests : ∀ C b i v (h₂ : Heap) tk₂ (Q' : Bool → Shared → Prop) (E' : Value → Shared → Prop), i < n → P i v → Tgt (cE scope cl ck x env C) x b h₂ (some v) → Kx none_ h₀ h₂ → (∀ h₃ tk₃, Kx none_ h₂ h₃ → Q' (pz i) ⟨h₃, g, d, tk₃, os⟩) →
      wpAny (model prog w) A (forIn ifs true fun c r => if r = true then do let ok ← isTrue c (cE scope cl ck x env C) (eval c (cE scope cl ck x env C)); pure (ForInStep.yield ok) else pure (ForInStep.yield r)) Q' E' ⟨h₂, g, d, tk₂, os⟩)
    (elts : ∀ C b i v (h₂ : Heap) tk₂ (Q' : Value → Shared → Prop) (E' : Value → Shared → Prop), i < n → P i v → pz i = true → Tgt (cE scope cl ck x env C) x b h₂ (some v) → Kx none_ h₀ h₂ → (∀ y h₃ tk₃, Kx none_ h₂ h₃ → F i y h₃ → Q' y ⟨h₃, g, d, tk₃, os⟩) →
      wpAny (model prog w) A (eval elt (cE scope cl ck x env C)) Q' E' ⟨h₂, g, d, tk₂, os⟩)
    (hRR : ∀ Dl C h' tk' ys m m', h₀.get? Dl = none → h₀.get? C = none → C ≠ Dl → Kx none_ h₀ h' → IsL h' Dl ys m → CompR F pz n h' ys → h'.Ns C m' → RR (.ref Dl) C (.ok .next) ⟨h', g, d, tk', os⟩) :
    wpAny (model prog w) A (newList []) (fun acc s₃ => wpAny (model prog w) A (newFunctionEnv scope env.globals cl [] env.qual none .none (some env)) (fun cenv s₄ =>
      codeAny (model prog w) A (.compStart (.ListComp elt [⟨.Name x px, iter, ifs, 0⟩] scope pos) 0 (.ref I) acc { cenv with scope := relabel scope env }) (RR acc cenv.locals) s₄) E s₃) E ⟨h, g, d, tk, os⟩ := by
  refine nList (fun h₁ k₁ l₁ => ?_) (Nat.zero_le _)
  have hD0 : h₀.get? h.objs.size = none := k0.deadS
  have hDd : h.get? h.objs.size = none := dead_size h
  generalize h.objs.size = Dl at *
  refine nfe_comp ?_
  rw [CO.cells]
  have hC0 : h₀.get? h₁.objs.size = none := (k0.tn k₁).deadS
  have hCd : h₁.get? h₁.objs.size = none := dead_size h₁
  have k₂ : Kx none_ h₁ (h₁.push { cls := .type "dict", data := .dict #[] }) := Kx.push _ _
  have ns₂ : (h₁.push { cls := .type "dict", data := .dict #[] }).Ns h₁.objs.size fun _ => none := Heap.Ns.new h₁ _
  have hsz2 : (h₁.push { cls := .type "dict", data := .dict #[] }).objs.size = h₁.objs.size + 1 := Heap.size_push ..
  generalize hh2 : h₁.push { cls := .type "dict", data := .dict #[] } = h₂ at *
  generalize hC : h₁.objs.size = C at *
  have k₃ : Kx none_ h₂ (pushCells h₂ scope.names) := by
    rw [CO.push]
    cases ck with
    | true => exact Kx.push _ _
    | false => exact Kx.refl _ _
  have hT : ∃ b, h₀.get? b = none ∧ h.get? b = none ∧ Tgt (cE scope cl ck x env C) x b (pushCells h₂ scope.names) none := by
    have ht := CO.tgt C
    rw [CO.push]
    cases ck with
    | true =>
      refine ⟨C + 1, ?_, ?_, .inr ⟨ht, ?_, ?_⟩⟩
      · rw [← hsz2]; exact ((k0.tn k₁).tn k₂).deadS
      · rw [← hsz2]; exact (k₁.tn k₂).deadS
      · show ((x, C + 1) :: cl).lookup x = some (C + 1)
        rw [List.lookup_cons]; simp
      · rw [← hsz2]
        exact ⟨_, Heap.get?_push_size _ rfl, rfl⟩
    | false =>
      exact ⟨C, hC0, hC ▸ k₁.deadS, .inl ⟨ht, rfl, _, ns₂, fun v e => by cases e⟩⟩
  refine hide fun Gz kz => ?_
  obtain ⟨b, hb0, hbd, hT⟩ := hT
  refine kz ?_
  clear kz Gz
  generalize pushCells h₂ scope.names = h₃ at *
  have k03 : Kx none_ h₀ h₃ := ((k0.tn k₁).tn k₂).tn k₃
  have kh3 : Kx none_ h h₃ := (k₁.tn k₂).tn k₃
  have hst₃ : St 0 h₃ := W.frame _ _ _ hst fun a _ o e => kh3.kp a o e
  have l₃ : IsL h₃ Dl #[] 0 := k₃.kp _ _ (k₂.kp _ _ l₁)
  have hCne : C ≠ Dl := (ne_dead hCd l₁).symm
  have loop : codeAny (model prog w) A (.compLoop (.ListComp elt [⟨.Name x px, iter, ifs, 0⟩] scope pos) 0 (.ref I) (.ref Dl) (cE scope cl ck x env C)) (RR (.ref Dl) C) ⟨h₃, g, d, tk, os⟩ :=
    comp_loop W hn F pz hF CO.kind ⟨none, hT⟩ (ns₂.keeps k₃.kp) hb0 hC0 hD0 hI0 hst₃ l₃ k03 (fun hm => by obtain ⟨o, ho⟩ := hfp _ hm; rw [hbd] at ho; cases ho) (fun hm => by obtain ⟨o, ho⟩ := hfp _ hm; rw [hDd] at ho; cases ho) hIl
      (fun i v h₂ tk₂ Q' E' => tests C b i v h₂ tk₂ Q' E') (fun i v h₂ tk₂ Q' E' => elts C b i v h₂ tk₂ Q' E') fun h' tk' ys m m' k' l' c' n' => hRR Dl C h' tk' ys m m' hD0 hC0 hCne k' l' c' n'
  exact codeAny_compStart_list loop (W.self 0 _ _ _ hst₃ loop)

/- what an assigned comprehension over a range asks -/
inductive LaR (prog : Program) (w : World) (A : Around) (g : Array GenState) (d : Drawn) (os : OsState) (elt : Expr) (ifs : List Expr) (scope : Scope) (cl : List (Str × Addr)) (ck : Bool) (x : Str) (env : Env) (F : Nat → Value → Heap → Prop) (pz : Nat → Bool) (L : Nat) (y : Str) (Q : Flow → Shared → Prop) (xv : Value) (s₁ : Shared) : Prop
  | mk (ax : Addr)
      (a : Int)
      (b : Int)
      (tt : Tok)
      (uu : Tok)
      (vv : Tok)
      (nn : Nat)
      (h₀ : Heap)
      (tk₀ : Tok)
      (q1 : xv = .ref ax)
      (q2 : s₁ = ⟨h₀, g, d, tk₀, os⟩)
      (q3 : IsRange h₀ ax a b 1 tt uu vv)
      (q4 : Builtin.Range.small a b 1 = true)
      (q5 : Builtin.Range.rangeSize a b 1 = ((nn : Nat) : Int))
      (q6 : nn ≤ 1000)
      (q7 : (∀ C b i v (h₂ : Heap) tk₂ (Q' : Bool → Shared → Prop) (E' : Value → Shared → Prop), i < nn → (∃ t, v = .int (a + (i : Int)) t) → Tgt (cE scope cl ck x env C) x b h₂ (some v) → Kx none_ h₀ h₂ → (∀ h₃ tk₃, Kx none_ h₂ h₃ → Q' (pz i) ⟨h₃, g, d, tk₃, os⟩) →
        wpAny (model prog w) A (forIn ifs true fun c r => if r = true then do let ok ← isTrue c (cE scope cl ck x env C) (eval c (cE scope cl ck x env C)); pure (ForInStep.yield ok) else pure (ForInStep.yield r)) Q' E' ⟨h₂, g, d, tk₂, os⟩))
      (q8 : (∀ C b i v (h₂ : Heap) tk₂ (Q' : Value → Shared → Prop) (E' : Value → Shared → Prop), i < nn → (∃ t, v = .int (a + (i : Int)) t) → pz i = true → Tgt (cE scope cl ck x env C) x b h₂ (some v) → Kx none_ h₀ h₂ → (∀ y h₃ tk₃, Kx none_ h₂ h₃ → F i y h₃ → Q' y ⟨h₃, g, d, tk₃, os⟩) →
        wpAny (model prog w) A (eval elt (cE scope cl ck x env C)) Q' E' ⟨h₂, g, d, tk₂, os⟩))
      (l : List (Str × Value))
      (z9 : Fv h₀ L l)
      (z10 : ∀ Dl h' tk' ys m, h₀.get? Dl = none → Kx (· = L) h₀ h' → Fv h' L ((y, .ref Dl) :: l) → IsL h' Dl ys m → CompR F pz nn h' ys → Q .next ⟨h', g, d, tk', os⟩) : LaR prog w A g d os elt ifs scope cl ck x env F pz L y Q xv s₁
/- what an assigned comprehension over a list asks -/
inductive LaL (prog : Program) (w : World) (A : Around) (g : Array GenState) (d : Drawn) (os : OsState) (elt : Expr) (ifs : List Expr) (scope : Scope) (cl : List (Str × Addr)) (ck : Bool) (x : Str) (env : Env) (F : Nat → Value → Heap → Prop) (pz : Nat → Bool) (L : Nat) (y : Str) (Q : Flow → Shared → Prop) (xv : Value) (s₁ : Shared) : Prop
  | mk (ax : Addr)
      (vs : Array Value)
      (nn : Nat)
      (h₀ : Heap)
      (tk₀ : Tok)
      (q1 : xv = .ref ax)
      (q2 : s₁ = ⟨h₀, g, d, tk₀, os⟩)
      (q3 : IsL h₀ ax vs nn)
      (q4 : vs.size ≤ 1000)
      (q5 : (∀ C b i v (h₂ : Heap) tk₂ (Q' : Bool → Shared → Prop) (E' : Value → Shared → Prop), vs[i]? = some v → Tgt (cE scope cl ck x env C) x b h₂ (some v) → Kx none_ h₀ h₂ → (∀ h₃ tk₃, Kx none_ h₂ h₃ → Q' (pz i) ⟨h₃, g, d, tk₃, os⟩) →
        wpAny (model prog w) A (forIn ifs true fun c r => if r = true then do let ok ← isTrue c (cE scope cl ck x env C) (eval c (cE scope cl ck x env C)); pure (ForInStep.yield ok) else pure (ForInStep.yield r)) Q' E' ⟨h₂, g, d, tk₂, os⟩))
      (q6 : (∀ C b i v (h₂ : Heap) tk₂ (Q' : Value → Shared → Prop) (E' : Value → Shared → Prop), vs[i]? = some v → pz i = true → Tgt (cE scope cl ck x env C) x b h₂ (some v) → Kx none_ h₀ h₂ → (∀ y h₃ tk₃, Kx none_ h₂ h₃ → F i y h₃ → Q' y ⟨h₃, g, d, tk₃, os⟩) →
        wpAny (model prog w) A (eval elt (cE scope cl ck x env C)) Q' E' ⟨h₂, g, d, tk₂, os⟩))
      (l : List (Str × Value))
      (z7 : Fv h₀ L l)
      (z8 : ∀ Dl h' tk' ys m, h₀.get? Dl = none → Kx (· = L) h₀ h' → Fv h' L ((y, .ref Dl) :: l) → IsL h' Dl ys m → CompR F pz vs.size h' ys → Q .next ⟨h', g, d, tk', os⟩) : LaL prog w A g d os elt ifs scope cl ck x env F pz L y Q xv s₁
/- what a comprehension over a range asks -/
inductive LcR (prog : Program) (w : World) (A : Around) (g : Array GenState) (d : Drawn) (os : OsState) (elt : Expr) (ifs : List Expr) (scope : Scope) (cl : List (Str × Addr)) (ck : Bool) (x : Str) (env : Env) (F : Nat → Value → Heap → Prop) (pz : Nat → Bool) (Q : Value → Shared → Prop) (xv : Value) (s₁ : Shared) : Prop
  | mk (ax : Addr)
      (a : Int)
      (b : Int)
      (tt : Tok)
      (uu : Tok)
      (vv : Tok)
      (nn : Nat)
      (h₀ : Heap)
      (tk₀ : Tok)
      (q1 : xv = .ref ax)
      (q2 : s₁ = ⟨h₀, g, d, tk₀, os⟩)
      (q3 : IsRange h₀ ax a b 1 tt uu vv)
      (q4 : Builtin.Range.small a b 1 = true)
      (q5 : Builtin.Range.rangeSize a b 1 = ((nn : Nat) : Int))
      (q6 : nn ≤ 1000)
      (q7 : (∀ C b i v (h₂ : Heap) tk₂ (Q' : Bool → Shared → Prop) (E' : Value → Shared → Prop), i < nn → (∃ t, v = .int (a + (i : Int)) t) → Tgt (cE scope cl ck x env C) x b h₂ (some v) → Kx none_ h₀ h₂ → (∀ h₃ tk₃, Kx none_ h₂ h₃ → Q' (pz i) ⟨h₃, g, d, tk₃, os⟩) →
        wpAny (model prog w) A (forIn ifs true fun c r => if r = true then do let ok ← isTrue c (cE scope cl ck x env C) (eval c (cE scope cl ck x env C)); pure (ForInStep.yield ok) else pure (ForInStep.yield r)) Q' E' ⟨h₂, g, d, tk₂, os⟩))
      (q8 : (∀ C b i v (h₂ : Heap) tk₂ (Q' : Value → Shared → Prop) (E' : Value → Shared → Prop), i < nn → (∃ t, v = .int (a + (i : Int)) t) → pz i = true → Tgt (cE scope cl ck x env C) x b h₂ (some v) → Kx none_ h₀ h₂ → (∀ y h₃ tk₃, Kx none_ h₂ h₃ → F i y h₃ → Q' y ⟨h₃, g, d, tk₃, os⟩) →
        wpAny (model prog w) A (eval elt (cE scope cl ck x env C)) Q' E' ⟨h₂, g, d, tk₂, os⟩))
      (q9 : (∀ Dl h' tk' ys m, h₀.get? Dl = none → Kx none_ h₀ h' → IsL h' Dl ys m → CompR F pz nn h' ys → Q (.ref Dl) ⟨h', g, d, tk', os⟩)) : LcR prog w A g d os elt ifs scope cl ck x env F pz Q xv s₁
/- what a comprehension over a list asks -/
inductive LcL (prog : Program) (w : World) (A : Around) (g : Array GenState) (d : Drawn) (os : OsState) (elt : Expr) (ifs : List Expr) (scope : Scope) (cl : List (Str × Addr)) (ck : Bool) (x : Str) (env : Env) (F : Nat → Value → Heap → Prop) (pz : Nat → Bool) (Q : Value → Shared → Prop) (xv : Value) (s₁ : Shared) : Prop
  | mk (ax : Addr)
      (vs : Array Value)
      (nn : Nat)
      (h₀ : Heap)
      (tk₀ : Tok)
      (q1 : xv = .ref ax)
      (q2 : s₁ = ⟨h₀, g, d, tk₀, os⟩)
      (q3 : IsL h₀ ax vs nn)
      (q4 : vs.size ≤ 1000)
      (q5 : (∀ C b i v (h₂ : Heap) tk₂ (Q' : Bool → Shared → Prop) (E' : Value → Shared → Prop), vs[i]? = some v → Tgt (cE scope cl ck x env C) x b h₂ (some v) → Kx none_ h₀ h₂ → (∀ h₃ tk₃, Kx none_ h₂ h₃ → Q' (pz i) ⟨h₃, g, d, tk₃, os⟩) →
        wpAny (model prog w) A (forIn ifs true fun c r => if r = true then do let ok ← isTrue c (cE scope cl ck x env C) (eval c (cE scope cl ck x env C)); pure (ForInStep.yield ok) else pure (ForInStep.yield r)) Q' E' ⟨h₂, g, d, tk₂, os⟩))
      (q6 : (∀ C b i v (h₂ : Heap) tk₂ (Q' : Value → Shared → Prop) (E' : Value → Shared → Prop), vs[i]? = some v → pz i = true → Tgt (cE scope cl ck x env C) x b h₂ (some v) → Kx none_ h₀ h₂ → (∀ y h₃ tk₃, Kx none_ h₂ h₃ → F i y h₃ → Q' y ⟨h₃, g, d, tk₃, os⟩) →
        wpAny (model prog w) A (eval elt (cE scope cl ck x env C)) Q' E' ⟨h₂, g, d, tk₂, os⟩))
      (q7 : (∀ Dl h' tk' ys m, h₀.get? Dl = none → Kx none_ h₀ h' → IsL h' Dl ys m → CompR F pz vs.size h' ys → Q (.ref Dl) ⟨h', g, d, tk', os⟩)) : LcL prog w A g d os elt ifs scope cl ck x env F pz Q xv s₁
/- a list comprehension over a list -/
theorem lcompL {elt iter : Expr} {x : Str} {px : Pos} {ifs : List Expr} {scope : Scope} {cl : List (Str × Addr)} {ck : Bool} {pos : Pos} {Q : Value → Shared → Prop}
    (CO : CompOk scope cl ck x env) (hclos : closureFor scope env = pure cl) (F : Nat → Value → Heap → Prop) (pz : Nat → Bool) (hr : A.handled = none)
    (hF : ∀ i y (h h' : Heap), F i y h → (∀ a vs, IsT h a vs → IsT h' a vs) → F i y h')
    (hi : wpAny (model prog w) A (eval iter env) (LcL prog w A g d os elt ifs scope cl ck x env F pz Q) E s)
    (hs : ∀ x, foldedSetIterable iter env x = pure x := by intro _; rfl) :
    wpAny (model prog w) A (eval (.ListComp elt [⟨.Name x px, iter, ifs, 0⟩] scope pos) env) Q E s := by
  rw [eval_ListComp]
  refine wpAny_comprehension_free (use := none) rfl hs hclos CO.kind CO.names (wpAny_mono hi (fun xv s₁ h₁ => ?_) fun _ _ e => e)
  refine hide fun Gz kz => ?_
  obtain ⟨ax, vs, nn, h₀, tk₀, rfl, rfl, hl, hsz, ht, he, hq⟩ := h₁
  refine kz ?_
  clear kz Gz
  refine wpAny_pyIter_list hl.isList ?_
  have k₁ : Kx none_ h₀ (h₀.push { cls := .type "list_iterator", data := .fields #[.ref ax, .int 0 0] }) := Kx.push _ _
  have hne : ax ≠ h₀.objs.size := ne_dead (dead_size h₀) hl
  refine comp_block CO (Walks.list hr h₀.objs.size ax hne vs) hsz F pz hF (dead_size h₀) ⟨⟨_, Heap.get?_push_size _ rfl, rfl, rfl⟩, hl.isList.push _⟩ k₁ (fun a ha => ?_) (fun i h st => ?_)
    (fun C b i v h₂ tk₂ Q' E' _ hv => ht C b i v h₂ tk₂ Q' E' hv) (fun C b i v h₂ tk₂ Q' E' _ hv => he C b i v h₂ tk₂ Q' E' hv) fun Dl C h' tk' ys m m' hD hC hCD k' l' c' n' => ?_
  · rcases List.mem_cons.mp ha with rfl | ha
    · exact ⟨_, Heap.get?_push_size _ rfl⟩
    · rw [List.mem_singleton.mp ha]; exact ⟨_, k₁.kp _ _ hl⟩
  · refine hide fun Gz kz => ?_
    obtain ⟨⟨o, ho, _, hd⟩, _⟩ := st
    refine kz ?_
    clear kz Gz
    exact ⟨o, ho, _, hd⟩
  · refine ⟨m', n', fun h'' sb => ?_⟩
    have kC := Kx.of_same sb
    refine hq Dl h'' tk' ys m hD (k'.t1 kC hC) (kC _ (fun e => hCD e.symm) _ l') (c'.mono fun i y f => hF i y _ _ f (tup_keep kC fun o ho => ?_))
    obtain ⟨o', es, ep, ho', hd, _⟩ := n'
    rw [ho] at ho'; cases ho'
    exact .inr fun xs n e => by rw [hd] at e; cases e
/- a list comprehension over a range -/
theorem lcompR {elt iter : Expr} {x : Str} {px : Pos} {ifs : List Expr} {scope : Scope} {cl : List (Str × Addr)} {ck : Bool} {pos : Pos} {Q : Value → Shared → Prop}
    (CO : CompOk scope cl ck x env) (hclos : closureFor scope env = pure cl) (F : Nat → Value → Heap → Prop) (pz : Nat → Bool) (hr : A.handled = none)
    (hF : ∀ i y (h h' : Heap), F i y h → (∀ a vs, IsT h a vs → IsT h' a vs) → F i y h')
    (hi : wpAny (model prog w) A (eval iter env) (LcR prog w A g d os elt ifs scope cl ck x env F pz Q) E s)
    (hs : ∀ x, foldedSetIterable iter env x = pure x := by intro _; rfl) :
    wpAny (model prog w) A (eval (.ListComp elt [⟨.Name x px, iter, ifs, 0⟩] scope pos) env) Q E s := by
  rw [eval_ListComp]
  refine wpAny_comprehension_free (use := none) rfl hs hclos CO.kind CO.names (wpAny_mono hi (fun xv s₁ h₁ => ?_) fun _ _ e => e)
  refine hide fun Gz kz => ?_
  obtain ⟨ax, a, b, tt, uu, vv, nn, h₀, tk₀, rfl, rfl, hl, hsm, hnn, hsz, ht, he, hq⟩ := h₁
  refine kz ?_
  clear kz Gz
  refine wpAny_pyIter_range hl hsm ?_
  rw [hnn]
  have k₁ : Kx none_ h₀ (h₀.push { cls := .type "range_iterator", data := .fields #[.int a 0, .int 1 0, .int (nn : Nat) 0] }) := Kx.push _ _
  refine comp_block CO (LCg.range_walks (I := h₀.objs.size) hr a nn) hsz F pz hF (dead_size h₀) ?_ (Kx.push _ _) (fun a ha => ?_) (fun i h st => ⟨_, st, _, rfl⟩)
    (fun C b i v h₂ tk₂ Q' E' hi hv => ht C b i v h₂ tk₂ Q' E' hi hv) (fun C b i v h₂ tk₂ Q' E' hi hv => he C b i v h₂ tk₂ Q' E' hi hv) fun Dl C h' tk' ys m m' hD hC hCD k' l' c' n' => ?_
  · show IsRangeIter _ _ _ _ _
    simpa using Heap.get?_push_size _ rfl
  · rw [List.mem_singleton.mp ha]; exact ⟨_, Heap.get?_push_size _ rfl⟩
  · refine ⟨m', n', fun h'' sb => ?_⟩
    have kC := Kx.of_same sb
    refine hq Dl h'' tk' ys m hD (k'.t1 kC hC) (kC _ (fun e => hCD e.symm) _ l') (c'.mono fun i y f => hF i y _ _ f (tup_keep kC fun o ho => ?_))
    obtain ⟨o', es, ep, ho', hd, _⟩ := n'
    rw [ho] at ho'; cases ho'
    exact .inr fun xs n e => by rw [hd] at e; cases e
/- a list comprehension over a list -/
theorem lassL {elt iter : Expr} {x : Str} {px : Pos} {ifs : List Expr} {scope : Scope} {cl : List (Str × Addr)} {ck : Bool} {pos spos py : Pos} {y : Str} {L : Nat} {Q : Flow → Shared → Prop}
    (hsw : swapsWith (.ListComp elt [⟨.Name x px, iter, ifs, 0⟩] scope pos) (some (.Name y py)) spos.line env = pure true) (CO : CompOk scope cl ck x env) (hclos : closureFor scope env = pure cl) (F : Nat → Value → Heap → Prop) (pz : Nat → Bool) (hr : A.handled = none)
    (hF : ∀ i y (h h' : Heap), F i y h → (∀ a vs, IsT h a vs → IsT h' a vs) → F i y h')
    (hi : wpAny (model prog w) A (eval iter env) (LaL prog w A g d os elt ifs scope cl ck x env F pz L y Q) E s)
    (hL : env.locals = L := by rfl) (hy : env.kindOf y = some .local := by rfl)
    (hp : (env.scope.kind == .class || (env.scope.kind == .module && env.locals != env.globals)) = false := by rfl) (hs : ∀ x, foldedSetIterable iter env x = pure x := by intro _; rfl) :
    wpAny (model prog w) A (exec (.Assign [.Name y py] (.ListComp elt [⟨.Name x px, iter, ifs, 0⟩] scope pos) spos) env) Q E s := by
  rw [exec_Assign_Name_used _ _ _ _ hsw]
  refine wpAny_bind (wpAny_standAt (wpAny_bind ?_))
  show wpAny _ A (do let _ ← comprehension (.ListComp elt [⟨.Name x px, iter, ifs, 0⟩] scope pos) scope env _ (newList []) false (eval iter env) (some (assign (.Name y py) env))) _ _ s
  refine wpAny_bind (wpAny_mono (wpAny_comprehension_free (use := some (assign (.Name y py) env)) (Q := fun _ s' => Q .next s') rfl hs hclos CO.kind CO.names
    (wpAny_mono hi (fun xv s₁ h₁ => ?_) fun _ _ e => e)) (fun _ s' hq => wpAny_pure (wpAny_pure hq)) fun _ _ e => e)
  refine hide fun Gz kz => ?_
  obtain ⟨ax, vs, nn, h₀, tk₀, rfl, rfl, hl, hsz, ht, he, l, Fl, hq⟩ := h₁
  refine kz ?_
  clear kz Gz
  refine wpAny_pyIter_list hl.isList ?_
  have k₁ : Kx none_ h₀ (h₀.push { cls := .type "list_iterator", data := .fields #[.ref ax, .int 0 0] }) := Kx.push _ _
  have hne : ax ≠ h₀.objs.size := ne_dead (dead_size h₀) hl
  refine comp_block CO (Walks.list hr h₀.objs.size ax hne vs) hsz F pz hF (dead_size h₀) ⟨⟨_, Heap.get?_push_size _ rfl, rfl, rfl⟩, hl.isList.push _⟩ k₁ (fun a ha => ?_) (fun i h st => ?_)
    (fun C b i v h₂ tk₂ Q' E' _ hv => ht C b i v h₂ tk₂ Q' E' hv) (fun C b i v h₂ tk₂ Q' E' _ hv => he C b i v h₂ tk₂ Q' E' hv) fun Dl C h' tk' ys m m' hD hC hCD k' l' c' n' => ?_
  · rcases List.mem_cons.mp ha with rfl | ha
    · exact ⟨_, Heap.get?_push_size _ rfl⟩
    · rw [List.mem_singleton.mp ha]; exact ⟨_, k₁.kp _ _ hl⟩
  · refine hide fun Gz kz => ?_
    obtain ⟨⟨o, ho, _, hd⟩, _⟩ := st
    refine kz ?_
    clear kz Gz
    exact ⟨o, ho, _, hd⟩
  · show wpAny _ A (assign (.Name y py) env (.ref Dl)) _ _ _
    refine PyProof.Rows.assign_Name (stF (Fl.keep k' id) (fun h₂ tk₂ F₂ kL => ?_) hL hy hp)
    have hLC : L ≠ C := Fl.ne hC
    have hLD : L ≠ Dl := Fl.ne hD
    have n₂ : h₂.Ns C m' := by
      obtain ⟨o, es, ep, ho, r⟩ := id n'
      exact ⟨o, es, ep, kL _ (fun e => hLC e.symm) _ ho, r⟩
    refine ⟨m', n₂, fun h'' sb => ?_⟩
    have kC := Kx.of_same sb
    refine hq Dl h'' tk₂ ys m hD ((k'.any.tr kL).t1 kC hC) (F₂.keep kC hLC) (kC _ (fun e => hCD e.symm) _ (kL _ (fun e => hLD e.symm) _ l')) ((c'.mono fun i y f => hF i y _ _ f fun a vs t => (Fl.keep k' id).tup t kL).mono fun i y f => hF i y _ _ f (tup_keep kC fun o ho => ?_))
    obtain ⟨o', es, ep, ho', hd, _⟩ := n₂
    rw [ho] at ho'; cases ho'
    exact .inr fun xs n e => by rw [hd] at e; cases e
/- a list comprehension over a range -/
theorem lassR {elt iter : Expr} {x : Str} {px : Pos} {ifs : List Expr} {scope : Scope} {cl : List (Str × Addr)} {ck : Bool} {pos spos py : Pos} {y : Str} {L : Nat} {Q : Flow → Shared → Prop}
    (hsw : swapsWith (.ListComp elt [⟨.Name x px, iter, ifs, 0⟩] scope pos) (some (.Name y py)) spos.line env = pure true) (CO : CompOk scope cl ck x env) (hclos : closureFor scope env = pure cl) (F : Nat → Value → Heap → Prop) (pz : Nat → Bool) (hr : A.handled = none)
    (hF : ∀ i y (h h' : Heap), F i y h → (∀ a vs, IsT h a vs → IsT h' a vs) → F i y h')
    (hi : wpAny (model prog w) A (eval iter env) (LaR prog w A g d os elt ifs scope cl ck x env F pz L y Q) E s)
    (hL : env.locals = L := by rfl) (hy : env.kindOf y = some .local := by rfl)
    (hp : (env.scope.kind == .class || (env.scope.kind == .module && env.locals != env.globals)) = false := by rfl) (hs : ∀ x, foldedSetIterable iter env x = pure x := by intro _; rfl) :
    wpAny (model prog w) A (exec (.Assign [.Name y py] (.ListComp elt [⟨.Name x px, iter, ifs, 0⟩] scope pos) spos) env) Q E s := by
  rw [exec_Assign_Name_used _ _ _ _ hsw]
  refine wpAny_bind (wpAny_standAt (wpAny_bind ?_))
  show wpAny _ A (do let _ ← comprehension (.ListComp elt [⟨.Name x px, iter, ifs, 0⟩] scope pos) scope env _ (newList []) false (eval iter env) (some (assign (.Name y py) env))) _ _ s
  refine wpAny_bind (wpAny_mono (wpAny_comprehension_free (use := some (assign (.Name y py) env)) (Q := fun _ s' => Q .next s') rfl hs hclos CO.kind CO.names
    (wpAny_mono hi (fun xv s₁ h₁ => ?_) fun _ _ e => e)) (fun _ s' hq => wpAny_pure (wpAny_pure hq)) fun _ _ e => e)
  refine hide fun Gz kz => ?_
  obtain ⟨ax, a, b, tt, uu, vv, nn, h₀, tk₀, rfl, rfl, hl, hsm, hnn, hsz, ht, he, l, Fl, hq⟩ := h₁
  refine kz ?_
  clear kz Gz
  refine wpAny_pyIter_range hl hsm ?_
  rw [hnn]
  have k₁ : Kx none_ h₀ (h₀.push { cls := .type "range_iterator", data := .fields #[.int a 0, .int 1 0, .int (nn : Nat) 0] }) := Kx.push _ _
  refine comp_block CO (LCg.range_walks (I := h₀.objs.size) hr a nn) hsz F pz hF (dead_size h₀) ?_ (Kx.push _ _) (fun a ha => ?_) (fun i h st => ⟨_, st, _, rfl⟩)
    (fun C b i v h₂ tk₂ Q' E' hi hv => ht C b i v h₂ tk₂ Q' E' hi hv) (fun C b i v h₂ tk₂ Q' E' hi hv => he C b i v h₂ tk₂ Q' E' hi hv) fun Dl C h' tk' ys m m' hD hC hCD k' l' c' n' => ?_
  · show IsRangeIter _ _ _ _ _
    simpa using Heap.get?_push_size _ rfl
  · rw [List.mem_singleton.mp ha]; exact ⟨_, Heap.get?_push_size _ rfl⟩
  · show wpAny _ A (assign (.Name y py) env (.ref Dl)) _ _ _
    refine PyProof.Rows.assign_Name (stF (Fl.keep k' id) (fun h₂ tk₂ F₂ kL => ?_) hL hy hp)
    have hLC : L ≠ C := Fl.ne hC
    have hLD : L ≠ Dl := Fl.ne hD
    have n₂ : h₂.Ns C m' := by
      obtain ⟨o, es, ep, ho, r⟩ := id n'
      exact ⟨o, es, ep, kL _ (fun e => hLC e.symm) _ ho, r⟩
    refine ⟨m', n₂, fun h'' sb => ?_⟩
    have kC := Kx.of_same sb
    refine hq Dl h'' tk₂ ys m hD ((k'.any.tr kL).t1 kC hC) (F₂.keep kC hLC) (kC _ (fun e => hCD e.symm) _ (kL _ (fun e => hLD e.symm) _ l')) ((c'.mono fun i y f => hF i y _ _ f fun a vs t => (Fl.keep k' id).tup t kL).mono fun i y f => hF i y _ _ f (tup_keep kC fun o ho => ?_))
    obtain ⟨o', es, ep, ho', hd, _⟩ := n₂
    rw [ho] at ho'; cases ho'
    exact .inr fun xs n e => by rw [hd] at e; cases e
end
end Mine
end

section
open PySem PySem.W PyProof.Rows PySem.Spec PySem.Calls
set_option maxRecDepth 100000
set_option maxHeartbeats 4000000
namespace Mine
section
variable {prog : Program} {w : World} {A : Around} {E : Value → Shared → Prop} {s : Shared} {env cenv : Env} {h : Heap} {g : Array GenState} {d : Drawn} {tk : Nat} {os : OsState} {M : Model} {R : Result → Shared → Prop}

theorem compLoop_any {elt target iter : Expr} {ifs : List Expr} {scope : Scope} {pos : Pos} {it acc : Value} {env : Env} (I : Nat → Shared → Prop)
    (turn : ∀ n s, I n s → wpAny (model prog w) A (pyNext it) (fun r s₁ => match r with
      | none => R (.ok .next) s₁
      | some v => wpAny (model prog w) A (letOwnedTupleGo target it v) (fun _ s₁' => wpAny (model prog w) A (assign target env v) (fun _ s₂ =>
          wpAny (model prog w) A (forIn ifs true fun c r => if r = true then do let ok ← isTrue c env (eval c env); pure (ForInStep.yield ok) else pure (ForInStep.yield r)) (fun ok s₃ =>
            if ok = true then wpAny (model prog w) A (eval elt env) (fun x s₄ =>
              wpAny (model prog w) A (call (.builtin "list.append") [acc, x]) (fun _ s₅ => ∃ m, m < n ∧ I m s₅) (notedBy (model prog w) A env fun e s' => R (.error e) s') s₄) (notedBy (model prog w) A env fun e s' => R (.error e) s') s₃
            else ∃ m, m < n ∧ I m s₃) (notedBy (model prog w) A env fun e s' => R (.error e) s') s₂) (notedBy (model prog w) A env fun e s' => R (.error e) s') s₁') (notedBy (model prog w) A env fun e s' => R (.error e) s') s₁) (notedBy (model prog w) A env fun e s' => R (.error e) s') s)
    (n : Nat) (h : I n s) :
    codeAny (model prog w) A (.compLoop (.ListComp elt [⟨target, iter, ifs, 0⟩] scope pos) 0 it acc env) R s := by
  refine codeAny_loop rfl I (fun n s hI => ?_) n h
  show wpAny _ A ((compTurn (.ListComp elt [⟨target, iter, ifs, 0⟩] scope pos) 0 it acc env).onRaise (fun x => do noteFrame x env; theTreesLotGoes x)) _ _ s
  refine wpAny_noted ?_
  rw [compTurn_list]
  refine wpAny_bind (wpAny_standAt (wpAny_bind (wpAny_mono (turn n s hI) (fun r s₁ h₁ => ?_) fun _ _ h' => h')))
  cases r with
  | none => exact wpAny_pure h₁
  | some v =>
    refine wpAny_bind (wpAny_mono h₁ (fun _ s₁' h₁' => ?_) fun _ _ h' => h')
    refine wpAny_bind (wpAny_mono h₁' (fun _ s₂ h₂ => wpAny_bind (wpAny_mono h₂ (fun ok s₃ h₃ => ?_) fun _ _ h' => h')) fun _ _ h' => h')
    cases ok with
    | false => exact wpAny_pure ⟨rfl, h₃⟩
    | true =>
      exact wpAny_bind (wpAny_bind (wpAny_mono h₃ (fun x s₄ h₄ => wpAny_bind (wpAny_mono h₄ (fun _ s₅ h₅ => wpAny_pure (wpAny_pure ⟨rfl, h₅⟩)) fun _ _ h' => h')) fun _ _ h' => h'))

/- what the comprehension over pairs asks -/
inductive LaP (d : Drawn) (os : OsState) (g : Array GenState) (L : Nat) (y : Str) (Q : Flow → Shared → Prop) (xv : Value) (s₁ : Shared) : Prop
  | mk (ax : Addr)
      (vs : Array Value)
      (nn : Nat)
      (h₀ : Heap)
      (tk₀ : Tok)
      (l : List (Str × Value))
      (us : List (Value × Value))
      (q1 : xv = .ref ax)
      (q2 : s₁ = ⟨h₀, g, d, tk₀, os⟩)
      (q3 : IsL h₀ ax vs nn)
      (q4 : vs.size = us.length)
      (q5 : us.length ≤ 1000)
      (q6 : Fv h₀ L l)
      (q7 : (∀ (i : Nat) (p : Value × Value), us[i]? = some p → ∃ a, vs[i]? = some (.ref a) ∧ IsT h₀ a [p.1, p.2]))
      (q8 : (∀ Dl h' tk' m, h₀.get? Dl = none → Kx (· = L) h₀ h' → Fv h' L ((y, .ref Dl) :: l) → IsL h' Dl (us.map (·.2)).toArray m → Q .next ⟨h', g, d, tk', os⟩)) : LaP d os g L y Q xv s₁
/- y = [x2 for x1, x2 in it] -/
theorem lassP {iter : Expr} {x1 x2 : Str} {p1 p2 p3 tp : Pos} {kk : Nat} {scope : Scope} {cl : List (Str × Addr)} {pos spos py : Pos} {y : Str} {L : Nat} {Q : Flow → Shared → Prop}
    (hsw : swapsWith (.ListComp (.Name x2 p3) [⟨.Tuple [.Name x1 p1, .Name x2 p2] kk tp, iter, [], 0⟩] scope pos) (some (.Name y py)) spos.line env = pure true)
    (hclos : closureFor scope env = pure cl) (hr : A.handled = none) (hkind : scope.kind = .function) (hnames : ∀ y ∈ scope.names, y.2 = .local → scope.names.lookup y.1 = some .local)
    (hcells : ∀ C : Nat, cellsFrom (C + 1) scope.names cl = cl) (hpush : ∀ h : Heap, pushCells h scope.names = h) (hx1 : ∀ C, (compEnvC scope cl C env).kindOf x1 = some .local) (hx2 : ∀ C, (compEnvC scope cl C env).kindOf x2 = some .local)
    (hi : wpAny (model prog w) A (eval iter env) (LaP d os g L y Q) E s)
    (hL : env.locals = L := by rfl) (hy : env.kindOf y = some .local := by rfl) (hd2 : (x2 == ("__debug__" : Str)) = false := by decide)
    (hp : (env.scope.kind == .class || (env.scope.kind == .module && env.locals != env.globals)) = false := by rfl) (hs : ∀ x, foldedSetIterable iter env x = pure x := by intro _; rfl) :
    wpAny (model prog w) A (exec (.Assign [.Name y py] (.ListComp (.Name x2 p3) [⟨.Tuple [.Name x1 p1, .Name x2 p2] kk tp, iter, [], 0⟩] scope pos) spos) env) Q E s := by
  rw [exec_Assign_Name_used _ _ _ _ hsw]
  refine wpAny_bind (wpAny_standAt (wpAny_bind ?_))
  show wpAny _ A (do let _ ← comprehension (.ListComp (.Name x2 p3) [⟨.Tuple [.Name x1 p1, .Name x2 p2] kk tp, iter, [], 0⟩] scope pos) scope env _ (newList []) false (eval iter env) (some (assign (.Name y py) env))) _ _ s
  refine wpAny_bind (wpAny_mono (wpAny_comprehension_free (use := some (assign (.Name y py) env)) (Q := fun _ s' => Q .next s') rfl hs hclos hkind hnames
    (wpAny_mono hi (fun xv s₁ h₁ => ?_) fun _ _ e => e)) (fun _ s' hq => wpAny_pure (wpAny_pure hq)) fun _ _ e => e)
  refine hide fun Gz kz => ?_
  obtain ⟨ax, vs, nn, h₀, tk₀, l, us, rfl, rfl, hl, hsz, hsz2, Fl, hus, hq⟩ := h₁
  refine kz ?_
  clear kz Gz
  refine wpAny_pyIter_list hl.isList ?_
  have k₁ : Kx none_ h₀ (h₀.push { cls := .type "list_iterator", data := .fields #[.ref ax, .int 0 0] }) := Kx.push _ _
  have it₁ : (h₀.push { cls := .type "list_iterator", data := .fields #[.ref ax, .int 0 0] }).IsListIter h₀.objs.size ax 0 := ⟨_, Heap.get?_push_size _ rfl, rfl, rfl⟩
  have hI0 : h₀.get? h₀.objs.size = none := dead_size h₀
  generalize h₀.objs.size = I at *
  generalize h₀.push { cls := .type "list_iterator", data := .fields #[.ref ax, .int 0 0] } = h₁ at *
  refine nList (fun h₂ k₂ l₂ => ?_) (Nat.zero_le _)
  have hD0 : h₀.get? h₁.objs.size = none := k₁.deadS
  generalize h₁.objs.size = Dl at *
  refine nfe_comp ?_
  rw [hcells, hpush]
  have hC0 : h₀.get? h₂.objs.size = none := (k₁.tn k₂).deadS
  have hCd : h₂.get? h₂.objs.size = none := dead_size h₂
  have k₃ : Kx none_ h₂ (h₂.push { cls := .type "dict", data := .dict #[] }) := Kx.push _ _
  have ns₃ : (h₂.push { cls := .type "dict", data := .dict #[] }).Ns h₂.objs.size fun _ => none := Heap.Ns.new h₂ _
  generalize h₂.objs.size = C at *
  generalize h₂.push { cls := .type "dict", data := .dict #[] } = h₃ at *
  have k03 : Kx none_ h₀ h₃ := (k₁.tn k₂).tn k₃
  have l₃ : IsL h₃ Dl #[] 0 := k₃.kp _ _ l₂
  have it₃ : h₃.IsListIter I ax 0 := by
    obtain ⟨o, ho, r⟩ := it₁
    exact ⟨o, (k₂.tn k₃).kp _ _ ho, r⟩
  have hCD : C ≠ Dl := (ne_dead hCd l₂).symm
  have hCI : C ≠ I := by
    obtain ⟨o, ho, r⟩ := it₁
    exact (ne_dead hCd (k₂.kp _ _ ho)).symm
  have hDI : Dl ≠ I := by
    rintro rfl
    obtain ⟨o, ho, _, hd⟩ := it₃
    rw [l₃] at ho; cases ho; cases hd
  have loop : codeAny (model prog w) A (.compLoop (.ListComp (.Name x2 p3) [⟨.Tuple [.Name x1 p1, .Name x2 p2] kk tp, iter, [], 0⟩] scope pos) 0 (.ref I) (.ref Dl) (compEnvC scope cl C env))
      (compPost (model prog w) A E (some (assign (.Name y py) env)) (fun _ s' => Q .next s') (.ref Dl) C) ⟨h₃, g, d, tk₀, os⟩ := by
    refine compLoop_any (fun N s' => ∃ h' tk' i m m', s' = ⟨h', g, d, tk', os⟩ ∧ i ≤ us.length ∧ N = us.length + 1 - i ∧ h'.IsListIter I ax i ∧ Kx none_ h₀ h' ∧ h'.Ns C m' ∧ IsL h' Dl ((us.take i).map (·.2)).toArray m) ?_ (us.length + 1)
      ⟨h₃, tk₀, 0, 0, _, rfl, Nat.zero_le _, rfl, it₃, k03, ns₃, l₃⟩
    rintro N s' xz
    refine hide fun Gz kz => ?_
    obtain ⟨h', tk', i, m, m', rfl, hi, rfl, it', k', n', l'⟩ := xz
    refine kz ?_
    clear kz Gz
    have hla : IsL h' ax vs nn := k'.kp _ _ hl
    by_cases hlt : i < us.length
    · have hu : us[i]? = some us[i] := by simp [hlt]
      obtain ⟨a, hv, ht⟩ := hus i _ hu
      refine wpAny_pyNext_list_item (s := ⟨h', g, d, tk', os⟩) it' hla.isList hv fun h₄ it₄ sb₄ => ?_
      have k₄ := Kx.of_same sb₄
      have k04 : Kx none_ h₀ h₄ := k'.t1 k₄ hI0
      refine wpAny_letOwnedTupleGo_listiter it₄ ?_
      have F₄ : Fv h₄ C [] := ⟨m', by obtain ⟨o, es, ep, ho, r⟩ := id n'; exact ⟨o, es, ep, k₄ _ hCI _ ho, r⟩, fun _ _ e => by cases e⟩
      refine asg2 (L := C) hr (k04.kp _ _ ht) F₄ (fun h₅ tk₅ F₅ k₅ => ?_) rfl (hx1 C) (hx2 C) (by simp [compEnvC, relabel, hkind])
      have k05 : Kx none_ h₀ h₅ := k04.t1 k₅ hC0
      refine wpAny_tests_nil ?_
      simp only [if_true]
      refine nmF (v := us[i].2) F₅ (by rw [List.lookup_cons]; simp) ?_ rfl hkind (hx2 C) hd2
      have l₅ : IsL h₅ Dl _ m := k₅ _ (fun e => hCD e.symm) _ (k₄ _ hDI _ l')
      refine append_at l₅ (fun h₆ sb₆ ho₆ => ?_) (by
        have : min i us.length ≤ 1000 := by (first | lia | omega)
        simp only [List.size_toArray, List.length_map, List.length_take]
        exact Nat.le_trans this (by decide))
      have k₆ := Kx.of_same sb₆
      refine ⟨us.length + 1 - (i + 1), Nat.sub_lt_sub_left (Nat.lt_succ_of_lt (by assumption)) (Nat.lt_succ_self _), h₆, tk₅, i + 1, m + 1, ?_⟩
      obtain ⟨m₅, n₅, -⟩ := F₅
      refine ⟨m₅, rfl, hlt, rfl, ?_, k05.t1 k₆ hD0, ?_, ?_⟩
      · obtain ⟨o, ho, hc, hd⟩ := it₄
        have ho5 := k₅ I (fun e => hCI e.symm) _ ho
        exact ⟨o, k₆ I (fun e => hDI e.symm) _ ho5, hc, hd⟩
      · obtain ⟨o, es, ep, ho, r⟩ := n₅
        exact ⟨o, es, ep, k₆ _ hCD _ ho, r⟩
      · have : ((us.take (i + 1)).map (·.2)).toArray = (((us.take i).map (·.2)).toArray).push us[i].2 := by
          rw [List.take_add_one, hu, List.map_append, List.push_toArray]
          rfl
        show h₆.get? Dl = _
        rw [this]
        exact ho₆
    · obtain rfl : i = us.length := by (first | lia | omega)
      refine wpAny_pyNext_list_end (s := ⟨h', g, d, tk', os⟩) hr it' hla.isList (Array.getElem?_eq_none (by (first | lia | omega))) fun h₄ he => ?_
      have k₄ := Kx.of_ext he
      have k04 : Kx none_ h₀ h₄ := k'.t1 k₄ hI0
      have l₄ : IsL h₄ Dl _ m := k₄ _ hDI _ l'
      rw [List.take_length] at l₄
      have n₄ : h₄.Ns C m' := by
        obtain ⟨o, es, ep, ho, r⟩ := id n'
        exact ⟨o, es, ep, k₄ _ hCI _ ho, r⟩
      show wpAny _ A (assign (.Name y py) env (.ref Dl)) _ _ _
      refine PyProof.Rows.assign_Name (stF (Fl.keep k04 id) (fun h₅ tk₅ F₅ kL => ?_) hL hy hp)
      have hLC : L ≠ C := Fl.ne hC0
      have hLD : L ≠ Dl := Fl.ne hD0
      have n₅ : h₅.Ns C m' := by
        obtain ⟨o, es, ep, ho, r⟩ := id n₄
        exact ⟨o, es, ep, kL _ (fun e => hLC e.symm) _ ho, r⟩
      refine ⟨m', n₅, fun h₆ sb => ?_⟩
      have kC := Kx.of_same sb
      exact hq Dl h₆ tk₅ m hD0 ((k04.any.tr kL).t1 kC hC0) (F₅.keep kC hLC) (kC _ (fun e => hCD e.symm) _ (kL _ (fun e => hLD e.symm) _ l₄))
  refine codeAny_compStart_list loop ?_
  exact wpAny_pyIter_listiter it₃ loop
end
end Mine
end

section
open PySem PySem.W PyProof.Rows PySem.Spec PySem.Calls
set_option maxRecDepth 100000
set_option maxHeartbeats 4000000
namespace Mine
variable {w : World} {mg mb : Str → Option Value} {A : Around} {E : Value → Shared → Prop} {s : Shared} {env : Env} {h : Heap} {g : Array GenState} {d : Drawn} {tk : Nat} {os : OsState} {M : Model}

theorem ch90 (K : Ok w mg mb h) : CodeHd h 89 87 := ⟨_, _, _, _, _, _, _, _, _, K.x 89 _ rfl, rfl, rfl, rfl, rfl, rfl, rfl, rfl, rfl, by decide⟩

/- a call of a lambda -/
theorem callL {f : Nat} {pos : List Value} {kw : List (Str × Value)} {fd : FuncData} {body : Expr} {o : Obj} (binds : List (Str × Value)) {Q : Value → Shared → Prop} {n : Nat}
    (K : Ok w mg mb h) (hr : Rm A (n + 1)) (ho : h.get? f = some o) (hdata : o.data = .func fd) (hcd : h.CodeRec fd.code fd.qualname)
    (hb : ∀ L h₁ tk', h.get? L = none → 138 < L → Kx none_ h h₁ → Fv h₁ L binds.reverse → Ok w mg mb h₁ → Rm (A.deeper (callEnv fd L f)) n →
      wpAny (model PP w) (A.deeper (callEnv fd L f)) (eval body (callEnv fd L f)) Q (fun _ _ => False) ⟨h₁, g, d, tk', os⟩)
    (hbind : bindArgs fd ⟨pos, kw⟩ = pure binds)
    (hbody : fd.body = .expr body)
    (hcell : (fd.scope.names.all fun x => x.2 != .cell) = true) (hloc : (binds.all fun x => fd.scope.names.lookup x.1 == some .local) = true)
    (hco : fd.scope.isCoroutine = false) (hgen : fd.scope.isGenerator = false) (hk : fd.scope.kind = .function) :
    wpAny (model PP w) A (call (.ref f) pos kw) Q E ⟨h, g, d, tk, os⟩ := by
  refine wpAny_call (kla_callFunE hr.room ho hdata hco hgen hbody hcd (BindsTo.of_eq hbind _ _ _ _ ?_))
  refine wpAny_newFunctionEnv (fun x hx => ?_) (fun x hx => ?_) (fun h₀ hns hsb => ⟨K.nl.fresh _ hsb, ?_⟩) hk
  · have := List.all_eq_true.mp hcell x hx
    simpa using this
  · have := List.all_eq_true.mp hloc x hx
    simpa using this
  · have k₀ : Kx none_ h h₀ := Kx.of_kp fun b o e => hsb.extBut b o (Nat.ne_of_lt (Heap.lt_size e)) (Heap.get?_push_of_some _ e)
    refine kla_codeExpr (wpAny_mono (hb h.objs.size h₀ _ (dead_size h) K.sz k₀ ⟨_, hns, fun _ _ e => e⟩ (K.n k₀) (hr.deeper _)) (fun _ _ x => x) fun _ _ x => x.elim)

theorem callWith_KWb {M : Model} {env : Env} {pos : Pos} {id : String} {first : List Value} {Q : Value → Shared → Prop} {kws : List Keyword} (hall : (backToKw pos (keywordEach kws env)).all (·.1.isSome) = true)
    (h : wpAny M A (evalAll ((backToKw pos (keywordEach kws env)).map (·.2))) (fun ks s₂ => wpAny M A (call (.builtin id) (first ++ []) (((backToKw pos (keywordEach kws env)).filterMap (·.1)).zip ks)) Q E s₂) E s)
    (hplain : ((backTo pos (starEach [] env)).any (·.1) || (backToKw pos (keywordEach kws env)).any (·.1.isNone)) = false := by rfl) :
    wpAny M A (callWith pos (.builtin id) first (backTo pos (starEach [] env)) (backToKw pos (keywordEach kws env))) Q E s :=
  callWith_of (P := fun _ => True) hplain (fun _ _ => ⟨.machine, .inr (.inl rfl), Looks.of_pure rfl⟩) (evalArgs_kw2_nil hall (wpAny_mono h (fun _ _ x => ⟨trivial, x⟩) fun _ _ x => x))

theorem nm_tot : ∀ a < 10, ∀ b < 10, a ≠ b → bLt (nmL' b) (nmL' a) = false → bLt (nmL' a) (nmL' b) = true := by decide +kernel
theorem LS.tab {h' : Heap} {h00 : Heap} {D : Ad} {st : Nat → Nat} {n : Nat} {l : List (Str × Value)} {kvs : List (List UInt8 × Value)} {fl : Nat → Nat} {zs : Array KV} {qs : List Nat} {cvs : Array Value} {cands : List Nat}
    (S : LS w mg mb h00 D st n h l kvs fl zs qs cvs cands) (k : Kx (· = 87) h h') (T : Tb h' 87 (qsL w)) : LS w mg mb h00 D st n h' l kvs fl zs qs cvs cands := by
  obtain ⟨ps, e87, ht, _⟩ := S.T
  have ne : ∀ {b : Nat} {o : Obj}, h.get? b = some o → (∀ vs, o.data ≠ .fields vs) → b ≠ 87 := fun {b o} ho hne e => by
    rw [e, e87] at ho; cases ho; exact hne _ rfl
  refine { S with base := S.base.tr k, K := S.K.kx k fun b e => .inl e, T := T, F := S.F.keep k ?_, cell := ?_, X := S.X.keep k ?_ ?_, z := ?_, cst := ?_, ca := ?_, cr := ?_, fn := ?_ }
  · obtain ⟨m, ⟨o, es, ep, ho, hd', _⟩, _⟩ := S.F
    exact ne ho fun vs e => by rw [hd'] at e; cases e
  · obtain ⟨t, o, ho, hd'⟩ := S.cell
    exact ⟨t, o, k _ (ne ho fun vs e => by rw [hd'] at e; cases e) _ ho, hd'⟩
  · exact ne S.X.i fun vs e => by cases e
  · obtain ⟨es, n, q, r⟩ := S.X.d
    exact ne q fun vs e => by cases e
  · refine ⟨S.z.l.imp fun _ t => k _ (ne t fun vs e => by cases e) _ t, fun i z hz => ?_, S.z.lt⟩
    obtain ⟨b, t, u, e, ht⟩ := S.z.p i z hz
    exact ⟨b, t, u, e, k _ (ne ht fun vs e => by cases e) _ ht⟩
  · obtain ⟨o, es, ep, ho, hc, hd', r⟩ := S.cst
    exact ⟨o, es, ep, k _ (ne ho fun vs e => by rw [hd'] at e; cases e) _ ho, hc, hd', r⟩
  · exact S.ca.imp fun _ t => k _ (ne t fun vs e => by cases e) _ t
  · exact S.cr.keep k fun b e vs t => ne t (fun vs e => by cases e) e
  · refine hide fun Gz kz => ?_
    obtain ⟨name, qual, doc, pm, cv, ctv, hf, hcr⟩ := S.fn
    refine kz ?_
    clear kz Gz
    exact ⟨name, qual, doc, pm, cv, ctv, k _ (ne hf fun vs e => by cases e) _ hf, Heap.CodeRec.ne hcr e87 ht k⟩

noncomputable def sortStmt (w : World) : Stmt := (bodyAt w 90).getD 14 default

theorem sort_stmt {h00 : Heap} {D : Ad} {st : Nat → Nat} {n rl : Nat} {l : List (Str × Value)} {kvs : List (List UInt8 × Value)} {fl : Nat → Nat} {zs : Array KV} {qs : List Nat} {cvs : Array Value} {cands res : List Nat} {rvs : Array Value} {m : Nat}
    {t1 t2 t8 t0 : Tok} {Q : Flow → Shared → Prop} (hr : Rm A 8) (hn : n ≤ 10) (hrl10 : res.length ≤ 10)
    (hod : res.Pairwise fun a b => pLt (key st b) (key st a) = false) (hnd : res.Nodup)
    (S : LS w mg mb h00 D st n h l kvs fl zs qs cvs cands) (R : Rows l ((Str.ofString "results", .ref rl) :: rowsB D t1 t2 t8 t0)) (hrl : IsL h rl rvs m) (CRr : CR st n h rvs res) (hrd : h00.get? rl = none) (hrb : 138 < rl)
    (n2 : D.p ≠ rl) (n3 : D.ca ≠ rl)
    (hq : ∀ h' tk' out m' res', LS w mg mb h00 D st n h' l kvs fl zs qs cvs cands → IsL h' rl out m' → CR st n h' out res' → res'.Perm res → (res'.Pairwise fun a b => pLt ((st a : Int), nmL' a) ((st b : Int), nmL' b) = true) → Q .next ⟨h', g, d, tk', os⟩) :
    wpAny (model PP w) A (exec (sortStmt w) (lEnv w D.L)) Q E ⟨h, g, d, tk, os⟩ := by
  refine wpAny_Expr (methodCall_KW (nmF S.F (R.sub (Str.ofString "results") _ rfl) ?_))
  refine getMethod_builtin (s := ⟨h, g, d, tk, os⟩) (id := "list.sort") hrl.isList.typeIs PySem.F.plainAttrs_list PySem.F.slot_list_sort PySem.F.type_list_sort (fun a e => by cases e; exact ⟨_, hrl, rfl⟩) ?_
  refine callWith_KWb rfl ?_
  refine wpAny_evalAll_cons ?_
  refine wpAny_bind (kla_eval rfl ?_)
  refine mkLam (qs := qsL w) (c := 89) (P := 87) (clos := []) S.K S.T (ch90 S.K) ?_ (by decide) ?_ rfl rfl rfl fun fa h₁ tk₁ cv pm ctv hfa k₁ T₁ ho₁ hcr₁ => ?_
  · have e : (lEnv w D.L).qual ++ Str.ofString "<lambda>" = Str.ofString "_find_lcas.<locals>.<lambda>" := by kernel_rfl
    rw [e]
    exact .tail _ (.head _)
  · kernel_rfl
  refine wpAny_bind (wpAny_standAt (wpAny_pure ?_))
  refine wpAny_evalAll_nil ?_
  have ne87 : rl ≠ 87 := by (first | lia | omega)
  have S₁ : LS w mg mb h00 D st n h₁ l kvs fl zs qs cvs cands := S.tab k₁ T₁
  have hrl₁ : IsL h₁ rl rvs m := k₁ _ ne87 _ hrl
  have CR₁ : CR st n h₁ rvs res := CRr.keep k₁ fun b e vs t => by
    obtain ⟨ps, e', _⟩ := S.T
    rw [e] at t
    have t := e'.symm.trans t
    cases t
  have hsz : rvs.size = res.length := CR₁.1
  have ldr : LD h₁ rl := fun o ho => by rw [hrl₁] at ho; cases ho; exact .inl ⟨rfl, _, _, rfl⟩
  have hget : ∀ (i c : Nat), res[i]? = some c → ∃ v, rvs[i]? = some v ∧ PairAt h₁ v ((st c : Int), nmL' c) := CR₁.2.1
  have hlt10 : ∀ c ∈ res, c < 10 := fun c hc => Nat.lt_of_lt_of_le (CR₁.2.2 c hc) hn
  have puniq : ∀ {v : Value} {p q : Key}, PairAt h₁ v p → PairAt h₁ v q → p = q := by
    rintro v ⟨p1, p2⟩ ⟨q1, q2⟩ ⟨a, t, u, rfl, ha⟩ ⟨b, t', u', e, hb⟩
    cases e
    have := ha.symm.trans hb
    simp at this
    exact Prod.ext this.1.1 this.2.1
  have key_ : ∀ {i j a b : Nat}, i ≤ j → res[i]? = some a → res[j]? = some b → st b ≤ st a := by
    intro i j a b hij ha hb
    rcases Nat.lt_or_eq_of_le hij with h | rfl
    · have hi := (List.getElem?_eq_some_iff.mp ha)
      have hj := (List.getElem?_eq_some_iff.mp hb)
      have := (List.pairwise_iff_getElem.mp hod) i j hi.1 hj.1 h
      rw [hi.2, hj.2] at this
      unfold pLt key at this
      by_cases e : st b = st a
      · (first | lia | omega)
      · rw [if_neg (by simp only; (first | lia | omega))] at this
        simp only [decide_eq_false_iff_not] at this
        (first | lia | omega)
    · rw [ha] at hb; cases hb; exact Nat.le_refl _
  refine sort_key (T := fun u v => ∃ x y : Nat, PairAt h₁ u ((st x : Int), nmL' x) ∧ PairAt h₁ v ((st y : Int), nmL' y) ∧ bLt (nmL' x) (nmL' y) = true) (vs := rvs.toList) (kz := res.map fun c => (st c : Int)) (by rw [Array.toArray_toList]; exact hrl₁)
    (by simp [hsz]) (by rw [Array.length_toList, hsz]; (first | lia | omega)) ?_ ?_ ?_ ?_
  · intro i j x y hij hx hy
    rw [List.getElem?_map] at hx hy
    cases ha : res[i]? with
    | none => rw [ha] at hx; cases hx
    | some a =>
      cases hb : res[j]? with
      | none => rw [hb] at hy; cases hy
      | some b =>
        rw [ha] at hx; rw [hb] at hy; cases hx; cases hy
        have := key_ hij ha hb
        show ((st b : Nat) : Int) ≤ ((st a : Nat) : Int)
        exact_mod_cast this
  · intro i j x u v hij hx hy hu hv
    rw [List.getElem?_map] at hx hy
    cases ha : res[i]? with
    | none => rw [ha] at hx; cases hx
    | some a =>
      cases hb : res[j]? with
      | none => rw [hb] at hy; cases hy
      | some b =>
        rw [ha] at hx; rw [hb] at hy
        simp only [Option.map_some, Option.some.injEq] at hx hy
        refine hide fun Gz kz => ?_
        obtain ⟨u', hu', pu⟩ := hget i a ha
        obtain ⟨v', hv', pv⟩ := hget j b hb
        refine kz ?_
        clear kz Gz
        rw [Array.getElem?_toList] at hu hv
        rw [hu'] at hu; rw [hv'] at hv; cases hu; cases hv
        refine ⟨a, b, pu, pv, ?_⟩
        have hi := (List.getElem?_eq_some_iff.mp ha)
        have hj := (List.getElem?_eq_some_iff.mp hb)
        have h1 := (List.pairwise_iff_getElem.mp hod) i j hi.1 hj.1 hij
        have h2 := (List.pairwise_iff_getElem.mp hnd) i j hi.1 hj.1 hij
        rw [hi.2, hj.2] at h1 h2
        have e : st b = st a := by
          have : ((st a : Nat) : Int) = ((st b : Nat) : Int) := hx.trans hy.symm
          (first | lia | omega)
        unfold pLt key at h1
        rw [if_pos (by simp only; rw [e])] at h1
        exact nm_tot a (hlt10 a (List.mem_of_getElem? ha)) b (hlt10 b (List.mem_of_getElem? hb)) h2 h1
  · intro i v k h₂ tk₂ Q' hv hk k₂ hQ
    rw [List.getElem?_map] at hk
    cases ha : res[i]? with
    | none => rw [ha] at hk; cases hk
    | some a =>
      rw [ha] at hk
      simp only [Option.map_some, Option.some.injEq] at hk
      subst hk
      refine hide fun Gz kz => ?_
      obtain ⟨v', hv', b, tb, ub, rfl, htb⟩ := hget i a ha
      refine kz ?_
      clear kz Gz
      rw [Array.getElem?_toList, hv'] at hv
      cases hv
      have htb₂ : IsT h₂ b _ := k₂ _ (fun e => by rw [e] at htb; exact ldr.tup htb) _ htb
      have hfo₂ := k₂ fa (fun e => by
        rw [e] at ho₁
        rcases ldr _ ho₁ with ⟨_, xs, n, e⟩ | ⟨es, ep, e⟩ <;> cases e) _ ho₁
      have hcr₂ : h₂.CodeRec cv ((lEnv w D.L).qual ++ Str.ofString "<lambda>") := by
        refine hide fun Gz kz => ?_
        obtain ⟨c, o, vs, t, rfl, ho, hd, hv⟩ := hcr₁
        refine kz ?_
        clear kz Gz
        refine ⟨c, o, vs, t, rfl, k₂ c (fun e => ?_) _ ho, hd, hv⟩
        rw [e] at ho
        rcases ldr _ ho with ⟨_, xs, n, e⟩ | ⟨es, ep, e⟩ <;> rw [hd] at e <;> cases e
      have K₂ : Ok w mg mb h₂ := S₁.K.kx k₂ fun b e => .inr (.inr (by (first | lia | omega)))
      refine callL [(Str.ofString "x", .ref b)] K₂ (hr.less (by decide) : Rm A 7).in1 hfo₂ rfl hcr₂ (fun L h₃ tk₃ hL hL' k₃ F₃ K₃ hr₃ => ?_) (by kernel_rfl) rfl (by kernel_rfl) (by kernel_rfl) (by kernel_rfl) (by kernel_rfl) (by kernel_rfl)
      refine Subscript_Constant (nmF F₃ rfl (cI fun t₄ tk₄ => ?_))
      have ht₃ : IsT h₃ b _ := k₃.kp _ _ htb₂
      refine ⟨"tuple", _, slot_tuple_getitem.lookup, ⟨_, ht₃, rfl⟩, ?_⟩
      exact getItem_tuple (j := 0) (x := .int (st a : Nat) tb) ⟨_, ht₃, rfl, _, rfl⟩ (by decide) (by decide) rfl rfl (hQ _ _ _ k₃)
  · intro h₂ tk₂ out m₂ hl₂ hsrt k₂
    have S₂ := S₁.other k₂ hrd hrb ldr (S₁.F.ne_seq hrl₁).symm (fun e => by
      obtain ⟨es, n, q, r⟩ := S₁.X.d
      rw [e, hrl₁] at q
      have q := congrArg (fun o : Option Obj => o.map (·.data)) q
      cases q) n2 (fun e => by
      obtain ⟨o, es, ep, ho, _, hd, _⟩ := S₁.cst
      rw [e, hrl₁] at ho; cases ho; cases hd) n3
    obtain ⟨ps, hperm, hout, hpw⟩ := hsrt
    -- each value's commit
    have hfind : ∀ v ∈ rvs.toList, ∃ c, c ∈ res ∧ PairAt h₁ v ((st c : Int), nmL' c) := by
      intro v hv
      obtain ⟨i, hi, e⟩ := List.getElem_of_mem hv
      rw [Array.length_toList] at hi
      have hi' : i < res.length := by (first | lia | omega)
      obtain ⟨v', hv', pv⟩ := hget i _ (List.getElem?_eq_getElem hi')
      refine ⟨res[i], List.getElem_mem hi', ?_⟩
      rw [Array.getElem?_eq_getElem hi] at hv'
      cases hv'
      rw [Array.getElem_toList] at e
      rw [← e]; exact pv
    let cOf : Value → Nat := fun v => @dite _ (∃ c, c ∈ res ∧ PairAt h₁ v ((st c : Int), nmL' c)) (Classical.propDecidable _) (fun hx => Classical.choose hx) (fun _ => 0)
    have cOf_spec : ∀ {v : Value} {c : Nat}, c ∈ res → PairAt h₁ v ((st c : Int), nmL' c) → cOf v = c := by
      intro v c hc pv
      have hx : ∃ c, c ∈ res ∧ PairAt h₁ v ((st c : Int), nmL' c) := ⟨c, hc, pv⟩
      have e : cOf v = Classical.choose hx := dif_pos hx
      rw [e]
      have hs := Classical.choose_spec hx
      have := congrArg Prod.snd (puniq hs.2 pv)
      exact nm_inj _ (hlt10 _ hs.1) _ (hlt10 _ hc) this
    have hz : ∀ x ∈ (res.map fun c => (st c : Int)).zip rvs.toList, ∃ c ∈ res, x.1 = (st c : Int) ∧ PairAt h₁ x.2 ((st c : Int), nmL' c) := by
      intro x hx
      obtain ⟨i, hi, e⟩ := List.getElem_of_mem hx
      have hi' : i < res.length := by simp at hi; (first | lia | omega)
      obtain ⟨v', hv', pv⟩ := hget i _ (List.getElem?_eq_getElem hi')
      rw [List.getElem_zip] at e
      refine ⟨res[i], List.getElem_mem hi', ?_, ?_⟩
      · rw [← e]; simp
      · rw [← e]
        rw [Array.getElem?_eq_getElem (by (first | lia | omega))] at hv'
        cases hv'
        simpa using pv
    have hval : out.toList.Perm rvs.toList := by
      rw [hout]
      have := hperm.map (·.2)
      rwa [List.map_snd_zip (by simp [hsz])] at this
    have hmap : rvs.toList.map cOf = res := by
      apply List.ext_getElem?
      intro i
      rw [List.getElem?_map]
      cases hc : res[i]? with
      | none =>
        have : rvs.toList[i]? = none := by
          rw [List.getElem?_eq_none_iff] at hc ⊢
          rw [Array.length_toList]; (first | lia | omega)
        rw [this]; rfl
      | some c =>
        obtain ⟨v, hv, pv⟩ := hget i c hc
        rw [Array.getElem?_toList, hv]
        show some (cOf v) = some c
        rw [cOf_spec (List.mem_of_getElem? hc) pv]
    have hpm : (out.toList.map cOf).Perm res := by
      have := hval.map cOf
      rwa [hmap] at this
    refine hq h₂ tk₂ out m₂ (out.toList.map cOf) S₂ hl₂ ⟨by simp, fun i k hk => ?_, fun k hk => CR₁.2.2 k (hpm.mem_iff.mp hk)⟩ hpm ?_
    · rw [List.getElem?_map] at hk
      cases hv : out.toList[i]? with
      | none => rw [hv] at hk; cases hk
      | some v =>
        rw [hv] at hk
        simp only [Option.map_some, Option.some.injEq] at hk
        rw [Array.getElem?_toList] at hv
        refine ⟨v, hv, ?_⟩
        have hvm : v ∈ rvs.toList := hval.mem_iff.mp (by rw [Array.mem_toList_iff]; exact Array.mem_of_getElem? hv)
        obtain ⟨c, hc, pv⟩ := hfind v hvm
        rw [cOf_spec hc pv] at hk
        subst hk
        obtain ⟨b, t, u, e, ht⟩ := pv
        exact ⟨b, t, u, e, k₂ _ (fun e' => by rw [e'] at ht; exact ldr.tup ht) _ ht⟩
    · rw [hout, List.map_map, List.pairwise_map]
      refine List.Pairwise.imp_of_mem ?_ hpw
      intro x y hx hy hxy
      refine hide fun Gz kz => ?_
      obtain ⟨cx, hcx, e1, p1⟩ := hz x (hperm.mem_iff.mp hx)
      obtain ⟨cy, hcy, e2, p2⟩ := hz y (hperm.mem_iff.mp hy)
      refine kz ?_
      clear kz Gz
      show pLt ((st (cOf x.2) : Int), nmL' (cOf x.2)) ((st (cOf y.2) : Int), nmL' (cOf y.2)) = true
      rw [cOf_spec hcx p1, cOf_spec hcy p2]
      unfold pLt
      rcases hxy with hlt | ⟨heq, a, b, pa, pb, hb⟩
      · rw [e1, e2] at hlt
        rw [if_neg (by simp only; (first | lia | omega))]
        simpa using hlt
      · rw [e1, e2] at heq
        rw [if_pos heq]
        have ea := congrArg Prod.snd (puniq pa p1)
        have eb := congrArg Prod.snd (puniq pb p2)
        simp only at ea eb
        rw [← ea, ← eb]; exact hb
end Mine
end

section
open PySem PySem.W PyProof.Rows PySem.Spec PySem.Calls
set_option maxRecDepth 100000
set_option maxHeartbeats 4000000
namespace Mine
variable {w : World} {mg mb : Str → Option Value} {A : Around} {E : Value → Shared → Prop} {s : Shared} {env : Env} {h : Heap} {g : Array GenState} {d : Drawn} {tk : Nat} {os : OsState} {M : Model}

noncomputable def LcaSpec (par : Nat → List Nat) (st : Nat → Nat) (c1 c2 : Nat) (res : List Nat) : Prop :=
  (∀ k, k ∈ res ↔ Best par c1 c2 k) ∧ res.Pairwise fun a b => pLt ((st a : Int), nmL' a) ((st b : Int), nmL' b) = true

theorem lcas_tail {h00 : Heap} {D : Ad} {par : Nat → List Nat} {st : Nat → Nat} {n c1 c2 : Nat} {l : List (Str × Value)} {kvs : List (List UInt8 × Value)} {fl : Nat → Nat} {zs : Array KV} {qs : List Nat} {cvs : Array Value} {cands : List Nat}
    {t1 t2 t8 t0 : Tok} {Q : Flow → Shared → Prop} (hr : Rm A 8) (hn : n ≤ 10) (hDc : D.c = D.L + 1) (hst : ∀ k, ∀ p ∈ par k, st p < st k)
    (S : LS w mg mb h00 D st n h l kvs fl zs qs cvs cands) (R : Rows l (rowsB D t1 t2 t8 t0)) (I : Inv par st c1 c2 none [] qs fl cands) (hdn : ∀ q ∈ qs, fl q &&& 4 = 4)
    (hq : ∀ h' tk' a vs m res, Kx (· = 87) h00 h' → Tb h' 87 (qsL w) → IsL h' a vs m → Nms vs res → LcaSpec par st c1 c2 res → (∀ k ∈ res, k < n) → h00.get? a = none → Q (.ret (.ref a)) ⟨h', g, d, tk', os⟩) :
    wpAny (model PP w) A (execs ((bodyAt w 90).drop 12) (lEnv w D.L)) Q E ⟨h, g, d, tk, os⟩ := by
  refine wpAny_execs_cons (wpAny_Assign_Name (List_ (args_nil (nList (fun h₁ k₁ l₁ => ?_) (Nat.zero_le _)))))
  have S₁ := S.no k₁
  refine hide fun Gz kz => ?_
  obtain ⟨f0, f1, f2, f3, f4, f5⟩ := S.fresh (dead_size h)
  refine kz ?_
  clear kz Gz
  have hb : 138 < h.objs.size := S.K.sz
  generalize h.objs.size = rl at *
  refine stF S₁.F fun h₂ tk₂ F₂ k₂ => ?_
  have S₂ := S₁.store k₂ F₂
  have l₂ : IsL h₂ rl #[] 0 := S₁.F.lst l₁ k₂
  have c8 : ∀ k ∈ cands, fl k ≠ 0 := fun k hk e => by
    have := (I.cd k).mp hk
    rw [e] at this; exact absurd this (by decide)
  refine wpAny_execs_cons ?_
  refine res_loop (hr.less (by decide)) hn hDc I.lt I.nd c8 S₂ ⟨rfl, R⟩ ⟨0, l₂⟩ f0 hb f3 f5 fun h₃ tk₃ l₃ rvs m₃ S₃ R₃ hl₃ CR₃ => ?_
  have hlen : (keepF fl cands).length ≤ 10 := by
    have h1 : (keepF fl cands).length ≤ cands.length := List.length_filter_le ..
    have h3 := nodup_le cands (List.range n) I.nd fun x hx => List.mem_range.mpr (S.cr.2.2 x hx)
    rw [List.length_range] at h3
    (first | lia | omega)
  refine wpAny_execs_cons ?_
  refine sort_stmt hr hn hlen (I.od.sublist List.filter_sublist) (I.nd.sublist List.filter_sublist) S₃ R₃ hl₃ CR₃ f0 hb f3 f5 fun h₄ tk₄ out m₄ res S₄ hl₄ CR₄ pm pw => ?_
  have hres : LcaSpec par st c1 c2 res := by
    refine ⟨fun k => ?_, pw⟩
    rw [pm.mem_iff, ← I.best hst hdn k]
    simp [keepF]
  refine wpAny_execs_cons ?_
  have hus : ∀ (i : Nat) (p : Value × Value), ((out.toList.zip res).map fun x => (Value.int ((st x.2 : Nat) : Int) 0, x.1))[i]? = some p → True := fun _ _ _ => trivial
  -- the pairs' parts
  have hparts : ∃ us : List (Value × Value), us.length = res.length ∧ (∀ (i : Nat) (p : Value × Value), us[i]? = some p → ∃ a, out[i]? = some (.ref a) ∧ IsT h₄ a [p.1, p.2]) ∧ (∀ (i k : Nat), res[i]? = some k → ∃ t p, us[i]? = some p ∧ p.2 = .bytes (nmL' k).toArray t) := by
    have key : ∀ i : Nat, ∀ hi : i < res.length, ∃ p : Value × Value, (∃ a, out[i]? = some (.ref a) ∧ IsT h₄ a [p.1, p.2]) ∧ ∃ t, p.2 = .bytes (nmL' res[i]).toArray t := by
      intro i hi
      refine hide fun Gz kz => ?_
      obtain ⟨v, hv, a, t, u, rfl, ht⟩ := CR₄.2.1 i _ (List.getElem?_eq_getElem hi)
      refine kz ?_
      clear kz Gz
      exact ⟨(.int _ t, .bytes _ u), ⟨a, hv, ht⟩, u, rfl⟩
    refine ⟨(List.range res.length).map fun i => if hi : i < res.length then Classical.choose (key i hi) else (.none, .none), by simp, fun i p hp => ?_, fun i k hk => ?_⟩
    · rw [List.getElem?_map] at hp
      cases hi : (List.range res.length)[i]? with
      | none => rw [hi] at hp; cases hp
      | some j =>
        have hj : j = i ∧ i < res.length := by
          have := List.getElem?_eq_some_iff.mp hi
          obtain ⟨h1, h2⟩ := this
          rw [List.getElem_range] at h2
          rw [List.length_range] at h1
          exact ⟨h2.symm, h1⟩
        rw [hi] at hp
        obtain ⟨rfl, hlt⟩ := hj
        simp only [Option.map_some, dif_pos hlt, Option.some.injEq] at hp
        have := (Classical.choose_spec (key j hlt)).1
        rw [hp] at this
        exact this
    · have hlt := (List.getElem?_eq_some_iff.mp hk).1
      have e := (List.getElem?_eq_some_iff.mp hk).2
      obtain ⟨t, ht⟩ := (Classical.choose_spec (key i hlt)).2
      refine ⟨t, Classical.choose (key i hlt), ?_, ?_⟩
      · rw [List.getElem?_map, List.getElem?_range hlt]
        simp only [Option.map_some, dif_pos hlt]
      · rw [ht, e]
  refine hide fun Gz kz => ?_
  obtain ⟨us, hul, hu1, hu2⟩ := hparts
  refine kz ?_
  clear kz Gz
  refine lassP (g := g) (d := d) (os := os) (L := D.L) rfl rfl hr.1 rfl (by decide) (fun _ => rfl) (fun _ => rfl) (fun _ => rfl) (fun _ => rfl) ?_
  refine nmF S₄.F (R₃.sub (Str.ofString "results") _ rfl) ?_
  refine ⟨rl, out, m₄, h₄, tk₄, l₃, us, rfl, rfl, hl₄, by rw [CR₄.1, hul], by rw [hul, pm.length_eq]; (first | lia | omega), S₄.F, hu1, fun Dl h₅ tk₅ m₅ hD hk5 F₅ hl₅ => ?_⟩
  have S₅ := S₄.store hk5 F₅
  refine wpAny_execs_cons (wpAny_Return_some (nmF S₅.F rfl ?_))
  refine hq h₅ tk₅ Dl _ m₅ res S₅.base S₅.T hl₅ ⟨by simp [hul], fun i k hk => ?_⟩ hres CR₄.2.2 (S₄.fresh hD).1
  obtain ⟨t, p, hp, e⟩ := hu2 i k hk
  refine ⟨t, ?_⟩
  simp [hp, e]
end Mine
end

section
open PySem PySem.W PyProof.Rows PySem.Spec PySem.Calls
set_option maxRecDepth 100000
set_option maxHeartbeats 1000000
namespace Mine
variable {w : World} {mg mb : Str → Option Value} {A : Around} {E : Value → Shared → Prop} {s : Shared} {env : Env} {h : Heap} {g : Array GenState} {d : Drawn} {tk : Nat} {os : OsState} {M : Model}

theorem hcStmt_eq (w : World) : ∃ pos, hcStmt w = .FunctionDef (Str.ofString "_has_candidates") (hcParams w) (hcBody w) [] none [] (hcScope w) none (Str.ofString "_has_candidates") pos ∧ pos = ⟨30, 4, 35, 20⟩ := ⟨_, by kernel_rfl, rfl⟩

theorem def_stmt {L : Nat} {l : List (Str × Value)} {Q : Flow → Shared → Prop} (K : Ok w mg mb h) (T : Tb h 87 (qsL w)) (F : Fv h L l) (hL87 : L ≠ 87)
    (hq : ∀ h' tk' fa cv doc pm ctv, h.get? fa = none → Kx (fun b => b = 87 ∨ b = L) h h' → Fv h' L ((Str.ofString "_has_candidates", .ref fa) :: l) → Tb h' 87 (qsL w) →
      h'.get? fa = some { cls := .type "function", data := .func (hcFn w (L + 1) (Str.ofString "_has_candidates") (Str.ofString "_find_lcas.<locals>._has_candidates") doc pm cv ctv) } → h'.CodeRec cv (Str.ofString "_find_lcas.<locals>._has_candidates") → Q .next ⟨h', g, d, tk', os⟩) :
    wpAny (model PP w) A (exec (hcStmt w) (lEnv w L)) Q E ⟨h, g, d, tk, os⟩ := by
  obtain ⟨pos, e, epos⟩ := hcStmt_eq w
  rw [e]
  have ep : defaultsOf (hcParams w) (lEnv w L) = ([], []) := by kernel_rfl
  have e1 : (hcParams w).defaults = [] := by kernel_rfl
  have e2 : (hcParams w).kw_defaults = [] := by kernel_rfl
  have e3 : annTrees (hcParams w) none (lEnv w L) = [] := by kernel_rfl
  have e4 : closureFor (hcScope w) (lEnv w L) = pure [(Str.ofString "_DNC", L + 1)] := by kernel_rfl
  have e5 : qualnameIn (lEnv w L) (Str.ofString "_has_candidates") (Str.ofString "_has_candidates") = Str.ofString "_find_lcas.<locals>._has_candidates" := by kernel_rfl
  have e6 : (lEnv w L).kindOf (Str.ofString "_has_candidates") = some .local := by kernel_rfl
  refine nestDef_K e1 e2 e3 ?_
  rw [e5]
  have hfn : ∀ (cv doc pm ctv : Value), hcFn w (L + 1) (Str.ofString "_has_candidates") (Str.ofString "_find_lcas.<locals>._has_candidates") doc pm cv ctv = fnX (Str.ofString "_has_candidates") (Str.ofString "_find_lcas.<locals>._has_candidates") (hcParams w) (hcBody w) (hcScope w) [(Str.ofString "_DNC", L + 1)] .none .none doc pm none cv ctv := fun _ _ _ _ => rfl
  simp only [hfn] at hq
  clear hfn
  generalize hcParams w = ps at *
  refine mkDef (qs := qsL w) (c := 89) (P := 87) K T (ch90 K) (by rw [epos]; exact .head _) (by decide) (by kernel_rfl) e4 rfl rfl fun fa h₁₀ tk₁₀ cv doc pm ctv hfa k₁₀ T₁₀ ho₁₀ hcr₁₀ => ?_
  have F₁₀ := F.keep k₁₀ hL87
  refine stF F₁₀ (fun h₁₁ tk₁₁ F₁₁ k₁₁ => ?_) rfl e6
  have nfaL : fa ≠ L := fun e => by
    rw [e] at ho₁₀
    obtain ⟨_, ⟨o, es, ep, ho, hd, _⟩, _⟩ := F₁₀
    rw [ho₁₀] at ho; cases ho; cases hd
  have fa₁₁ := k₁₁ _ nfaL _ ho₁₀
  have hcr₁₁ : h₁₁.CodeRec cv (Str.ofString "_find_lcas.<locals>._has_candidates") := by
    obtain ⟨c, o, vs, t, rfl, ho, hd, hv⟩ := hcr₁₀
    have nc : c ≠ L := fun e => by
      rw [e] at ho
      obtain ⟨_, ⟨o', es, ep, ho', hd', _⟩, _⟩ := F₁₀
      rw [ho] at ho'; cases ho'; rw [hd] at hd'; cases hd'
    exact ⟨c, o, vs, t, rfl, k₁₁ _ nc _ ho, hd, hv⟩
  refine hq h₁₁ tk₁₁ fa cv doc pm ctv hfa ((k₁₀.mono fun b e => .inl (.inl e)).tr (k₁₁.mono fun b e => .inl (.inr e))) F₁₁ (T₁₀.fr F₁₀ k₁₁) ?_ hcr₁₁
  exact fa₁₁
end Mine
end

section
open PySem PySem.W PyProof.Rows PySem.Spec PySem.Calls
set_option maxRecDepth 100000
set_option maxHeartbeats 4000000
namespace Mine
variable {w : World} {mg mb : Str → Option Value} {A : Around} {E : Value → Shared → Prop} {s : Shared} {env : Env} {h : Heap} {g : Array GenState} {d : Drawn} {tk : Nat} {os : OsState} {M : Model}

noncomputable def RowsP (m : Str → Option Value) : List (Str × Value) → Prop
  | [] => True
  | p :: r => m p.1 = some p.2 ∧ RowsP m r
theorem RowsP.sub {m : Str → Option Value} : ∀ {l'}, RowsP m l' → ∀ x v, l'.lookup x = some v → m x = some v
  | [], _, x, v, e => by cases e
  | p :: r, h, x, v, e => by
    rw [List.lookup_cons] at e
    split at e
    · rename_i hx
      cases e
      rw [beq_iff_eq.mp hx]
      exact h.1
    · exact RowsP.sub h.2 x v e

/- a call of one of the text's own defs that has cells -/
theorem callFC {f : Nat} {pos : List Value} {kw : List (Str × Value)} (binds : List (Str × Value)) (l : List (Str × Value)) {Q : Value → Shared → Prop} {n : Nat}
    (K : Ok w mg mb h) (hr : Rm A (n + 1)) (hbind : BindsTo ⟨h, g, d, tk, os⟩ (fdAt w f) ⟨pos, kw⟩ binds)
    (hl : ∀ L, RowsP (bindL (callEnvC (fdAt w f) L f).kindOf binds fun _ => none) l)
    (hkind : ∀ L : Nat, ∀ x ∈ binds, (fdAt w f).scope.names.lookup x.1 = some .local ∨ ((fdAt w f).scope.names.lookup x.1 = some .cell ∧ ((cellsFrom (L + 1) (fdAt w f).scope.names []).lookup x.1).isSome = true))
    (hb : ∀ L h₁ tk', h.get? L = none → 138 < L → Kx none_ h h₁ → Fv h₁ L l →
      (∀ nm c, (callEnvC (fdAt w f) L f).cells.lookup nm = some c → h₁.IsCell c (bindC (callEnvC (fdAt w f) L f).kindOf binds (fun _ => none) nm) ∧ h.get? c = none ∧ L < c) → Ok w mg mb h₁ → Rm (A.deeper (callEnvC (fdAt w f) L f)) n →
      wpAny (model PP w) (A.deeper (callEnvC (fdAt w f) L f)) (execs (bodyAt w f) (callEnvC (fdAt w f) L f)) (fun fl s' => Q (match fl with | .ret v => v | _ => .none) s') (fun _ _ => False) ⟨h₁, g, d, tk', os⟩)
    (ho : (KK w).lookup f = some (fnObj w f) := by kernel_rfl) (hcd : codeIn (KK w) (fdAt w f).code (fdAt w f).qualname = true := by kernel_rfl)
    (hbody : (fdAt w f).body = .stmts (bodyAt w f) := by kernel_rfl) (hclo : (fdAt w f).closure = [] := by kernel_rfl)
    (hco : (fdAt w f).scope.isCoroutine = false := by kernel_rfl) (hgen : (fdAt w f).scope.isGenerator = false := by kernel_rfl) (hk : (fdAt w f).scope.kind = .function := by kernel_rfl) :
    wpAny (model PP w) A (call (.ref f) pos kw) Q E ⟨h, g, d, tk, os⟩ := by
  refine wpAny_call (codeAny_call_function hr.room (K.x _ _ ho) rfl hco hgen hbody (codeRec_of K.x hcd) (hbind _ _ _ _ ?_))
  rw [hclo]
  refine wpAny_newFunctionEnv_cells hk (hkind _) fun env he s' x => ?_
  subst he
  obtain ⟨⟨h₁, tk₁, rfl⟩, ns, keep, fresh⟩ := x.toInCall
  have k₁ : Kx none_ h h₁ := Kx.of_kp keep
  refine ⟨K.nl.keeps k₁.kp, codeAny_func (wpAny_mono (hb h.objs.size h₁ tk₁ (dead_size h) K.sz k₁ ⟨_, ns, (hl _).sub⟩ (fun nm c hc => ⟨x.cell nm c hc, ?_, x.above nm c (mem_of_lookup hc)⟩) (K.n k₁) (hr.deeper _)) (fun _ _ x => x) fun _ _ x => x.elim)⟩
  have hlt := x.above nm c (mem_of_lookup hc)
  cases e : h.get? c with
  | none => rfl
  | some o =>
    have h1 := Heap.lt_size e
    have h2 : h.objs.size < c := hlt
    exact absurd h1 (Nat.not_lt.mpr (Nat.le_of_lt h2))
theorem callFCe {f : Nat} {pos : List Value} {kw : List (Str × Value)} (binds : List (Str × Value)) (l : List (Str × Value)) {Q : Value → Shared → Prop} {n : Nat}
    (K : Ok w mg mb h) (hr : Rm A (n + 1)) (hbind : bindArgs (fdAt w f) ⟨pos, kw⟩ = pure binds)
    (hl : ∀ L, RowsP (bindL (callEnvC (fdAt w f) L f).kindOf binds fun _ => none) l)
    (hkind : ∀ L : Nat, ∀ x ∈ binds, (fdAt w f).scope.names.lookup x.1 = some .local ∨ ((fdAt w f).scope.names.lookup x.1 = some .cell ∧ ((cellsFrom (L + 1) (fdAt w f).scope.names []).lookup x.1).isSome = true))
    (hb : ∀ L h₁ tk', h.get? L = none → 138 < L → Kx none_ h h₁ → Fv h₁ L l →
      (∀ nm c, (callEnvC (fdAt w f) L f).cells.lookup nm = some c → h₁.IsCell c (bindC (callEnvC (fdAt w f) L f).kindOf binds (fun _ => none) nm) ∧ h.get? c = none ∧ L < c) → Ok w mg mb h₁ → Rm (A.deeper (callEnvC (fdAt w f) L f)) n →
      wpAny (model PP w) (A.deeper (callEnvC (fdAt w f) L f)) (execs (bodyAt w f) (callEnvC (fdAt w f) L f)) (fun fl s' => Q (match fl with | .ret v => v | _ => .none) s') (fun _ _ => False) ⟨h₁, g, d, tk', os⟩)
    (ho : (KK w).lookup f = some (fnObj w f) := by kernel_rfl) (hcd : codeIn (KK w) (fdAt w f).code (fdAt w f).qualname = true := by kernel_rfl)
    (hbody : (fdAt w f).body = .stmts (bodyAt w f) := by kernel_rfl) (hclo : (fdAt w f).closure = [] := by kernel_rfl)
    (hco : (fdAt w f).scope.isCoroutine = false := by kernel_rfl) (hgen : (fdAt w f).scope.isGenerator = false := by kernel_rfl) (hk : (fdAt w f).scope.kind = .function := by kernel_rfl) :
    wpAny (model PP w) A (call (.ref f) pos kw) Q E ⟨h, g, d, tk, os⟩ :=
  callFC binds l K hr (BindsTo.of_eq hbind) hl hkind hb ho hcd hbody hclo hco hgen hk

theorem binds90 (K : Ok w mg mb h) (lp v1 a2 ls : Value) : BindsTo ⟨h, g, d, tk, os⟩ (fdAt w 90) ⟨[lp, v1, a2, ls], [(Str.ofString "shallows", .none)]⟩
   [(Str.ofString "lookup_parents", lp), (Str.ofString "c1", v1), (Str.ofString "c2s", a2), (Str.ofString "lookup_stamp", ls), (Str.ofString "min_stamp", .int 0 381), (Str.ofString "shallows", .none)] := by
  refine binds_K (T := 85) K.x (by kernel_rfl) rfl rfl rfl ?_
  kernel_rfl
theorem g_WorkList (w : World) : nsIn (KK w) mainGlobals (Str.ofString "WorkList") = some (some (.ref 80)) := by kernel_rfl

noncomputable def rows0 (lp ls a2 : Nat) (v1 : Value) : List (Str × Value) := [(Str.ofString "lookup_parents", .ref lp), (Str.ofString "c1", v1), (Str.ofString "c2s", .ref a2), (Str.ofString "lookup_stamp", .ref ls), (Str.ofString "min_stamp", .int 0 381), (Str.ofString "shallows", .none)]

theorem ad1 {a : Nat} (h : 138 < a) : a + 1 ≠ 87 := by omega
/- entry: up to the work list -/
theorem lcas_enter {lp ls a2 n : Nat} {v1 : Value} {st : Nat → Nat} {Q : Value → Shared → Prop} (K : Ok w mg mb h) (hr : Rm A 13) (T : Tb h 87 (qsL w))
    (hb : ∀ (D : Ad) h₁ tk' l t1 t2 t8, D.lp = lp → D.ls = ls → D.c = D.L + 1 → LS w mg mb h D st n h₁ l [] (fun _ => 0) #[] [] #[] [] → Rows l (rowsB D t1 t2 t8 381) → Rows l [(Str.ofString "c1", v1), (Str.ofString "c2s", .ref a2)] → Rm (A.deeper (lEnv w D.L)) 12 →
      wpAny (model PP w) (A.deeper (lEnv w D.L)) (execs ((bodyAt w 90).drop 8) (lEnv w D.L)) (fun fl s' => Q (match fl with | .ret v => v | _ => .none) s') (fun _ _ => False) ⟨h₁, g, d, tk', os⟩) :
    wpAny (model PP w) A (call (.ref 90) [.ref lp, v1, .ref a2, .ref ls] [(Str.ofString "shallows", .none)]) Q E ⟨h, g, d, tk, os⟩ := by
  refine callFC _ (rows0 lp ls a2 v1) K hr (binds90 K _ _ _ _) (fun L => ⟨rfl, rfl, rfl, rfl, rfl, rfl, trivial⟩) (fun L x hx => .inl ?_) fun L h₁ tk₁ hL hL' k₁ F₁ hc₁ K₁ hr₁ => ?_
  · simp only [List.mem_cons, List.not_mem_nil, or_false] at hx
    rcases hx with rfl | rfl | rfl | rfl | rfl | rfl <;> kernel_rfl
  obtain ⟨hcell, hcd, hLc⟩ := hc₁ (Str.ofString "_DNC") (L + 1) rfl
  have R₁ : Rows (rows0 lp ls a2 v1) (rows0 lp ls a2 v1) := ⟨rfl, rfl, rfl, rfl, rfl, rfl, trivial⟩
  have hcell1 : h₁.IsCell (L + 1) none := hcell
  have T₁ := T.n k₁
  have L87 : L ≠ 87 := fun e => by rw [e] at hL'; exact absurd hL' (by decide)
  have nsL : L + 1 ≠ L := Nat.succ_ne_self L
  have L188 : L + 1 ≠ 87 := ad1 hL'
  -- cands
  refine wpAny_execs_cons (wpAny_Assign_Name (List_ (args_nil (nList (fun h₂ k₂ l₂ => ?_) (Nat.zero_le _)))))
  have d2 : h₁.get? h₁.objs.size = none := dead_size h₁
  have b2 : 138 < h₁.objs.size := K₁.sz
  generalize h₁.objs.size = ca at *
  refine stF (F₁.keep k₂ id) fun h₃ tk₃ F₃ k₃ => ?_
  have F₂ := F₁.keep k₂ id
  have d2h : h.get? ca = none := k₁.dead0 d2
  have nLca : L ≠ ca := F₁.ne d2
  have ncca : L + 1 ≠ ca := by obtain ⟨o, ho, _⟩ := hcell1; exact ne_dead d2 ho
  have kk₃ : Kx none_ h h₃ := (k₁.tn k₂).t1 k₃ hL
  have K₃ : Ok w mg mb h₃ := K.n kk₃
  -- cstates
  refine wpAny_execs_cons (wpAny_Assign_Name (wpAny_Dict_empty ?_))
  have k₄ : Kx none_ h₃ (h₃.push { cls := .type "dict", data := .dict #[] }) := Kx.push _ _
  have cs₄ : Cs w (h₃.push { cls := .type "dict", data := .dict #[] }) h₃.objs.size [] := Heap.DictOf.new h₃
  have d4 : h₃.get? h₃.objs.size = none := dead_size h₃
  have b4 : 138 < h₃.objs.size := K₃.sz
  show wpAny _ _ (storeName _ _ (.ref h₃.objs.size)) _ _ ⟨h₃.push { cls := .type "dict", data := .dict #[] }, g, d, tk₃, os⟩
  generalize h₃.push { cls := .type "dict", data := .dict #[] } = h₄ at *
  generalize h₃.objs.size = cs at *
  have d4h : h.get? cs = none := kk₃.dead0 d4
  have nLcs : L ≠ cs := F₃.ne d4
  refine stF (F₃.keep k₄ id) fun h₅ tk₅ F₅ k₅ => ?_
  have c1 : h₃.IsCell (L + 1) none := by
    obtain ⟨o, ho, r⟩ := hcell1
    exact ⟨o, k₃ _ (by omega) _ (k₂.kp _ _ ho), r⟩
  have nccs : L + 1 ≠ cs := by obtain ⟨o, ho, _⟩ := c1; exact ne_dead d4 ho
  have c5 : h₅.IsCell (L + 1) none := by
    obtain ⟨o, ho, r⟩ := c1
    exact ⟨o, k₅ _ (by omega) _ (k₄.kp _ _ ho), r⟩
  refine wpAny_execs_cons (wpAny_Assign_Name (cI fun t₁ tk₆ => stF F₅ fun h₆ tk₆ F₆ k₆ => ?_))
  refine wpAny_execs_cons (wpAny_Assign_Name (cI fun t₂ tk₇ => stF F₆ fun h₇ tk₇ F₇ k₇ => ?_))
  have c7 : h₇.IsCell (L + 1) none := by
    obtain ⟨o, ho, r⟩ := c5
    exact ⟨o, k₇ _ (by omega) _ (k₆ _ (by omega) _ ho), r⟩
  refine wpAny_execs_cons (wpAny_Assign_Name (cI fun t₄ tk₈ => wpAny_storeName_cell rfl rfl (c := L + 1) rfl c7 fun h₈ c8 sb₈ => ?_))
  have k₈ := Kx.of_same sb₈
  have F₈ := F₇.keep k₈ (by omega)
  refine wpAny_execs_cons (wpAny_Assign_Name ?_)
  show wpAny _ _ _ _ _ ⟨h₈, g, d, tk₈, os⟩
  refine cI fun t₈ tk₉ => stF F₈ fun h₉ tk₉ F₉ k₉ => ?_
  have c9 : h₉.IsCell (L + 1) (some (.int 4 t₄)) := by
    obtain ⟨o, ho, r⟩ := c8
    exact ⟨o, k₉ _ (by omega) _ ho, r⟩
  have kk₉ : Kx none_ h h₉ := (((((((kk₃.tn k₄).t1 k₅ hL).t1 k₆ hL).t1 k₇ hL).t1 k₈ hcd)).t1 k₉ hL)
  have K₉ : Ok w mg mb h₉ := K.n kk₉
  -- the nested def
  refine wpAny_execs_cons (def_stmt (l := _) K₉ (T.n kk₉) F₉ L87 fun h₁₁ tk₁₁ fa cv doc pm ctv hfa k₁₁ F₁₁ T₁₁ ho₁₁ hcr₁₁ => ?_)
  have kb₁₁ : Kx (· = 87) h h₁₁ := Kx.trans (P := (· = 87)) kk₉.any k₁₁ fun b e => e.elim .inl fun e => .inr (by rw [e]; exact hL)
  have K₁₁ : Ok w mg mb h₁₁ := K.kx kb₁₁ fun b e => .inl e
  -- the work list
  refine wpAny_execs_cons (wpAny_Assign_Name (Call_ (nmG K₁₁ (g_WorkList w) (callWith_K0 K₁₁.x (by kernel_rfl) ?_))))
  refine wl_new K₁₁ (hr₁.less (by decide)) fun h₁₂ tk₁₂ x dx p X₁₂ z₁₂ xd dxd pd pbig k₁₂ => ?_
  refine stF (F₁₁.keep k₁₂ id) fun h₁₃ tk₁₃ F₁₃ k₁₃ => ?_
  have nLx : L ≠ x := F₁₁.ne xd
  have nLdx : L ≠ dx := F₁₁.ne dxd
  have nLp : L ≠ p := F₁₁.ne pd
  -- gathering
  have kb₁₃ : Kx (· = 87) h h₁₃ := (kb₁₁.tn k₁₂).t1 k₁₃ hL
  let W : Nat → Prop := fun b => b = L ∨ b = L + 1 ∨ b = 87
  have w1 : ∀ {a b : Heap}, Kx (· = L) a b → Kx W a b := fun k => k.mono fun b e => .inl (.inl e)
  have w5_9 : Kx W h₄ h₉ := ((((w1 k₅).tr (w1 k₆)).tr (w1 k₇)).tr (k₈.mono fun b e => .inl (.inr (.inl e)))).tr (w1 k₉)
  have w4_11 : Kx W h₄ h₁₁ := w5_9.tr (k₁₁.mono fun b e => .inl (e.elim (fun e => .inr (.inr e)) .inl))
  have w4_13 : Kx W h₄ h₁₃ := (w4_11.tn k₁₂).tr (w1 k₁₃)
  have w2_11 : Kx W h₂ h₁₁ := ((w1 k₃).tn k₄).tr w4_11
  have w2_13 : Kx W h₂ h₁₃ := ((w1 k₃).tn k₄).tr w4_13
  have nW : ∀ {b : Nat}, L ≠ b → L + 1 ≠ b → 138 < b → ¬ W b := fun n1 n2 n3 hb => by
    rcases hb with e | e | e
    · exact n1 e.symm
    · exact n2 e.symm
    · omega
  have ca₁₃ : IsL h₁₃ ca #[] 0 := w2_13 _ (nW nLca ncca b2) _ l₂
  have cs₁₃ : Cs w h₁₃ cs [] := by
    obtain ⟨o, es, ep, ho, r⟩ := cs₄
    exact ⟨o, es, ep, w4_13 _ (nW nLcs nccs b4) _ ho, r⟩
  have c₁₃ : h₁₃.IsCell (L + 1) (some (.int 4 t₄)) := by
    obtain ⟨o, ho, r⟩ := c9
    exact ⟨o, k₁₃ _ nsL _ (k₁₂.kp _ _ (k₁₁ _ (fun e => e.elim L188 nsL) _ ho)), r⟩
  have T₁₃ : Tb h₁₃ 87 (qsL w) := (T₁₁.n k₁₂).fr (F₁₁.keep k₁₂ id) k₁₃
  have X₁₃ : Wl h₁₃ x dx p := X₁₂.keep k₁₃ (fun e => nLx e.symm) (fun e => nLdx e.symm)
  have z₁₃ : Pq h₁₃ p #[] := (F₁₁.keep k₁₂ id).pq z₁₂ k₁₃
  have nfaL : fa ≠ L := fun e => by
    rw [e] at ho₁₁
    obtain ⟨_, ⟨o, es, ep, ho, hd, _⟩, _⟩ := F₁₁
    rw [ho₁₁] at ho; cases ho; cases hd
  have fa' := k₁₃ _ nfaL _ (k₁₂.kp _ _ ho₁₁)
  have hcr₁₃ : h₁₃.CodeRec cv (Str.ofString "_find_lcas.<locals>._has_candidates") := by
    obtain ⟨c, o, vs, t, rfl, ho, hd, hv⟩ := hcr₁₁
    have nc : c ≠ L := fun e => by
      rw [e] at ho
      obtain ⟨_, ⟨o', es, ep, ho', hd', _⟩, _⟩ := F₁₁
      rw [ho] at ho'; cases ho'; rw [hd] at hd'; cases hd'
    exact ⟨c, o, vs, t, rfl, k₁₃ _ nc _ (k₁₂.kp _ _ ho), hd, hv⟩
  have live11 : ∀ {b : Nat} {o : Obj}, h₁₁.get? b = some o → b ≠ p ∧ b ≠ dx := fun {b o} e => ⟨ne_dead pd e, ne_dead dxd e⟩
  have ca₁₁ : IsL h₁₁ ca #[] 0 := w2_11 _ (nW nLca ncca b2) _ l₂
  have cs₁₁ : ∃ o, h₁₁.get? cs = some o := by
    obtain ⟨o, es, ep, ho, r⟩ := cs₄
    exact ⟨o, w4_11 _ (nW nLcs nccs b4) _ ho⟩
  obtain ⟨ocs, hocs⟩ := cs₁₁
  have pd0 : h.get? p = none := kb₁₁.dead pd fun e => by
    obtain ⟨ps, e', _⟩ := T₁₁
    have e : p = 87 := e
    rw [e, e'] at pd; cases pd
  have hcr0 : CR st n h₁₃ #[] [] := ⟨rfl, fun i k hk => by simp at hk, fun k hk => by cases hk⟩
  have hp0 : HeapP zLt #[] := fun i hi x p hx => by simp at hx
  have S : LS w mg mb h ⟨L, L + 1, x, dx, p, cs, ca, fa, lp, ls⟩ st n h₁₃ _ [] (fun _ => 0) #[] [] #[] [] :=
    LS.mk kb₁₃ (K.kx kb₁₃ fun b e => .inl e) T₁₃ F₁₃ ⟨t₄, c₁₃⟩ X₁₃ z₁₃ hp0 ⟨.refl _, fun q hq => by cases hq⟩ (fun q hq => by cases hq)
      cs₁₃ ⟨fun k _ => .inl ⟨rfl, rfl⟩, fun kv hkv => by cases hkv⟩ ⟨0, ca₁₃⟩ hcr0 ⟨_, _, doc, pm, cv, ctv, fa', hcr₁₃⟩
      hL pd0 d4h d2h ⟨hL', b4, pbig, b2⟩ ⟨nLcs, nLdx⟩ (live11 hocs).2 fun e => (live11 ca₁₁).1 e.symm
  exact hb ⟨L, L + 1, x, dx, p, cs, ca, fa, lp, ls⟩ h₁₃ tk₁₃ _ t₁ t₂ t₈ rfl rfl rfl S ⟨rfl, rfl, rfl, rfl, rfl, rfl, rfl, rfl, rfl, rfl, rfl, trivial⟩ ⟨rfl, rfl, trivial⟩ hr₁
end Mine
end

section
open PySem PySem.W PyProof.Rows PySem.Spec PySem.Calls
set_option maxRecDepth 100000
set_option maxHeartbeats 4000000
namespace Mine
variable {w : World} {mg mb : Str → Option Value} {A : Around} {E : Value → Shared → Prop} {s : Shared} {env : Env} {h : Heap} {g : Array GenState} {d : Drawn} {tk : Nat} {os : OsState} {M : Model}

noncomputable def fl1 (c1 : Nat) : Nat → Nat := upd (fun _ => 0) c1 1
noncomputable def fl2 (c1 c2 : Nat) : Nat → Nat := upd (fl1 c1) c2 (fl1 c1 c2 ||| 2)
theorem fl1_at (c1 x : Nat) : (x = c1 ∧ fl1 c1 x = 1) ∨ (x ≠ c1 ∧ fl1 c1 x = 0) := by
  by_cases h : x = c1
  · subst h; exact .inl ⟨rfl, upd_self ..⟩
  · exact .inr ⟨h, upd_ne _ _ h⟩
theorem fl2_at (c1 c2 x : Nat) : (x = c1 ∧ x = c2 ∧ fl2 c1 c2 x = 3) ∨ (x = c1 ∧ x ≠ c2 ∧ fl2 c1 c2 x = 1) ∨ (x ≠ c1 ∧ x = c2 ∧ fl2 c1 c2 x = 2) ∨ (x ≠ c1 ∧ x ≠ c2 ∧ fl2 c1 c2 x = 0) := by
  by_cases h2 : x = c2
  · have e : fl2 c1 c2 x = fl1 c1 c2 ||| 2 := by subst h2; exact upd_self ..
    rcases fl1_at c1 c2 with ⟨h, e1⟩ | ⟨h, e1⟩ <;> rw [e1] at e
    · exact .inl ⟨h2.trans h, h2, e⟩
    · exact .inr (.inr (.inl ⟨by rw [h2]; exact h, h2, e⟩))
  · have e : fl2 c1 c2 x = fl1 c1 x := upd_ne _ _ h2
    rcases fl1_at c1 x with ⟨h, e1⟩ | ⟨h, e1⟩ <;> rw [e1] at e
    · exact .inr (.inl ⟨h, h2, e⟩)
    · exact .inr (.inr (.inr ⟨h, h2, e⟩))
theorem Inv.start (par : Nat → List Nat) (st : Nat → Nat) (c1 c2 : Nat) : Inv par st c1 c2 none [] [c2, c1] (fl2 c1 c2) [] := by
  have e := fl2_at c1 c2
  refine ⟨fun k => ?_, fun k hk => ?_, fun k hk => ?_, fun k hk => ?_, ?_, ?_, fun k hk _ p hp => ?_, fun k hk => (nomatch hk), fun k => ?_, fun k hk => (nomatch hk), fun k hk h3 => ?_, .nil, fun c hc => (nomatch hc), .nil⟩
  · rcases e k with ⟨_, _, e⟩ | ⟨_, _, e⟩ | ⟨_, _, e⟩ | ⟨_, _, e⟩ <;> rw [e] <;> decide
  · rcases e k with ⟨h, _, e⟩ | ⟨h, _, e⟩ | ⟨_, _, e⟩ | ⟨_, _, e⟩ <;> rw [e] at hk
    · rw [h]; exact .refl _
    · rw [h]; exact .refl _
    · exact absurd hk (by decide)
    · exact absurd hk (by decide)
  · rcases e k with ⟨_, h, e⟩ | ⟨_, _, e⟩ | ⟨_, h, e⟩ | ⟨_, _, e⟩ <;> rw [e] at hk
    · rw [h]; exact .refl _
    · exact absurd hk (by decide)
    · rw [h]; exact .refl _
    · exact absurd hk (by decide)
  · rcases e k with ⟨_, h, e⟩ | ⟨_, _, e⟩ | ⟨_, h, e⟩ | ⟨_, _, e⟩ <;> rw [e] at hk <;> exact absurd hk (by decide)
  · rcases e c1 with ⟨_, h, e⟩ | ⟨_, _, e⟩ | ⟨h, _, e⟩ | ⟨h, _, e⟩
    · rw [e]; rfl
    · rw [e]; rfl
    · exact absurd rfl h
    · exact absurd rfl h
  · rcases e c2 with ⟨_, h, e⟩ | ⟨_, h, e⟩ | ⟨_, _, e⟩ | ⟨_, h, e⟩
    · rw [e]; rfl
    · exact absurd rfl h
    · rw [e]; rfl
    · exact absurd rfl h
  · rcases e k with ⟨h, _, e⟩ | ⟨h, _, e⟩ | ⟨_, h, e⟩ | ⟨_, _, e⟩
    · exact absurd (by simp [h]) hk
    · exact absurd (by simp [h]) hk
    · exact absurd (by simp [h]) hk
    · rw [e]; exact Nat.and_zero _
  · constructor
    · intro h; cases h
    · rcases e k with ⟨_, h, e⟩ | ⟨_, _, e⟩ | ⟨_, h, e⟩ | ⟨_, _, e⟩ <;> rw [e] <;> intro h' <;> exact absurd h' (by decide)
  · rcases e k with ⟨h, _, e⟩ | ⟨h, _, e⟩ | ⟨_, h, e⟩ | ⟨_, _, e⟩
    · exact absurd (by simp [h]) hk
    · exact absurd (by simp [h]) hk
    · exact absurd (by simp [h]) hk
    · rw [e] at h3; exact absurd h3 (by decide)
theorem pot_le (n : Nat) (fl : Nat → Nat) : pot n fl ≤ 3 * n := by
  unfold pot
  have key : ∀ l : List Nat, (l.map fun k => miss (fl k)).sum ≤ 3 * l.length := by
    intro l
    induction l with
    | nil => exact Nat.zero_le _
    | cons a l ih =>
      have hm : miss (fl a) ≤ 3 := by unfold miss; split <;> split <;> split <;> decide
      simp only [List.map_cons, List.sum_cons, List.length_cons]
      (first | lia | omega)
  have := key (List.range n)
  rwa [List.length_range] at this

theorem LS.len {h00 : Heap} {D : Ad} {st : Nat → Nat} {n : Nat} {l : List (Str × Value)} {kvs : List (List UInt8 × Value)} {fl : Nat → Nat} {zs : Array KV} {qs : List Nat} {cvs : Array Value} {cands : List Nat}
    (S : LS w mg mb h00 D st n h l kvs fl zs qs cvs cands) (hn : n ≤ 10) : kvs.length ≤ sizeLine := by
  have h1 := S.fr.len (by obtain ⟨_, _, _, _, _, _, _, _, hnd⟩ := S.cst; exact hnd)
  exact Nat.le_trans (Nat.le_trans h1 hn) (by decide)

/- the body from the first state on -/
theorem lcas_first {h00 : Heap} {D : Ad} {par : Nat → List Nat} {st : Nat → Nat} {n c1 a2 : Nat} {l : List (Str × Value)}
    {t1 t2 t8 t0 t : Tok} {Q : Flow → Shared → Prop} (hr : Rm A 7) (LK : Lk w mg mb h00 D.lp D.ls par st n) (hn : n ≤ 10) (S : LS w mg mb h00 D st n h l [] (fun _ => 0) #[] [] #[] [])
    (R : Rows l (rowsB D t1 t2 t8 t0)) (R' : Rows l [(Str.ofString "c1", .bytes (nmL' c1).toArray t), (Str.ofString "c2s", .ref a2)]) (hc : c1 < n)
    (hq : ∀ h' tk' kvs' zs', LS w mg mb h00 D st n h' l kvs' (fl1 c1) zs' [c1] #[] [] → wpAny (model PP w) A (execs ((bodyAt w 90).drop 10) (lEnv w D.L)) Q E ⟨h', g, d, tk', os⟩) :
    wpAny (model PP w) A (execs ((bodyAt w 90).drop 8) (lEnv w D.L)) Q E ⟨h, g, d, tk, os⟩ := by
  have hkey := key_is w c1 t
  refine wpAny_execs_cons (wpAny_Assign_Subscript ?_)
  refine nmF S.F (R.sub (Str.ofString "_ANC_OF_1") _ rfl) (nmF S.F (R.sub (Str.ofString "cstates") _ rfl) (nmF S.F (R'.sub (Str.ofString "c1") _ rfl) ?_))
  refine wpAny_setItem_pairs hkey S.cst (fun h₇ c₇ sb₇ => ?_) (by decide)
  have hfr : FlR n _ (fl1 c1) := S.fr.set hn hc 1 (by decide) t1
  have S₇ := S.flags (Kx.of_same sb₇) c₇ hfr (fun q hq => (nomatch hq))
  refine wpAny_execs_cons (wpAny_Try_except ?_)
  refine wpAny_execs_cons (wpAny_Expr (MethodCall_ (nmF S₇.F (R.sub (Str.ofString "wlst") _ rfl) ?_)))
  refine wl_meth (f := 63) S₇.K S₇.X (.inl rfl) ?_
  refine callWith_K S₇.K.x (by kernel_rfl) (args_cons (Tuple_ (args_cons (Call_ (nmF S₇.F (R.sub (Str.ofString "lookup_stamp") _ rfl) ?_)))))
  refine callWith_F (fnAt_k LK.fs S₇.base LK.n87.2) (args_cons (nmF S₇.F (R'.sub (Str.ofString "c1") _ rfl) (args_nil ⟨fnAt_k LK.fs S₇.base LK.n87.2, ?_⟩)))
  refine LK.s (hr.less (by decide)) hc S₇.base S₇.K fun h₄ t₄ tk₄ k₄ => ?_
  have S₄ := S₇.no k₄
  refine args_cons (nmF S₄.F (R'.sub (Str.ofString "c1") _ rfl) (args_nil ?_))
  refine nTup fun h₈ k₈ t₈' => args_nil ⟨(S₄.no k₈).K.x, ?_⟩
  have S₈ := S₄.no k₈
  refine wl_add (dt := (st c1 : Nat)) (nm := nmL' c1) S₈.K (hr.less (by decide)) S₈.X S₈.z S₈.hp (by decide) t₈' fun h₉ tk₉ zs' v z₉ hp₉ pm k₉ => ?_
  refine wpAny_execs_nil (wpAny_execs_nil ?_)
  refine hq _ _ _ _ (S₈.queue k₉ z₉ hp₉ (S₈.qr.push hc pm) fun q hq => ?_)
  rcases List.mem_cons.mp hq with rfl | hq
  · rcases fl1_at q q with ⟨_, e⟩ | ⟨h, _⟩
    · rw [e]; decide
    · exact absurd rfl h
  · cases hq

noncomputable def c2For (w : World) : Stmt := (bodyAt w 90).getD 10 default
noncomputable def c2Body (w : World) : List Stmt := match c2For w with | .For _ _ b _ _ => b | _ => []

theorem c2_turn {h00 : Heap} {D : Ad} {par : Nat → List Nat} {st : Nat → Nat} {n c1 c2 : Nat} {l : List (Str × Value)} {kvs : List (List UInt8 × Value)} {zs : Array KV}
    {t1 t2 t8 t0 t : Tok} {Q : Flow → Shared → Prop} (hr : Rm A 7) (LK : Lk w mg mb h00 D.lp D.ls par st n) (hn : n ≤ 10) (S : LS w mg mb h00 D st n h ((Str.ofString "c2", .bytes (nmL' c2).toArray t) :: l) kvs (fl1 c1) zs [c1] #[] [])
    (R : Rows l (rowsB D t1 t2 t8 t0)) (hc : c2 < n)
    (hq : ∀ h' tk' kvs' zs' l', Kx (W3 D) h h' → LS w mg mb h00 D st n h' l' kvs' (fl2 c1 c2) zs' [c2, c1] #[] [] → Rows l' (rowsB D t1 t2 t8 t0) → Q .next ⟨h', g, d, tk', os⟩) :
    wpAny (model PP w) A (execs (c2Body w) (lEnv w D.L)) Q E ⟨h, g, d, tk, os⟩ := by
  have hkey := key_is w c2 t
  have hsys := sys_ne S.big.2.1
  have hlt : ∀ k, fl1 c1 k < 16 := fun k => by rcases fl1_at c1 k with ⟨_, e⟩ | ⟨_, e⟩ <;> rw [e] <;> decide
  refine wpAny_execs_cons (wpAny_Assign_Name (MethodCall_ (nmF S.F (R.sub (Str.ofString "cstates") _ rfl) ?_)))
  refine getMethod_builtin (s := ⟨h, g, d, tk, os⟩) (id := "dict.get") S.cst.mapOf.typeIs PySem.F.plainAttrs_dict PySem.F.slot_dict_get PySem.F.type_dict_get S.cst.mapOf.noDict ?_
  refine dget2 hsys ?_
  refine nmF S.F rfl (cI fun t₁ tk₁ => ?_)
  refine ⟨nmL' c2, _, hkey, S.cst.mapOf, ?_⟩
  have hpf : ∃ tp, (valueAt kvs (nmL' c2)).getD (.int 0 t₁) = .int (fl1 c1 c2 : Nat) tp := by
    rcases S.fr.at_ c2 hc with ⟨h1, h2⟩ | ⟨h1, t', h2⟩
    · exact ⟨t₁, by rw [h2, h1]; rfl⟩
    · exact ⟨t', by rw [h2]; rfl⟩
  obtain ⟨tp, ep⟩ := hpf
  rw [ep]
  refine stF S.F fun h₂ tk₂ F₂ k₂ => ?_
  have S₂ := S.store k₂ F₂
  refine wpAny_execs_cons (wpAny_Assign_Subscript ?_)
  refine wpAny_BinOp (nmF S₂.F rfl (nmF S₂.F (R.sub (Str.ofString "_ANC_OF_2") _ rfl) (bOr fun t₆ tk₆ => ?_)))
  rw [show Builtin.bitOr ((fl1 c1 c2 : Nat) : Int) 2 = ((fl1 c1 c2 ||| 2 : Nat) : Int) from bOr_nat _ (hlt c2) 2 (by decide)]
  refine nmF S₂.F (R.sub (Str.ofString "cstates") _ rfl) (nmF S₂.F rfl ?_)
  refine wpAny_setItem_pairs hkey S₂.cst (fun h₇ c₇ sb₇ => ?_) (S₂.len hn)
  have hne : fl1 c1 c2 ||| 2 ≠ 0 := by rcases fl1_at c1 c2 with ⟨_, e⟩ | ⟨_, e⟩ <;> rw [e] <;> decide
  have hqf : ∀ q ∈ [c2, c1], fl2 c1 c2 q ≠ 0 := fun q hq => by
    rcases fl2_at c1 c2 q with ⟨_, _, e⟩ | ⟨_, _, e⟩ | ⟨_, _, e⟩ | ⟨h1, h2, _⟩
    · rw [e]; decide
    · rw [e]; decide
    · rw [e]; decide
    · simp [h1, h2] at hq
  have hfr : FlR n _ (fl2 c1 c2) := S₂.fr.set hn hc _ hne t₆
  have S₇ := S₂.flags (Kx.of_same sb₇) c₇ hfr (fun q hq => hqf q (.tail _ hq))
  refine wpAny_execs_cons (wpAny_Try_except ?_)
  refine wpAny_execs_cons (wpAny_Expr (MethodCall_ (nmF S₇.F (R.sub (Str.ofString "wlst") _ rfl) ?_)))
  refine wl_meth (f := 63) S₇.K S₇.X (.inl rfl) ?_
  refine callWith_K S₇.K.x (by kernel_rfl) (args_cons (Tuple_ (args_cons (Call_ (nmF S₇.F (R.sub (Str.ofString "lookup_stamp") _ rfl) ?_)))))
  refine callWith_F (fnAt_k LK.fs S₇.base LK.n87.2) (args_cons (nmF S₇.F rfl (args_nil ⟨fnAt_k LK.fs S₇.base LK.n87.2, ?_⟩)))
  refine LK.s (hr.less (by decide)) hc S₇.base S₇.K fun h₄ t₄ tk₄ k₄ => ?_
  have S₄ := S₇.no k₄
  refine args_cons (nmF S₄.F rfl (args_nil ?_))
  refine nTup fun h₈ k₈ t₈' => args_nil ⟨(S₄.no k₈).K.x, ?_⟩
  have S₈ := S₄.no k₈
  have hz : zs.size = 1 := S₈.qr.size
  refine wl_add (dt := (st c2 : Nat)) (nm := nmL' c2) S₈.K (hr.less (by decide)) S₈.X S₈.z S₈.hp (by rw [hz]; decide) t₈' fun h₉ tk₉ zs' v z₉ hp₉ pm k₉ => ?_
  refine wpAny_execs_nil (wpAny_execs_nil (wpAny_execs_nil ?_))
  exact hq _ _ _ _ _ (((((k₂.mono fun b e => .inl (.inl e)).trans (Kx.of_same sb₇) fun b e => .inl (.inr (.inl e))).tn k₄).tn k₈).trans k₉ fun b e => .inl (.inr (.inr e))) (S₈.queue k₉ z₉ hp₉ (S₈.qr.push hc pm) hqf) R
end Mine
end

section
open PySem PySem.W PyProof.Rows PySem.Spec PySem.Calls
set_option maxRecDepth 100000
set_option maxHeartbeats 4000000
namespace Mine
variable {w : World} {mg mb : Str → Option Value} {A : Around} {E : Value → Shared → Prop} {s : Shared} {env : Env} {h : Heap} {g : Array GenState} {d : Drawn} {tk : Nat} {os : OsState} {M : Model}

theorem c2_for {h00 : Heap} {D : Ad} {par : Nat → List Nat} {st : Nat → Nat} {n c1 c2 a2 m2 : Nat} {l : List (Str × Value)} {kvs : List (List UInt8 × Value)} {zs : Array KV}
    {t1 t2 t8 t0 t : Tok} {Q : Flow → Shared → Prop} (hr : Rm A 8) (LK : Lk w mg mb h00 D.lp D.ls par st n) (hn : n ≤ 10) (S : LS w mg mb h00 D st n h l kvs (fl1 c1) zs [c1] #[] [])
    (R : Rows l (rowsB D t1 t2 t8 t0)) (hl2 : l.lookup (Str.ofString "c2s") = some (.ref a2)) (ha2 : IsL h00 a2 #[.bytes (nmL' c2).toArray t] m2) (na2 : a2 ≠ 87) (hc : c2 < n)
    (hq : ∀ h' tk' kvs' zs' l', LS w mg mb h00 D st n h' l' kvs' (fl2 c1 c2) zs' [c2, c1] #[] [] → Rows l' (rowsB D t1 t2 t8 t0) → Q .next ⟨h', g, d, tk', os⟩) :
    wpAny (model PP w) A (exec (c2For w) (lEnv w D.L)) Q E ⟨h, g, d, tk, os⟩ := by
  refine wpAny_For (nmF S.F hl2 ?_)
  have hla : IsL h a2 #[.bytes (nmL' c2).toArray t] m2 := S.base a2 na2 _ ha2
  refine wpAny_pyIter_list hla.isList ?_
  have k₁ : Kx none_ h (h.push { cls := .type "list_iterator", data := .fields #[.ref a2, .int 0 0] }) := Kx.push _ _
  have hit₁ : (h.push { cls := .type "list_iterator", data := .fields #[.ref a2, .int 0 0] }).IsListIter h.objs.size a2 0 := ⟨_, Heap.get?_push_size _ rfl, rfl, rfl⟩
  have hit0 : h00.get? h.objs.size = none := S.base.dead (dead_size h) (fun e => by have := S.K.sz; rw [e] at this; exact absurd this (by decide))
  have hitb : 138 < h.objs.size := S.K.sz
  generalize hgit : h.objs.size = it at *
  have S₁ := S.no k₁
  refine codeAny_forLoop (fun N s => (N = 1 ∧ LS w mg mb h00 D st n s.heap l kvs (fl1 c1) zs [c1] #[] [] ∧ s.heap.IsListIter it a2 0 ∧ s.gens = g ∧ s.drawn = d ∧ s.os = os) ∨
     (N = 0 ∧ ∃ l' kvs' zs', LS w mg mb h00 D st n s.heap l' kvs' (fl2 c1 c2) zs' [c2, c1] #[] [] ∧ Rows l' (rowsB D t1 t2 t8 t0) ∧ s.heap.IsListIter it a2 1 ∧ s.gens = g ∧ s.drawn = d ∧ s.os = os)) ?_ 1 (.inl ⟨rfl, S₁, hit₁, rfl, rfl, rfl⟩)
  rintro N ⟨h₂, g₂, d₂, tk₂, os₂⟩ (⟨rfl, S₂, hit₂, e1, e2, e3⟩ | ⟨rfl, l₂, kvs₂, zs₂, S₂, R₂, hit₂, e1, e2, e3⟩)
  · have e1' : g₂ = g := e1
    have e2' : d₂ = d := e2
    have e3' : os₂ = os := e3
    subst e1' e2' e3'
    have hla₂ : IsL h₂ a2 #[.bytes (nmL' c2).toArray t] m2 := S₂.base a2 na2 _ ha2
    refine wpAny_pyNext_list_item (s := ⟨h₂, g₂, d₂, tk₂, os₂⟩) hit₂ hla₂.isList (x := .bytes (nmL' c2).toArray t) rfl fun h₃ hit₃ sb₃ => ?_
    have S₃ := S₂.iter hit₂ (Kx.of_same sb₃) hit0 hitb
    refine wpAny_assign_Name (stF S₃.F fun h₄ tk₄ F₄ k₄ => ?_)
    have hit₄ : h₄.IsListIter it a2 1 := by
      obtain ⟨o, ho, hc, hd⟩ := hit₃
      refine ⟨o, k₄ _ ?_ _ ho, hc, hd⟩
      rintro rfl
      obtain ⟨_, ⟨o', es, ep, ho', hd', _⟩, _⟩ := S₃.F
      rw [ho] at ho'; cases ho'; rw [hd] at hd'; cases hd'
    have S₄ := S₃.store k₄ F₄
    refine c2_turn (hr.less (by decide)) LK hn S₄ R hc fun h₅ tk₅ kvs₅ zs₅ l₅ kk S₅ R₅ => ?_
    refine ⟨0, by decide, .inr ⟨rfl, l₅, kvs₅, zs₅, S₅, R₅, ?_, rfl, rfl, rfl⟩⟩
    obtain ⟨o, ho, hc, hd⟩ := hit₄
    refine ⟨o, kk _ ?_ _ ho, hc, hd⟩
    rintro (e | e | e) <;> rw [e] at ho
    · rcases S₄.ldL o ho with ⟨_, xs, n, e⟩ | ⟨es, ep, e⟩ <;> rw [hd] at e <;> cases e
    · rcases S₄.ldcs o ho with ⟨_, xs, n, e⟩ | ⟨es, ep, e⟩ <;> rw [hd] at e <;> cases e
    · rcases S₄.ldp o ho with ⟨_, xs, n, e⟩ | ⟨es, ep, e⟩ <;> rw [hd] at e <;> cases e
  · have e1' : g₂ = g := e1
    have e2' : d₂ = d := e2
    have e3' : os₂ = os := e3
    subst e1' e2' e3'
    have hla₂ : IsL h₂ a2 #[.bytes (nmL' c2).toArray t] m2 := S₂.base a2 na2 _ ha2
    refine wpAny_pyNext_list_end (s := ⟨h₂, g₂, d₂, tk₂, os₂⟩) hr.1 hit₂ hla₂.isList rfl fun h₃ he => ?_
    have S₃ := S₂.iter hit₂ (Kx.of_ext he) hit0 hitb
    exact wpAny_execs_nil (hq _ _ _ _ _ S₃ R₂)

/- `_find_lcas(lookup_parents, c1, [c2], lookup_stamp, shallows=None)` -/
theorem find_lcas {lp ls a2 m2 n c1 c2 : Nat} {t t' : Tok} {par : Nat → List Nat} {st : Nat → Nat} {Q : Value → Shared → Prop} (K : Ok w mg mb h) (hr : Rm A 13) (T : Tb h 87 (qsL w)) (ab : AllB g)
    (LK : Lk w mg mb h lp ls par st n) (hn : n ≤ 10) (hpar : ∀ k, ∀ p ∈ par k, p < k) (hst : ∀ k, ∀ p ∈ par k, st p < st k) (hpl : ∀ k, (par k).length ≤ 10)
    (ha2 : IsL h a2 #[.bytes (nmL' c2).toArray t'] m2) (na2 : a2 ≠ 87) (hc1 : c1 < n) (hc2 : c2 < n)
    (hq : ∀ h' g' tk' a vs m res, Kx (· = 87) h h' → Tb h' 87 (qsL w) → AllB g' → IsL h' a vs m → Nms vs res → LcaSpec par st c1 c2 res → (∀ k ∈ res, k < n) → h.get? a = none → Q (.ref a) ⟨h', g', d, tk', os⟩) :
    wpAny (model PP w) A (call (.ref 90) [.ref lp, .bytes (nmL' c1).toArray t, .ref a2, .ref ls] [(Str.ofString "shallows", .none)]) Q E ⟨h, g, d, tk, os⟩ := by
  refine lcas_enter (n := n) (st := st) K hr T fun D h₁ tk₁ l t1 t2 t8 elp els hDc S R R' hr₁ => ?_
  have LK₁ : Lk w mg mb h D.lp D.ls par st n := by rw [elp, els]; exact LK
  refine lcas_first (hr₁.less (by decide)) LK₁ hn S R R' hc1 fun h₂ tk₂ kvs₂ zs₂ S₂ => ?_
  refine wpAny_execs_cons (c2_for (hr₁.less (by decide)) LK₁ hn S₂ R (R'.sub (Str.ofString "c2s") _ rfl) ha2 na2 hc2 fun h₃ tk₃ kvs₃ zs₃ l₃ S₃ R₃ => ?_)
  refine wpAny_execs_cons (wh_loop (Mx := 40) (hr₁.less (by decide)) LK₁ hn hDc hpar hst hpl S₃ R₃ (Inv.start par st c1 c2) ab ?_ (by decide) fun h₄ g₄ tk₄ l₄ kvs₄ fl₄ zs₄ qs₄ cvs₄ cands₄ S₄ R₄ I₄ ab₄ hdn => ?_)
  · have := pot_le n (fl2 c1 c2)
    simp only [List.length_cons, List.length_nil]
    (first | lia | omega)
  refine lcas_tail (hr₁.less (by decide)) hn hDc hst S₄ R₄ I₄ hdn fun h₅ tk₅ a vs m res kb T₅ l₅ nv sp hlt hd => ?_
  exact hq _ _ _ _ _ _ _ kb T₅ ab₄ l₅ nv sp hlt hd
end Mine
end

section
open PySem PySem.W PyProof.Rows PySem.Spec PySem.Calls
set_option maxRecDepth 100000
set_option maxHeartbeats 4000000
namespace Mine
variable {w : World} {mg mb : Str → Option Value} {A : Around} {E : Value → Shared → Prop} {s : Shared} {env : Env} {h : Heap} {g : Array GenState} {d : Drawn} {tk : Nat} {os : OsState} {M : Model}

theorem g_len (w : World) : nsIn (KK w) mainGlobals (Str.ofString "len") = some none := by kernel_rfl
theorem g_list (w : World) : nsIn (KK w) mainGlobals (Str.ofString "list") = some none := by kernel_rfl
theorem b_len : bootBuiltins (Str.ofString "len") = some (.builtin "len") := by kernel_rfl
theorem b_list : bootBuiltins (Str.ofString "list") = some (.type "list") := by kernel_rfl
theorem g_lcas (w : World) : nsIn (KK w) mainGlobals (Str.ofString "_find_lcas") = some (some (.ref 90)) := by kernel_rfl

theorem bytes_ne {x y : List UInt8} {t u : Tok} (hxy : x ≠ y) : PySem.SeqAt.EqAt A s (.bytes x.toArray t) (.bytes y.toArray u) false := by
  intro prog w E Q hq
  refine eqBool_bytes ?_
  have : decide (x.toArray.toList = y.toArray.toList) = false := by simpa using hxy
  rw [this]
  exact hq

theorem nm_ne : ∀ a < 10, ∀ b < 10, a ≠ b → nmL' a ≠ nmL' b := by decide +kernel

theorem CallK_ {M : Model} {func : Expr} {args : List Expr} {kws : List Keyword} {pos : Pos} {Q : Value → Shared → Prop}
    (h : wpAny M A (eval func env) (fun f s₁ => wpAny M A (callWith pos f [] (backTo pos (starEach args env)) (backToKw pos (keywordEach kws env))) Q E s₁) E s)
    (he : eval (.Call func args kws pos) env = (do callWith pos (← eval func env) [] (backTo pos (starEach args env)) (backToKw pos (keywordEach kws env))) := by rfl) :
    wpAny M A (eval (.Call func args kws pos) env) Q E s := by
  rw [he]; exact wpAny_bind h

theorem Lk.kx {lp ls n : Nat} {par : Nat → List Nat} {st : Nat → Nat} {h' : Heap} (X : Lk w mg mb h lp ls par st n) (k : Kx (· = 87) h h') : Lk w mg mb h' lp ls par st n where
  fp := fnAt_k X.fp k X.n87.1
  fs := fnAt_k X.fs k X.n87.2
  n87 := X.n87
  p := fun hr hk k₂ K hq => X.p hr hk (k.tr k₂) K fun a vs m h'' tk' ha l nv k' => hq a vs m h'' tk' ha (k a ha _ l) nv k'
  s := fun hr hk k₂ K hq => X.s hr hk (k.tr k₂) K hq
theorem Lk.n {lp ls n : Nat} {par : Nat → List Nat} {st : Nat → Nat} {h' : Heap} (X : Lk w mg mb h lp ls par st n) (k : Kx none_ h h') : Lk w mg mb h' lp ls par st n := X.kx k.any

/- find_merge_base of two different commits -/
theorem find_mb2 {lp ls ai mi n c1 c2 : Nat} {t t' : Tok} {par : Nat → List Nat} {st : Nat → Nat} {Q : Value → Shared → Prop} (K : Ok w mg mb h) (hr : Rm A 15) (T : Tb h 87 (qsL w)) (ab : AllB g)
    (LK : Lk w mg mb h lp ls par st n) (hn : n ≤ 10) (hpar : ∀ k, ∀ p ∈ par k, p < k) (hst : ∀ k, ∀ p ∈ par k, st p < st k) (hpl : ∀ k, (par k).length ≤ 10)
    (hai : IsL h ai #[.bytes (nmL' c1).toArray t, .bytes (nmL' c2).toArray t'] mi) (hc1 : c1 < n) (hc2 : c2 < n) (hne : c1 ≠ c2)
    (hq : ∀ h' g' tk' a vs m res, Kx (· = 87) h h' → Tb h' 87 (qsL w) → AllB g' → IsL h' a vs m → Nms vs res → LcaSpec par st c1 c2 res → (∀ k ∈ res, k < n) → h.get? a = none → Q (.ref a) ⟨h', g', d, tk', os⟩) :
    wpAny (model PP w) A (call (.ref 97) [.ref lp, .ref ls, .none, .ref ai]) Q E ⟨h, g, d, tk, os⟩ := by
  refine callF' [(Str.ofString "lookup_parents", .ref lp), (Str.ofString "lookup_stamp", .ref ls), (Str.ofString "shallows", .none), (Str.ofString "commit_ids", .ref ai)] K hr fun L h₁ tk₁ hL hL' k₁ F₁ K₁ hr₁ => ?_
  have l₁ : IsL h₁ ai _ mi := k₁ _ id _ hai
  refine wpAny_execs_cons (wpAny_If (isTrue_not (isTrue_plain (nmF F₁ rfl (wpAny_truthy_list l₁.isList (by simp) ?_)))))
  refine wpAny_execs_nil ?_
  refine wpAny_execs_cons (wpAny_Assign_Name (Subscript_Constant (nmF F₁ rfl (cI fun t₄ tk₄ => ?_))))
  refine ⟨"list", _, slot_list_getitem.lookup, l₁.isList.typeIs, wpAny_getItem_list l₁.isList (by decide) (by decide) rfl ?_⟩
  refine stF F₁ fun h₂ tk₂ F₂ k₂ => ?_
  have l₂ : IsL h₂ ai _ mi := F₁.lst l₁ k₂
  have K₂ : Ok w mg mb h₂ := K₁.l k₂ hL'
  refine wpAny_execs_cons (wpAny_If (isTrue_not (wpAny_isTrue_Compare1 (Call_ (nmB K₂ (g_len w) b_len (by decide) (PyProof.Rows.callWith_builtin1 (args_cons (nmF F₂ rfl (args_nil (len_list l₂.isList (by simp) ?_))))))))))
  refine cI fun t₅ tk₅ => PyProof.Rows.gt_int (wpAny_truthy_bool ?_)
  refine wpAny_execs_nil ?_
  refine wpAny_execs_cons (wpAny_Assign_Name (Call_ (nmB K₂ (g_list w) b_list (by decide) (PyProof.Rows.callWith_type1 (args_cons ?_)))))
  refine wpAny_Subscript_list_slice (nmF F₂ rfl ?_)
  rw [evalPart_some]
  refine cI fun t₆ tk₆ => wpAny_pure ?_
  refine ⟨ai, _, some 1, none, rfl, l₂.isList, by simp [sizeLine_eq], .int _ _, .none, ?_⟩
  have es : slicePick #[Value.bytes (nmL' c1).toArray t, .bytes (nmL' c2).toArray t'] (some 1) none none = #[.bytes (nmL' c2).toArray t'] := slicePick_from _ 1 (by simp)
  rw [es]
  have k₃ : Kx none_ h₂ ((h₂.push { cls := .type "slice", data := .fields #[.int 1 t₆, .none, .none] }).push { cls := .type "list", data := .seq #[.bytes (nmL' c2).toArray t'] 0 }) := (Kx.push h₂ _).tn (Kx.push _ _)
  have e₃ : ((h₂.push { cls := .type "slice", data := .fields #[.int 1 t₆, .none, .none] }).push { cls := .type "list", data := .seq #[.bytes (nmL' c2).toArray t'] 0 }).get? (h₂.objs.size + 1) = some { cls := .type "list", data := .seq #[.bytes (nmL' c2).toArray t'] 0 } := by
    have := Heap.get?_push_size (h₂.push { cls := .type "slice", data := .fields #[.int 1 t₆, .none, .none] }) (o := { cls := .type "list", data := .seq #[.bytes (nmL' c2).toArray t'] 0 }) rfl
    rwa [Heap.size_push] at this
  show wpAny _ _ (spliced (backTo _ (starEach [] _))) _ _ ⟨(h₂.push { cls := .type "slice", data := .fields #[.int 1 t₆, .none, .none] }).push { cls := .type "list", data := .seq #[.bytes (nmL' c2).toArray t'] 0 }, g, d, tk₆, os⟩
  generalize ((h₂.push { cls := .type "slice", data := .fields #[.int 1 t₆, .none, .none] }).push { cls := .type "list", data := .seq #[.bytes (nmL' c2).toArray t'] 0 }) = h₃ at *
  refine args_nil (call_list_seq _ (.inl rfl) e₃ rfl rfl (fun h₄ m₄ kp₄ e₄ => ?_) (by simp [sizeLine_eq]))
  have k₄ : Kx none_ h₃ h₄ := Kx.of_kp kp₄
  have d₄ : h₃.get? h₃.objs.size = none := dead_size h₃
  have K₃ := K₂.n k₃
  have b₄ : 138 < h₃.objs.size := K₃.sz
  show wpAny _ _ (storeName _ _ (.ref h₃.objs.size)) _ _ ⟨h₄, g, d, tk₆, os⟩
  generalize hc2s : h₃.objs.size = a2 at *
  have F₃ := F₂.keep k₃ id
  have nLa : L ≠ a2 := F₃.ne d₄
  refine stF (F₃.keep k₄ id) fun h₅ tk₅ F₅ k₅ => ?_
  have l₅ : IsL h₅ a2 #[.bytes (nmL' c2).toArray t'] m₄ := k₅ _ (fun e => nLa e.symm) _ e₄
  have K₅ : Ok w mg mb h₅ := (K₃.n k₄).l k₅ hL'
  have kk₅ : Kx none_ h h₅ := ((((k₁.t1 k₂ hL).tn k₃).tn k₄).t1 k₅ hL)
  -- c1 in c2s
  refine wpAny_execs_cons (wpAny_If (wpAny_isTrue_Compare1 (nmF F₅ rfl (nmF F₅ rfl ?_))))
  refine PySem.SeqAt.in_listAt (fun _ => false) l₅.isList (fun y hy => ?_) (wpAny_truthy_bool ?_)
  · have e : y = .bytes (nmL' c2).toArray t' := by simpa using hy
    rw [e]
    exact bytes_ne (nm_ne _ (by (first | lia | omega)) _ (by (first | lia | omega)) fun e => hne e.symm)
  rw [show ((#[Value.bytes (nmL' c2).toArray t'] : Array Value).any fun _ => false) = false by simp, if_neg (by decide)]
  refine wpAny_execs_nil ?_
  refine wpAny_execs_cons (wpAny_Assign_Name (CallK_ (nmG K₅ (g_lcas w) (callWith_KW K₅.x (by kernel_rfl) rfl ?_))))
  have T₅ := T.n kk₅
  have LK₅ : Lk w mg mb h₅ lp ls par st n := LK.n kk₅
  refine args_cons (nmF F₅ rfl (args_cons (nmF F₅ rfl (args_cons (nmF F₅ rfl (args_cons (nmF F₅ rfl (args_nil ?_))))))))
  refine kwAll_cons (nmF F₅ rfl (kwAll_nil ⟨K₅.x, ?_⟩))
  refine find_lcas K₅ (hr₁.less (by decide)) T₅ ab LK₅ hn hpar hst hpl l₅ ?_ hc1 hc2 fun h₆ g₆ tk₆ r vs m res k₆ T₆ ab₆ l₆ nv sp hlt hd => ?_
  · rintro rfl; exact absurd b₄ (by decide)
  have L87 : L ≠ 87 := by rintro rfl; exact absurd hL' (by decide)
  have F₆ := F₅.keep k₆ L87
  have rL : r ≠ L := fun e => by
    obtain ⟨_, ⟨o, es, ep, ho, _⟩, _⟩ := F₅
    rw [e, ho] at hd; cases hd
  refine stF F₆ fun h₇ tk₇ F₇ k₇ => ?_
  refine wpAny_execs_cons (wpAny_Return_some (nmF F₇ rfl ?_))
  exact hq _ _ _ _ _ _ _ ((kk₅.any.tr k₆).t1 k₇ hL) (T₆.fr F₆ k₇) ab₆ (F₆.lst l₆ k₇) nv sp hlt (kk₅.dead0 hd)
end Mine
end

section
open PySem PySem.W PyProof.Rows PySem.Spec PySem.Calls
set_option maxRecDepth 100000
set_option maxHeartbeats 4000000
namespace Mine
variable {w : World} {mg mb : Str → Option Value} {A : Around} {E : Value → Shared → Prop} {s : Shared} {env : Env} {h : Heap} {g : Array GenState} {d : Drawn} {tk : Nat} {os : OsState} {M : Model}

/- find_merge_base of one commit -/
theorem find_mb1 {lp ls ai mi c1 : Nat} {t : Tok} {Q : Value → Shared → Prop} (K : Ok w mg mb h) (hr : Rm A 2)
    (hai : IsL h ai #[.bytes (nmL' c1).toArray t] mi)
    (hq : ∀ h' tk' a m, Kx none_ h h' → IsL h' a #[.bytes (nmL' c1).toArray t] m → h.get? a = none → Q (.ref a) ⟨h', g, d, tk', os⟩) :
    wpAny (model PP w) A (call (.ref 97) [.ref lp, .ref ls, .none, .ref ai]) Q E ⟨h, g, d, tk, os⟩ := by
  refine callF' [(Str.ofString "lookup_parents", .ref lp), (Str.ofString "lookup_stamp", .ref ls), (Str.ofString "shallows", .none), (Str.ofString "commit_ids", .ref ai)] K hr fun L h₁ tk₁ hL hL' k₁ F₁ K₁ hr₁ => ?_
  have l₁ : IsL h₁ ai _ mi := k₁ _ id _ hai
  refine wpAny_execs_cons (wpAny_If (isTrue_not (isTrue_plain (nmF F₁ rfl (wpAny_truthy_list l₁.isList (by simp) ?_)))))
  refine wpAny_execs_nil ?_
  refine wpAny_execs_cons (wpAny_Assign_Name (Subscript_Constant (nmF F₁ rfl (cI fun t₄ tk₄ => ?_))))
  refine ⟨"list", _, slot_list_getitem.lookup, l₁.isList.typeIs, wpAny_getItem_list l₁.isList (by decide) (by decide) rfl ?_⟩
  refine stF F₁ fun h₂ tk₂ F₂ k₂ => ?_
  have l₂ : IsL h₂ ai _ mi := F₁.lst l₁ k₂
  have K₂ : Ok w mg mb h₂ := K₁.l k₂ hL'
  refine wpAny_execs_cons (wpAny_If (isTrue_not (wpAny_isTrue_Compare1 (Call_ (nmB K₂ (g_len w) b_len (by decide) (PyProof.Rows.callWith_builtin1 (args_cons (nmF F₂ rfl (args_nil (len_list l₂.isList (by simp) ?_))))))))))
  refine cI fun t₅ tk₅ => PyProof.Rows.gt_int (wpAny_truthy_bool ?_)
  refine wpAny_execs_cons (wpAny_Return_some (List_ (args_cons (nmF F₂ rfl (args_nil (nList (fun h₃ k₃ l₃ => ?_) (by simp [sizeLine_eq])))))))
  exact hq _ _ _ _ ((k₁.t1 k₂ hL).tn k₃) l₃ ((k₁.t1 k₂ hL).dead0 (dead_size h₂))

theorem g_mb (w : World) : nsIn (KK w) mainGlobals (Str.ofString "find_merge_base") = some (some (.ref 97)) := by kernel_rfl

/- the octopus base of one or two commits is the merge base -/
theorem oct_small {lp ls ai mi : Nat} {xs : Array Value} {Q : Value → Shared → Prop} {n : Nat} (K : Ok w mg mb h) (hr : Rm A (n + 1)) (hai : IsL h ai xs mi) (h1 : 0 < xs.size) (h2 : xs.size ≤ 2)
    (hq : ∀ h₁ tk' L, Kx none_ h h₁ → Ok w mg mb h₁ → Rm (A.deeper (callEnv (fdAt w 104) L 104)) n →
      wpAny (model PP w) (A.deeper (callEnv (fdAt w 104) L 104)) (call (.ref 97) [.ref lp, .ref ls, .none, .ref ai]) Q (fun _ _ => False) ⟨h₁, g, d, tk', os⟩) :
    wpAny (model PP w) A (call (.ref 104) [.ref lp, .ref ls, .none, .ref ai]) Q E ⟨h, g, d, tk, os⟩ := by
  refine callF' [(Str.ofString "lookup_parents", .ref lp), (Str.ofString "lookup_stamp", .ref ls), (Str.ofString "shallows", .none), (Str.ofString "commit_ids", .ref ai)] K hr fun L h₁ tk₁ hL hL' k₁ F₁ K₁ hr₁ => ?_
  have l₁ : IsL h₁ ai _ mi := k₁ _ id _ hai
  refine wpAny_execs_cons (wpAny_If (isTrue_not (isTrue_plain (nmF F₁ rfl (wpAny_truthy_list l₁.isList (by (first | lia | omega)) ?_)))))
  have e0 : xs.isEmpty = false := by
    cases e : xs.isEmpty with
    | false => rfl
    | true => rw [Array.isEmpty_iff] at e; rw [e] at h1; exact absurd h1 (by decide)
  rw [e0]
  refine wpAny_execs_nil ?_
  refine wpAny_execs_cons (wpAny_If (wpAny_isTrue_Compare1 (Call_ (nmB K₁ (g_len w) b_len (by decide) (PyProof.Rows.callWith_builtin1 (args_cons (nmF F₁ rfl (args_nil (len_list l₁.isList (by (first | lia | omega)) ?_)))))))))
  refine cI fun t₅ tk₅ => PyProof.Rows.le_int (wpAny_truthy_bool ?_)
  rw [show decide ((xs.size : Int) ≤ 2) = true by simpa using (by (first | lia | omega) : (xs.size : Int) ≤ 2)]
  refine wpAny_execs_cons (wpAny_Return_some (Call_ (nmG K₁ (g_mb w) (callWith_K K₁.x (by kernel_rfl) ?_))))
  refine args_cons (nmF F₁ rfl (args_cons (nmF F₁ rfl (args_cons (nmF F₁ rfl (args_cons (nmF F₁ rfl (args_nil ⟨K₁.x, ?_⟩))))))))
  exact hq _ _ _ k₁ K₁ hr₁
end Mine
end

section
open PySem PySem.W PyProof.Rows PySem.Spec PySem.Calls
set_option maxRecDepth 100000
set_option maxHeartbeats 4000000
namespace Mine
variable {w : World} {mg mb : Str → Option Value} {A : Around} {E : Value → Shared → Prop} {s : Shared} {env : Env} {h : Heap} {g : Array GenState} {d : Drawn} {tk : Nat} {os : OsState} {M : Model}

theorem lst_extend {D b n n2 : Nat} {its its2 : Array Value} {Q : Value → Shared → Prop} (hD : IsL h D its n) (hb : IsL h b its2 n2) (hsz : its.size + its2.size ≤ sizeLine)
    (hq : ∀ h' n', Kx (· = D) h h' → IsL h' D (its ++ its2) n' → Q .none ⟨h', g, d, tk, os⟩) :
    wpAny (model PP w) A (call (.builtin "list.extend") [.ref D, .ref b]) Q E ⟨h, g, d, tk, os⟩ := by
  refine call_meets PySem.F.slot_list_extend ⟨_, hD, rfl⟩ PySem.F.entry_list_extend (PySem.F.args_list_extend_2 _ _) (AutoSeq1.list_extend_list_list_0 D its n b its2 n2 (extend_door hsz) (Nat.le_trans (Nat.le_add_right _ _) hsz) (Nat.le_succ_of_le hsz)) ⟨hD, hb, ?_⟩
  have ho' : (h.update D (Obj.mapSeq fun x => x ++ its2)).get? D = some { cls := .type "list", data := .seq (its ++ its2) (if (its ++ its2).size == its.size then n else n + 1) } := by
    rw [Heap.get?_update_self _ hD (by rw [mapSeq_app]; rfl), mapSeq_app]
  exact hq _ _ (Kx.of_same (Heap.SameBut.update ..)) ho'

noncomputable def octFor (w : World) : Stmt := (bodyAt w 104).getD 4 default
noncomputable def octBody (w : World) : List Stmt := match octFor w with | .For _ _ b _ _ => b | _ => []
noncomputable def caFor (w : World) : Stmt := (octBody w).getD 1 default
noncomputable def caBody (w : World) : List Stmt := match caFor w with | .For _ _ b _ _ => b | _ => []
noncomputable abbrev oEnv (w : World) (L : Nat) : Env := callEnv (fdAt w 104) L 104

theorem Nms.app {vs us : Array Value} {ks js : List Nat} (x : Nms vs ks) (y : Nms us js) : Nms (vs ++ us) (ks ++ js) := by
  refine ⟨by rw [Array.size_append, List.length_append, x.1, y.1], fun i k hk => ?_⟩
  by_cases hi : i < ks.length
  · rw [List.getElem?_append_left hi] at hk
    obtain ⟨t, e⟩ := x.2 i k hk
    exact ⟨t, by rw [Array.getElem?_append_left (by rw [x.1]; exact hi)]; exact e⟩
  · have hi' : ks.length ≤ i := Nat.le_of_not_lt hi
    rw [List.getElem?_append_right hi'] at hk
    obtain ⟨t, e⟩ := y.2 _ k hk
    exact ⟨t, by rw [Array.getElem?_append_right (by rw [x.1]; exact hi'), x.1]; exact e⟩

theorem LcaSpec.le {par : Nat → List Nat} {st : Nat → Nat} {c1 c2 n : Nat} {res : List Nat} (x : LcaSpec par st c1 c2 res) (hlt : ∀ k ∈ res, k < n) : res.length ≤ n := by
  have hnd : res.Nodup := x.2.imp fun {a b} hab e => by
    subst e
    unfold pLt at hab
    simp only [if_true] at hab
    have := bLt_asymm _ _ hab
    rw [hab] at this
    cases this
  have h3 := nodup_le res (List.range n) hnd fun x hx => List.mem_range.mpr (hlt x hx)
  rwa [List.length_range] at h3

noncomputable def rowsO (lp ls nl c1 : Nat) (t : Tok) : List (Str × Value) := [(Str.ofString "lookup_parents", .ref lp), (Str.ofString "lookup_stamp", .ref ls), (Str.ofString "shallows", .none), (Str.ofString "cmt", .bytes (nmL' c1).toArray t), (Str.ofString "next_lcas", .ref nl)]
noncomputable def W4 (L nl : Nat) (b : Nat) : Prop := b = 87 ∨ b = L ∨ b = nl

theorem ca_turn {h00 : Heap} {L lp ls nl n c1 c2 m : Nat} {t t' : Tok} {par : Nat → List Nat} {st : Nat → Nat} {l : List (Str × Value)} {vs : Array Value} {acc : List Nat} {Q : Flow → Shared → Prop} (hr : Rm A 13)
    (LK : Lk w mg mb h00 lp ls par st n) (hn : n ≤ 10) (hpar : ∀ k, ∀ p ∈ par k, p < k) (hst : ∀ k, ∀ p ∈ par k, st p < st k) (hpl : ∀ k, (par k).length ≤ 10)
    (k00 : Kx (· = 87) h00 h) (K : Ok w mg mb h) (T : Tb h 87 (qsL w)) (ab : AllB g) (F : Fv h L ((Str.ofString "ca", .bytes (nmL' c2).toArray t') :: l)) (R : Rows l (rowsO lp ls nl c1 t))
    (hnl : IsL h nl vs m) (hvs : Nms vs acc) (hL : 138 < L) (hnb : 138 < nl) (hc1 : c1 < n) (hc2 : c2 < n) (hsz : acc.length ≤ 10000)
    (hq : ∀ h' g' tk' l' vs' m' res, Kx (W4 L nl) h h' → Ok w mg mb h' → Tb h' 87 (qsL w) → AllB g' → Fv h' L l' → Rows l' (rowsO lp ls nl c1 t) → (∀ x v, x ≠ Str.ofString "ca" → x ≠ Str.ofString "res" → l.lookup x = some v → l'.lookup x = some v) → IsL h' nl vs' m' → Nms vs' (acc ++ res) → LcaSpec par st c1 c2 res → (∀ k ∈ res, k < n) → Q .next ⟨h', g', d, tk', os⟩) :
    wpAny (model PP w) A (execs (caBody w) (oEnv w L)) Q E ⟨h, g, d, tk, os⟩ := by
  refine wpAny_execs_cons (wpAny_Assign_Name (CallK_ (nmG K (g_lcas w) (callWith_KW K.x (by kernel_rfl) rfl ?_))))
  refine args_cons (nmF F (R.sub (Str.ofString "lookup_parents") _ rfl) (args_cons (nmF F (R.sub (Str.ofString "cmt") _ rfl) (args_cons (List_ (args_cons (nmF F rfl (args_nil (nList (fun h₁ k₁ l₁ => ?_) (by simp [sizeLine_eq]))))))))))
  have F₁ := F.keep k₁ id
  have K₁ := K.n k₁
  have b₁ : 138 < h.objs.size := K.sz
  have nla : h.objs.size ≠ 87 := fun e => by rw [e] at b₁; exact absurd b₁ (by decide)
  refine args_cons (nmF F₁ (R.sub (Str.ofString "lookup_stamp") _ rfl) (args_nil ?_))
  refine kwAll_cons (nmF F₁ (R.sub (Str.ofString "shallows") _ rfl) (kwAll_nil ⟨K₁.x, ?_⟩))
  refine find_lcas K₁ hr (T.n k₁) ab ((LK.kx k00).n k₁) hn hpar hst hpl l₁ nla hc1 hc2 fun h₂ g₂ tk₂ r us mr res k₂ T₂ ab₂ l₂ nv sp hlt hd => ?_
  have L87 : L ≠ 87 := fun e => by rw [e] at hL; exact absurd hL (by decide)
  have n87 : nl ≠ 87 := fun e => by rw [e] at hnb; exact absurd hnb (by decide)
  have F₂ := F₁.keep k₂ L87
  have K₂ : Ok w mg mb h₂ := K₁.kx k₂ fun b e => .inl e
  refine stF F₂ fun h₃ tk₃ F₃ k₃ => ?_
  have K₃ := K₂.l k₃ hL
  have T₃ := T₂.fr F₂ k₃
  have l₃ : IsL h₃ r us mr := F₂.lst l₂ k₃
  have hnl₁ : IsL h₁ nl vs m := k₁ _ id _ hnl
  have hnl₂ : IsL h₂ nl vs m := k₂ _ n87 _ hnl₁
  have hnl₃ : IsL h₃ nl vs m := F₂.lst hnl₂ k₃
  refine wpAny_execs_cons (wpAny_Expr (MethodCall_ (nmF F₃ (R.sub (Str.ofString "next_lcas") _ rfl) ?_)))
  refine getMethod_list_of PySem.F.slot_list_extend PySem.F.type_list_extend hnl₃.isList ⟨_, hnl₃, rfl⟩ ?_
  refine callWith_method1 (args_cons (nmF F₃ rfl (args_nil ?_)))
  have hres := sp.le hlt
  refine lst_extend hnl₃ l₃ (by rw [hvs.1, nv.1, sizeLine_eq]; (first | lia | omega)) fun h₄ m₄ k₄ l₄ => ?_
  refine wpAny_execs_nil ?_
  have nlL : L ≠ nl := (F₃.ne_seq hnl₃).symm
  have F₄ := F₃.keep k₄ nlL
  have kW : Kx (W4 L nl) h h₄ := (((k₁.any.tr (k₂.mono fun b e => .inl (.inl e))).tr (k₃.mono fun b e => .inl (.inr (.inl e)))).tr (k₄.mono fun b e => .inl (.inr (.inr e))))
  refine hq _ _ _ _ _ _ res kW (K₃.l k₄ hnb) (T₃.keep k₄ (fun e => n87 e.symm) fun b e o ho vs' hvs' => ?_) ab₂ F₄ R (fun x v h1 h2 hx => ?_) l₄ (hvs.app nv) sp hlt
  · rw [e, hnl₃] at ho; cases ho; cases hvs'
  · rw [List.lookup_cons, List.lookup_cons]
    have e1 : (x == Str.ofString "res") = false := beq_eq_false_iff_ne.mpr h2
    have e2 : (x == Str.ofString "ca") = false := beq_eq_false_iff_ne.mpr h1
    simp only [e1, e2]
    exact hx
end Mine
end

section
open PySem PySem.W PyProof.Rows PySem.Spec PySem.Calls
set_option maxRecDepth 100000
set_option maxHeartbeats 4000000
namespace Mine
variable {w : World} {mg mb : Str → Option Value} {A : Around} {E : Value → Shared → Prop} {s : Shared} {env : Env} {h : Heap} {g : Array GenState} {d : Drawn} {tk : Nat} {os : OsState} {M : Model}

theorem iter_w4 {it a j L nl : Nat} {h' : Heap} {l : List (Str × Value)} {vs : Array Value} {m : Nat} (hit : h.IsListIter it a j) (k : Kx (W4 L nl) h h') (hb : 138 < it) (F : Fv h L l) (hnl : IsL h nl vs m) : h'.IsListIter it a j := by
  obtain ⟨o, ho, hc, hd⟩ := hit
  refine ⟨o, k _ ?_ _ ho, hc, hd⟩
  rintro (e | e | e)
  · rw [e] at hb; exact absurd hb (by decide)
  · rw [e] at ho
    obtain ⟨_, ⟨o', es, ep, ho', hd', _⟩, _⟩ := F
    rw [ho] at ho'; cases ho'; rw [hd] at hd'; cases hd'
  · rw [e, hnl] at ho; cases ho; cases hd

/- the state of the inner loop -/
inductive CaS (w : World) (mg mb : Str → Option Value) (h : Heap) (L lp ls nl c1 n la it : Nat) (t : Tok) (par : Nat → List Nat) (l : List (Str × Value)) (lks : List Nat) (d : Drawn) (os : OsState) (N : Nat) (s : Shared) : Prop
  | mk (j : Nat)
      (l' : List (Str × Value))
      (vs' : Array Value)
      (m' : Nat)
      (acc : List Nat)
      (q1 : N = lks.length - j)
      (q2 : j ≤ lks.length)
      (q3 : Kx (W4 L nl) h s.heap)
      (q4 : Ok w mg mb s.heap)
      (q5 : Tb s.heap 87 (qsL w))
      (q6 : AllB s.gens)
      (q7 : Fv s.heap L l')
      (q8 : Rows l' (rowsO lp ls nl c1 t))
      (q9 : (∀ x v, x ≠ Str.ofString "ca" → x ≠ Str.ofString "res" → l.lookup x = some v → l'.lookup x = some v))
      (q10 : IsL s.heap nl vs' m')
      (q11 : Nms vs' acc)
      (q12 : (∀ k, k ∈ acc ↔ ∃ ca ∈ lks.take j, Best par c1 ca k))
      (q13 : (∀ k ∈ acc, k < n))
      (q14 : acc.length ≤ 10 * j)
      (q15 : s.heap.IsListIter it la j)
      (q16 : s.drawn = d)
      (q17 : s.os = os) : CaS w mg mb h L lp ls nl c1 n la it t par l lks d os N s
theorem ca_loop {h00 : Heap} {L lp ls nl la lm n c1 m : Nat} {t : Tok} {par : Nat → List Nat} {st : Nat → Nat} {l : List (Str × Value)} {lvs : Array Value} {lks : List Nat} {Q : Flow → Shared → Prop} (hr : Rm A 14)
    (LK : Lk w mg mb h00 lp ls par st n) (hn : n ≤ 10) (hpar : ∀ k, ∀ p ∈ par k, p < k) (hst : ∀ k, ∀ p ∈ par k, st p < st k) (hpl : ∀ k, (par k).length ≤ 10)
    (k00 : Kx (· = 87) h00 h) (hL0 : h00.get? L = none) (hnl0 : h00.get? nl = none) (K : Ok w mg mb h) (T : Tb h 87 (qsL w)) (ab : AllB g) (F : Fv h L l) (R : Rows l (rowsO lp ls nl c1 t))
    (hlc : l.lookup (Str.ofString "lcas") = some (.ref la)) (hla : IsL h la lvs lm) (hlvs : Nms lvs lks) (hlt : ∀ k ∈ lks, k < n) (hlen : lks.length ≤ 1000) (la87 : la ≠ 87) (lanl : la ≠ nl)
    (hnl : IsL h nl #[] m) (hL : 138 < L) (hnb : 138 < nl) (hc1 : c1 < n)
    (hq : ∀ h' g' tk' l' vs' m' res, Kx (W4 L nl) h h' → Ok w mg mb h' → Tb h' 87 (qsL w) → AllB g' → Fv h' L l' → Rows l' (rowsO lp ls nl c1 t) → (∀ x v, x ≠ Str.ofString "ca" → x ≠ Str.ofString "res" → l.lookup x = some v → l'.lookup x = some v) →
      IsL h' nl vs' m' → Nms vs' res → (∀ k, k ∈ res ↔ ∃ ca ∈ lks, Best par c1 ca k) → (∀ k ∈ res, k < n) → res.length ≤ 10 * lks.length → Q .next ⟨h', g', d, tk', os⟩) :
    wpAny (model PP w) A (exec (caFor w) (oEnv w L)) Q E ⟨h, g, d, tk, os⟩ := by
  refine wpAny_For (nmF F hlc ?_)
  refine wpAny_pyIter_list hla.isList ?_
  have k₁ : Kx none_ h (h.push { cls := .type "list_iterator", data := .fields #[.ref la, .int 0 0] }) := Kx.push _ _
  have hit₁ : (h.push { cls := .type "list_iterator", data := .fields #[.ref la, .int 0 0] }).IsListIter h.objs.size la 0 := ⟨_, Heap.get?_push_size _ rfl, rfl, rfl⟩
  have hitd : h.get? h.objs.size = none := dead_size h
  have hitb : 138 < h.objs.size := K.sz
  generalize hgit : h.objs.size = it at *
  have laL : la ≠ L := F.ne_seq hla
  refine codeAny_forLoop (CaS w mg mb h L lp ls nl c1 n la it t par l lks d os) ?_ lks.length
    ⟨0, l, #[], m, [], rfl, Nat.zero_le _, k₁.any, K.n k₁, T.n k₁, ab, F.keep k₁ id, R, fun _ _ _ _ e => e, k₁ _ id _ hnl, ⟨rfl, fun i k hk => by simp at hk⟩, fun k => by simp, fun k hk => (nomatch hk), Nat.zero_le _, hit₁, rfl, rfl⟩
  rintro N ⟨h₂, g₂, d₂, tk₂, os₂⟩ xz
  refine hide fun Gz kz => ?_
  obtain ⟨j, l₂, vs₂, m₂, acc, rfl, hj, kW, K₂, T₂, ab₂, F₂, R₂, lk₂, hnl₂, nv₂, mem₂, lt₂, len₂, hit₂, e2, e3⟩ := xz
  refine kz ?_
  clear kz Gz
  have e2' : d₂ = d := e2
  have e3' : os₂ = os := e3
  subst e2' e3'
  have hW : ¬ W4 L nl la := fun hb => by
    rcases hb with e | e | e
    · exact la87 e
    · exact laL e
    · exact lanl e
  have hla₂ : IsL h₂ la lvs lm := kW _ hW _ hla
  have L87 : L ≠ 87 := fun e => by rw [e] at hL; exact absurd hL (by decide)
  have itF : ∀ {h₃ : Heap} {l : List (Str × Value)}, Fv h₃ L l → h₃.IsListIter it la j → L ≠ it := by
    rintro h₃ l ⟨_, ⟨o', es, ep, ho', hd', _⟩, _⟩ ⟨o, ho, hc, hd⟩ e
    rw [e, ho] at ho'; cases ho'; rw [hd] at hd'; cases hd'
  have Lit : L ≠ it := itF F₂ hit₂
  have nlit : nl ≠ it := fun e => by
    obtain ⟨o, ho, hc, hd⟩ := hit₂
    rw [← e, hnl₂] at ho; cases ho; cases hd
  have tabk : ∀ {h₃ : Heap}, Kx (· = it) h₂ h₃ → Tb h₃ 87 (qsL w) := fun {h₃} k => by
    obtain ⟨ps, e, ht, r⟩ := T₂
    have hit2 : h₂.IsListIter it la j := hit₂
    obtain ⟨oi, hoi, hci, hdi⟩ := hit2
    refine ⟨ps, k _ (fun e => by rw [← e] at hitb; exact absurd hitb (by decide)) _ e, ht, fun q hq cv hc => ?_⟩
    obtain ⟨c, o, vs, t, rfl, ho, hd, hv⟩ := r q hq cv hc
    refine ⟨c, o, vs, t, rfl, k c (fun e => ?_) _ ho, hd, hv⟩
    rw [e, hoi] at ho
    cases ho
    rw [hdi] at hd
    cases hd
    simp at hv
  by_cases hlt' : j < lks.length
  · have hjp : lks[j]? = some lks[j] := by simp [hlt']
    obtain ⟨u, hv⟩ := hlvs.2 j _ hjp
    have hmem : lks[j] ∈ lks := List.getElem_mem hlt'
    refine wpAny_pyNext_list_item (s := ⟨h₂, g₂, d₂, tk₂, os₂⟩) hit₂ hla₂.isList hv fun h₃ hit₃ sb₃ => ?_
    have k₃ := Kx.of_same sb₃
    have F₃ := F₂.keep k₃ Lit
    have K₃ := K₂.l k₃ hitb
    refine wpAny_assign_Name (stF F₃ fun h₄ tk₄ F₄ k₄ => ?_)
    have T₄ := (tabk k₃).fr F₃ k₄
    have K₄ := K₃.l k₄ hL
    have hnl₄ : IsL h₄ nl vs₂ m₂ := F₃.lst (k₃ _ nlit _ hnl₂) k₄
    have hit₄ : h₄.IsListIter it la (j + 1) := by
      obtain ⟨o, ho, hc, hd⟩ := hit₃
      exact ⟨o, k₄ _ (fun e => Lit e.symm) _ ho, hc, hd⟩
    have kW₄ : Kx (W4 L nl) h h₄ := (kW.t1 k₃ hitd).tr (k₄.mono fun b e => .inl (.inr (.inl e)))
    have k00₄ : Kx (· = 87) h00 h₄ := Kx.trans k00 kW₄ fun b e => by
      rcases e with e | e | e
      · exact .inl e
      · exact .inr (by rw [e]; exact hL0)
      · exact .inr (by rw [e]; exact hnl0)
    have etake : lks.take (j + 1) = lks.take j ++ [lks[j]] := by rw [List.take_add_one, hjp]; rfl
    refine ca_turn (hr.less (by decide)) LK hn hpar hst hpl k00₄ K₄ T₄ ab₂ F₄ R₂ hnl₄ nv₂ hL hnb hc1 (hlt _ hmem) (by (first | lia | omega)) fun h₅ g₅ tk₅ l₅ vs₅ m₅ res kW₅ K₅ T₅ ab₅ F₅ R₅ lk₅ hnl₅ nv₅ sp₅ lt₅ => ?_
    refine ⟨lks.length - (j + 1), Nat.sub_lt_sub_left (by assumption) (Nat.lt_succ_self _), j + 1, l₅, vs₅, m₅, acc ++ res, rfl, hlt', kW₄.tr kW₅, K₅, T₅, ab₅, F₅, R₅, fun x v h1 h2 hx => lk₅ x v h1 h2 (lk₂ x v h1 h2 hx), hnl₅, nv₅, fun k => ?_, fun k hk => ?_, ?_, iter_w4 hit₄ kW₅ hitb F₄ hnl₄, rfl, rfl⟩
    · rw [List.mem_append, mem₂, etake, sp₅.1]
      simp only [List.mem_append, List.mem_singleton]
      constructor
      · rintro (⟨ca, hca, hb⟩ | hb)
        · exact ⟨ca, .inl hca, hb⟩
        · exact ⟨_, .inr rfl, hb⟩
      · rintro ⟨ca, hca | rfl, hb⟩
        · exact .inl ⟨ca, hca, hb⟩
        · exact .inr hb
    · rcases List.mem_append.mp hk with hk | hk
      · exact lt₂ k hk
      · exact lt₅ k hk
    · have := sp₅.le lt₅
      rw [List.length_append]
      (first | lia | omega)
  · have hjz : j = lks.length := by (first | lia | omega)
    subst hjz
    refine wpAny_pyNext_list_end (s := ⟨h₂, g₂, d₂, tk₂, os₂⟩) hr.1 hit₂ hla₂.isList (by simp [hlvs.1]) fun h₃ he => ?_
    have k₃ := Kx.of_ext he
    refine wpAny_execs_nil ?_
    rw [List.take_length] at mem₂
    exact hq _ _ _ _ _ _ acc (kW.t1 k₃ hitd) (K₂.l k₃ hitb) (tabk k₃) ab₂ (F₂.keep k₃ Lit) R₂ lk₂ (k₃ _ nlit _ hnl₂) nv₂ mem₂ lt₂ len₂
end Mine
end

section
open PySem PySem.W PyProof.Rows PySem.Spec PySem.Calls
set_option maxRecDepth 100000
set_option maxHeartbeats 4000000
namespace Mine
variable {w : World} {mg mb : Str → Option Value} {A : Around} {E : Value → Shared → Prop} {s : Shared} {env : Env} {h : Heap} {g : Array GenState} {d : Drawn} {tk : Nat} {os : OsState} {M : Model}

noncomputable def rowsP (lp ls la : Nat) : List (Str × Value) := [(Str.ofString "lookup_parents", .ref lp), (Str.ofString "lookup_stamp", .ref ls), (Str.ofString "shallows", .none), (Str.ofString "lcas", .ref la)]
noncomputable def W2 (L : Nat) (b : Nat) : Prop := b = 87 ∨ b = L

theorem oct_turn {h00 : Heap} {L lp ls la lm n c1 : Nat} {t : Tok} {par : Nat → List Nat} {st : Nat → Nat} {l : List (Str × Value)} {lvs : Array Value} {lks : List Nat} {Q : Flow → Shared → Prop} (hr : Rm A 15)
    (LK : Lk w mg mb h00 lp ls par st n) (hn : n ≤ 10) (hpar : ∀ k, ∀ p ∈ par k, p < k) (hst : ∀ k, ∀ p ∈ par k, st p < st k) (hpl : ∀ k, (par k).length ≤ 10)
    (k00 : Kx (· = 87) h00 h) (hL0 : h00.get? L = none) (K : Ok w mg mb h) (T : Tb h 87 (qsL w)) (ab : AllB g) (F : Fv h L ((Str.ofString "cmt", .bytes (nmL' c1).toArray t) :: l)) (R : Rows l (rowsP lp ls la))
    (hla : IsL h la lvs lm) (hlvs : Nms lvs lks) (hlt : ∀ k ∈ lks, k < n) (hlen : lks.length ≤ 1000) (la87 : la ≠ 87) (hL : 138 < L) (hc1 : c1 < n)
    (hq : ∀ h' g' tk' l' la' lvs' lm' res, Kx (W2 L) h h' → Ok w mg mb h' → Tb h' 87 (qsL w) → AllB g' → Fv h' L l' → Rows l' (rowsP lp ls la') → IsL h' la' lvs' lm' → la' ≠ 87 → h.get? la' = none → Nms lvs' res →
      (∀ k, k ∈ res ↔ ∃ ca ∈ lks, Best par c1 ca k) → (∀ k ∈ res, k < n) → res.length ≤ 10 * lks.length → Q .next ⟨h', g', d, tk', os⟩) :
    wpAny (model PP w) A (execs (octBody w) (oEnv w L)) Q E ⟨h, g, d, tk, os⟩ := by
  refine wpAny_execs_cons (wpAny_Assign_Name (List_ (args_nil (nList (fun h₁ k₁ l₁ => ?_) (Nat.zero_le _)))))
  have hnd : h.get? h.objs.size = none := dead_size h
  have hnb : 138 < h.objs.size := K.sz
  have nl0 : h00.get? h.objs.size = none := k00.dead hnd fun e => by rw [e] at hnb; exact absurd hnb (by decide)
  have lanl : la ≠ h.objs.size := ne_dead hnd hla
  generalize h.objs.size = nl at *
  have F₁ := F.keep k₁ id
  refine stF F₁ fun h₂ tk₂ F₂ k₂ => ?_
  have l₂ : IsL h₂ nl #[] 0 := F₁.lst l₁ k₂
  have laL : la ≠ L := F.ne_seq hla
  have hla₂ : IsL h₂ la lvs lm := F₁.lst (k₁ _ id _ hla) k₂
  have k₀₂ : Kx (W2 L) h h₂ := k₁.any.tr (k₂.mono fun b e => .inl (.inr e))
  have k00₂ : Kx (· = 87) h00 h₂ := (k00.tn k₁).t1 k₂ hL0
  refine wpAny_execs_cons (ca_loop (lks := lks) (c1 := c1) (t := t) (m := 0) (la := la) (hr.less (by decide)) LK hn hpar hst hpl k00₂ hL0 nl0 ((K.n k₁).l k₂ hL) ((T.n k₁).fr F₁ k₂) ab F₂ ⟨R.1, R.2.1, R.2.2.1, rfl, rfl, trivial⟩ (R.sub (Str.ofString "lcas") _ rfl) hla₂ hlvs hlt hlen la87 lanl l₂ hL hnb hc1
    fun h₃ g₃ tk₃ l' vs' m' res kW K₃ T₃ ab₃ F₃ R₃ lk₃ hnl₃ nv mem lt len => ?_)
  have len' : vs'.size ≤ sizeLine := by rw [nv.1, sizeLine_eq]; (first | lia | omega)
  refine wpAny_execs_cons (wpAny_Assign_Name (wpAny_Subscript_list_slice (nmF F₃ (R₃.sub (Str.ofString "next_lcas") _ rfl) (wpAny_pure (wpAny_pure ⟨nl, vs', none, none, rfl, hnl₃.isList, len', .none, .none, ?_⟩)))))
  rw [slicePick_all]
  have k₄ : Kx none_ h₃ ((h₃.push { cls := .type "slice", data := .fields #[.none, .none, .none] }).push { cls := .type "list", data := .seq vs' 0 }) := (Kx.push h₃ _).tn (Kx.push _ _)
  have e₄ : IsL ((h₃.push { cls := .type "slice", data := .fields #[.none, .none, .none] }).push { cls := .type "list", data := .seq vs' 0 }) (h₃.objs.size + 1) vs' 0 := by
    have := Heap.get?_push_size (h₃.push { cls := .type "slice", data := .fields #[.none, .none, .none] }) (o := { cls := .type "list", data := .seq vs' 0 }) rfl
    rwa [Heap.size_push] at this
  have d₄ : h₃.get? (h₃.objs.size + 1) = none := by
    have := (Kx.push h₃ { cls := .type "slice", data := .fields #[.none, .none, .none] }).dead0 (dead_size _)
    rwa [Heap.size_push] at this
  have b₄ : 138 < h₃.objs.size + 1 := Nat.lt_succ_of_lt K₃.sz
  show wpAny _ _ (storeName _ _ (.ref (h₃.objs.size + 1))) _ _ ⟨(h₃.push { cls := .type "slice", data := .fields #[.none, .none, .none] }).push { cls := .type "list", data := .seq vs' 0 }, g₃, d, tk₃, os⟩
  generalize ((h₃.push { cls := .type "slice", data := .fields #[.none, .none, .none] }).push { cls := .type "list", data := .seq vs' 0 }) = h₄ at *
  generalize h₃.objs.size + 1 = la' at *
  have F₄ := F₃.keep k₄ id
  refine stF F₄ fun h₅ tk₅ F₅ k₅ => ?_
  refine wpAny_execs_nil ?_
  have kW2 : Kx (W2 L) h h₃ := k₀₂.trans kW fun b e => by
    rcases e with e | e | e
    · exact .inl (.inl e)
    · exact .inl (.inr e)
    · exact .inr (by rw [e]; exact hnd)
  have la87' : la' ≠ 87 := fun e => by rw [e] at b₄; exact absurd b₄ (by decide)
  have la'L : la' ≠ L := F₄.ne_seq e₄
  have hdd : h.get? la' = none := kW2.dead d₄ fun e => e.elim la87' la'L
  exact hq _ _ _ _ la' _ _ res ((kW2.tn k₄).tr (k₅.mono fun b e => .inl (.inr e))) ((K₃.n k₄).l k₅ hL) ((T₃.n k₄).fr F₄ k₅) ab₃ F₅ ⟨R₃.1, R₃.2.1, R₃.2.2.1, rfl, trivial⟩ (F₄.lst e₄ k₅) la87' hdd nv mem lt len
end Mine
end

section
open PySem PySem.W PyProof.Rows PySem.Spec PySem.Calls
set_option maxRecDepth 100000
set_option maxHeartbeats 4000000
namespace Mine
variable {w : World} {mg mb : Str → Option Value} {A : Around} {E : Value → Shared → Prop} {s : Shared} {env : Env} {h : Heap} {g : Array GenState} {d : Drawn} {tk : Nat} {os : OsState} {M : Model}

/- what the octopus base tells -/
noncomputable def OM (par : Nat → List Nat) (k0 : Nat) (cs : List Nat) : Nat → Prop := cs.foldl (fun P c k => ∃ ca, P ca ∧ Best par c ca k) (· = k0)
theorem OM.snoc (par : Nat → List Nat) (k0 : Nat) (cs : List Nat) (c : Nat) : OM par k0 (cs ++ [c]) = fun k => ∃ ca, OM par k0 cs ca ∧ Best par c ca k := by unfold OM; rw [List.foldl_append]; rfl

theorem iter_w2 {it a j L : Nat} {h' : Heap} {l : List (Str × Value)} (hit : h.IsListIter it a j) (k : Kx (W2 L) h h') (hb : 138 < it) (F : Fv h L l) : h'.IsListIter it a j := by
  obtain ⟨o, ho, hc, hd⟩ := hit
  refine ⟨o, k _ ?_ _ ho, hc, hd⟩
  rintro (e | e)
  · rw [e] at hb; exact absurd hb (by decide)
  · rw [e] at ho
    obtain ⟨_, ⟨o', es, ep, ho', hd', _⟩, _⟩ := F
    rw [ho] at ho'; cases ho'; rw [hd] at hd'; cases hd'
theorem Tb.iter {it a j : Nat} {h' : Heap} {qs : List (Pos × Str)} (T : Tb h 87 qs) (hit : h.IsListIter it a j) (hitb : 138 < it) (k : Kx (· = it) h h') : Tb h' 87 qs := by
  obtain ⟨ps, e, ht, r⟩ := T
  obtain ⟨oi, hoi, hci, hdi⟩ := hit
  refine ⟨ps, k _ (fun e => by rw [← e] at hitb; exact absurd hitb (by decide)) _ e, ht, fun q hq cv hc => ?_⟩
  obtain ⟨c, o, vs, t, rfl, ho, hd, hv⟩ := r q hq cv hc
  refine ⟨c, o, vs, t, rfl, k c (fun e => ?_) _ ho, hd, hv⟩
  rw [e, hoi] at ho
  cases ho
  rw [hdi] at hd
  cases hd
  simp at hv

/- the state of the outer loop -/
inductive OcS (w : World) (mg mb : Str → Option Value) (h h00 : Heap) (L lp ls k0 n oa it : Nat) (par : Nat → List Nat) (cs : List Nat) (d : Drawn) (os : OsState) (N : Nat) (s : Shared) : Prop
  | mk (j : Nat)
      (l' : List (Str × Value))
      (la' : Nat)
      (lvs' : Array Value)
      (lm' : Nat)
      (acc : List Nat)
      (q1 : N = cs.length - j)
      (q2 : j ≤ cs.length)
      (q3 : Kx (W2 L) h s.heap)
      (q4 : Ok w mg mb s.heap)
      (q5 : Tb s.heap 87 (qsL w))
      (q6 : AllB s.gens)
      (q7 : Fv s.heap L l')
      (q8 : Rows l' (rowsP lp ls la'))
      (q9 : IsL s.heap la' lvs' lm')
      (q10 : Nms lvs' acc)
      (q11 : (∀ k, k ∈ acc ↔ OM par k0 (cs.take j) k))
      (q12 : (∀ k ∈ acc, k < n))
      (q13 : acc.length ≤ 10 ^ j)
      (q14 : la' ≠ 87)
      (q15 : h00.get? la' = none)
      (q16 : s.heap.IsListIter it oa j)
      (q17 : s.drawn = d)
      (q18 : s.os = os) : OcS w mg mb h h00 L lp ls k0 n oa it par cs d os N s
theorem oct_loop {h00 : Heap} {L lp ls la lm oa om n k0 : Nat} {par : Nat → List Nat} {st : Nat → Nat} {l : List (Str × Value)} {lvs ovs : Array Value} {cs : List Nat} {Q : Flow → Shared → Prop} (hr : Rm A 16)
    (LK : Lk w mg mb h00 lp ls par st n) (hn : n ≤ 10) (hpar : ∀ k, ∀ p ∈ par k, p < k) (hst : ∀ k, ∀ p ∈ par k, st p < st k) (hpl : ∀ k, (par k).length ≤ 10)
    (k00 : Kx (· = 87) h00 h) (hL0 : h00.get? L = none) (K : Ok w mg mb h) (T : Tb h 87 (qsL w)) (ab : AllB g) (F : Fv h L l) (R : Rows l (rowsP lp ls la)) (ho : l.lookup (Str.ofString "others") = some (.ref oa))
    (hoa : IsL h oa ovs om) (hovs : Nms ovs cs) (hcs : ∀ k ∈ cs, k < n) (hcl : cs.length ≤ 3) (oa87 : oa ≠ 87) (hla : IsL h la lvs lm) (hlvs : Nms lvs [k0]) (hk0 : k0 < n) (la87 : la ≠ 87) (hla0 : h00.get? la = none) (hL : 138 < L)
    (hq : ∀ h' g' tk' l' la' lvs' lm' res, Kx (W2 L) h h' → Ok w mg mb h' → Tb h' 87 (qsL w) → AllB g' → Fv h' L l' → Rows l' (rowsP lp ls la') → IsL h' la' lvs' lm' → h00.get? la' = none → Nms lvs' res →
      (∀ k, k ∈ res ↔ OM par k0 cs k) → (∀ k ∈ res, k < n) → res.length ≤ 1000 → Q .next ⟨h', g', d, tk', os⟩) :
    wpAny (model PP w) A (exec (octFor w) (oEnv w L)) Q E ⟨h, g, d, tk, os⟩ := by
  refine wpAny_For (nmF F ho ?_)
  refine wpAny_pyIter_list hoa.isList ?_
  have k₁ : Kx none_ h (h.push { cls := .type "list_iterator", data := .fields #[.ref oa, .int 0 0] }) := Kx.push _ _
  have hit₁ : (h.push { cls := .type "list_iterator", data := .fields #[.ref oa, .int 0 0] }).IsListIter h.objs.size oa 0 := ⟨_, Heap.get?_push_size _ rfl, rfl, rfl⟩
  have hitd : h.get? h.objs.size = none := dead_size h
  have hitb : 138 < h.objs.size := K.sz
  generalize hgit : h.objs.size = it at *
  have oaL : oa ≠ L := F.ne_seq hoa
  have hW : ¬ W2 L oa := fun hb => by
    rcases hb with e | e
    · exact oa87 e
    · exact oaL e
  refine codeAny_forLoop (OcS w mg mb h h00 L lp ls k0 n oa it par cs d os) ?_ cs.length
    ⟨0, l, la, lvs, lm, [k0], rfl, Nat.zero_le _, k₁.any, K.n k₁, T.n k₁, ab, F.keep k₁ id, R, k₁ _ id _ hla, hlvs, fun k => by simp [OM], fun k hk => by rw [List.mem_singleton.mp hk]; exact hk0, Nat.le_refl _, la87, hla0, hit₁, rfl, rfl⟩
  rintro N ⟨h₂, g₂, d₂, tk₂, os₂⟩ xz
  refine hide fun Gz kz => ?_
  obtain ⟨j, l₂, la₂, vs₂, m₂, acc, rfl, hj, kW, K₂, T₂, ab₂, F₂, R₂, hla₂, nv₂, mem₂, lt₂, len₂, la87₂, hla0₂, hit₂, e2, e3⟩ := xz
  refine kz ?_
  clear kz Gz
  have e2' : d₂ = d := e2
  have e3' : os₂ = os := e3
  subst e2' e3'
  have hoa₂ : IsL h₂ oa ovs om := kW _ hW _ hoa
  have Lit : L ≠ it := fun e => by
    obtain ⟨_, ⟨o', es, ep, ho', hd', _⟩, _⟩ := F₂
    obtain ⟨o, ho, hc, hd⟩ := hit₂
    rw [e, ho] at ho'; cases ho'; rw [hd] at hd'; cases hd'
  have lait : la₂ ≠ it := fun e => by
    obtain ⟨o, ho, hc, hd⟩ := hit₂
    rw [← e, hla₂] at ho; cases ho; cases hd
  have hp10 : (10 : Nat) ^ j ≤ 10 ^ 3 := Nat.pow_le_pow_right (by decide) (Nat.le_trans hj hcl)
  by_cases hlt' : j < cs.length
  · have hjp : cs[j]? = some cs[j] := by simp [hlt']
    obtain ⟨u, hv⟩ := hovs.2 j _ hjp
    have hmem : cs[j] ∈ cs := List.getElem_mem hlt'
    refine wpAny_pyNext_list_item (s := ⟨h₂, g₂, d₂, tk₂, os₂⟩) hit₂ hoa₂.isList hv fun h₃ hit₃ sb₃ => ?_
    have k₃ := Kx.of_same sb₃
    have F₃ := F₂.keep k₃ Lit
    have K₃ := K₂.l k₃ hitb
    refine wpAny_assign_Name (stF F₃ fun h₄ tk₄ F₄ k₄ => ?_)
    have T₄ := (T₂.iter hit₂ hitb k₃).fr F₃ k₄
    have K₄ := K₃.l k₄ hL
    have hla₄ : IsL h₄ la₂ vs₂ m₂ := F₃.lst (k₃ _ lait _ hla₂) k₄
    have hit₄ : h₄.IsListIter it oa (j + 1) := by
      obtain ⟨o, ho, hc, hd⟩ := hit₃
      exact ⟨o, k₄ _ (fun e => Lit e.symm) _ ho, hc, hd⟩
    have kW₄ : Kx (W2 L) h h₄ := (kW.t1 k₃ hitd).tr (k₄.mono fun b e => .inl (.inr e))
    have k00₄ : Kx (· = 87) h00 h₄ := Kx.trans k00 kW₄ fun b e => by
      rcases e with e | e
      · exact .inl e
      · exact .inr (by rw [e]; exact hL0)
    have etake : cs.take (j + 1) = cs.take j ++ [cs[j]] := by rw [List.take_add_one, hjp]; rfl
    refine oct_turn (hr.less (by decide)) LK hn hpar hst hpl k00₄ hL0 K₄ T₄ ab₂ F₄ R₂ hla₄ nv₂ lt₂ (by (first | lia | omega)) la87₂ hL (hcs _ hmem) fun h₅ g₅ tk₅ l₅ la₅ vs₅ m₅ res kW₅ K₅ T₅ ab₅ F₅ R₅ hla₅ la87₅ hd₅ nv₅ mem₅ lt₅ len₅ => ?_
    refine ⟨cs.length - (j + 1), Nat.sub_lt_sub_left (by assumption) (Nat.lt_succ_self _), j + 1, l₅, la₅, vs₅, m₅, res, rfl, hlt', kW₄.tr kW₅, K₅, T₅, ab₅, F₅, R₅, hla₅, nv₅, fun k => ?_, lt₅, ?_, la87₅, k00₄.dead hd₅ la87₅, iter_w2 hit₄ kW₅ hitb F₄, rfl, rfl⟩
    · rw [mem₅, etake, OM.snoc]
      constructor
      · rintro ⟨ca, hca, hb⟩
        exact ⟨ca, (mem₂ ca).mp hca, hb⟩
      · rintro ⟨ca, hca, hb⟩
        exact ⟨ca, (mem₂ ca).mpr hca, hb⟩
    · rw [Nat.pow_succ]
      (first | lia | omega)
  · have hjz : j = cs.length := by (first | lia | omega)
    subst hjz
    refine wpAny_pyNext_list_end (s := ⟨h₂, g₂, d₂, tk₂, os₂⟩) hr.1 hit₂ hoa₂.isList (by simp [hovs.1]) fun h₃ he => ?_
    have k₃ := Kx.of_ext he
    refine wpAny_execs_nil ?_
    rw [List.take_length] at mem₂
    exact hq _ _ _ _ _ _ _ acc (kW.t1 k₃ hitd) (K₂.l k₃ hitb) (T₂.iter hit₂ hitb k₃) ab₂ (F₂.keep k₃ Lit) R₂ (k₃ _ lait _ hla₂) hla0₂ nv₂ mem₂ lt₂ (Nat.le_trans len₂ hp10)
end Mine
end

section
open PySem PySem.W PyProof.Rows PySem.Spec PySem.Calls
set_option maxRecDepth 100000
set_option maxHeartbeats 4000000
namespace Mine
variable {w : World} {mg mb : Str → Option Value} {A : Around} {E : Value → Shared → Prop} {s : Shared} {env : Env} {h : Heap} {g : Array GenState} {d : Drawn} {tk : Nat} {os : OsState} {M : Model}

/- find_octopus_base of three or four commits -/
theorem find_oct {lp ls ai mi n k0 : Nat} {xs : Array Value} {cs : List Nat} {par : Nat → List Nat} {st : Nat → Nat} {Q : Value → Shared → Prop} (K : Ok w mg mb h) (hr : Rm A 18) (T : Tb h 87 (qsL w)) (ab : AllB g)
    (LK : Lk w mg mb h lp ls par st n) (hn : n ≤ 10) (hpar : ∀ k, ∀ p ∈ par k, p < k) (hst : ∀ k, ∀ p ∈ par k, st p < st k) (hpl : ∀ k, (par k).length ≤ 10)
    (hai : IsL h ai xs mi) (hxs : Nms xs (k0 :: cs)) (hk0 : k0 < n) (hcs : ∀ k ∈ cs, k < n) (h2 : 2 ≤ cs.length) (h3 : cs.length ≤ 3)
    (hq : ∀ h' g' tk' a vs m res, Kx (· = 87) h h' → Tb h' 87 (qsL w) → AllB g' → IsL h' a vs m → Nms vs res → (∀ k, k ∈ res ↔ OM par k0 cs k) → (∀ k ∈ res, k < n) → res.length ≤ 1000 → h.get? a = none → Q (.ref a) ⟨h', g', d, tk', os⟩) :
    wpAny (model PP w) A (call (.ref 104) [.ref lp, .ref ls, .none, .ref ai]) Q E ⟨h, g, d, tk, os⟩ := by
  refine callF' [(Str.ofString "lookup_parents", .ref lp), (Str.ofString "lookup_stamp", .ref ls), (Str.ofString "shallows", .none), (Str.ofString "commit_ids", .ref ai)] K hr fun L h₁ tk₁ hL hL' k₁ F₁ K₁ hr₁ => ?_
  have l₁ : IsL h₁ ai _ mi := k₁ _ id _ hai
  have hsz : xs.size = cs.length + 1 := hxs.1
  refine wpAny_execs_cons (wpAny_If (isTrue_not (isTrue_plain (nmF F₁ rfl (wpAny_truthy_list l₁.isList (by (first | lia | omega)) ?_)))))
  have e0 : xs.isEmpty = false := by
    cases e : xs.isEmpty with
    | false => rfl
    | true => rw [Array.isEmpty_iff] at e; rw [e] at hsz; simp at hsz
  rw [e0]
  refine wpAny_execs_nil ?_
  refine wpAny_execs_cons (wpAny_If (wpAny_isTrue_Compare1 (Call_ (nmB K₁ (g_len w) b_len (by decide) (PyProof.Rows.callWith_builtin1 (args_cons (nmF F₁ rfl (args_nil (len_list l₁.isList (by (first | lia | omega)) ?_)))))))))
  refine cI fun t₅ tk₅ => PyProof.Rows.le_int (wpAny_truthy_bool ?_)
  rw [show decide ((xs.size : Int) ≤ 2) = false by simpa using (by (first | lia | omega) : (2 : Int) < xs.size)]
  refine wpAny_execs_nil ?_
  obtain ⟨t0, hx0⟩ := hxs.2 0 k0 rfl
  -- lcas = [commit_ids[0]]
  refine wpAny_execs_cons (wpAny_Assign_Name (List_ (args_cons (Subscript_Constant (nmF F₁ rfl (cI fun t₄ tk₄ => ?_))))))
  refine ⟨"list", _, slot_list_getitem.lookup, l₁.isList.typeIs, wpAny_getItem_list l₁.isList (by decide) (by decide) hx0 ?_⟩
  refine args_nil (nList (fun h₂ k₂ l₂ => ?_) (by simp [sizeLine_eq]))
  have d₂ : h₁.get? h₁.objs.size = none := dead_size h₁
  have b₂ : 138 < h₁.objs.size := K₁.sz
  generalize h₁.objs.size = la at *
  have F₂ := F₁.keep k₂ id
  refine stF F₂ fun h₃ tk₃ F₃ k₃ => ?_
  have K₃ : Ok w mg mb h₃ := (K₁.n k₂).l k₃ hL'
  have l₃ : IsL h₃ la #[.bytes (nmL' k0).toArray t0] 0 := F₂.lst l₂ k₃
  have a₃ : IsL h₃ ai xs mi := F₂.lst (k₂ _ id _ l₁) k₃
  -- others = commit_ids[1:]
  refine wpAny_execs_cons (wpAny_Assign_Name ?_)
  refine wpAny_Subscript_list_slice (nmF F₃ rfl ?_)
  rw [evalPart_some]
  refine cI fun t₆ tk₆ => wpAny_pure ?_
  refine ⟨ai, _, some 1, none, rfl, a₃.isList, by rw [hsz, sizeLine_eq]; (first | lia | omega), .int _ _, .none, ?_⟩
  have es : slicePick xs (some 1) none none = (xs.toList.drop 1).toArray := slicePick_from _ 1 (by (first | lia | omega))
  rw [es]
  have hov : Nms (xs.toList.drop 1).toArray cs := by
    refine ⟨by simp [hsz], fun i k hk => ?_⟩
    obtain ⟨t, e⟩ := hxs.2 (i + 1) k (by rw [List.getElem?_cons_succ]; exact hk)
    refine ⟨t, ?_⟩
    rw [List.getElem?_toArray, List.getElem?_drop, Array.getElem?_toList, Nat.add_comm]
    exact e
  generalize (xs.toList.drop 1).toArray = ovs at *
  have k₄ : Kx none_ h₃ ((h₃.push { cls := .type "slice", data := .fields #[.int 1 t₆, .none, .none] }).push { cls := .type "list", data := .seq ovs 0 }) := (Kx.push h₃ _).tn (Kx.push _ _)
  have e₄ : IsL ((h₃.push { cls := .type "slice", data := .fields #[.int 1 t₆, .none, .none] }).push { cls := .type "list", data := .seq ovs 0 }) (h₃.objs.size + 1) ovs 0 := by
    have := Heap.get?_push_size (h₃.push { cls := .type "slice", data := .fields #[.int 1 t₆, .none, .none] }) (o := { cls := .type "list", data := .seq ovs 0 }) rfl
    rwa [Heap.size_push] at this
  have b₄ : 138 < h₃.objs.size + 1 := Nat.lt_succ_of_lt K₃.sz
  show wpAny _ _ (storeName _ _ (.ref (h₃.objs.size + 1))) _ _ ⟨(h₃.push { cls := .type "slice", data := .fields #[.int 1 t₆, .none, .none] }).push { cls := .type "list", data := .seq ovs 0 }, g, d, tk₆, os⟩
  generalize ((h₃.push { cls := .type "slice", data := .fields #[.int 1 t₆, .none, .none] }).push { cls := .type "list", data := .seq ovs 0 }) = h₄ at *
  generalize h₃.objs.size + 1 = oa at *
  have F₄ := F₃.keep k₄ id
  refine stF F₄ fun h₅ tk₅ F₅ k₅ => ?_
  have kk₅ : Kx none_ h h₅ := (((k₁.tn k₂).t1 k₃ hL).tn k₄).t1 k₅ hL
  have L87 : L ≠ 87 := fun e => by rw [e] at hL'; exact absurd hL' (by decide)
  have la87 : la ≠ 87 := fun e => by rw [e] at b₂; exact absurd b₂ (by decide)
  have oa87 : oa ≠ 87 := fun e => by rw [e] at b₄; exact absurd b₄ (by decide)
  refine wpAny_execs_cons (oct_loop (hr₁.less (by decide)) LK hn hpar hst hpl kk₅.any hL (K.n kk₅) (T.n kk₅) ab F₅ ⟨rfl, rfl, rfl, rfl, trivial⟩ rfl (F₄.lst e₄ k₅) hov hcs h3 oa87 (F₄.lst (k₄ _ id _ l₃) k₅)
    ⟨rfl, fun i k hk => ?_⟩ hk0 la87 (k₁.dead0 d₂) hL' fun h₆ g₆ tk₆' l' la' lvs' lm' res kW K₆ T₆ ab₆ F₆ R₆ l₆ hd nv mem lt len => ?_)
  · cases i with
    | zero => simp only [List.getElem?_cons_zero, Option.some.injEq] at hk; subst hk; exact ⟨t0, rfl⟩
    | succ i => simp at hk
  refine wpAny_execs_cons (wpAny_Return_some (nmF F₆ (R₆.sub (Str.ofString "lcas") _ rfl) ?_))
  exact hq _ _ _ _ _ _ res (Kx.trans kk₅.any kW fun b e => e.elim .inl fun e => .inr (by rw [e]; exact hL)) T₆ ab₆ l₆ nv mem lt len hd
end Mine
end

section
open PySem PySem.W PyProof.Rows PySem.Spec PySem.Calls PySem.SeqAt
set_option maxRecDepth 100000
set_option maxHeartbeats 4000000
namespace Mine
section
variable {w : World} {mg mb : Str → Option Value} {A : Around} {E : Value → Shared → Prop} {s : Shared} {env : Env} {h : Heap} {g : Array GenState} {d : Drawn} {tk : Nat} {os : OsState} {M : Model} {prog : Program}

/- a list of things that tell numbers -/
noncomputable def Enc (P : Value → Nat → Prop) (vs : Array Value) (ks : List Nat) : Prop := vs.size = ks.length ∧ ∀ (i k : Nat), ks[i]? = some k → ∃ v, vs[i]? = some v ∧ P v k
noncomputable def PI (v : Value) (k : Nat) : Prop := ∃ t, v = .int (k : Nat) t
noncomputable def PN (v : Value) (k : Nat) : Prop := ∃ t, v = .bytes (nmL' k).toArray t
noncomputable abbrev Ints := Enc PI
theorem Nms.enc {vs : Array Value} {ks : List Nat} (x : Nms vs ks) : Enc PN vs ks := ⟨x.1, fun i k hk => let ⟨t, e⟩ := x.2 i k hk; ⟨_, e, t, rfl⟩⟩
theorem Enc.nms {vs : Array Value} {ks : List Nat} (x : Enc PN vs ks) : Nms vs ks := ⟨x.1, fun i k hk => let ⟨v, e, t, ev⟩ := x.2 i k hk; ⟨t, by rw [e, ev]⟩⟩
theorem Enc.nil (P : Value → Nat → Prop) : Enc P #[] [] := ⟨rfl, fun i k hk => by simp at hk⟩
theorem Enc.push {P : Value → Nat → Prop} {vs : Array Value} {ks : List Nat} {v : Value} {k : Nat} (x : Enc P vs ks) (hv : P v k) : Enc P (vs.push v) (ks ++ [k]) := by
  refine ⟨by simp [x.1], fun i j hj => ?_⟩
  rw [List.getElem?_append] at hj
  split at hj
  · rename_i hlt
    obtain ⟨y, e, f⟩ := x.2 i j hj
    exact ⟨y, by rw [Array.getElem?_push, if_neg (by rw [x.1]; (first | lia | omega))]; exact e, f⟩
  · rename_i hlt
    have h0 : i - ks.length = 0 := by
      cases hh : i - ks.length with
      | zero => rfl
      | succ m => rw [hh] at hj; simp at hj
    rw [h0] at hj
    simp only [List.getElem?_cons_zero, Option.some.injEq] at hj
    subst hj
    exact ⟨v, by rw [Array.getElem?_push, if_pos (by rw [x.1]; (first | lia | omega))], hv⟩
theorem Enc.at_ {P : Value → Nat → Prop} {vs : Array Value} {ks : List Nat} (x : Enc P vs ks) {i : Nat} {v : Value} (hv : vs[i]? = some v) : ∃ k, ks[i]? = some k ∧ P v k := by
  obtain ⟨hi, e⟩ := Array.getElem?_eq_some_iff.mp hv
  have hi' : i < ks.length := by rw [← x.1]; exact hi
  obtain ⟨v', e', p⟩ := x.2 i _ (List.getElem?_eq_getElem hi')
  rw [hv] at e'; cases e'
  exact ⟨_, List.getElem?_eq_getElem hi', p⟩
theorem Enc.mem {P : Value → Nat → Prop} {vs : Array Value} {ks : List Nat} (x : Enc P vs ks) {v : Value} (hv : v ∈ vs) : ∃ k ∈ ks, P v k := by
  obtain ⟨i, hi, e⟩ := Array.getElem_of_mem hv
  obtain ⟨k, hk, p⟩ := x.at_ (i := i) (v := v) (by rw [Array.getElem?_eq_getElem hi, e])
  exact ⟨k, List.mem_of_getElem? hk, p⟩

theorem at_ints (i j : Int) (t u : Tok) : EqAt A s (.int i t) (.int j u) (i == j) := fun _prog _w _E _Q hq => wpAny_eqBool_int hq
theorem at_names (a b : List UInt8) (t u : Tok) : EqAt A s (.bytes a.toArray t) (.bytes b.toArray u) (decide (a = b)) := fun prog w E Q hq => eqBool_bytes (by simpa using hq)

theorem any_ints {vs : Array Value} {ks : List Nat} (x : Ints vs ks) (k : Nat) : (vs.any fun y => match y with | .int i _ => i == (k : Int) | _ => false) = decide (k ∈ ks) := by
  rw [Bool.eq_iff_iff, Array.any_eq_true, decide_eq_true_eq]
  constructor
  · rintro ⟨i, hi, e⟩
    obtain ⟨j, hj, t, ev⟩ := x.at_ (i := i) (v := vs[i]) (by simp [hi])
    rw [ev] at e
    simp only [beq_iff_eq] at e
    have : j = k := by exact_mod_cast e
    exact this ▸ List.mem_of_getElem? hj
  · intro hk
    refine hide fun Gz kz => ?_
    obtain ⟨i, hi, e⟩ := List.getElem_of_mem hk
    obtain ⟨v, hv, t, ev⟩ := x.2 i k (by rw [List.getElem?_eq_getElem hi, e])
    obtain ⟨hi', e'⟩ := Array.getElem?_eq_some_iff.mp hv
    refine kz ?_
    clear kz Gz
    exact ⟨i, hi', by rw [e', ev]; simp⟩
theorem in_ints {a m : Nat} {vs : Array Value} {ks : List Nat} {k : Nat} {t : Tok} {Q : Value → Shared → Prop} (hl : IsL s.heap a vs m) (x : Ints vs ks) (hq : Q (.bool (decide (k ∈ ks))) s) :
    wpAny (model prog w) A (compareOp .In (.int (k : Nat) t) (.ref a)) Q E s := by
  refine in_listAt (fun y => match y with | .int i _ => i == (k : Int) | _ => false) hl.isList (fun y hy => ?_) (by rw [any_ints x]; exact hq)
  obtain ⟨j, _, u, rfl⟩ := x.mem hy
  exact at_ints _ _ _ _
theorem notin_ints {a m : Nat} {vs : Array Value} {ks : List Nat} {k : Nat} {t : Tok} {Q : Value → Shared → Prop} (hl : IsL s.heap a vs m) (x : Ints vs ks) (hq : Q (.bool (!decide (k ∈ ks))) s) :
    wpAny (model prog w) A (compareOp .NotIn (.int (k : Nat) t) (.ref a)) Q E s := by
  refine notIn_listAt (fun y => match y with | .int i _ => i == (k : Int) | _ => false) hl.isList (fun y hy => ?_) (by rw [any_ints x]; exact hq)
  obtain ⟨j, _, u, rfl⟩ := x.mem hy
  exact at_ints _ _ _ _

/- two such lists compared -/
theorem all_enc {P : Value → Nat → Prop} {vs us : Array Value} {ks js : List Nat} (x : Enc P vs ks) (y : Enc P us js) (hsz : vs.size = us.size) (e : Nat → Bool)
    (he : ∀ i k j, ks[i]? = some k → js[i]? = some j → e i = decide (k = j)) : (List.range vs.size).all e = decide (ks = js) := by
  rw [Bool.eq_iff_iff, List.all_eq_true, decide_eq_true_eq]
  constructor
  · intro ha
    refine List.ext_getElem? fun i => ?_
    by_cases hi : i < ks.length
    · have hi' : i < js.length := by rw [← y.1, ← hsz, x.1]; exact hi
      have := ha i (List.mem_range.mpr (by rw [x.1]; exact hi))
      rw [he i _ _ (List.getElem?_eq_getElem hi) (List.getElem?_eq_getElem hi'), decide_eq_true_eq] at this
      rw [List.getElem?_eq_getElem hi, List.getElem?_eq_getElem hi', this]
    · have hi' : ¬ i < js.length := by rw [← y.1, ← hsz, x.1]; exact hi
      rw [List.getElem?_eq_none (by (first | lia | omega)), List.getElem?_eq_none (by (first | lia | omega))]
  · rintro rfl i hi
    have hi' : i < ks.length := by rw [← x.1]; exact List.mem_range.mp hi
    rw [he i _ _ (List.getElem?_eq_getElem hi') (List.getElem?_eq_getElem hi')]
    simp

noncomputable def cmpE (vs us : Array Value) (i : Nat) : Bool := match vs[i]?, us[i]? with
  | some (.int a _), some (.int b _) => a == b
  | some (.bytes a _), some (.bytes b _) => decide (a.toList = b.toList)
  | _, _ => false
structure EncOk (P : Value → Nat → Prop) (B : Nat → Prop) : Prop where
  at_ : ∀ (A : Around) (s : Shared) v u k j, P v k → P u j → B k → B j → EqAt A s v u (decide (k = j))
theorem okI : EncOk PI (fun _ => True) := ⟨fun A s v u k j hv hu _ _ => by
  obtain ⟨t, rfl⟩ := hv; obtain ⟨t', rfl⟩ := hu
  have := at_ints (A := A) (s := s) (k : Nat) (j : Nat) t t'
  rwa [show (((k : Nat) : Int) == ((j : Nat) : Int)) = decide (k = j) by rw [Bool.eq_iff_iff, beq_iff_eq, decide_eq_true_eq]; (first | lia | omega)] at this⟩
theorem okN : EncOk PN (fun k => k < 10) := ⟨fun A s v u k j hv hu hk hj => by
  obtain ⟨t, rfl⟩ := hv; obtain ⟨t', rfl⟩ := hu
  have := at_names (A := A) (s := s) (nmL' k) (nmL' j) t t'
  rwa [show decide (nmL' k = nmL' j) = decide (k = j) by
    rw [Bool.eq_iff_iff]; simp only [decide_eq_true_eq]
    exact ⟨fun e => nm_inj _ hk _ hj e, fun e => by rw [e]⟩] at this⟩
theorem cmp_pre {P : Value → Nat → Prop} {B : Nat → Prop} (O : EncOk P B) {vs us : Array Value} {ks js : List Nat} (x : Enc P vs ks) (y : Enc P us js) (hk : ∀ k ∈ ks, B k) (hj : ∀ j ∈ js, B j) (A : Around) (s : Shared) (j : Nat) (h1 : j < vs.size) (h2 : j < us.size) :
    EqAt A s vs[j] us[j] (decide (ks[j]? = js[j]?)) := by
  refine hide fun Gz kz => ?_
  obtain ⟨k, ek, pk⟩ := x.at_ (i := j) (v := vs[j]) (by simp [h1])
  obtain ⟨k', ek', pk'⟩ := y.at_ (i := j) (v := us[j]) (by simp [h2])
  refine kz ?_
  clear kz Gz
  have := O.at_ A s _ _ _ _ pk pk' (hk _ (List.mem_of_getElem? ek)) (hj _ (List.mem_of_getElem? ek'))
  rw [ek, ek']
  simpa using this
theorem eq_enc {P : Value → Nat → Prop} {B : Nat → Prop} (O : EncOk P B) {a b m n : Nat} {vs us : Array Value} {ks js : List Nat} {Q : Value → Shared → Prop} (hl : IsL s.heap a vs m) (hb : IsL s.heap b us n) (x : Enc P vs ks) (y : Enc P us js) (hu : A.units < cLine)
    (hk : ∀ k ∈ ks, B k) (hj : ∀ j ∈ js, B j) (hq : Q (.bool (decide (ks = js))) s) : wpAny (model prog w) A (compareOp .Eq (.ref a) (.ref b)) Q E s := by
  by_cases hsz : vs.size = us.size
  · refine eq_listAt (e := fun i => decide (ks[i]? = js[i]?)) hl.isList hb.isList hsz hu (fun j h1 h2 => cmp_pre O x y hk hj _ _ j h1 h2) ?_
    rwa [all_enc x y hsz _ fun i k j e1 e2 => by rw [e1, e2]; simp]
  · refine eq_list_lengthsAt hl.isList hb.isList (by simpa using hsz) hu ?_
    rwa [show decide (ks = js) = false by
      rw [decide_eq_false_iff_not]; rintro rfl; exact hsz (x.1.trans y.1.symm)] at hq
theorem ne_enc {P : Value → Nat → Prop} {B : Nat → Prop} (O : EncOk P B) {a b m n : Nat} {vs us : Array Value} {ks js : List Nat} {Q : Value → Shared → Prop} (hl : IsL s.heap a vs m) (hb : IsL s.heap b us n) (x : Enc P vs ks) (y : Enc P us js) (hu : A.units < cLine)
    (hk : ∀ k ∈ ks, B k) (hj : ∀ j ∈ js, B j) (hq : Q (.bool (!decide (ks = js))) s) : wpAny (model prog w) A (compareOp .NotEq (.ref a) (.ref b)) Q E s := by
  by_cases hsz : vs.size = us.size
  · refine RcNeAt.lists (e := fun i => decide (ks[i]? = js[i]?)) hl.isList hb.isList hsz hu (fun j h1 h2 => cmp_pre O x y hk hj _ _ j h1 h2) _ _ _ _ ?_
    rwa [all_enc x y hsz _ fun i k j e1 e2 => by rw [e1, e2]; simp]
  · refine RcNeAt.lists_lengths hl.isList hb.isList (by simpa using hsz) hu _ _ _ _ ?_
    rwa [show decide (ks = js) = false by
      rw [decide_eq_false_iff_not]; rintro rfl; exact hsz (x.1.trans y.1.symm)] at hq

/- what a comprehension over such a list makes -/
theorem filt_idx (ks : List Nat) (p : Nat → Bool) (pz : Nat → Bool) (hp : ∀ i k, ks[i]? = some k → pz i = p k) : ((List.range ks.length).filter pz).map (fun i => ks[i]?.getD 0) = ks.filter p := by
  have e : ks = (List.range ks.length).map (fun i => ks[i]?.getD 0) := by
    refine List.ext_getElem? fun i => ?_
    by_cases hi : i < ks.length
    · simp [hi]
    · simp [hi]
  conv => rhs; rw [e]
  rw [List.filter_map]
  congr 1
  refine List.filter_congr fun i hi => ?_
  have hi' := List.mem_range.mp hi
  simp only [Function.comp]
  rw [hp i _ (List.getElem?_eq_getElem hi')]
  simp [hi']
theorem CompR.enc {P : Value → Nat → Prop} {F : Nat → Value → Heap → Prop} {ks : List Nat} {p : Nat → Bool} {f : Nat → Nat} {pz : Nat → Bool} {h : Heap} {ys : Array Value} (x : CompR F pz ks.length h ys) (hp : ∀ i k, ks[i]? = some k → pz i = p k)
    (hF : ∀ i k y, ks[i]? = some k → F i y h → P y (f k)) : Enc P ys ((ks.filter p).map f) := by
  rw [← filt_idx ks p pz hp]
  refine ⟨by simp [x.1], fun j k hk => ?_⟩
  rw [List.getElem?_map, List.getElem?_map] at hk
  cases e : ((List.range ks.length).filter pz)[j]? with
  | none => rw [e] at hk; cases hk
  | some i =>
    rw [e] at hk
    obtain ⟨y, ey, fy⟩ := x.2 j i e
    have hi : i < ks.length := List.mem_range.mp (List.mem_filter.mp (List.mem_of_getElem? e)).1
    simp only [Option.map_some, Option.some.injEq] at hk
    subst hk
    refine ⟨y, ey, ?_⟩
    rw [List.getElem?_eq_getElem hi]
    exact hF i _ y (List.getElem?_eq_getElem hi) fy

/- a table of lists of numbers -/
noncomputable def Fb (h : Heap) (a n : Nat) (f : Nat → List Nat) : Prop := ∃ us m, IsL h a us m ∧ us.size = n ∧ ∀ k < n, ∃ b vs m', us[k]? = some (.ref b) ∧ IsL h b vs m' ∧ Ints vs (f k)
theorem Fb.n {h' : Heap} {a n : Nat} {f : Nat → List Nat} (x : Fb h a n f) (k : Kx none_ h h') : Fb h' a n f :=
  let ⟨us, m, l, e, r⟩ := x; ⟨us, m, k.kp _ _ l, e, fun i hi => let ⟨b, vs, m', e1, e2, e3⟩ := r i hi; ⟨b, vs, m', e1, k.kp _ _ e2, e3⟩⟩
theorem Fb.keep {h' : Heap} {a n : Nat} {f : Nat → List Nat} {P : Nat → Prop} (x : Fb h a n f) (k : Kx P h h') (hP : ∀ b, P b → ∀ vs m, ¬ IsL h b vs m) : Fb h' a n f :=
  let ⟨us, m, l, e, r⟩ := x
  ⟨us, m, k _ (fun hb => hP _ hb _ _ l) _ l, e, fun i hi => let ⟨b, vs, m', e1, e2, e3⟩ := r i hi; ⟨b, vs, m', e1, k _ (fun hb => hP _ hb _ _ e2) _ e2, e3⟩⟩
theorem subFb {x y : Str} {px py pos : Pos} {a n k : Nat} {f : Nat → List Nat} {t : Tok} {Q : Value → Shared → Prop} (X : Fb s.heap a n f) (hk : k < n) (hn : n ≤ 1000)
    (hx : ∀ {Q' : Value → Shared → Prop}, Q' (.ref a) s → wpAny (model prog w) A (eval (.Name x px) env) Q' E s) (hy : ∀ {Q' : Value → Shared → Prop}, Q' (.int (k : Nat) t) s → wpAny (model prog w) A (eval (.Name y py) env) Q' E s)
    (hq : ∀ b vs m, IsL s.heap b vs m → Ints vs (f k) → Q (.ref b) s) :
    wpAny (model prog w) A (eval (.Subscript (.Name x px) (.Name y py) pos) env) Q E s := by
  refine hide fun Gz kz => ?_
  obtain ⟨us, m, l, e, r⟩ := X
  obtain ⟨b, vs, m', e1, e2, e3⟩ := r k hk
  refine kz ?_
  clear kz Gz
  refine Subscript_Name (hx (hy ?_))
  exact ⟨"list", _, slot_list_getitem.lookup, l.isList.typeIs, wpAny_getItem_list l.isList (by (first | lia | omega)) (by (first | lia | omega)) (by simpa using e1) (hq b vs m' e2 e3)⟩
end
end Mine
end

section
open PySem PySem.W PyProof.Rows PySem.Spec PySem.Calls
set_option maxRecDepth 100000
set_option maxHeartbeats 4000000
namespace Mine
section
variable {w : World} {A : Around} {E : Value → Shared → Prop} {s : Shared} {h h' : Heap} {g : Array GenState} {d : Drawn} {tk : Nat} {os : OsState}

noncomputable def byT (w : World) : Bool := w.params.followText "set-order"
noncomputable def natE (e : Int × Value) : Nat := match e.2 with | .int i _ => i.toNat | _ => 0
noncomputable def setObj (es : Array (Int × Value)) (ep : Nat) (t : SetTable) : Obj := { cls := .type "set", dict := none, data := .set es ep t, slots := #[] }
structure EsOk (w : World) (es : Array (Int × Value)) (ks : List Nat) : Prop where
  el : ElemsOf (intKind PP w) es.toList
  pi : ∀ e ∈ es.toList, PI e.2 (natE e)
  pm : ks.Perm (es.toList.map natE)
  nd : ks.Nodup
noncomputable def SetI (w : World) (h : Heap) (a : Nat) (ks : List Nat) : Prop := ∃ es ep t, h.get? a = some (setObj es ep t) ∧ TK (!byT w) t es.size ∧ EsOk w es ks

theorem natE_pi {e : Int × Value} {k : Nat} {t : Tok} (h : e.2 = .int (k : Nat) t) : natE e = k := by unfold natE; rw [h]; exact Int.toNat_natCast k

theorem es_perm {es es' : Array (Int × Value)} {ks : List Nat} (x : EsOk w es ks) (p : es'.toList.Perm es.toList) : EsOk w es' ks :=
  ⟨x.el.perm p, fun e he => x.pi e (p.mem_iff.mp he), x.pm.trans (p.map natE).symm, x.nd⟩

theorem add_I {a k : Nat} {t : Tok} {ks : List Nat} {Q : Bool → Shared → Prop} (S : SetI w h a ks) (hb : ks.length + 1 < scanBound)
    (hq : ∀ h' b, Kx (· = a) h h' → SetI w h' a (if k ∈ ks then ks else ks ++ [k]) → Q b ⟨h', g, d, tk, os⟩) :
    wpAny (model PP w) A (setAddHashed a (.int (k : Nat) t) ((intKind PP w).hash ((k : Nat) : Int))) Q E ⟨h, g, d, tk, os⟩ := by
  obtain ⟨es, ep, tb, ho, T, X⟩ := S
  have hkey : (intKind PP w).is ((k : Nat) : Int) (.int (k : Nat) t) = true := intKind_is _ _ _ _
  have hsc : (Value.int ((k : Nat) : Int) t).scannable = true := rfl
  have hel : ElemsOf (intKind PP w) es.toList := X.el
  have hlen : es.size = ks.length := by rw [X.pm.length_eq, List.length_map, Array.length_toList]
  have hbe : es.size < scanBound := by (first | lia | omega)
  unfold setAddHashed setAddHashedIn
  refine wpAny_holding (wpAny_bind (wpAny_setState_of (s := ⟨h, g, d, tk, os⟩) ho rfl T.f ?_))
  dsimp only
  rw [byScan_of hsc hbe hel]
  simp only [if_true]
  unfold setAddByScan
  refine wpAny_bind (wpAny_bind (wpAny_rule (wpAny_bind (wpAny_setScan_of hkey ho rfl T.f hel ?_))))
  cases hr : List.findIdx? (fun e => (intKind PP w).is ((k : Nat) : Int) e.2) es.toList with
  | some j =>
    dsimp only
    obtain ⟨hj, hpj, _⟩ := List.findIdx?_eq_some_iff_getElem.mp hr
    have hmem : es.toList[j] ∈ es.toList := List.getElem_mem hj
    obtain ⟨t', ht'⟩ := X.pi _ hmem
    have hk : k ∈ ks := by
      have e : natE es.toList[j] = k := by
        have h1 : (intKind PP w).is ((natE es.toList[j] : Nat) : Int) es.toList[j].2 = true := by rw [ht']; exact intKind_is _ _ _ _
        have := (intKind PP w).inj _ _ _ hpj h1
        (first | lia | omega)
      rw [X.pm.mem_iff, ← e]
      exact List.mem_map_of_mem hmem
    have := hq h false (Kx.refl _ _) (by rw [if_pos hk]; exact ⟨es, ep, tb, ho, T, X⟩)
    exact wpAny_pure (wpAny_pure this)
  | none =>
    dsimp only
    have hk : k ∉ ks := by
      intro hk
      obtain ⟨e, he, rfl⟩ := List.mem_map.mp (X.pm.mem_iff.mp hk)
      have h1 := List.findIdx?_eq_none_iff.mp hr e he
      obtain ⟨t', ht'⟩ := X.pi e he
      rw [ht', intKind_is] at h1
      cases h1
    rw [show (if k ∈ ks then ks else ks ++ [k]) = ks ++ [k] from if_neg hk] at hq
    have hgw : ∀ (b : Bool) {s₁ : Shared} {Q' : Unit → Shared → Prop}, Q' () s₁ → wpAny (model PP w) A (match b with | true => rule "set.scan.the-table-gave-way" | false => pure ()) Q' E s₁ :=
      fun b s₁ Q' hq => by cases b <;> first | exact wpAny_pure hq | exact wpAny_rule hq
    have hperm := layNew_perm tb es ((intKind PP w).hash ((k : Nat) : Int)) (.int (k : Nat) t)
    have T1 := T.layNew (h := (intKind PP w).hash ((k : Nat) : Int)) (x := .int (k : Nat) t)
    generalize layNew tb es ((intKind PP w).hash ((k : Nat) : Int)) (.int (k : Nat) t) = Ly at hperm T1 ⊢
    obtain ⟨es1, t1, wasDummy, gave⟩ := Ly
    dsimp only at hperm T1 ⊢
    rw [Array.toList_push] at hperm
    have hsz1 : es1.size = es.size + 1 := by rw [← Array.length_toList, hperm.length_eq, List.length_append, Array.length_toList]; rfl
    have X1 : EsOk w es1 (ks ++ [k]) := by
      refine ⟨(X.el.push (k := ((k : Nat) : Int)) (intKind_is _ _ _ _) rfl).perm hperm, fun e he => ?_, ?_, ?_⟩
      · rcases List.mem_append.mp (hperm.mem_iff.mp he) with he | he
        · exact X.pi e he
        · rw [List.mem_singleton.mp he]; exact ⟨t, rfl⟩
      · have h1 := hperm.map natE
        rw [List.map_append] at h1
        exact ((X.pm.append_right [k]).trans h1.symm)
      · rw [List.nodup_append]
        refine ⟨X.nd, by simp, fun a ha b hb => ?_⟩
        rw [List.mem_singleton.mp hb]
        rintro rfl
        exact hk ha
    rw [← hsz1] at T1
    refine wpAny_bind (hgw _ ?_)
    have fin : wpAny (model PP w) A (do
        storeSet a es1 t1
        if (!wasDummy && t1.tooFull) = true then do
            (match (relayAll t1 es1 (SetTable.grown es1.size)).2.2 with | true => rule "set.scan.the-table-gave-way" | false => pure ())
            storeSet a (relayAll t1 es1 (SetTable.grown es1.size)).1 (relayAll t1 es1 (SetTable.grown es1.size)).2.1
            pure (some true)
          else pure (some true)) (fun r s' => ∃ h', r = some true ∧ s' = ⟨h', g, d, tk, os⟩ ∧ Kx (· = a) h h' ∧ SetI w h' a (ks ++ [k])) E ⟨h, g, d, tk, os⟩ := by
      refine wpAny_bind (wpAny_storeSet_of (o := setObj es ep tb) ho rfl ?_ (fits_of_scanBound (by (first | lia | omega))))
      have hg : (h.update a (Obj.putSet es1 t1)).get? a = some (setObj es1 (ep + 1) t1) := by
        have := Heap.get?_update_self (Obj.putSet es1 t1) ho (by rw [putSet_of es1 t1 (o := setObj es ep tb) rfl]; rfl)
        rw [putSet_of es1 t1 (o := setObj es ep tb) rfl] at this; exact this
      have k1 : Kx (· = a) h (h.update a (Obj.putSet es1 t1)) := Kx.of_same (Heap.SameBut.update ..)
      show wpAny _ _ _ _ _ ⟨h.update a (Obj.putSet es1 t1), g, d, tk, os⟩
      generalize h.update a (Obj.putSet es1 t1) = h1 at *
      split
      · have hp := relayAll_perm t1 es1 (SetTable.grown es1.size)
        have T2 := T1.relay (wanted := SetTable.grown es1.size)
        generalize relayAll t1 es1 (SetTable.grown es1.size) = Rl at hp T2 ⊢
        obtain ⟨es2, t2, gave2⟩ := Rl
        dsimp only at hp T2 ⊢
        have hsz2 : es2.size = es1.size := by rw [← Array.length_toList, hp.length_eq, Array.length_toList]
        rw [← hsz2] at T2
        refine wpAny_bind (hgw _ ?_)
        refine wpAny_bind (wpAny_storeSet_of (o := setObj es1 (ep + 1) t1) hg rfl ?_ (fits_of_scanBound (by (first | lia | omega))))
        have hg2 : (h1.update a (Obj.putSet es2 t2)).get? a = some (setObj es2 (ep + 1 + 1) t2) := by
          have := Heap.get?_update_self (Obj.putSet es2 t2) hg (by rw [putSet_of es2 t2 (o := setObj es1 (ep + 1) t1) rfl]; rfl)
          rw [putSet_of es2 t2 (o := setObj es1 (ep + 1) t1) rfl] at this; exact this
        exact wpAny_pure ⟨_, rfl, rfl, k1.tr (Kx.of_same (Heap.SameBut.update ..)), es2, _, t2, hg2, T2, es_perm X1 hp⟩
      · exact wpAny_pure ⟨_, rfl, rfl, k1, es1, _, t1, hg, T1, X1⟩
    by_cases hpl : t1.plain = true
    · rw [if_pos hpl, hashByValue_scannable 8 hsc]
      refine wpAny_bind (wpAny_pure ?_)
      refine wpAny_mono fin (fun r s' q => ?_) fun _ _ e => e
      obtain ⟨h', rfl, rfl, k', S'⟩ := q
      exact wpAny_pure (hq h' true k' S')
    · rw [if_neg hpl]
      refine wpAny_bind (wpAny_pure ?_)
      refine wpAny_mono fin (fun r s' q => ?_) fun _ _ e => e
      obtain ⟨h', rfl, rfl, k', S'⟩ := q
      exact wpAny_pure (hq h' true k' S')
end
end Mine
end

section
open PySem PySem.W PyProof.Rows PySem.Spec PySem.Calls PySem.SeqAt
set_option maxRecDepth 100000
set_option maxHeartbeats 4000000
namespace Mine
section
variable {w : World} {mg mb : Str → Option Value} {A : Around} {E : Value → Shared → Prop} {s : Shared} {env : Env} {h : Heap} {g : Array GenState} {d : Drawn} {tk : Nat} {os : OsState} {M : Model} {prog : Program}

theorem nmC {x : Str} {pos : Pos} {v : Value} {c : Nat} {Q : Value → Shared → Prop} {M : Model} (hv : s.heap.IsCell c (some v)) (h : Q v s) (hc : env.cells.lookup x = some c := by rfl)
    (hk : env.scope.kind = .function := by rfl) (hl : env.kindOf x = some .cell := by rfl) (hd : (x == ("__debug__" : Str)) = false := by decide) :
    wpAny M A (eval (.Name x pos) env) Q E s := wpAny_Name (wpAny_loadName_cell hk hl hc hv h) hd
/- a captured name -/
theorem nmV {x : Str} {pos : Pos} {v : Value} {c : Nat} {Q : Value → Shared → Prop} {M : Model} (hv : s.heap.IsCell c (some v)) (h : Q v s) (hc : env.cells.lookup x = some c := by rfl)
    (hl : env.kindOf x = some .cell ∨ env.kindOf x = some .free := by first | exact .inl rfl | exact .inr rfl)
    (hk : env.scope.kind = .function := by rfl) (hd : (x == ("__debug__" : Str)) = false := by decide) (hn : (x == ("__classdict__" : Str)) = false := by decide) :
    wpAny M A (eval (.Name x pos) env) Q E s := hl.elim (fun hl => nmC hv h hc hk hl hd) fun hl => nmFree hv h hc hk hl hd hn
theorem eqN {a b : Nat} {t u : Tok} {Q : Value → Shared → Prop} (hq : Q (.bool (decide (a = b))) s) : wpAny (model prog w) A (compareOp .Eq (.int (a : Nat) t) (.int (b : Nat) u)) Q E s :=
  P.eq_int (by rwa [show (((a : Nat) : Int) == ((b : Nat) : Int)) = decide (a = b) by rw [Bool.eq_iff_iff, beq_iff_eq, decide_eq_true_eq]; (first | lia | omega)])
theorem neN {a b : Nat} {t u : Tok} {Q : Value → Shared → Prop} (hq : Q (.bool (decide (a ≠ b))) s) : wpAny (model prog w) A (compareOp .NotEq (.int (a : Nat) t) (.int (b : Nat) u)) Q E s :=
  P.ne_int (by rwa [show (((a : Nat) : Int) != ((b : Nat) : Int)) = decide (a ≠ b) by rw [Bool.eq_iff_iff, bne_iff_ne, decide_eq_true_eq]; (first | lia | omega)])
theorem CompR.sub {P : Value → Nat → Prop} {vs ys : Array Value} {ks : List Nat} {pz : Nat → Bool} {h : Heap} (hi : Enc P vs ks) (CR : CompR (fun i y _ => vs[i]? = some y) pz vs.size h ys) (p : Nat → Bool) (hp : ∀ i k, ks[i]? = some k → pz i = p k) : Enc P ys (ks.filter p) := by
  have CR' := CR
  rw [hi.1] at CR'
  have := CR'.enc (P := P) (p := p) (f := id) hp fun i k y hk hy => by
    obtain ⟨k', hk', q⟩ := hi.at_ hy
    rw [hk] at hk'; cases hk'; exact q
  rwa [List.map_id] at this
theorem Tgt.cell {cenv : Env} {x : Str} {b c : Nat} {v : Value} (T : Tgt cenv x b h (some v)) (hk : cenv.kindOf x = some .cell) (hc : cenv.cells.lookup x = some c) : h.IsCell c (some v) := by
  rcases T with ⟨h1, _⟩ | ⟨_, h2, hh⟩
  · rw [hk] at h1; cases h1
  · rw [hc] at h2; cases h2; exact hh

noncomputable def gr (f : Nat → List Nat) (ks : List Nat) : List Nat := ks.filter fun k => decide ((ks.filter fun j => decide (j ≠ k) && decide (k ∈ f j)) = [])

noncomputable abbrev grEnv (w : World) (L : Nat) : Env := callEnvC (fdAt w 133) L 133

theorem law_greatest {ra fa m n : Nat} {vs : Array Value} {ks : List Nat} {f : Nat → List Nat} {Q : Value → Shared → Prop} (K : Ok w mg mb h) (hr : Rm A 4) (hl : IsL h ra vs m) (hi : Ints vs ks) (hks : ∀ k ∈ ks, k < n) (hlen : ks.length ≤ 1000)
    (X : Fb h fa n f) (hn : n ≤ 1000)
    (hq : ∀ h' tk' a us m', Kx none_ h h' → IsL h' a us m' → Ints us (gr f ks) → h.get? a = none → Q (.ref a) ⟨h', g, d, tk', os⟩) :
    wpAny (model PP w) A (call (.ref 133) [.ref ra, .ref fa]) Q E ⟨h, g, d, tk, os⟩ := by
  refine callFCe [(Str.ofString "rows", .ref ra), (Str.ofString "forebears", .ref fa)] [] K hr (by kernel_rfl) (fun L => trivial) (fun L x hx => .inr ?_) fun L h₁ tk₁ hL hL' k₁ F₁ hc₁ K₁ hr₁ => ?_
  · simp only [List.mem_cons, List.not_mem_nil, or_false] at hx
    rcases hx with rfl | rfl <;> exact ⟨by kernel_rfl, by kernel_rfl⟩
  have c1 : h₁.IsCell (L + 1) (some (.ref ra)) := (hc₁ (Str.ofString "rows") (L + 1) rfl).1
  have c2 : h₁.IsCell (L + 2) (some (.ref fa)) := (hc₁ (Str.ofString "forebears") (L + 2) rfl).1
  have l₁ : IsL h₁ ra vs m := k₁.kp _ _ hl
  have X₁ : Fb h₁ fa n f := X.n k₁
  refine wpAny_execs_cons (wpAny_Return_some ?_)
  refine lcompL (ck := true) (g := g) (d := d) (os := os) ⟨rfl, by decide, fun _ => rfl, fun _ => rfl, fun _ => rfl⟩ rfl (fun i y _ => vs[i]? = some y)
    (fun i => match ks[i]? with | some k => decide ((ks.filter fun j => decide (j ≠ k) && decide (k ∈ f j)) = []) | none => false) hr₁.1 (fun _ _ _ _ e _ => e) (nmV c1 ?_)
  refine ⟨ra, vs, m, h₁, tk₁, rfl, rfl, l₁, by rw [hi.1]; exact hlen, fun C b i v h₂ tk₂ Q' E' hv T kk hQ => ?_, fun C b i v h₂ tk₂ Q' E' hv _ T kk hQ => T.name (hQ _ _ _ (Kx.refl _ _) hv), fun Dl h' tk' ys m' hD k' l' CR => ?_⟩
  · obtain ⟨k, hk, t, rfl⟩ := hi.at_ hv
    have hkn : k < n := hks k (List.mem_of_getElem? hk)
    have c3 : h₂.IsCell (C + 1) (some (.int (k : Nat) t)) := T.cell rfl rfl
    refine wpAny_tests_one (wpAny_isTrue_Compare1 ?_)
    refine lcompL (ck := false) (g := g) (d := d) (os := os) ⟨rfl, by decide, fun _ => rfl, fun _ => rfl, fun _ => rfl⟩ rfl (fun i y _ => vs[i]? = some y)
      (fun i => match ks[i]? with | some j => decide (j ≠ k) && decide (k ∈ f j) | none => false) hr₁.1 (fun _ _ _ _ e _ => e) (nmV (c1.keeps kk.kp) ?_)
    refine ⟨ra, vs, m, h₂, tk₂, rfl, rfl, kk.kp _ _ l₁, by rw [hi.1]; exact hlen, fun C₂ b₂ i₂ v₂ h₃ tk₃ Q₂ E₂ hv₂ T₂ kk₂ hQ₂ => ?_, fun C₂ b₂ i₂ v₂ h₃ tk₃ Q₂ E₂ hv₂ _ T₂ kk₂ hQ₂ => T₂.name (hQ₂ _ _ _ (Kx.refl _ _) hv₂), fun Dl h' tk' ys m' hD k' l' CR => ?_⟩
    · obtain ⟨j, hj, t₂, rfl⟩ := hi.at_ hv₂
      have hjn : j < n := hks j (List.mem_of_getElem? hj)
      simp only [hj] at hQ₂
      refine wpAny_tests_one (isTrue_and (wpAny_isTrue_Compare1 (T₂.name (nmV (c3.keeps kk₂.kp) (neN (wpAny_truthy_bool ?_))))))
      by_cases hjk : j = k
      · subst hjk
        simpa using hQ₂ _ _ (Kx.refl _ _)
      · rw [show (decide (j ≠ k)) = true by simpa using hjk, if_pos rfl]
        refine isTrue_and (wpAny_isTrue_Compare1 (nmV (c3.keeps kk₂.kp) ?_))
        refine subFb (X₁.n (kk.tn kk₂)) hjn hn (fun q => nmV (c2.keeps (kk.tn kk₂).kp) q) (fun q => T₂.name q) fun b' vs' m' l' i' => ?_
        refine in_ints l' i' (wpAny_truthy_bool ?_)
        rw [show (decide (j ≠ k)) = true by simpa using hjk, Bool.true_and] at hQ₂
        have := hQ₂ _ tk₃ (Kx.refl _ h₃)
        by_cases hm : k ∈ f j
        · simp only [hm, decide_true, if_true] at this ⊢
          exact isTrue_and_nil this
        · simp only [hm, decide_false, Bool.false_eq_true, if_false] at this ⊢
          exact this
    · have hys : Ints ys (ks.filter fun j => decide (j ≠ k) && decide (k ∈ f j)) := CR.sub hi _ fun i k' hk' => by simp only [hk']
      refine List_ (args_nil (nList (fun h₅ k₅ l₅ => ?_) (Nat.zero_le _)))
      refine eq_enc okI (k₅.kp _ _ l') l₅ hys (Enc.nil _) (hr₁.less (Nat.zero_le _)).un0 (fun _ _ => trivial) (fun _ _ => trivial) (wpAny_truthy_bool ?_)
      have := hQ h₅ tk' (k'.tn k₅)
      simp only [hk] at this
      exact this
  · refine hq _ _ _ _ _ (k₁.tn k') l' ?_ (k₁.dead0 hD)
    exact CR.sub hi _ fun i k' hk' => by simp only [hk']
end
end Mine
end

section
open PySem PySem.W PyProof.Rows PySem.Spec PySem.Calls PySem.SeqAt
set_option maxRecDepth 100000
set_option maxHeartbeats 4000000
namespace Mine
section
variable {w : World} {mg mb : Str → Option Value} {A : Around} {E : Value → Shared → Prop} {s : Shared} {env : Env} {h : Heap} {g : Array GenState} {d : Drawn} {tk : Nat} {os : OsState} {M : Model} {prog : Program}

theorem stC {x : Str} {c : Nat} {v : Value} {ov : Option Value} {Q : Unit → Shared → Prop} (hc : h.IsCell c ov) (hq : ∀ h', h'.IsCell c (some v) → Kx (· = c) h h' → Q () ⟨h', g, d, tk, os⟩) (hl : env.cells.lookup x = some c := by rfl)
    (hk : env.scope.kind = .function := by rfl) (hx : env.kindOf x = some .cell := by rfl) : wpAny M A (storeName env x v) Q E ⟨h, g, d, tk, os⟩ :=
  wpAny_storeName_cell hk hx hl hc fun h' hc' sb => hq h' hc' (Kx.of_same sb)

theorem nRange {n : Nat} {t : Tok} {Q : Value → Shared → Prop} (hq : ∀ h' tk' tt uu vv, Kx none_ h h' → IsRange h' h.objs.size 0 (n : Nat) 1 tt uu vv → Q (.ref h.objs.size) ⟨h', g, d, tk', os⟩) :
    wpAny (model prog w) A (call (.type "range") [.int (n : Nat) t]) Q E ⟨h, g, d, tk, os⟩ :=
  call_range_1 (hq _ _ _ _ _ (Kx.push _ _) (IsRange.new _ _ _ _ _ _ _))
theorem g_range (w : World) : nsIn (KK w) mainGlobals (Str.ofString "range") = some none := by kernel_rfl
theorem b_range : bootBuiltins (Str.ofString "range") = some (.type "range") := by kernel_rfl
theorem small0 (n : Nat) (hn : n ≤ 1000) : Builtin.Range.small 0 (n : Nat) 1 = true := small_one (by decide) (by decide) (by (first | lia | omega)) (by (first | lia | omega))
theorem size0 (n : Nat) : Builtin.Range.rangeSize 0 (n : Nat) 1 = ((n : Nat) : Int) := by rw [rangeSize_one]; split <;> (first | lia | omega)

theorem ne_nil {a b m n : Nat} {vs : Array Value} {Q : Value → Shared → Prop} (hl : IsL s.heap a vs m) (hb : IsL s.heap b #[] n) (hu : A.units < cLine) (hq : Q (.bool (decide (vs.size ≠ 0))) s) : wpAny (model prog w) A (compareOp .NotEq (.ref a) (.ref b)) Q E s := by
  by_cases hsz : vs.size = 0
  · refine RcNeAt.lists (e := fun _ => true) hl.isList hb.isList (by simpa using hsz) hu (fun j h1 h2 => absurd h2 (Nat.not_lt_zero _)) _ _ _ _ ?_
    rw [show decide (vs.size ≠ 0) = false by simpa using hsz] at hq
    rw [hsz]
    exact hq
  · refine RcNeAt.lists_lengths hl.isList hb.isList (by rw [bne_iff_ne]; exact hsz) hu _ _ _ _ ?_
    rwa [show decide (vs.size ≠ 0) = true by simpa using hsz] at hq
theorem eq_nil {a b m n : Nat} {vs : Array Value} {Q : Value → Shared → Prop} (hl : IsL s.heap a vs m) (hb : IsL s.heap b #[] n) (hu : A.units < cLine) (hq : Q (.bool (decide (vs.size = 0))) s) : wpAny (model prog w) A (compareOp .Eq (.ref a) (.ref b)) Q E s := by
  by_cases hsz : vs.size = 0
  · refine eq_listAt (e := fun _ => true) hl.isList hb.isList (by simpa using hsz) hu (fun j h1 h2 => absurd h2 (Nat.not_lt_zero _)) ?_
    rw [show decide (vs.size = 0) = true by simpa using hsz] at hq
    rw [hsz]
    exact hq
  · refine eq_list_lengthsAt hl.isList hb.isList (by rw [bne_iff_ne]; exact hsz) hu ?_
    rwa [show decide (vs.size = 0) = false by simpa using hsz] at hq
theorem Enc.ne {P : Value → Nat → Prop} {vs : Array Value} {ks : List Nat} (x : Enc P vs ks) : decide (vs.size ≠ 0) = decide (ks ≠ []) := by
  rw [x.1]
  cases ks <;> simp
theorem Enc.eq {P : Value → Nat → Prop} {vs : Array Value} {ks : List Nat} (x : Enc P vs ks) : decide (vs.size = 0) = decide (ks = []) := by
  rw [x.1]
  cases ks <;> simp

theorem CompR.rng {P : Value → Nat → Prop} {F : Nat → Value → Heap → Prop} {pz : Nat → Bool} {n : Nat} {f : Nat → Nat} {h : Heap} {ys : Array Value} (CR : CompR F pz n h ys) (hF : ∀ i y, F i y h → P y (f i)) : Enc P ys (((List.range n).filter pz).map f) := by
  refine ⟨by simp [CR.1], fun j k hk => ?_⟩
  rw [List.getElem?_map] at hk
  cases e : ((List.range n).filter pz)[j]? with
  | none => rw [e] at hk; cases hk
  | some i =>
    rw [e] at hk
    obtain ⟨y, ey, fy⟩ := CR.2 j i e
    simp only [Option.map_some, Option.some.injEq] at hk
    subst hk
    exact ⟨y, ey, hF i y fy⟩
theorem CompR.rng0 {P : Value → Nat → Prop} {pz : Nat → Bool} {n : Nat} {h : Heap} {ys : Array Value} (CR : CompR (fun i y _ => P y i) pz n h ys) : Enc P ys ((List.range n).filter pz) := by
  have := CR.rng (P := P) (f := id) fun i y hy => hy
  rwa [List.map_id] at this

/- an iterator's object -/
noncomputable def It (o : Obj) : Prop := o.cls ≠ .none ∧ ∃ vs, o.data = .fields vs ∧ ∀ q t, vs[1]? ≠ some (.str q t)
theorem It.no {o : Obj} (h : ∀ vs, o.data ≠ .fields vs) : ¬ It o := fun ⟨_, vs, e, _⟩ => h vs e
/- all kept but iterators -/
noncomputable def Kd (h h' : Heap) : Prop := ∀ b o, h.get? b = some o → ¬ It o → h'.get? b = some o
theorem Kd.n {h' : Heap} (k : Kx none_ h h') : Kd h h' := fun b o e _ => k.kp b o e
theorem Kd.it {h' : Heap} {I : Nat} {x l : Int} (hi : IsRangeIter h I x l 1) (k : Kx (· = I) h h') : Kd h h' := fun b o e hd => k b (fun eb => by
  rw [eb, hi] at e; cases e
  exact hd ⟨(fun e => by cases e), _, rfl, fun q t e => by cases e⟩) o e
theorem Kd.fv {h' : Heap} {L : Nat} {l : List (Str × Value)} (k : Kd h h') (F : Fv h L l) : Fv h' L l :=
  let ⟨m, ⟨o, es, ep, ho, hd, r⟩, q⟩ := F; ⟨m, ⟨o, es, ep, k _ _ ho (It.no fun vs e => by rw [hd] at e; cases e), hd, r⟩, q⟩
theorem Kd.cell {h' : Heap} {c : Nat} {ov : Option Value} (k : Kd h h') (x : h.IsCell c ov) : h'.IsCell c ov := let ⟨o, ho, hd⟩ := x; ⟨o, k _ _ ho (It.no fun vs e => by rw [hd] at e; cases e), hd⟩
theorem Kd.lst {h' : Heap} {a m : Nat} {vs : Array Value} (k : Kd h h') (x : IsL h a vs m) : IsL h' a vs m := k _ _ x (It.no fun vs e => by cases e)
theorem Kd.tb {h' : Heap} {P : Nat} {qs : List (Pos × Str)} (k : Kd h h') (T : Tb h P qs) : Tb h' P qs := by
  obtain ⟨ps, e, ht, r⟩ := T
  refine ⟨ps, k _ _ e (fun i => i.1 rfl), ht, fun q hq cv hc => ?_⟩
  obtain ⟨c, o, vs, t, rfl, ho, hd, hv⟩ := r q hq cv hc
  refine ⟨c, o, vs, t, rfl, k _ _ ho (fun ⟨_, vs', e', n⟩ => ?_), hd, hv⟩
  rw [hd] at e'; cases e'
  exact n _ _ hv
theorem Kd.fb {h' : Heap} {a n : Nat} {f : Nat → List Nat} (k : Kd h h') (x : Fb h a n f) : Fb h' a n f :=
  let ⟨us, m, l, e, r⟩ := x; ⟨us, m, k.lst l, e, fun i hi => let ⟨b, vs, m', e1, e2, e3⟩ := r i hi; ⟨b, vs, m', e1, k.lst e2, e3⟩⟩

/- such a table while it grows -/
noncomputable def Fc (h : Heap) (a n : Nat) (f : Nat → List Nat) : Prop := ∃ us m, IsL h a us m ∧ us.size = n ∧ ∀ k < n, ∃ b vs m', us[k]? = some (.ref b) ∧ b ≠ a ∧ IsL h b vs m' ∧ Ints vs (f k)
theorem Fc.fb {a n : Nat} {f : Nat → List Nat} (x : Fc h a n f) : Fb h a n f := let ⟨us, m, l, e, r⟩ := x; ⟨us, m, l, e, fun i hi => let ⟨b, vs, m', e1, _, e2, e3⟩ := r i hi; ⟨b, vs, m', e1, e2, e3⟩⟩
theorem Kd.fc {h' : Heap} {a n : Nat} {f : Nat → List Nat} (k : Kd h h') (x : Fc h a n f) : Fc h' a n f :=
  let ⟨us, m, l, e, r⟩ := x; ⟨us, m, k.lst l, e, fun i hi => let ⟨b, vs, m', e1, e0, e2, e3⟩ := r i hi; ⟨b, vs, m', e1, e0, k.lst e2, e3⟩⟩
theorem Fc.nil {a m : Nat} (f : Nat → List Nat) (l : IsL h a #[] m) : Fc h a 0 f := ⟨#[], m, l, rfl, fun _k hk => absurd hk (Nat.not_lt_zero _)⟩

theorem lst_cell {a m c : Nat} {vs : Array Value} {ov : Option Value} (t : IsL h a vs m) (x : h.IsCell c ov) : a ≠ c := by
  rintro rfl
  obtain ⟨o, ho, r⟩ := x
  rw [t] at ho; cases ho; cases r

/- three places -/
noncomputable def P3 (a b c x : Nat) : Prop := x = a ∨ x = b ∨ x = c
/- two places -/
noncomputable def W2' (a b x : Nat) : Prop := x = a ∨ x = b

/- its state -/
inductive RaS (n I : Nat) (P : Nat → Prop) (h₀ : Heap) (J : Nat → Heap → Array GenState → Prop) (d : Drawn) (os : OsState) (N : Nat) (s : Shared) : Prop
  | mk (j : Nat)
      (q1 : N = n - j)
      (q2 : j ≤ n)
      (q3 : Kx P h₀ s.heap)
      (q4 : J j s.heap s.gens)
      (q5 : IsRangeIter s.heap I (j : Nat) ((n - j : Nat) : Int) 1)
      (q6 : s.drawn = d)
      (q7 : s.os = os) : RaS n I P h₀ J d os N s
/- what a for over a range asks -/
inductive ForR (prog : Program) (w : World) (A : Around) (d : Drawn) (os : OsState) (env : Env) (target : Expr) (body : List Stmt) (Q : Flow → Shared → Prop) (xv : Value) (s₁ : Shared) : Prop
  | mk (ax : Addr)
      (n : Nat)
      (tt : Tok)
      (uu : Tok)
      (vv : Tok)
      (h₀ : Heap)
      (tk₀ : Tok)
      (g₀ : Array GenState)
      (P : Nat → Prop)
      (J : Nat → Heap → Array GenState → Prop)
      (q1 : xv = .ref ax)
      (q2 : s₁ = ⟨h₀, g₀, d, tk₀, os⟩)
      (q3 : IsRange h₀ ax 0 ((n : Nat) : Int) 1 tt uu vv)
      (q4 : n ≤ 1000)
      (q5 : (∀ b, P b → ∃ o, h₀.get? b = some o))
      (q6 : J 0 h₀ g₀)
      (q7 : (∀ j h₁ h₂ g₁, Kd h₁ h₂ → J j h₁ g₁ → J j h₂ g₁))
      (q8 : (∀ j h₁ g₁ tk₁ t (Q' : Shared → Prop) (E' : Value → Shared → Prop), j < n → J j h₁ g₁ → Kx P h₀ h₁ → (∀ h₂ g₂ tk₂, Kx P h₁ h₂ → J (j + 1) h₂ g₂ → Q' ⟨h₂, g₂, d, tk₂, os⟩) →
        wpAny (model prog w) A (assign target env (.int (j : Nat) t)) (fun _ s₂ => wpAny (model prog w) A (execs body env) (fun fl s₃ => (fl = .next ∨ fl = .cont) ∧ Q' s₃) E' s₂) E' ⟨h₁, g₁, d, tk₁, os⟩))
      (q9 : (∀ h₁ g₁ tk₁, Kx P h₀ h₁ → J n h₁ g₁ → Q .next ⟨h₁, g₁, d, tk₁, os⟩)) : ForR prog w A d os env target body Q xv s₁
/- a for over range(n) -/
theorem for_range {target iter : Expr} {body : List Stmt} {pos : Pos} {Q : Flow → Shared → Prop} (hh : A.handled = none)
    (hi : wpAny (model prog w) A (eval iter env) (ForR prog w A d os env target body Q) E s)
    (hs : ∀ x, foldedSetIterable iter env x = pure x := by intro _; rfl) (ht : ∀ it v, letOwnedTupleGo target it v = pure () := by intro _ _; rfl) :
    wpAny (model prog w) A (exec (.For target iter body [] pos) env) Q E s := by
  refine wpAny_For (wpAny_mono hi (fun xv s₁ h₁ => ?_) fun _ _ e => e) hs
  refine hide fun Gz kz => ?_
  obtain ⟨ax, n, tt, uu, vv, h₀, tk₀, g₀, P, J, rfl, rfl, hl, hn, hP, hJ, stab, turn, fin⟩ := h₁
  refine kz ?_
  clear kz Gz
  refine wpAny_pyIter_range hl (small0 n hn) ?_
  rw [size0 n]
  have k₁ : Kx none_ h₀ (h₀.push { cls := .type "range_iterator", data := .fields #[rawInt 0, rawInt (n : Nat), rawInt 1] }) := Kx.push _ _
  have hit₁ : IsRangeIter (h₀.push { cls := .type "range_iterator", data := .fields #[rawInt 0, rawInt (n : Nat), rawInt 1] }) h₀.objs.size 0 (n : Nat) 1 := Heap.get?_push_size _ rfl
  have hitd : h₀.get? h₀.objs.size = none := dead_size h₀
  show codeAny _ _ _ _ ⟨h₀.push { cls := .type "range_iterator", data := .fields #[rawInt 0, rawInt (n : Nat), rawInt 1] }, g₀, d, tk₀, os⟩
  generalize h₀.push { cls := .type "range_iterator", data := .fields #[rawInt 0, rawInt (n : Nat), rawInt 1] } = h₁ at *
  generalize h₀.objs.size = I at *
  have hPI : ¬ P I := fun e => by obtain ⟨o, ho⟩ := hP I e; rw [hitd] at ho; cases ho
  refine codeAny_forLoop (RaS n I P h₀ J d os) ?_ n
    ⟨0, by simp, Nat.zero_le _, k₁.any, stab _ _ _ _ (.n k₁) hJ, hit₁, rfl, rfl⟩ (fun v => ht _ v)
  rintro N ⟨h₂, g₂, d₂, tk₂, os₂⟩ xz
  refine hide fun Gz kz => ?_
  obtain ⟨j, rfl, hj, kP, hJ₂, hit₂, e2, e3⟩ := xz
  refine kz ?_
  clear kz Gz
  have e2' : d₂ = d := e2
  have e3' : os₂ = os := e3
  subst e2' e3'
  by_cases hlt : j < n
  · refine wpAny_pyNext_range_item (s := ⟨h₂, g₂, d₂, tk₂, os₂⟩) hit₂ (by (first | lia | omega)) fun h₃ hit₃ sb₃ => ?_
    have k₃ := Kx.of_same sb₃
    have hJ₃ := stab _ _ _ _ (.it hit₂ k₃) hJ₂
    refine wpAny_mono (turn j h₃ g₂ _ _ (fun s => ∃ m, m < n - j ∧ RaS n I P h₀ J d₂ os₂ m s) _ hlt hJ₃ (kP.t1 k₃ hitd) fun h₄ g₄ tk₄ k₄ hJ₄ => ?_) (fun _ s₂ q => wpAny_mono q (fun fl s₃ q => ?_) fun _ _ e => e) fun _ _ e => e
    · refine ⟨n - (j + 1), Nat.sub_lt_sub_left (by assumption) (Nat.lt_succ_self _), j + 1, rfl, hlt, (kP.t1 k₃ hitd).tr k₄, hJ₄, ?_, rfl, rfl⟩
      have := k₄ I hPI _ hit₃
      rw [show ((j + 1 : Nat) : Int) = (j : Int) + 1 by push_cast; rfl, show ((n - (j + 1) : Nat) : Int) = ((n - j : Nat) : Int) - 1 by (first | lia | omega)]
      exact this
    · obtain ⟨e | e, q⟩ := q <;> subst e <;> exact q
  · obtain rfl : j = n := by (first | lia | omega)
    refine wpAny_pyNext_range_end (s := ⟨h₂, g₂, d₂, tk₂, os₂⟩) hh hit₂ (by (first | lia | omega)) fun h₃ he => ?_
    have k₃ := Kx.of_ext he
    exact wpAny_execs_nil (fin _ _ _ (kP.t1 k₃ hitd) (stab _ _ _ _ (.it hit₂ k₃) hJ₂))
end
end Mine
end

section
open PySem PySem.W PyProof.Rows PySem.Spec PySem.Calls PySem.SeqAt
set_option maxRecDepth 100000
set_option maxHeartbeats 4000000
namespace Mine
section
variable {w : World} {mg mb : Str → Option Value} {A : Around} {E : Value → Shared → Prop} {s : Shared} {env : Env} {h : Heap} {g : Array GenState} {d : Drawn} {tk : Nat} {os : OsState} {M : Model} {prog : Program} {a b : Int} {t u : Tok} {Q : Value → Shared → Prop}

theorem bMod (hb : b ≠ 0) (hq : ∀ t tk', Q (.int (a.fmod b) t) ⟨h, g, d, tk', os⟩) : wpAny (model prog w) A (binaryOp .Mod (.int a t) (.int b u)) Q E ⟨h, g, d, tk, os⟩ := mod_int' hb (hq _ _)
theorem bFd (hb : b ≠ 0) (hs : b.natAbs < 1073741824) (hq : ∀ t tk', Q (.int (a.fdiv b) t) ⟨h, g, d, tk', os⟩) : wpAny (model prog w) A (binaryOp .FloorDiv (.int a t) (.int b u)) Q E ⟨h, g, d, tk, os⟩ :=
  floordiv_int hb (hq _ _) (.inl (PyProof.noPylong_small hs))
theorem bPow {n : Nat} (hn : n ≤ 1000) (ha : a.natAbs < 2 ^ 64) (hq : ∀ t tk', Q (.int (a ^ n) t) ⟨h, g, d, tk', os⟩) : wpAny (model prog w) A (binaryOp .Pow (.int a t) (.int (n : Nat) u)) Q E ⟨h, g, d, tk, os⟩ :=
  pow_int_small (by (first | lia | omega)) (by (first | lia | omega)) ha (by rw [Int.toNat_natCast]; exact hq _ _)
theorem bMin (hh : A.handled = none) (hq : ∀ h' t tk', Kx none_ h h' → Q (.int (min a b) t) ⟨h', g, d, tk', os⟩) : wpAny (model prog w) A (call (.builtin "min") [.int a t, .int b u]) Q E ⟨h, g, d, tk, os⟩ :=
  min_two_ints hh fun h' tk' kp => by
    by_cases c : b < a
    · rw [if_pos c]
      have := hq h' u tk' (Kx.of_kp kp)
      rwa [Int.min_eq_right (by (first | lia | omega))] at this
    · rw [if_neg c]
      have := hq h' t tk' (Kx.of_kp kp)
      rwa [Int.min_eq_left (by (first | lia | omega))] at this
theorem bAbs (hq : ∀ t tk', Q (.int (if a < 0 then -a else a) t) ⟨h, g, d, tk', os⟩) : wpAny (model prog w) A (call (.builtin "abs") [.int a t]) Q E ⟨h, g, d, tk, os⟩ := call_abs_int fun u tk => hq u tk

theorem lAdd {x y m n : Nat} {vs us : Array Value} (hl : IsL h x vs m) (hb : IsL h y us n) (hsz : vs.size + us.size ≤ sizeLine) (hq : ∀ h' z, Kx none_ h h' → IsL h' z (vs ++ us) 0 → h.get? z = none → Q (.ref z) ⟨h', g, d, tk, os⟩) :
    wpAny (model prog w) A (binaryOp .Add (.ref x) (.ref y)) Q E ⟨h, g, d, tk, os⟩ := by
  refine concat_meets ⟨_, hl, rfl⟩ ⟨_, hb, rfl⟩ noFill_list_add seq_list_add PySem.F.slot_list_add PySem.F.entry_list_add (PySem.F.args_list_add_2 _ _) (list_addW x y vs us m n none none #[] #[] hsz) ⟨hl, hb, ?_⟩
  exact hq _ _ (Kx.push _ _) (Heap.get?_push_size _ rfl) (dead_size h)

theorem max_enc {x m : Nat} {vs : Array Value} {ks : List Nat} (hh : A.handled = none) (hl : IsL h x vs m) (hi : Ints vs ks) (hne : 0 < ks.length)
    (hq : ∀ mx t h' tk', mx ∈ ks → (∀ k ∈ ks, k ≤ mx) → Kx none_ h h' → Q (.int ((mx : Nat) : Int) t) ⟨h', g, d, tk', os⟩) : wpAny (model prog w) A (call (.builtin "max") [.ref x]) Q E ⟨h, g, d, tk, os⟩ := by
  refine call_max_walk (wpAny_pyIter_list hl.isList ?_)
  have hne' : x ≠ h.objs.size := ne_dead (dead_size h) hl
  have hlt : x < h.objs.size := Heap.lt_size hl
  refine ⟨_, _, _, _, _, _, _, rfl, Walks.list (A := A.in1) hh h.objs.size x hne' vs, ⟨⟨_, Heap.get?_push_size _ rfl, rfl, rfl⟩, hl.isList.push _⟩, fun c hc => ?_, by rw [hi.1]; exact hne,
    CmpOf.ints_gt (fun i => ((ks[i]?.getD 0 : Nat) : Int)) (fun i v hv => ?_), fun v h' tk' hP hkk => ?_⟩
  · show c < (h.push _).objs.size
    rw [Heap.size_push]
    rcases List.mem_cons.mp hc with rfl | hc
    · exact Nat.lt_succ_self _
    · rcases List.mem_cons.mp hc with rfl | hc
      · exact Nat.lt_succ_of_lt hlt
      · cases hc
  · obtain ⟨k, hk, t, e⟩ := hi.at_ hv
    exact ⟨t, by rw [e, hk]; rfl⟩
  · obtain ⟨k, hk, t, e⟩ := hi.at_ hP
    have hb := argBest_gt (fun i => ((ks[i]?.getD 0 : Nat) : Int)) (vs.size - 1)
    subst e
    refine hq k t h' tk' (List.mem_of_getElem? hk) (fun j hj => ?_) (Kx.of_kp fun b o e => hkk b o (fun hm => absurd (List.mem_singleton.mp hm ▸ Heap.lt_size e) (Nat.lt_irrefl _)) (Heap.get?_push_of_some _ e))
    · obtain ⟨i, hi', e⟩ := List.getElem_of_mem hj
      have := hb.2 i (by rw [hi.1]; (first | lia | omega))
      simp only [hk, List.getElem?_eq_getElem hi', e, Option.getD_some] at this
      exact_mod_cast this
    
end
end Mine
end

section
open PySem PySem.W PyProof.Rows PySem.Spec PySem.Calls PySem.SeqAt
set_option maxRecDepth 100000
set_option maxHeartbeats 4000000
namespace Mine
section
variable {w : World} {mg mb : Str → Option Value} {A : Around} {E : Value → Shared → Prop} {s : Shared} {env : Env} {h : Heap} {g : Array GenState} {d : Drawn} {tk : Nat} {os : OsState} {M : Model} {prog : Program}

noncomputable abbrev ghEnv (w : World) (L : Nat) : Env := callEnvC (fdAt w 116) L 116
noncomputable def ghFor (w : World) : Stmt := (bodyAt w 116).getD 2 default
noncomputable def ghBody (w : World) : List Stmt := match ghFor w with | .For _ _ b _ _ => b | _ => []
noncomputable def ghIn (w : World) : Stmt := match (ghBody w).getD 2 default with | .If _ b _ _ => b.getD 0 default | _ => default
noncomputable def ghInB (w : World) : List Stmt := match ghIn w with | .For _ _ b _ _ => b | _ => []
theorem g_min (w : World) : nsIn (KK w) mainGlobals (Str.ofString "min") = some none := by kernel_rfl
theorem b_min : bootBuiltins (Str.ofString "min") = some (.builtin "min") := by kernel_rfl
theorem g_max (w : World) : nsIn (KK w) mainGlobals (Str.ofString "max") = some none := by kernel_rfl
theorem b_max : bootBuiltins (Str.ofString "max") = some (.builtin "max") := by kernel_rfl
theorem g_abs (w : World) : nsIn (KK w) mainGlobals (Str.ofString "abs") = some none := by kernel_rfl
theorem b_abs : bootBuiltins (Str.ofString "abs") = some (.builtin "abs") := by kernel_rfl

noncomputable def rowsG (sa pa k rw : Nat) (z : Int) (t u : Tok) : List (Str × Value) := [(Str.ofString "k", .int (k : Nat) t), (Str.ofString "number", .int z u), (Str.ofString "row", .ref rw), (Str.ofString "script", .ref sa), (Str.ofString "parents", .ref pa)]

theorem fmod_lt (x y : Int) (hy : 0 < y) : 0 ≤ x.fmod y ∧ x.fmod y < y := ⟨Int.fmod_nonneg_of_pos _ hy, Int.fmod_lt_of_pos _ hy⟩

theorem gh_turn {L sa pa rw k j m : Nat} {z : Int} {t u tj : Tok} {l : List (Str × Value)} {vs : Array Value} {ks : List Nat} {Q : Flow → Shared → Prop} (K : Ok w mg mb h) (hr : Rm A 3)
    (F : Fv h L ((Str.ofString "j", .int (j : Nat) tj) :: l)) (R : Rows l (rowsG sa pa k rw z t u)) (hk : 0 < k) (hk2 : k ≤ 10) (hj : j < 3) (_hL : 138 < L)
    (hl : IsL h rw vs m) (hi : Ints vs ks) (hks : ∀ p ∈ ks, p < k) (hlen : ks.length ≤ j)
    (hq : ∀ h' tk' l' vs' m' ks', Kx (W2' L rw) h h' → Fv h' L l' → Rows l' (rowsG sa pa k rw z t u) → IsL h' rw vs' m' → Ints vs' ks' → (∀ p ∈ ks', p < k) → ks'.length ≤ j + 1 → Q .next ⟨h', g, d, tk', os⟩) :
    wpAny (model PP w) A (execs (ghInB w) (ghEnv w L)) Q E ⟨h, g, d, tk, os⟩ := by
  refine wpAny_execs_cons (wpAny_Assign_Name ?_)
  refine wpAny_BinOp (wpAny_BinOp (nmF F (R.sub (Str.ofString "k") _ rfl) (cI fun t1 tk1 => bSub fun t2 tk2 => ?_)))
  refine wpAny_BinOp (wpAny_BinOp (wpAny_BinOp (nmF F (R.sub (Str.ofString "number") _ rfl) (cI fun t3 tk3 => bFd (by decide) (by decide) fun t4 tk4 => ?_))))
  refine wpAny_BinOp (cI fun t5 tk5 => nmF F rfl (bPow (by omega) (by decide) fun t6 tk6 => ?_))
  have h5 : (5 : Int) ^ j = 1 ∨ (5 : Int) ^ j = 5 ∨ (5 : Int) ^ j = 25 := by
    rcases (by omega : j = 0 ∨ j = 1 ∨ j = 2) with rfl | rfl | rfl <;> decide
  refine bFd (by rcases h5 with e | e | e <;> rw [e] <;> decide) (by rcases h5 with e | e | e <;> rw [e] <;> decide) fun t7 tk7 => ?_
  refine Call_ (nmB K (g_min w) b_min (by decide) (PyProof.Rows.callWith_builtin1 (args_cons (nmF F (R.sub (Str.ofString "k") _ rfl) (args_cons (cI fun t8 tk8 => args_nil (bMin hr.1 fun h₁ t9 tk9 k₁ => ?_)))))))
  refine bMod (by omega) fun t10 tk10 => bSub fun t11 tk11 => ?_
  generalize hx : ((z.fdiv 15).fdiv (5 ^ j)) = x
  have hf := fmod_lt x (min (k : Int) 5) (by omega)
  obtain ⟨p, hp, hpk⟩ : ∃ p : Nat, (k : Int) - 1 - x.fmod (min (k : Int) 5) = (p : Int) ∧ p < k := by
    refine ⟨((k : Int) - 1 - x.fmod (min (k : Int) 5)).toNat, ?_, ?_⟩ <;> omega
  rw [hp]
  have F₁ := F.keep k₁ id
  have K₁ := K.n k₁
  refine stF F₁ fun h₂ tk₂ F₂ k₂ => ?_
  have l₂ : IsL h₂ rw vs m := F₁.lst (k₁.kp _ _ hl) k₂
  refine wpAny_execs_cons (wpAny_If (wpAny_isTrue_Compare1 (nmF F₂ rfl (nmF F₂ (R.sub (Str.ofString "row") _ rfl) (notin_ints l₂ hi (wpAny_truthy_bool ?_))))))
  by_cases hm : p ∈ ks
  · simp only [hm, decide_true, Bool.not_true, Bool.false_eq_true, if_false]
    refine wpAny_execs_nil (wpAny_execs_nil ?_)
    exact hq _ _ _ _ _ _ (k₁.any.tr (k₂.mono fun b e => .inl (.inl e))) F₂ R l₂ hi hks (by omega)
  · simp only [hm, decide_false, Bool.not_false, if_true]
    refine wpAny_execs_cons (wpAny_Expr (MethodCall_ (nmF F₂ (R.sub (Str.ofString "row") _ rfl) ?_)))
    refine getMethod_list_of PySem.F.slot_list_append PySem.F.type_list_append l₂.isList ⟨_, l₂, rfl⟩ ?_
    refine callWith_method1 (args_cons (nmF F₂ rfl (args_nil ?_)))
    refine append_at l₂ (fun h₃ sb₃ ho₃ => ?_) (by rw [hi.1]; exact Nat.le_trans (by omega : ks.length ≤ 1000) (by decide))
    refine wpAny_execs_nil (wpAny_execs_nil ?_)
    have k₃ := Kx.of_same sb₃
    exact hq _ _ _ _ _ _ ((k₁.any.tr (k₂.mono fun b e => .inl (.inl e))).tr (k₃.mono fun b e => .inl (.inr e))) (F₂.keep k₃ (F₂.ne_seq l₂).symm) R ho₃ (hi.push ⟨_, rfl⟩)
      (fun q hq => (List.mem_append.mp hq).elim (hks q) fun hq => by rw [List.mem_singleton.mp hq]; exact hpk) (by rw [List.length_append]; simp; omega)

/- the loop's state -/
inductive GrS (L sa pa rw k : Nat) (z : Int) (t u : Tok) (g : Array GenState) (j : Nat) (hh : Heap) (gg : Array GenState) : Prop
  | mk (l : List (Str × Value)) (vs : Array Value) (m : Nat) (ks : List Nat) (e : gg = g) (F : Fv hh L l) (R : Rows l (rowsG sa pa k rw z t u)) (a : IsL hh rw vs m) (b : Ints vs ks) (c : ∀ p ∈ ks, p < k) (d : ks.length ≤ j) :
      GrS L sa pa rw k z t u g j hh gg
/- for j in range(1 + number // 5 % 3) -/
theorem gh_loop {L sa pa rw k m : Nat} {z : Int} {t u : Tok} {l : List (Str × Value)} {Q : Flow → Shared → Prop} (K : Ok w mg mb h) (hr : Rm A 4)
    (F : Fv h L l) (R : Rows l (rowsG sa pa k rw z t u)) (hk : 0 < k) (hk2 : k ≤ 10) (hL : 138 < L) (hrw : 138 < rw) (hl : IsL h rw #[] m)
    (hq : ∀ h' tk' l' vs' m' ks', Kx (W2' L rw) h h' → Fv h' L l' → Rows l' (rowsG sa pa k rw z t u) → IsL h' rw vs' m' → Ints vs' ks' → (∀ p ∈ ks', p < k) → ks'.length ≤ 3 → Q .next ⟨h', g, d, tk', os⟩) :
    wpAny (model PP w) A (exec (ghIn w) (ghEnv w L)) Q E ⟨h, g, d, tk, os⟩ := by
  refine for_range (d := d) (os := os) hr.1 ?_
  refine Call_ (nmB K (g_range w) b_range (by decide) (PyProof.Rows.callWith_type1 (args_cons ?_)))
  refine wpAny_BinOp (cI fun t1 tk1 => wpAny_BinOp (wpAny_BinOp (nmF F (R.sub (Str.ofString "number") _ rfl) (cI fun t2 tk2 => bFd (by decide) (by decide) fun t3 tk3 => ?_))))
  refine cI fun t4 tk4 => bMod (by decide) fun t5 tk5 => bAdd fun t6 tk6 => args_nil ?_
  have hf := fmod_lt (z.fdiv 5) 3 (by decide)
  obtain ⟨n, hn, hn3⟩ : ∃ n : Nat, 1 + (z.fdiv 5).fmod 3 = (n : Int) ∧ n ≤ 3 := ⟨(1 + (z.fdiv 5).fmod 3).toNat, by omega, by omega⟩
  rw [hn]
  refine nRange fun h₁ tk₁ tt uu vv k₁ r₁ => ?_
  have F₁ := F.keep k₁ id
  have l₁ := k₁.kp _ _ hl
  refine ⟨_, n, tt, uu, vv, h₁, tk₁, g, W2' L rw, GrS L sa pa rw k z t u g,
    rfl, rfl, r₁, by omega, ?_, ⟨l, #[], m, [], rfl, F₁, R, l₁, Enc.nil _, fun p hp => (nomatch hp), Nat.le_refl _⟩, ?_, ?_, ?_⟩
  · rintro b (rfl | rfl)
    · obtain ⟨_, ⟨o, _, _, ho, _⟩, _⟩ := F₁
      exact ⟨o, ho⟩
    · exact ⟨_, l₁⟩
  · rintro j hx hy gg kd xz
    refine hide fun Gz kz => ?_
    obtain ⟨l, vs, m, ks, e, F, R, hl, q1, q2, q3⟩ := xz
    refine kz ?_
    clear kz Gz
    exact ⟨l, vs, m, ks, e, kd.fv F, R, kd.lst hl, q1, q2, q3⟩
  · rintro j h₂ g₂ tk₂ tj Q' E' hj xz kP hQ
    refine hide fun Gz kz => ?_
    obtain ⟨l₂, vs₂, m₂, ks₂, rfl, F₂, R₂, hl₂, hi₂, hks₂, hle₂⟩ := xz
    refine kz ?_
    clear kz Gz
    have K₂ : Ok w mg mb h₂ := (K.n k₁).kx kP fun b e => .inr (.inr (by rcases e with e | e <;> rw [e] <;> assumption))
    refine wpAny_assign_Name (stF F₂ fun h₃ tk₃ F₃ k₃ => ?_)
    refine wpAny_mono (gh_turn (Q := fun fl s₃ => (fl = .next ∨ fl = .cont) ∧ Q' s₃) (K₂.l k₃ hL) (hr.less (by decide)) F₃ R₂ hk hk2 (by omega) hL (F₂.lst hl₂ k₃) hi₂ hks₂ hle₂
      fun h₄ tk₄ l₄ vs₄ m₄ ks₄ k₄ F₄ R₄ hl₄ hi₄ hks₄ hle₄ => ⟨.inl rfl, hQ _ _ _ ((k₃.mono fun b e => .inl (.inl e)).tr k₄) ⟨_, _, _, _, rfl, F₄, R₄, hl₄, hi₄, hks₄, hle₄⟩⟩) (fun _ _ q => q) fun _ _ e => e
  · rintro h₂ g₂ tk₂ kP xz
    refine hide fun Gz kz => ?_
    obtain ⟨l₂, vs₂, m₂, ks₂, rfl, F₂, R₂, hl₂, hi₂, hks₂, hle₂⟩ := xz
    refine kz ?_
    clear kz Gz
    exact hq _ _ _ _ _ _ (k₁.any.tr kP) F₂ R₂ hl₂ hi₂ hks₂ (by omega)
end
end Mine
end

section
open PySem PySem.W PyProof.Rows PySem.Spec PySem.Calls PySem.SeqAt
set_option maxRecDepth 100000
set_option maxHeartbeats 4000000
namespace Mine
section
variable {w : World} {mg mb : Str → Option Value} {A : Around} {E : Value → Shared → Prop} {s : Shared} {env : Env} {h : Heap} {g : Array GenState} {d : Drawn} {tk : Nat} {os : OsState} {M : Model} {prog : Program}

theorem onList {a m i : Nat} {vs : Array Value} {x : Value} {t : Tok} {Q : Value → Shared → Prop} (l : IsL s.heap a vs m) (hi : i ≤ 1000) (hx : vs[i]? = some x) (hq : Q x s) : ItemOn (model prog w) A E (.ref a) (.int (i : Nat) t) Q s :=
  ⟨"list", _, slot_list_getitem.lookup, l.isList.typeIs, wpAny_getItem_list l.isList (by (first | lia | omega)) (by (first | lia | omega)) (by simpa using hx) hq⟩

/- parents.append(row); stamps.append(..) -/
theorem gh_end {L sa pa sta rw k m mp ms : Nat} {z : Int} {t u : Tok} {l : List (Str × Value)} {vs us svs : Array Value} {ks : List Nat} {st : Nat → Nat} {Q : Flow → Shared → Prop} (K : Ok w mg mb h) (hr : Rm A 3)
    (F : Fv h L l) (R : Rows l (rowsG sa pa k rw z t u)) (c1 : h.IsCell (L + 1) (some (.ref sta))) (hk2 : k ≤ 10) (hrp : rw ≠ pa) (hps : pa ≠ sta) (hp138 : 138 < pa)
    (hl : IsL h rw vs m) (hi : Ints vs ks) (hks : ∀ p ∈ ks, p < k) (hlen : ks.length ≤ 3) (hp : IsL h pa us mp) (hpz : us.size = k) (hs : IsL h sta svs ms) (hsi : Ints svs ((List.range k).map st))
    (hq : ∀ h' tk' mx t', Kx (fun b => b = pa ∨ b = sta) h h' → IsL h' pa (us.push (.ref rw)) (mp + 1) → IsL h' sta (svs.push (.int ((mx : Nat) : Int) t')) (ms + 1) → (∀ p ∈ ks, st p < mx) → Q .next ⟨h', g, d, tk', os⟩) :
    wpAny (model PP w) A (execs ((ghBody w).drop 3) (ghEnv w L)) Q E ⟨h, g, d, tk, os⟩ := by
  have hss : svs.size = k := by rw [hsi.1]; simp
  refine wpAny_execs_cons (wpAny_Expr (MethodCall_ (nmF F (R.sub (Str.ofString "parents") _ rfl) ?_)))
  refine getMethod_list_of PySem.F.slot_list_append PySem.F.type_list_append hp.isList ⟨_, hp, rfl⟩ ?_
  refine callWith_method1 (args_cons (nmF F (R.sub (Str.ofString "row") _ rfl) (args_nil ?_)))
  refine append_at hp (fun h₁ sb₁ hp₁ => ?_) (Nat.le_trans (by (first | lia | omega) : us.size ≤ 1000) (by decide))
  have k₁ := Kx.of_same sb₁
  have F₁ := F.keep k₁ (F.ne_seq hp).symm
  have K₁ := K.l k₁ hp138
  have c1₁ : h₁.IsCell (L + 1) (some (.ref sta)) := by
    obtain ⟨o, ho, r⟩ := id c1
    exact ⟨o, k₁ _ (lst_cell hp c1).symm _ ho, r⟩
  have hl₁ : IsL h₁ rw vs m := k₁ _ hrp _ hl
  have hs₁ : IsL h₁ sta svs ms := k₁ _ (fun e => hps e.symm) _ hs
  refine wpAny_execs_cons (wpAny_Expr (MethodCall_ (nmV c1₁ ?_)))
  refine getMethod_list_of PySem.F.slot_list_append PySem.F.type_list_append hs₁.isList ⟨_, hs₁, rfl⟩ ?_
  refine callWith_method1 (args_cons ?_)
  show wpAny _ _ _ _ _ ⟨h₁, g, d, tk, os⟩
  refine wpAny_BinOp (wpAny_BinOp (cI fun t1 tk1 => wpAny_BinOp (wpAny_BinOp (nmF F₁ (R.sub (Str.ofString "number") _ rfl) (cI fun t2 tk2 => bFd (by decide) (by decide) fun t3 tk3 => ?_)))))
  refine cI fun t4 tk4 => bMod (by decide) fun t5 tk5 => bAdd fun t6 tk6 => ?_
  refine Call_ (nmB K₁ (g_max w) b_max (by decide) (PyProof.Rows.callWith_builtin1 (args_cons (wpAny_BinOp (List_ (args_cons (cI fun t7 tk7 => args_nil (nList (fun h₂ k₂ l₂ => ?_) (by simp [sizeLine_eq])))))))))
  have d₂ : h₁.get? h₁.objs.size = none := dead_size h₁
  generalize h₁.objs.size = z0 at *
  refine lcompL (ck := false) (g := g) (d := d) (os := os) ⟨rfl, by decide, fun _ => rfl, fun _ => rfl, fun _ => rfl⟩ rfl (fun i y _ => ∃ p, ks[i]? = some p ∧ PI y (st p)) (fun _ => true) hr.1 (fun _ _ _ _ e _ => e)
    (nmF (F₁.keep k₂ id) (R.sub (Str.ofString "row") _ rfl) ?_)
  refine ⟨rw, vs, m, h₂, tk7, rfl, rfl, k₂.kp _ _ hl₁, by rw [hi.1]; (first | lia | omega), fun C b i v h₃ tk₃ Q' E' hv T kk hQ => wpAny_tests_nil (hQ _ _ (Kx.refl _ _)), fun C b i v h₃ tk₃ Q' E' hv _ T kk hQ => ?_, fun Dl h₃ tk₃ ys m₃ hD k₃ l₃ CR => ?_⟩
  · obtain ⟨p, hp', t8, rfl⟩ := hi.at_ hv
    have hpk : p < k := hks p (List.mem_of_getElem? hp')
    have k13 : Kx none_ h₁ h₃ := k₂.tn kk
    obtain ⟨v, hv', pv⟩ := hsi.2 p (st p) (by simp [hpk])
    refine Subscript_Name (nmV (c1₁.keeps k13.kp) (T.name (onList (k13.kp _ _ hs₁) (by (first | lia | omega)) hv' ?_)))
    exact hQ _ _ _ (Kx.refl _ _) ⟨p, hp', pv⟩
  · have hys : Ints ys (ks.map st) := by
      have CR' := CR
      rw [hi.1] at CR'
      have := CR'.enc (P := PI) (p := fun _ => true) (f := st) (fun _ _ _ => rfl) fun i k' y hk' hy => by
        obtain ⟨p, e, q⟩ := hy
        rw [hk'] at e; cases e; exact q
      rwa [List.filter_eq_self.mpr fun _ _ => rfl] at this
    refine lAdd (k₃.kp _ _ l₂) l₃ (by rw [hys.1, List.length_map, List.size_toArray, sizeLine_eq]; simp only [List.length_cons, List.length_nil]; (first | lia | omega)) fun h₄ z4 k₄ l₄ d4 => args_nil ?_
    have hi4 : Ints ([Value.int 0 t7].toArray ++ ys) (0 :: ks.map st) := by
      refine ⟨by simp [hys.1, Nat.add_comm], fun i k' hk' => ?_⟩
      cases i with
      | zero =>
        simp only [List.getElem?_cons_zero, Option.some.injEq] at hk'
        subst hk'
        exact ⟨.int 0 t7, by rw [Array.getElem?_append_left (by simp)]; rfl, t7, rfl⟩
      | succ i =>
        rw [List.getElem?_cons_succ] at hk'
        obtain ⟨v, e, q⟩ := hys.2 i k' hk'
        refine ⟨v, ?_, q⟩
        rw [Array.getElem?_append_right (by simp)]
        simpa using e
    refine max_enc hr.1 l₄ hi4 (by simp) fun mx t9 h₅ tk₅ _ hmx k₅ => bAdd fun t10 tk10 => ?_
    have hf := fmod_lt (z.fdiv 1875) 3 (by decide)
    obtain ⟨v, hv, hlt⟩ : ∃ v : Nat, 1 + (z.fdiv 1875).fmod 3 + ((mx : Nat) : Int) = (v : Int) ∧ mx < v := ⟨(1 + (z.fdiv 1875).fmod 3 + ((mx : Nat) : Int)).toNat, by (first | lia | omega), by (first | lia | omega)⟩
    rw [hv]
    refine args_nil ?_
    have k15 : Kx none_ h₁ h₅ := ((k₂.tn k₃).tn k₄).tn k₅
    have hs₅ : IsL h₅ sta svs ms := k15.kp _ _ hs₁
    refine append_at hs₅ (fun h₆ sb₆ hs₆ => ?_) (Nat.le_trans (by (first | lia | omega) : svs.size ≤ 1000) (by decide))
    have k₆ := Kx.of_same sb₆
    refine wpAny_execs_nil ?_
    refine hq _ _ v t10 (((k₁.mono fun b e => .inl (.inl e)).tn k15).tr (k₆.mono fun b e => .inl (.inr e))) (k₆ _ hps _ (k15.kp _ _ hp₁)) hs₆ fun p hp' => ?_
    exact Nat.lt_of_le_of_lt (hmx (st p) (List.mem_cons_of_mem _ (List.mem_map_of_mem hp'))) hlt
end
end Mine
end

section
open PySem PySem.W PyProof.Rows PySem.Spec PySem.Calls PySem.SeqAt
set_option maxRecDepth 100000
set_option maxHeartbeats 4000000
namespace Mine
section
variable {w : World} {mg mb : Str → Option Value} {A : Around} {E : Value → Shared → Prop} {s : Shared} {env : Env} {h : Heap} {g : Array GenState} {d : Drawn} {tk : Nat} {os : OsState} {M : Model} {prog : Program}

noncomputable def AnyI (vs : Array Value) : Prop := ∀ (i : Nat) (x : Value), vs[i]? = some x → ∃ z t, x = .int z t
theorem onListS {a i : Nat} {vs : Array Value} {x : Value} {t : Tok} {Q : Value → Shared → Prop} (l : s.heap.IsList a vs) (hi : i ≤ 1000) (hx : vs[i]? = some x) (hq : Q x s) : ItemOn (model prog w) A E (.ref a) (.int (i : Nat) t) Q s :=
  ⟨"list", _, slot_list_getitem.lookup, l.typeIs, wpAny_getItem_list l (by (first | lia | omega)) (by (first | lia | omega)) (by simpa using hx) hq⟩
theorem IsList.k {h' : Heap} {a : Nat} {vs : Array Value} {P : Nat → Prop} (l : h.IsList a vs) (k : Kx P h h') (hP : ¬ P a) : h'.IsList a vs := let ⟨o, ho, r⟩ := l; ⟨o, k _ hP _ ho, r⟩

/- abs(script[i]) if i < len(script) else .. -/
theorem gh_num {L sa k : Nat} {t : Tok} {l : List (Str × Value)} {sv : Array Value} {Q : Value → Shared → Prop} (K : Ok w mg mb h) (F : Fv h L l) (R : Rows l [(Str.ofString "k", .int (k : Nat) t), (Str.ofString "script", .ref sa)])
    (hsc : h.IsList sa sv) (hsz : sv.size ≤ 63) (hsi : AnyI sv) (hk : k ≤ 10) (hq : ∀ z u tk', Q (.int z u) ⟨h, g, d, tk', os⟩) :
    wpAny (model PP w) A (eval (match (ghBody w).getD 0 default with | .Assign _ v _ => v | _ => default) (ghEnv w L)) Q E ⟨h, g, d, tk, os⟩ := by
  refine IfExp_ (wpAny_isTrue_Compare1 (wpAny_BinOp (cI fun t1 tk1 => nmF F (R.sub (Str.ofString "k") _ rfl) (bAdd fun t2 tk2 => ?_))))
  have e1 : (1 : Int) + (k : Nat) = ((1 + k : Nat) : Int) := by push_cast; rfl
  refine Call_ (nmB K (g_len w) b_len (by decide) (PyProof.Rows.callWith_builtin1 (args_cons (nmF F (R.sub (Str.ofString "script") _ rfl) (args_nil (len_list hsc (by (first | lia | omega)) ?_))))))
  refine PyProof.Rows.lt_int (wpAny_truthy_bool ?_)
  by_cases hlt : 1 + k < sv.size
  · rw [show decide ((1 : Int) + (k : Nat) < (sv.size : Int)) = true by rw [decide_eq_true_eq]; (first | lia | omega)]
    simp only [if_true]
    obtain ⟨z, u, hz⟩ := hsi (1 + k) sv[1 + k] (by simp [hlt])
    refine Call_ (nmB K (g_abs w) b_abs (by decide) (PyProof.Rows.callWith_builtin1 (args_cons (Subscript_BinOp (nmF F (R.sub (Str.ofString "script") _ rfl) (wpAny_BinOp (cI fun t3 tk3 => nmF F (R.sub (Str.ofString "k") _ rfl) (bAdd fun t4 tk4 => ?_))))))))
    rw [e1]
    refine onListS hsc (by (first | lia | omega)) (x := .int z u) (by rw [← hz]; simp [hlt]) (args_nil (bAbs fun t5 tk5 => hq _ _ _))
  · rw [show decide ((1 : Int) + (k : Nat) < (sv.size : Int)) = false by rw [decide_eq_false_iff_not]; (first | lia | omega)]
    simp only [Bool.false_eq_true, if_false]
    exact wpAny_BinOp (wpAny_BinOp (cI fun t3 tk3 => nmF F (R.sub (Str.ofString "k") _ rfl) (bMul (fun t4 tk4 => cI fun t5 tk5 => bAdd fun t6 tk6 => hq _ _ _) (by mul_fits))))

theorem gh_outer {L sa pa sta k mp ms : Nat} {t : Tok} {l : List (Str × Value)} {sv us svs : Array Value} {st : Nat → Nat} {Q : Flow → Shared → Prop} (K : Ok w mg mb h) (hr : Rm A 6)
    (F : Fv h L ((Str.ofString "k", .int (k : Nat) t) :: l)) (R : Rows l [(Str.ofString "script", .ref sa), (Str.ofString "parents", .ref pa)]) (hsc : h.IsList sa sv) (hsz : sv.size ≤ 63) (hsi : AnyI sv) (_nsa : sa ≠ L) (hL : 138 < L)
    (c1 : h.IsCell (L + 1) (some (.ref sta))) (hk2 : k ≤ 9) (hps : pa ≠ sta) (hp138 : 138 < pa)
    (hp : IsL h pa us mp) (hpz : us.size = k) (hs : IsL h sta svs ms) (hsv : Ints svs ((List.range k).map st))
    (hq : ∀ h' tk' l' rw vs m ks mx t', Kx (fun b => b = L ∨ b = pa ∨ b = sta) h h' → Fv h' L l' → Rows l' [(Str.ofString "script", .ref sa), (Str.ofString "parents", .ref pa)] → IsL h' pa (us.push (.ref rw)) (mp + 1) → IsL h' sta (svs.push (.int ((mx : Nat) : Int) t')) (ms + 1) →
      rw ≠ pa → rw ≠ sta → IsL h' rw vs m → Ints vs ks → (∀ p ∈ ks, p < k) → ks.length ≤ 3 → (∀ p ∈ ks, st p < mx) → h.get? rw = none → Q .next ⟨h', g, d, tk', os⟩) :
    wpAny (model PP w) A (execs (ghBody w) (ghEnv w L)) Q E ⟨h, g, d, tk, os⟩ := by
  refine wpAny_execs_cons (wpAny_Assign_Name (gh_num K F ⟨rfl, R.1, trivial⟩ hsc hsz hsi (by (first | lia | omega)) fun z u tk₁ => ?_))
  refine stF F fun h₂ tk₂ F₂ k₂ => ?_
  have K₂ := K.l k₂ hL
  refine wpAny_execs_cons (wpAny_Assign_Name (List_ (args_nil (nList (fun h₃ k₃ l₃ => ?_) (Nat.zero_le _)))))
  have d₃ : h₂.get? h₂.objs.size = none := dead_size h₂
  have b₃ : 138 < h₂.objs.size := K₂.sz
  generalize h₂.objs.size = rw at *
  have F₃ := F₂.keep k₃ id
  have nLr : L ≠ rw := F₂.ne d₃
  refine stF F₃ fun h₄ tk₄ F₄ k₄ => ?_
  have K₄ := (K₂.n k₃).l k₄ hL
  have l₄ : IsL h₄ rw #[] 0 := F₃.lst l₃ k₄
  have kL4 : Kx (· = L) h h₄ := (k₂.tn k₃).tr k₄
  have hp₄ : IsL h₄ pa us mp := F.lst hp kL4
  have hs₄ : IsL h₄ sta svs ms := F.lst hs kL4
  have hpr : rw ≠ pa := (ne_dead d₃ (F.lst hp k₂)).symm
  have hsr : rw ≠ sta := (ne_dead d₃ (F.lst hs k₂)).symm
  have c1₄ : h₄.IsCell (L + 1) (some (.ref sta)) := by
    obtain ⟨o, ho, r⟩ := id c1
    exact ⟨o, kL4 _ (by (first | lia | omega)) _ ho, r⟩
  have hdr : h.get? rw = none := k₂.dead d₃ (fun e => nLr e.symm)
  have R₄ : Rows ((Str.ofString "row", .ref rw) :: (Str.ofString "number", .int z u) :: (Str.ofString "k", .int (k : Nat) t) :: l) (rowsG sa pa k rw z t u) := ⟨rfl, rfl, rfl, R.1, R.2.1, trivial⟩
  refine wpAny_execs_cons (wpAny_mono (Q := fun fl s => fl = .next ∧ ∃ h' tk' l' vs m ks, s = ⟨h', g, d, tk', os⟩ ∧ Kx (fun b => b = L ∨ b = rw) h₄ h' ∧ Fv h' L l' ∧ Rows l' (rowsG sa pa k rw z t u) ∧ IsL h' rw vs m ∧ Ints vs ks ∧ (∀ p ∈ ks, p < k) ∧ ks.length ≤ 3) ?_ ?_ fun _ _ e => e)
  · refine wpAny_If (isTrue_and (wpAny_isTrue_Compare1 (nmF F₄ (R₄.sub (Str.ofString "k") _ rfl) (cI fun t1 tk1 => PyProof.Rows.gt_int (wpAny_truthy_bool ?_)))))
    have none' : ∀ tk', (Flow.next = .next ∧ ∃ h' tk'' l' vs m ks, (⟨h₄, g, d, tk', os⟩ : Shared) = ⟨h', g, d, tk'', os⟩ ∧ Kx (fun b => b = L ∨ b = rw) h₄ h' ∧ Fv h' L l' ∧ Rows l' (rowsG sa pa k rw z t u) ∧ IsL h' rw vs m ∧ Ints vs ks ∧ (∀ p ∈ ks, p < k) ∧ ks.length ≤ 3) :=
      fun tk' => ⟨rfl, h₄, tk', _, #[], 0, [], rfl, (Kx.refl none_ _).any, F₄, R₄, l₄, Enc.nil _, fun p hp => (nomatch hp), Nat.zero_le _⟩
    by_cases hk0 : 0 < k
    · rw [show decide ((0 : Int) < ((k : Nat) : Int)) = true by rw [decide_eq_true_eq]; (first | lia | omega)]
      simp only [if_true]
      refine isTrue_and (wpAny_isTrue_Compare1 (wpAny_BinOp (nmF F₄ (R₄.sub (Str.ofString "number") _ rfl) (cI fun t2 tk2 => bMod (by decide) fun t3 tk3 => cI fun t4 tk4 => PyProof.Rows.gt_int (wpAny_truthy_bool ?_)))))
      by_cases hz : (0 : Int) < z.fmod 5
      · rw [show decide ((0 : Int) < z.fmod 5) = true by rw [decide_eq_true_eq]; exact hz]
        simp only [if_true]
        refine isTrue_and_nil ?_
        simp only [if_true]
        refine wpAny_execs_cons (gh_loop K₄ (hr.less (by decide)) F₄ R₄ hk0 (by (first | lia | omega)) hL b₃ l₄ fun h' tk' l' vs m ks kk F' R' l'' i' hk' hl' => wpAny_execs_nil ?_)
        exact ⟨rfl, h', tk', l', vs, m, ks, rfl, kk, F', R', l'', i', hk', hl'⟩
      · rw [show decide ((0 : Int) < z.fmod 5) = false by rw [decide_eq_false_iff_not]; exact hz]
        simp only [Bool.false_eq_true, if_false]
        exact wpAny_execs_nil (none' _)
    · rw [show decide ((0 : Int) < ((k : Nat) : Int)) = false by rw [decide_eq_false_iff_not]; (first | lia | omega)]
      simp only [Bool.false_eq_true, if_false]
      exact wpAny_execs_nil (none' _)
  · rintro _ _ xz
    refine hide fun Gz kz => ?_
    obtain ⟨rfl, h₅, tk₅, l₅, vs, m, ks, rfl, k₅, F₅, R₅, hl₅, hi₅, hks, hlen⟩ := xz
    refine kz ?_
    clear kz Gz
    have hp₅ : IsL h₅ pa us mp := k₅ _ (fun e => e.elim (F.ne_seq hp) fun e => hpr e.symm) _ hp₄
    have hs₅ : IsL h₅ sta svs ms := k₅ _ (fun e => e.elim (F.ne_seq hs) fun e => hsr e.symm) _ hs₄
    have c1₅ : h₅.IsCell (L + 1) (some (.ref sta)) := by
      obtain ⟨o, ho, r⟩ := id c1₄
      exact ⟨o, k₅ _ (fun e => e.elim (by (first | lia | omega)) fun e => (lst_cell l₄ c1₄) e.symm) _ ho, r⟩
    have K₅ : Ok w mg mb h₅ := K₄.kx k₅ fun b e => .inr (.inr (by rcases e with e | e <;> rw [e] <;> assumption))
    refine gh_end K₅ (hr.less (by decide)) F₅ R₅ c1₅ (by (first | lia | omega)) hpr hps hp138 hl₅ hi₅ hks hlen hp₅ hpz hs₅ hsv fun h₆ tk₆ mx t' k₆ hp₆ hs₆ hmx => ?_
    have kk : Kx (fun b => b = L ∨ b = rw ∨ b = pa ∨ b = sta) h h₆ := ((kL4.mono fun b e => .inl (.inl e)).tr (k₅.mono fun b e => .inl (e.elim .inl fun e => .inr (.inl e)))).tr (k₆.mono fun b e => .inl (.inr (.inr e)))
    have nL6 : ¬ (L = pa ∨ L = sta) := fun e => e.elim (fun e => F.ne_seq hp e.symm) fun e => F.ne_seq hs e.symm
    exact hq _ _ _ rw vs m ks mx t' (kk.mono fun b e => by rcases e with e | e | e | e; exact .inl (.inl e); exact .inr (e ▸ hdr); exact .inl (.inr (.inl e)); exact .inl (.inr (.inr e))) (F₅.keep k₆ nL6) ⟨R₅.2.2.2.1, R₅.2.2.2.2.1, trivial⟩ hp₆ hs₆ hpr hsr
      (k₆ _ (fun e => e.elim hpr hsr) _ hl₅) hi₅ hks hlen hmx hdr
end
end Mine
end

section
open PySem PySem.W PyProof.Rows PySem.Spec PySem.Calls PySem.SeqAt
set_option maxRecDepth 100000
set_option maxHeartbeats 4000000
namespace Mine
section
variable {w : World} {mg mb : Str → Option Value} {A : Around} {E : Value → Shared → Prop} {s : Shared} {env : Env} {h : Heap} {g : Array GenState} {d : Drawn} {tk : Nat} {os : OsState} {M : Model} {prog : Program}

/- what holds of the graph -/
structure Gp (par : Nat → List Nat) (st : Nat → Nat) (j : Nat) : Prop where
  p : ∀ k, ∀ p ∈ par k, p < k
  s : ∀ k, ∀ p ∈ par k, st p < st k
  l : ∀ k, (par k).length ≤ 3
  z : ∀ k, j ≤ k → par k = []
theorem Gp.zero : Gp (fun _ => []) (fun _ => 0) 0 := ⟨fun _ _ h => (nomatch h), fun _ _ h => (nomatch h), fun _ => Nat.zero_le _, fun _ _ => rfl⟩
theorem Gp.step {par : Nat → List Nat} {st : Nat → Nat} {j mx : Nat} {ks : List Nat} (G : Gp par st j) (hks : ∀ p ∈ ks, p < j) (hl : ks.length ≤ 3) (hm : ∀ p ∈ ks, st p < mx) :
    Gp (fun i => if i = j then ks else par i) (fun i => if i = j then mx else st i) (j + 1) := by
  refine ⟨fun k p hp => ?_, fun k p hp => ?_, fun k => ?_, fun k hk => ?_⟩
  · split at hp
    · rename_i e; subst e; exact hks p hp
    · exact G.p k p hp
  · split at hp
    · rename_i e
      subst e
      have := hks p hp
      rw [if_pos rfl, if_neg (by (first | lia | omega))]
      exact hm p hp
    · rename_i e
      have hpk := G.p k p hp
      have : p ≠ j := fun e' => by
        have := G.z k (by (first | lia | omega))
        rw [this] at hp; cases hp
      rw [if_neg this, if_neg e]
      exact G.s k p hp
  · split
    · exact hl
    · exact G.l k
  · rw [if_neg (by (first | lia | omega))]
    exact G.z k (by (first | lia | omega))

theorem map_upd (st : Nat → Nat) (j mx : Nat) : (List.range j).map (fun i => if i = j then mx else st i) = (List.range j).map st :=
  List.map_congr_left fun i hi => if_neg (by have := List.mem_range.mp hi; (first | lia | omega))

/- the loop's state -/
inductive GhS (L sa pa sta : Nat) (g : Array GenState) (j : Nat) (hh : Heap) (gg : Array GenState) : Prop
  | mk (l : List (Str × Value)) (par : Nat → List Nat) (st : Nat → Nat) (vs : Array Value) (m : Nat) (e : gg = g) (F : Fv hh L l)
      (R : Rows l [(Str.ofString "script", .ref sa), (Str.ofString "parents", .ref pa)]) (f : Fc hh pa j par)
      (ne : ∀ i < j, ∀ us m, IsL hh pa us m → us[i]? ≠ some (.ref sta)) (lv : IsL hh sta vs m) (iv : Ints vs ((List.range j).map st)) (G : Gp par st j) : GhS L sa pa sta g j hh gg

theorem law_graph {sa : Nat} {sv : Array Value} {Q : Value → Shared → Prop} (K : Ok w mg mb h) (hr : Rm A 8) (hsc : h.IsList sa sv) (hsz : sv.size ≤ 63) (hsi : AnyI sv)
    (hq : ∀ h' tk' a pa sta n par st, Kx none_ h h' → IsT h' a [.ref pa, .ref sta] → 2 ≤ n → n ≤ 10 → Fb h' pa n par → (∃ vs m, IsL h' sta vs m ∧ Ints vs ((List.range n).map st)) → Gp par st n → h.get? a = none → Q (.ref a) ⟨h', g, d, tk', os⟩) :
    wpAny (model PP w) A (call (.ref 116) [.ref sa]) Q E ⟨h, g, d, tk, os⟩ := by
  refine callFCe [(Str.ofString "script", .ref sa)] [(Str.ofString "script", .ref sa)] K hr (by kernel_rfl) (fun L => ⟨rfl, trivial⟩) (fun L x hx => .inl ?_) fun L h₁ tk₁ hL hL' k₁ F₁ hc₁ K₁ hr₁ => ?_
  · simp only [List.mem_cons, List.not_mem_nil, or_false] at hx
    subst hx
    kernel_rfl
  have c1 : h₁.IsCell (L + 1) none := (hc₁ (Str.ofString "stamps") (L + 1) rfl).1
  have dc1 : h.get? (L + 1) = none := (hc₁ (Str.ofString "stamps") (L + 1) rfl).2.1
  have R₁ : Rows [(Str.ofString "script", .ref sa)] [(Str.ofString "script", .ref sa)] := ⟨rfl, trivial⟩
  have nsaL : sa ≠ L := fun e => by obtain ⟨o, ho, _⟩ := hsc; rw [e, hL] at ho; cases ho
  refine wpAny_execs_cons (wpAny_Assign_Name (List_ (args_nil (nList (fun h₂ k₂ l₂ => ?_) (Nat.zero_le _)))))
  have d₂ : h₁.get? h₁.objs.size = none := dead_size h₁
  have b₂ : 138 < h₁.objs.size := K₁.sz
  generalize h₁.objs.size = pa at *
  have F₂ := F₁.keep k₂ id
  refine stF F₂ fun h₃ tk₃ F₃ k₃ => ?_
  have K₃ := (K₁.n k₂).l k₃ hL'
  refine wpAny_execs_cons (wpAny_Assign_Name (List_ (args_nil (nList (fun h₄ k₄ l₄ => ?_) (Nat.zero_le _)))))
  have d₄ : h₃.get? h₃.objs.size = none := dead_size h₃
  have b₄ : 138 < h₃.objs.size := K₃.sz
  generalize h₃.objs.size = sta at *
  have c1₃ : h₃.IsCell (L + 1) none := by
    obtain ⟨o, ho, r⟩ := c1
    exact ⟨o, k₃ _ (by (first | lia | omega)) _ (k₂.kp _ _ ho), r⟩
  have lp₃ : IsL h₃ pa #[] 0 := F₂.lst l₂ k₃
  have hps : pa ≠ sta := ne_dead d₄ lp₃
  have nc : L + 1 ≠ sta := by obtain ⟨o, ho, _⟩ := c1₃; exact ne_dead d₄ ho
  have ncp : L + 1 ≠ pa := by obtain ⟨o, ho, _⟩ := c1; exact ne_dead d₂ ho
  refine stC (c1₃.keeps k₄.kp) fun h₅ c1₅ k₅ => ?_
  have F₅ := (F₃.keep k₄ id).keep k₅ (by (first | lia | omega))
  have lp₅ : IsL h₅ pa #[] 0 := k₅ _ (fun e => ncp e.symm) _ (k₄.kp _ _ lp₃)
  have ls₅ : IsL h₅ sta #[] 0 := k₅ _ (fun e => nc e.symm) _ l₄
  have kk₅ : Kx none_ h h₅ := ((((k₁.tn k₂).t1 k₃ hL).tn k₄).t1 k₅ dc1)
  have K₅ : Ok w mg mb h₅ := K.n kk₅
  have dpa : h.get? pa = none := k₁.dead0 d₂
  have dsta : h.get? sta = none := ((k₁.tn k₂).t1 k₃ hL).dead0 d₄
  have hsc₅ : h₅.IsList sa sv := IsList.k hsc kk₅ id
  have R₅ : Rows ((Str.ofString "parents", Value.ref pa) :: [(Str.ofString "script", .ref sa)]) [(Str.ofString "script", .ref sa), (Str.ofString "parents", .ref pa)] := ⟨rfl, rfl, trivial⟩
  refine wpAny_execs_cons (for_range (d := d) (os := os) hr₁.1 ?_)
  refine Call_ (nmB K₅ (g_range w) b_range (by decide) (PyProof.Rows.callWith_type1 (args_cons (wpAny_BinOp (cI fun t1 tk1 => ?_)))))
  refine wpAny_mono (Q := fun v s => ∃ n t tk', v = .int ((n : Nat) : Int) t ∧ n ≤ 8 ∧ s = ⟨h₅, g, d, tk', os⟩) ?_ ?_ fun _ _ e => e
  · refine IfExp_ (isTrue_plain (nmF F₅ rfl (wpAny_truthy_list hsc₅ (by (first | lia | omega)) ?_)))
    by_cases h0 : sv.isEmpty = true
    · rw [h0]
      simp only [Bool.not_true, Bool.false_eq_true, if_false]
      exact cI fun t2 tk2 => ⟨3, t2, tk2, rfl, by decide, rfl⟩
    · rw [show sv.isEmpty = false by simpa using h0]
      simp only [Bool.not_false, if_true]
      have hpos : 0 < sv.size := by
        rcases Nat.eq_zero_or_pos sv.size with e | e
        · exact absurd (by simpa [Array.isEmpty_iff_size_eq_zero] using e) h0
        · exact e
      obtain ⟨z, u, hz⟩ := hsi 0 sv[0] (by simp [hpos])
      refine wpAny_BinOp (Call_ (nmB K₅ (g_abs w) b_abs (by decide) (PyProof.Rows.callWith_builtin1 (args_cons (Subscript_Constant (nmF F₅ rfl (cI fun t3 tk3 => ?_)))))))
      refine onListS (i := 0) hsc₅ (by decide) (x := .int z u) (by rw [← hz]; simp [hpos]) (args_nil (bAbs fun t5 tk5 => cI fun t6 tk6 => bMod (by decide) fun t7 tk7 => ?_))
      have hf := fmod_lt (if z < 0 then -z else z) 9 (by decide)
      exact ⟨((if z < 0 then -z else z).fmod 9).toNat, t7, tk7, by rw [Int.toNat_of_nonneg hf.1], by (first | lia | omega), rfl⟩
  rintro _ _ xz
  refine hide fun Gz kz => ?_
  obtain ⟨n0, t2, tk2, rfl, hn0, rfl⟩ := xz
  refine kz ?_
  clear kz Gz
  refine bAdd fun t3 tk3 => args_nil ?_
  rw [show (2 : Int) + (n0 : Nat) = ((2 + n0 : Nat) : Int) by push_cast; rfl]
  refine nRange fun h₆ tk₆ tt uu vv k₆ r₆ => ?_
  have F₆ := F₅.keep k₆ id
  have P0 : ∀ b, P3 L pa sta b → ∃ o, h₆.get? b = some o := by
    rintro b (rfl | rfl | rfl)
    · obtain ⟨_, ⟨o, _, _, ho, _⟩, _⟩ := F₆
      exact ⟨o, ho⟩
    · exact ⟨_, k₆.kp _ _ lp₅⟩
    · exact ⟨_, k₆.kp _ _ ls₅⟩
  have stay : ∀ {hx : Heap}, Kx (P3 L pa sta) h₆ hx → Kx none_ h hx := fun {hx} k =>
    (kk₅.tn k₆).trans k fun b e => .inr (by rcases e with e | e | e <;> subst e <;> assumption)
  refine ⟨_, 2 + n0, tt, uu, vv, h₆, tk₆, g, P3 L pa sta, GhS L sa pa sta g,
    rfl, rfl, r₆, by (first | lia | omega), P0, ⟨_, _, _, _, _, rfl, F₆, R₅, .nil _ (k₆.kp _ _ lp₅), fun i hi => absurd hi (Nat.not_lt_zero _), k₆.kp _ _ ls₅, Enc.nil _, Gp.zero⟩, ?_, ?_, ?_⟩
  · rintro j hx hy gg kd xz
    refine hide fun Gz kz => ?_
    obtain ⟨l, par, st, vs, m, e, F, R, f, ne, lv, iv, G⟩ := xz
    refine kz ?_
    clear kz Gz
    refine hide fun Gz kz => ?_
    obtain ⟨us, m', lu, eu, r⟩ := id f
    refine kz ?_
    clear kz Gz
    refine ⟨l, par, st, vs, m, e, kd.fv F, R, kd.fc f, fun i hi us' m'' lu' => ?_, kd.lst lv, iv, G⟩
    have h2 := (kd.lst lu).symm.trans lu'
    cases h2
    exact ne i hi _ _ lu
  · rintro j h₇ g₇ tk₇ t Q' E' hj xz kP hQ
    refine hide fun Gz kz => ?_
    obtain ⟨l₇, par, st, vs, mv, rfl, F₇, R₇, ⟨us, m, lu, eu, ru⟩, ne, lv, iv, G⟩ := xz
    refine kz ?_
    clear kz Gz
    have K₇ : Ok w mg mb h₇ := K.n (stay kP)
    have c1₇ : h₇.IsCell (L + 1) (some (.ref sta)) := by
      obtain ⟨o, ho, r⟩ := c1₅
      exact ⟨o, kP _ (fun e => by rcases e with e | e | e; (first | lia | omega); exact ncp e; exact nc e) _ (k₆.kp _ _ ho), r⟩
    refine wpAny_assign_Name (stF F₇ fun h₈ tk₈ F₈ k₈ => ?_)
    have c1₈ : h₈.IsCell (L + 1) (some (.ref sta)) := by
      obtain ⟨o, ho, r⟩ := c1₇
      exact ⟨o, k₈ _ (by (first | lia | omega)) _ ho, r⟩
    refine wpAny_mono (gh_outer (Q := fun fl s₃ => (fl = .next ∨ fl = .cont) ∧ Q' s₃) (K₇.l k₈ hL') (hr₁.less (by decide)) F₈ R₇ (IsList.k hsc ((stay kP).t1 k₈ hL) id) hsz hsi nsaL hL' c1₈ (by (first | lia | omega)) hps b₂ (F₇.lst lu k₈) eu (F₇.lst lv k₈) iv
      fun h₉ tk₉ l₉ rw vs₉ m₉ ks mx t' k₉ F₉ R₉ lp₉ ls₉ hrp hrs lr ir hks hlen hmx hdr => ⟨.inl rfl, hQ _ _ _ ((k₈.mono fun b e => .inl (.inl e)).tr k₉) ⟨l₉, fun i => if i = j then ks else par i, fun i => if i = j then mx else st i, _, _, rfl, F₉, R₉, ⟨_, _, lp₉, by rw [Array.size_push, eu], fun i hi => ?_⟩, fun i hi us' m' lu' => ?_, ls₉, ?_, G.step hks hlen hmx⟩⟩) (fun _ _ q => q) fun _ _ e => e
    · by_cases e : i = j
      · refine ⟨rw, vs₉, m₉, by rw [Array.getElem?_push, if_pos (e.trans eu.symm)], hrp, lr, ?_⟩
        show Ints vs₉ (if i = j then ks else par i)
        rw [if_pos e]; exact ir
      · refine hide fun Gz kz => ?_
        obtain ⟨b', vs', m', e1, e0, e2, e3⟩ := ru i (by (first | lia | omega))
        refine kz ?_
        clear kz Gz
        refine ⟨b', vs', m', by rw [Array.getElem?_push, if_neg (by (first | lia | omega))]; exact e1, e0, k₉ _ (fun e4 => ?_) _ (F₇.lst e2 k₈), ?_⟩
        · rcases e4 with e4 | e4 | e4
          · exact F₇.ne_seq e2 e4
          · exact e0 e4
          · exact ne i (by (first | lia | omega)) _ _ lu (by rw [e1, e4])
        · show Ints vs' (if i = j then ks else par i)
          rw [if_neg e]; exact e3
    · have h2 := lp₉.symm.trans lu'
      cases h2
      by_cases e : i = j
      · rw [Array.getElem?_push, if_pos (e.trans eu.symm)]
        intro h3
        cases h3
        exact hrs rfl
      · rw [Array.getElem?_push, if_neg (by (first | lia | omega))]
        exact ne i (by (first | lia | omega)) _ _ lu
    · rw [List.range_succ, List.map_append, map_upd]
      refine iv.push ⟨t', ?_⟩
      simp
  · rintro h₇ g₇ tk₇ kP xz
    refine hide fun Gz kz => ?_
    obtain ⟨l₇, par, st, vs, m, rfl, F₇, R₇, f, ne, lv, iv, G⟩ := xz
    refine kz ?_
    clear kz Gz
    have c1₇ : h₇.IsCell (L + 1) (some (.ref sta)) := by
      obtain ⟨o, ho, r⟩ := c1₅
      exact ⟨o, kP _ (fun e => by rcases e with e | e | e; (first | lia | omega); exact ncp e; exact nc e) _ (k₆.kp _ _ ho), r⟩
    refine wpAny_execs_cons (wpAny_Return_some (Tuple_ (args_cons (nmF F₇ (R₇.sub (Str.ofString "parents") _ rfl) (args_cons (nmV c1₇ (args_nil (nTup (fun h₈ k₈ t₈ => ?_) (by simp [sizeLine_eq]))))))))) 
    exact hq _ _ _ _ _ _ _ _ ((stay kP).tn k₈) t₈ (by (first | lia | omega)) (by (first | lia | omega)) (f.fb.n k₈) ⟨vs, m, k₈.kp _ _ lv, iv⟩ G ((stay kP).dead0 (dead_size h₇))
end
end Mine
end

section
open PySem PySem.W PyProof.Rows PySem.Spec PySem.Calls PySem.SeqAt
set_option maxRecDepth 100000
set_option maxHeartbeats 4000000
namespace Mine
section
variable {w : World} {mg mb : Str → Option Value} {A : Around} {E : Value → Shared → Prop} {s : Shared} {env : Env} {h : Heap} {g : Array GenState} {d : Drawn} {tk : Nat} {os : OsState} {M : Model} {prog : Program}

noncomputable abbrev fbEnv (w : World) (L : Nat) : Env := callEnvC (fdAt w 121) L 121
noncomputable def fbFor (w : World) : Stmt := (bodyAt w 121).getD 1 default
noncomputable def fbBody (w : World) : List Stmt := match fbFor w with | .For _ _ b _ _ => b | _ => []

noncomputable def fbRow (par fb : Nat → List Nat) (k : Nat) : List Nat := (List.range (k + 1)).filter fun j => decide (j = k) || decide ((par k).filter (fun p => decide (j ∈ fb p)) ≠ [])
theorem fbRow_up {par fb : Nat → List Nat} {k : Nat} (hp : ∀ k, ∀ p ∈ par k, p < k) (hf : ∀ i < k, ∀ j, j ∈ fb i ↔ Up par j i) (j : Nat) : j ∈ fbRow par fb k ↔ Up par j k := by
  unfold fbRow
  rw [List.mem_filter, List.mem_range]
  simp only [Bool.or_eq_true, decide_eq_true_eq, ne_eq, List.filter_eq_nil_iff, Classical.not_forall, Classical.not_not, exists_prop]
  constructor
  · rintro ⟨_, rfl | ⟨p, hpp, hj⟩⟩
    · exact .refl _
    · exact .step hpp ((hf p (hp _ _ hpp) j).mp hj)
  · intro hu
    cases hu with
    | refl => exact ⟨Nat.lt_succ_self _, .inl rfl⟩
    | @step _ p hpp hu =>
      have hle : j ≤ p := by
        clear hpp
        induction hu with
        | refl => exact Nat.le_refl _
        | step h _ ih => exact Nat.le_trans ih (Nat.le_of_lt (hp _ _ h))
      have := hp _ _ hpp
      exact ⟨by (first | lia | omega), .inr ⟨p, hpp, (hf p this j).mpr hu⟩⟩

theorem fb_turn {L pa fa n k m : Nat} {t : Tok} {par fb : Nat → List Nat} {us : Array Value} {l : List (Str × Value)} {Q : Flow → Shared → Prop} (K : Ok w mg mb h) (hr : Rm A 3) (_hL : 138 < L)
    (F : Fv h L l) (c1 : h.IsCell (L + 1) (some (.ref pa))) (c2 : h.IsCell (L + 2) (some (.ref fa))) (c3 : h.IsCell (L + 3) (some (.int (k : Nat) t))) (X : Fb h pa n par) (hn : n ≤ 10) (hk : k < n) (hp : ∀ k, ∀ p ∈ par k, p < k) (hpl : ∀ k, (par k).length ≤ 10)
    (hfa : IsL h fa us m) (hus : us.size = k) (hfb : ∀ i < k, ∃ b vs m', us[i]? = some (.ref b) ∧ IsL h b vs m' ∧ Ints vs (fb i))
    (hq : ∀ h' tk' l' b, Kx (fun b => b = L ∨ b = fa) h h' → Fv h' L l' → IsL h' fa (us.push (.ref b)) (m + 1) → (b ≠ fa ∧ ∃ vs m', IsL h' b vs m' ∧ Ints vs (fbRow par fb k)) → Q .next ⟨h', g, d, tk', os⟩) :
    wpAny (model PP w) A (execs (fbBody w) (fbEnv w L)) Q E ⟨h, g, d, tk, os⟩ := by
  refine wpAny_execs_cons ?_
  refine lassR (ck := true) (L := L) (g := g) (d := d) (os := os) rfl ⟨rfl, by decide, fun _ => rfl, fun _ => rfl, fun _ => rfl⟩ rfl (fun i y _ => PI y i)
    (fun j => decide (j = k) || decide ((par k).filter (fun p => decide (j ∈ fb p)) ≠ [])) hr.1 (fun _ _ _ _ e _ => e) ?_
  refine Call_ (nmB K (g_range w) b_range (by decide) (PyProof.Rows.callWith_type1 (args_cons (wpAny_BinOp (nmV c3 (cI fun t₁ tk₁ => bAdd fun t₂ tk₂ => args_nil ?_))))))
  show wpAny _ _ (call (.type "range") [.int ((k + 1 : Nat) : Int) t₂]) _ _ _
  refine nRange fun h₁ tk₃ tt uu vv k₁ r₁ => ?_
  refine ⟨_, 0, _, tt, uu, vv, k + 1, h₁, tk₃, rfl, rfl, r₁, small0 _ (by (first | lia | omega)), size0 _, by (first | lia | omega), fun C b j v h₂ tk₂ Q' E' hj hv T kk hQ => ?_, fun C b i v h₂ tk₂ Q' E' hi hv _ T kk hQ => ?_, l, F.keep k₁ id, fun Dl h₂ tk₂ ys m₂ hD k₂ F₂ l₂ CR => ?_⟩
  · obtain ⟨t₄, rfl⟩ := hv
    rw [Int.zero_add] at T
    have cj : h₂.IsCell (C + 1) (some (.int ((j : Nat) : Int) t₄)) := T.cell rfl rfl
    have k₂ : Kx none_ h h₂ := k₁.tn kk
    refine wpAny_tests_one (isTrue_or (wpAny_isTrue_Compare1 (nmV cj (nmV (c3.keeps k₂.kp) (eqN (wpAny_truthy_bool ?_))))))
    by_cases hjk : j = k
    · rw [if_pos (by simpa using hjk)]
      have := hQ h₂ tk₂ (Kx.refl _ _)
      rw [show (decide (j = k) || decide ((par k).filter (fun p => decide (j ∈ fb p)) ≠ [])) = true by simp [hjk]] at this
      exact this
    · rw [if_neg (by simpa using hjk)]
      refine isTrue_or (wpAny_isTrue_Compare1 ?_)
      refine lcompL (ck := false) (g := g) (d := d) (os := os) ⟨rfl, by decide, fun _ => rfl, fun _ => rfl, fun _ => rfl⟩ rfl (fun i y _ => True)
        (fun i => match (par k)[i]? with | some p => decide (j ∈ fb p) | none => false) hr.1 (fun _ _ _ _ e _ => e) ?_
      refine subFb (X.n k₂) hk (by (first | lia | omega)) (fun q => nmV (c1.keeps k₂.kp) q) (fun q => nmV (c3.keeps k₂.kp) q) fun pb pvs pm pl pi => ?_
      refine ⟨pb, pvs, pm, h₂, tk₂, rfl, rfl, pl, by rw [pi.1]; exact Nat.le_trans (hpl k) (by decide), fun C₂ b₂ i₂ v₂ h₃ tk₃ Q₂ E₂ hv₂ T₂ kk₂ hQ₂ => ?_, fun C₂ b₂ i₂ v₂ h₃ tk₃ Q₂ E₂ hv₂ _ T₂ kk₂ hQ₂ => T₂.name (hQ₂ _ _ _ (Kx.refl _ _) trivial), fun Dl h' tk' ys m' hD k' l' CR => ?_⟩
      · refine hide fun Gz kz => ?_
        obtain ⟨p, hpp, t₅, rfl⟩ := pi.at_ hv₂
        refine kz ?_
        clear kz Gz
        simp only [hpp] at hQ₂
        have hpk : p < k := hp k p (List.mem_of_getElem? hpp)
        have k₃ := k₂.tn kk₂
        have Xf : Fb h₃ fa k fb := ⟨us, m, k₃.kp _ _ hfa, hus, fun i hi => let ⟨b, vs, m', e1, e2, e3⟩ := hfb i hi; ⟨b, vs, m', e1, k₃.kp _ _ e2, e3⟩⟩
        refine wpAny_tests_one (wpAny_isTrue_Compare1 (nmV (cj.keeps kk₂.kp) ?_))
        refine subFb Xf hpk (by (first | lia | omega)) (fun q => nmV (c2.keeps k₃.kp) q) (fun q => T₂.name q) fun b' vs' m' l' i' => ?_
        refine in_ints l' i' (wpAny_truthy_bool ?_)
        exact hQ₂ _ _ (Kx.refl _ _)
      · refine List_ (args_nil (nList (fun h₅ k₅ l₅ => ?_) (Nat.zero_le _)))
        have hys : Enc (fun _ _ => True) ys ((par k).filter (fun p => decide (j ∈ fb p))) := by
          have CR' := CR
          rw [pi.1] at CR'
          have := CR'.enc (P := fun _ _ => True) (p := fun p => decide (j ∈ fb p)) (f := id) (fun i k hk => by simp only [hk]) fun _ _ _ _ _ => trivial
          rwa [List.map_id] at this
        refine ne_nil (k₅.kp _ _ l') l₅ (hr.less (Nat.zero_le _)).un0 ?_
        rw [hys.ne]
        refine wpAny_truthy_bool ?_
        have := hQ h₅ tk' (k'.tn k₅)
        rw [show decide (j = k) = false by simpa using hjk, Bool.false_or] at this
        by_cases he : (par k).filter (fun p => decide (j ∈ fb p)) = []
        · rw [show decide ((par k).filter (fun p => decide (j ∈ fb p)) ≠ []) = false by simpa using he] at this ⊢
          exact isTrue_or_nil this
        · rw [show decide ((par k).filter (fun p => decide (j ∈ fb p)) ≠ []) = true by simpa using he] at this ⊢
          exact this
  · obtain ⟨t₄, rfl⟩ := hv
    exact T.name (hQ _ _ _ (Kx.refl _ _) ⟨t₄, by simp⟩)
  · have F₁ := F.keep k₁ id
    have hys : Ints ys (fbRow par fb k) := CR.rng0
    have c2₂ : h₂.IsCell (L + 2) (some (.ref fa)) := by
      obtain ⟨o, ho, r⟩ := c2
      exact ⟨o, k₂ _ (by (first | lia | omega)) _ (k₁.kp _ _ ho), r⟩
    have hfa₂ : IsL h₂ fa us m := F₁.lst (k₁.kp _ _ hfa) k₂
    refine wpAny_execs_cons (wpAny_Expr (MethodCall_ (nmV c2₂ ?_)))
    refine getMethod_list_of PySem.F.slot_list_append PySem.F.type_list_append hfa₂.isList ⟨_, hfa₂, rfl⟩ ?_
    refine callWith_method1 (args_cons (nmF F₂ rfl (args_nil ?_)))
    refine append_at hfa₂ (fun h₃ sb₃ ho₃ => ?_) (Nat.le_trans (by (first | lia | omega) : us.size ≤ 1000) (by decide))
    have k₃ := Kx.of_same sb₃
    refine wpAny_execs_nil ?_
    have hDfa : Dl ≠ fa := by
      rintro rfl
      have := k₁.kp _ _ hfa
      rw [hD] at this; cases this
    have hLfa : L ≠ fa := (F₂.ne_seq hfa₂).symm
    refine hq _ _ _ Dl ((k₁.any.tr (k₂.mono fun b e => .inl (.inl e))).tr (k₃.mono fun b e => .inl (.inr e))) (F₂.keep k₃ hLfa) ho₃ ⟨hDfa, ys, m₂, k₃ _ hDfa _ l₂, hys⟩

theorem g_fb (w : World) : nsIn (KK w) mainGlobals (Str.ofString "_law_forebears") = some (some (.ref 121)) := by kernel_rfl

/- the loop's state -/
inductive LfS (L fa : Nat) (par : Nat → List Nat) (g : Array GenState) (j : Nat) (hh : Heap) (gg : Array GenState) : Prop
  | mk (l : List (Str × Value)) (ov : Option Value) (fb : Nat → List Nat) (e : gg = g) (F : Fv hh L l) (c : hh.IsCell (L + 3) ov) (f : Fc hh fa j fb) (q : ∀ k < j, ∀ i, i ∈ fb k ↔ Up par i k) : LfS L fa par g j hh gg

theorem law_forebears {pa n : Nat} {par : Nat → List Nat} {Q : Value → Shared → Prop} (K : Ok w mg mb h) (hr : Rm A 5) (X : Fb h pa n par) (hn : n ≤ 10) (hp : ∀ k, ∀ p ∈ par k, p < k) (hpl : ∀ k, (par k).length ≤ 10)
    (hq : ∀ h' tk' a fb, Kx none_ h h' → Fb h' a n fb → (∀ k < n, ∀ j, j ∈ fb k ↔ Up par j k) → h.get? a = none → Q (.ref a) ⟨h', g, d, tk', os⟩) :
    wpAny (model PP w) A (call (.ref 121) [.ref pa]) Q E ⟨h, g, d, tk, os⟩ := by
  refine callFCe [(Str.ofString "parents", .ref pa)] [] K hr (by kernel_rfl) (fun L => trivial) (fun L x hx => .inr ?_) fun L h₁ tk₁ hL hL' k₁ F₁ hc₁ K₁ hr₁ => ?_
  · simp only [List.mem_cons, List.not_mem_nil, or_false] at hx
    subst hx
    exact ⟨by kernel_rfl, by kernel_rfl⟩
  have c1 : h₁.IsCell (L + 1) (some (.ref pa)) := (hc₁ (Str.ofString "parents") (L + 1) rfl).1
  have c2 : h₁.IsCell (L + 2) none := (hc₁ (Str.ofString "found") (L + 2) rfl).1
  have c3 : h₁.IsCell (L + 3) none := (hc₁ (Str.ofString "k") (L + 3) rfl).1
  have dc2 : h.get? (L + 2) = none := (hc₁ (Str.ofString "found") (L + 2) rfl).2.1
  have dc3 : h.get? (L + 3) = none := (hc₁ (Str.ofString "k") (L + 3) rfl).2.1
  refine wpAny_execs_cons (wpAny_Assign_Name (List_ (args_nil (nList (fun h₂ k₂ l₂ => ?_) (Nat.zero_le _)))))
  have d₂ : h₁.get? h₁.objs.size = none := dead_size h₁
  have b₂ : 138 < h₁.objs.size := K₁.sz
  generalize h₁.objs.size = fa at *
  have F₂ := F₁.keep k₂ id
  refine stC (c2.keeps k₂.kp) fun h₃ c2₃ k₃ => ?_
  have F₃ := F₂.keep k₃ (by (first | lia | omega))
  have nc2 : L + 2 ≠ fa := by obtain ⟨o, ho, _⟩ := c2; exact ne_dead d₂ ho
  have nc3 : L + 3 ≠ fa := by obtain ⟨o, ho, _⟩ := c3; exact ne_dead d₂ ho
  have nL : L ≠ fa := F₁.ne d₂
  have l₃ : IsL h₃ fa #[] 0 := k₃ _ (fun e => nc2 e.symm) _ l₂
  have c1₃ : h₃.IsCell (L + 1) (some (.ref pa)) := by
    obtain ⟨o, ho, r⟩ := c1
    exact ⟨o, k₃ _ (by (first | lia | omega)) _ (k₂.kp _ _ ho), r⟩
  have c3₃ : h₃.IsCell (L + 3) none := by
    obtain ⟨o, ho, r⟩ := c3
    exact ⟨o, k₃ _ (by (first | lia | omega)) _ (k₂.kp _ _ ho), r⟩
  have kk₃ : Kx none_ h h₃ := (k₁.tn k₂).t1 k₃ dc2
  have K₃ : Ok w mg mb h₃ := K.n kk₃
  have X₃ : Fb h₃ pa n par := X.n kk₃
  have dfa : h.get? fa = none := k₁.dead0 d₂
  refine wpAny_execs_cons (for_range (d := d) (os := os) hr₁.1 ?_)
  have ⟨us, m, lp, eu, _⟩ := X₃
  refine Call_ (nmB K₃ (g_range w) b_range (by decide) (PyProof.Rows.callWith_type1 (args_cons (Call_ (nmB K₃ (g_len w) b_len (by decide) (PyProof.Rows.callWith_builtin1 (args_cons (nmV c1₃ (args_nil (len_list lp.isList (by (first | lia | omega)) ?_))))))))))
  rw [eu]
  refine args_nil (nRange fun h₄ tk₄ tt uu vv k₄ r₄ => ?_)
  have P0 : ∀ b, P3 L (L + 3) fa b → ∃ o, h₄.get? b = some o := by
    rintro b (rfl | rfl | rfl)
    · obtain ⟨_, ⟨o, _, _, ho, _⟩, _⟩ := F₃
      exact ⟨o, k₄.kp _ _ ho⟩
    · obtain ⟨o, ho, _⟩ := c3₃
      exact ⟨o, k₄.kp _ _ ho⟩
    · exact ⟨_, k₄.kp _ _ l₃⟩
  have stay : ∀ {hx : Heap}, Kx (P3 L (L + 3) fa) h₄ hx → Kx none_ h hx := fun {hx} k =>
    (kk₃.tn k₄).trans k fun b e => .inr (by rcases e with e | e | e <;> subst e <;> assumption)
  refine ⟨_, n, tt, uu, vv, h₄, tk₄, g, P3 L (L + 3) fa, LfS L fa par g,
    rfl, rfl, r₄, by (first | lia | omega), P0, ⟨_, _, fun _ => [], rfl, F₃.keep k₄ id, c3₃.keeps k₄.kp, .nil _ (k₄.kp _ _ l₃), fun k hk => absurd hk (Nat.not_lt_zero _)⟩, ?_, ?_, ?_⟩
  · rintro j hx hy gg kd xz
    refine hide fun Gz kz => ?_
    obtain ⟨l, ov, fb, e, F, c, f, q⟩ := xz
    refine kz ?_
    clear kz Gz
    exact ⟨l, ov, fb, e, kd.fv F, kd.cell c, kd.fc f, q⟩
  · rintro j h₅ g₅ tk₅ t Q' E' hj xz kP hQ
    refine hide fun Gz kz => ?_
    obtain ⟨l, ov, fb, rfl, F₅, c3₅, ⟨us₅, m₅, l₅, e₅, r₅⟩, hfb⟩ := xz
    refine kz ?_
    clear kz Gz
    have K₅ : Ok w mg mb h₅ := K.n (stay kP)
    refine wpAny_assign_Name (stC c3₅ fun h₆ c3₆ k₆ => ?_)
    have keep1 : ∀ {c : Nat} {v : Value}, c ≠ L → c ≠ L + 3 → c ≠ fa → h₃.IsCell c (some v) → h₆.IsCell c (some v) := fun n1 n2 n3 ⟨o, ho, r⟩ =>
      ⟨o, k₆ _ n2 _ (kP _ (fun e => by rcases e with e | e | e; exact n1 e; exact n2 e; exact n3 e) _ (k₄.kp _ _ ho)), r⟩
    have nc1 : L + 1 ≠ fa := by obtain ⟨o, ho, _⟩ := c1; exact ne_dead d₂ ho
    have l₆ : IsL h₆ fa us₅ m₅ := k₆ _ (fun e => nc3 e.symm) _ l₅
    have nolist : ∀ {b : Nat} {vs : Array Value} {m' : Nat}, IsL h₅ b vs m' → IsL h₆ b vs m' := fun {b vs m'} t => k₆ _ (lst_cell t c3₅) _ t
    refine wpAny_mono (fb_turn (Q := fun fl s₃ => (fl = .next ∨ fl = .cont) ∧ Q' s₃) (K₅.l k₆ (Nat.lt_add_right 3 hL')) (hr₁.less (by decide)) hL' (F₅.keep k₆ (by (first | lia | omega))) (keep1 (by (first | lia | omega)) (by (first | lia | omega)) nc1 c1₃) (keep1 (by (first | lia | omega)) (by (first | lia | omega)) nc2 c2₃) c3₆ (X.n ((stay kP).t1 k₆ dc3)) hn hj hp hpl l₆ e₅
      (fun i hi => let ⟨b, vs, m', e1, _, e2, e3⟩ := r₅ i hi; ⟨b, vs, m', e1, nolist e2, e3⟩) fun h₇ tk₇ l₇ b k₇ F₇ l₇' hb => ⟨.inl rfl, hQ _ _ _ ((k₆.mono fun b e => .inl (.inr (.inl e))).tr (k₇.mono fun b e => .inl (e.elim .inl fun e => .inr (.inr e)))) ⟨_, some (.int ((j : Nat) : Int) t), fun i => if i = j then fbRow par fb j else fb i, rfl, F₇, ?_, ⟨_, _, l₇', by rw [Array.size_push, e₅], fun i hi => ?_⟩, fun i hi q => ?_⟩⟩) (fun _ _ q => q) fun _ _ e => e
    · obtain ⟨o, ho, r⟩ := c3₆
      exact ⟨o, k₇ _ (fun e => e.elim (by (first | lia | omega)) nc3) _ ho, r⟩
    · by_cases e : i = j
      · subst e
        refine hide fun Gz kz => ?_
        obtain ⟨hbf, vs, m', lb, ib⟩ := hb
        refine kz ?_
        clear kz Gz
        exact ⟨b, vs, m', by rw [Array.getElem?_push, if_pos e₅.symm], hbf, lb, by simpa using ib⟩
      · refine hide fun Gz kz => ?_
        obtain ⟨b', vs, m', e1, e0, e2, e3⟩ := r₅ i (by (first | lia | omega))
        refine kz ?_
        clear kz Gz
        refine ⟨b', vs, m', by rw [Array.getElem?_push, if_neg (by (first | lia | omega))]; exact e1, e0, k₇ _ (fun e => ?_) _ (nolist e2), by show Ints vs (if i = j then fbRow par fb j else fb i); rw [if_neg ‹¬ i = j›]; exact e3⟩
        have t6 := nolist e2
        rcases e with e | e
        · exact (F₅.keep k₆ (by (first | lia | omega))).ne_seq t6 e
        · exact e0 e
    · by_cases e : i = j
      · subst e
        simp only [if_pos]
        exact fbRow_up hp (fun i hi => hfb i hi) q
      · show q ∈ (if i = j then fbRow par fb j else fb i) ↔ _
        rw [if_neg e]
        exact hfb i (by (first | lia | omega)) q
  · rintro h₅ g₅ tk₅ kP xz
    refine hide fun Gz kz => ?_
    obtain ⟨l, ov, fb, rfl, F₅, c3₅, f₅, hfb⟩ := xz
    refine kz ?_
    clear kz Gz
    have c2₅ : h₅.IsCell (L + 2) (some (.ref fa)) := by
      obtain ⟨o, ho, r⟩ := c2₃
      exact ⟨o, kP _ (fun e => by rcases e with e | e | e; (first | lia | omega); (first | lia | omega); exact nc2 e) _ (k₄.kp _ _ ho), r⟩
    refine wpAny_execs_cons (wpAny_Return_some (nmV c2₅ ?_))
    exact hq _ _ _ _ (stay kP) f₅.fb hfb dfa
end
end Mine
end

section
open PySem PySem.W PyProof.Rows PySem.Spec PySem.Calls PySem.SeqAt
set_option maxRecDepth 100000
set_option maxHeartbeats 4000000
namespace Mine
section
variable {w : World} {mg mb : Str → Option Value} {A : Around} {E : Value → Shared → Prop} {s : Shared} {env : Env} {h : Heap} {g : Array GenState} {d : Drawn} {tk : Nat} {os : OsState} {M : Model} {prog : Program}

theorem nEnum {a m : Nat} {vs : Array Value} {Q : Value → Shared → Prop} (hl : IsL h a vs m) (hq : ∀ h' e it, Kx none_ h h' → h.get? e = none → h.get? it = none → e ≠ it → IsEnum h' e it 0 .none → h'.IsListIter it a 0 → Q (.ref e) ⟨h', g, d, tk, os⟩) :
    wpAny (model prog w) A (call (.type "enumerate") [.ref a]) Q E ⟨h, g, d, tk, os⟩ := by
  refine call_enumerate_list hl.isList fun h' he hit hz kp => ?_
  have k : Kx none_ h h' := Kx.of_kp kp
  refine hq h' _ _ k ?_ (dead_size h) (Nat.succ_ne_self _) he hit
  cases e : h.get? (h.objs.size + 1) with
  | none => rfl
  | some o => exact absurd (Heap.lt_size e) (Nat.not_lt.mpr (Nat.le_succ _))

/- its state -/
inductive EnS (vs : Array Value) (e it a m L : Nat) (P : Nat → Prop) (h₀ : Heap) (J : Nat → List (Str × Value) → Heap → Array GenState → Prop) (d : Drawn) (os : OsState) (N : Nat) (s : Shared) : Prop
  | mk (j : Nat)
      (l : List (Str × Value))
      (old : Value)
      (q1 : N = vs.size - j)
      (q2 : j ≤ vs.size)
      (q3 : IsEnum s.heap e it ((j : Nat) : Int) old)
      (q4 : s.heap.IsListIter it a j)
      (q5 : IsL s.heap a vs m)
      (q6 : (∀ b, ¬ P b → b ≠ e → b ≠ it → ∀ o, h₀.get? b = some o → s.heap.get? b = some o))
      (q7 : Fv s.heap L l)
      (q8 : J j l s.heap s.gens)
      (q9 : s.drawn = d)
      (q10 : s.os = os) : EnS vs e it a m L P h₀ J d os N s
/- what a for over enumerate asks -/
inductive ForE (prog : Program) (w : World) (A : Around) (d : Drawn) (os : OsState) (env : Env) (x y : Str) (L : Nat) (body : List Stmt) (Q : Flow → Shared → Prop) (xv : Value) (s₁ : Shared) : Prop
  | mk (e : Nat)
      (it : Nat)
      (a : Nat)
      (vs : Array Value)
      (m : Nat)
      (h₀ : Heap)
      (tk₀ : Tok)
      (g₀ : Array GenState)
      (l₀ : List (Str × Value))
      (P : Nat → Prop)
      (J : Nat → List (Str × Value) → Heap → Array GenState → Prop)
      (q1 : xv = .ref e)
      (q2 : s₁ = ⟨h₀, g₀, d, tk₀, os⟩)
      (q3 : IsEnum h₀ e it 0 .none)
      (q4 : h₀.IsListIter it a 0)
      (q5 : e ≠ it)
      (q6 : IsL h₀ a vs m)
      (q7 : ¬ P e)
      (q8 : ¬ P it)
      (q9 : ¬ P a)
      (q10 : P L)
      (q11 : Fv h₀ L l₀)
      (q12 : J 0 l₀ h₀ g₀)
      (q13 : (∀ j l h₁ h₂ g₁, Kd h₁ h₂ → J j l h₁ g₁ → J j l h₂ g₁))
      (q14 : (∀ j l h₁ h₂ g₁ tk₁ t v (Q' : Shared → Prop) (E' : Value → Shared → Prop), vs[j]? = some v → J j l h₁ g₁ → (∀ b, ¬ P b → b ≠ e → b ≠ it → ∀ o, h₀.get? b = some o → h₁.get? b = some o) → Fv h₁ L l → Kx (· = L) h₁ h₂ → Fv h₂ L ((y, v) :: (x, .int (j : Nat) t) :: l) →
        (∀ l' h₃ g₃ tk₃, Kx P h₂ h₃ → Fv h₃ L l' → J (j + 1) l' h₃ g₃ → Q' ⟨h₃, g₃, d, tk₃, os⟩) →
        wpAny (model prog w) A (execs body env) (fun fl s₃ => ((fl = .next ∨ fl = .cont) ∧ Q' s₃) ∨ (fl = .brk ∧ Q .next s₃)) E' ⟨h₂, g₁, d, tk₁, os⟩))
      (q15 : (∀ l h₁ g₁ tk₁, (∀ b, ¬ P b → b ≠ e → b ≠ it → ∀ o, h₀.get? b = some o → h₁.get? b = some o) → Fv h₁ L l → J vs.size l h₁ g₁ → Q .next ⟨h₁, g₁, d, tk₁, os⟩)) : ForE prog w A d os env x y L body Q xv s₁
/- a for over enumerate(list) -/
theorem for_enum {x y : Str} {px py pt pos : Pos} {kk : Nat} {iter : Expr} {body : List Stmt} {Q : Flow → Shared → Prop} {L : Nat} (hh : A.handled = none)
    (hi : wpAny (model prog w) A (eval iter env) (ForE prog w A d os env x y L body Q) E s)
    (hL : env.locals = L := by rfl) (hx : env.kindOf x = some .local := by rfl) (hy : env.kindOf y = some .local := by rfl)
    (hp : (env.scope.kind == .class || (env.scope.kind == .module && env.locals != env.globals)) = false := by rfl) (hs : ∀ x, foldedSetIterable iter env x = pure x := by intro _; rfl) :
    wpAny (model prog w) A (exec (.For (.Tuple [.Name x px, .Name y py] kk pt) iter body [] pos) env) Q E s := by
  refine wpAny_For (wpAny_mono hi (fun xv s₁ h₁ => ?_) fun _ _ e => e) hs
  refine hide fun Gz kz => ?_
  obtain ⟨e, it, a, vs, m, h₀, tk₀, g₀, l₀, P, J, rfl, rfl, he, hit, hei, hl, hPe, hPi, hPa, hPL, F₀, hJ, stab, turn, fin⟩ := h₁
  refine kz ?_
  clear kz Gz
  refine wpAny_pyIter_enum he ?_
  have hae : a ≠ e := by rintro rfl; have h2 := congrArg (fun o : Option Obj => o.map (·.data)) (hl.symm.trans he); cases h2
  have hai : a ≠ it := by
    rintro rfl
    obtain ⟨o, ho, _, hd⟩ := hit
    rw [hl] at ho; cases ho; cases hd
  refine codeAny_forLoop_any (EnS vs e it a m L P h₀ J d os) ?_ vs.size
    ⟨0, l₀, .none, by simp, Nat.zero_le _, he, hit, hl, fun _ _ _ _ _ e => e, F₀, hJ, rfl, rfl⟩
  rintro N ⟨h₂, g₂, d₂, tk₂, os₂⟩ xz
  refine hide fun Gz kz => ?_
  obtain ⟨j, l, old, rfl, hj, he₂, hit₂, hl₂, kP, F₂, hJ₂, e2, e3⟩ := xz
  refine kz ?_
  clear kz Gz
  have e2' : d₂ = d := e2
  have e3' : os₂ = os := e3
  subst e2' e3'
  by_cases hlt : j < vs.size
  · have hv : vs[j]? = some vs[j] := by simp [hlt]
    refine wpAny_pyNext_enum_item (s := ⟨h₂, g₂, d₂, tk₂, os₂⟩) he₂ hit₂ hl₂.isList hv hei fun h₃ heo hit₃ ht₃ hz₃ hk₃ => ?_
    refine wpAny_letOwnedTupleGo_enum heo fun h₄ he₄ sb₄ => ?_
    have k₄ := Kx.of_same sb₄
    have ne_t : ∀ {b : Nat} {o : Obj}, h₂.get? b = some o → b ≠ h₂.objs.size := fun {b o} ho => ne_dead (dead_size h₂) ho
    have t₄ : IsT h₄ h₂.objs.size [.int ((j : Nat) : Int) tk₂, vs[j]] := k₄ _ (fun e' => ne_t he₂ e'.symm) _ ht₃
    have hit₄ : h₄.IsListIter it a (j + 1) := by
      obtain ⟨o, ho, r⟩ := hit₃
      exact ⟨o, k₄ _ (fun e' => hei e'.symm) _ ho, r⟩
    have kd : Kd h₂ h₄ := fun b o ho hd => by
      have h1 : b ≠ e := fun e' => by rw [e', he₂] at ho; cases ho; exact hd ⟨(fun e => by cases e), _, rfl, fun q t e => by cases e⟩
      have h2 : b ≠ it := fun e' => by
        obtain ⟨o', ho', hc', hd'⟩ := hit₂
        rw [e', ho'] at ho; cases ho; exact hd ⟨(fun e => by rw [hc'] at e; cases e), _, hd', fun q t e => by cases e⟩
      exact k₄ _ h1 _ (hk₃ _ _ h1 h2 ho)
    have F₄ : Fv h₄ L l := kd.fv F₂
    refine asg2 hh t₄ F₄ (fun h₅ tk₅ F₅ k₅ => ?_) hL hx hy hp
    have kP₄ : ∀ b, ¬ P b → b ≠ e → b ≠ it → ∀ o, h₀.get? b = some o → h₄.get? b = some o := fun b h1 h2 h3 o ho => k₄ _ h2 _ (hk₃ _ _ h2 h3 (kP b h1 h2 h3 o ho))
    have eL : e ≠ L := fun e' => hPe (e' ▸ hPL)
    have iL : it ≠ L := fun e' => hPi (e' ▸ hPL)
    refine wpAny_mono (turn j l h₄ h₅ g₂ _ tk₂ vs[j] (fun s => ∃ m', m' < vs.size - j ∧ EnS vs e it a m L P h₀ J d₂ os₂ m' s) _ hv (stab _ _ _ _ _ kd hJ₂) kP₄ F₄ k₅ F₅
      fun l' h₆ g₆ tk₆ k₆ F₆ hJ₆ => ?_) (fun fl s₃ q => ?_) fun _ _ e => e
    · refine ⟨vs.size - (j + 1), Nat.sub_lt_sub_left (by assumption) (Nat.lt_succ_self _), j + 1, l', vs[j], rfl, hlt, ?_, ?_, ?_, fun b h1 h2 h3 o ho => ?_, F₆, hJ₆, rfl, rfl⟩
      · rw [show ((j + 1 : Nat) : Int) = (j : Int) + 1 by push_cast; rfl]
        exact k₆ _ hPe _ (k₅ _ eL _ he₄)
      · obtain ⟨o, ho, r⟩ := hit₄
        exact ⟨o, k₆ _ hPi _ (k₅ _ iL _ ho), r⟩
      · exact k₆ _ hPa _ (k₅ _ (fun e' : a = L => hPa (e' ▸ hPL)) _ (kd.lst hl₂))
      · exact k₆ _ h1 _ (k₅ _ (fun e' : b = L => h1 (e' ▸ hPL)) _ (kP₄ b h1 h2 h3 o ho))
    · rcases q with ⟨e | e, q⟩ | ⟨e, q⟩ <;> subst e <;> exact q
  · obtain rfl : j = vs.size := by omega
    refine wpAny_pyNext_enum_end (s := ⟨h₂, g₂, d₂, tk₂, os₂⟩) hh he₂ hit₂ hl₂.isList (by simp) fun h₃ hx₃ => ?_
    have k₃ : Kx (· = it) h₂ h₃ := Kx.of_ext hx₃
    have kd : Kd h₂ h₃ := fun b o ho hd => by
      have h2 : b ≠ it := fun e' => by
        obtain ⟨o', ho', hc', hd'⟩ := hit₂
        rw [e', ho'] at ho; cases ho; exact hd ⟨(fun e => by rw [hc'] at e; cases e), _, hd', fun q t e => by cases e⟩
      exact k₃ _ h2 _ ho
    exact wpAny_execs_nil (fin _ _ _ _ (fun b h1 h2 h3 o ho => k₃ _ h3 _ (kP b h1 h2 h3 o ho)) (kd.fv F₂) (stab _ _ _ _ _ kd hJ₂))
end
end Mine
end

section
open PySem PySem.W
set_option maxRecDepth 100000
set_option maxHeartbeats 4000000
namespace Mine
section
variable {par : Nat → List Nat} {st : Nat → Nat} {n : Nat} {fb : Nat → List Nat}

theorem Up.le (hp : ∀ k, ∀ p ∈ par k, p < k) {a b : Nat} (x : Up par a b) : a ≤ b := by
  induction x with
  | refl => exact Nat.le_refl _
  | step h _ ih => exact Nat.le_trans ih (Nat.le_of_lt (hp _ _ h))
theorem Up.anti (hp : ∀ k, ∀ p ∈ par k, p < k) {a b : Nat} (x : Up par a b) (y : Up par b a) : a = b := Nat.le_antisymm (x.le hp) (y.le hp)
theorem Best.symm {a b k : Nat} : Best par a b k ↔ Best par b a k := by
  constructor <;> exact fun h => ⟨⟨h.1.2, h.1.1⟩, fun m hm => h.2 m ⟨hm.2, hm.1⟩⟩

theorem best_above (hp : ∀ k, ∀ p ∈ par k, p < k) {c ca : Nat} : ∀ (N x : Nat), c - x = N → Com par c ca x → ∃ m, Best par c ca m ∧ Up par x m := by
  intro N
  induction N using Nat.strongRecOn with
  | ind N ih =>
    intro x hN hx
    by_cases hb : ∀ m, Com par c ca m → Up par x m → x = m
    · exact ⟨x, ⟨hx, hb⟩, .refl _⟩
    · obtain ⟨m, hm⟩ := Classical.not_forall.mp hb
      simp only [Classical.not_imp] at hm
      obtain ⟨hc, hu, hne⟩ := hm
      have h1 := hu.le hp
      have h2 := hc.1.le hp
      obtain ⟨m', hb', hu'⟩ := ih (c - m) (by (first | lia | omega)) m rfl hc
      exact ⟨m', hb', hu.trans hu'⟩

theorem snocInd {α : Type} {P : List α → Prop} (l : List α) (h0 : P []) (h1 : ∀ l a, P l → P (l ++ [a])) : P l := by
  have : ∀ r : List α, P r.reverse := fun r => by
    induction r with
    | nil => exact h0
    | cons a t ih => rw [List.reverse_cons]; exact h1 _ _ ih
  have := this l.reverse
  rwa [List.reverse_reverse] at this

theorem OM.sound (k0 : Nat) (cs : List Nat) : ∀ k, OM par k0 cs k → Up par k k0 ∧ ∀ c ∈ cs, Up par k c := by
  induction cs using snocInd with
  | h0 => intro k hk; have hk : k = k0 := hk; subst hk; exact ⟨.refl _, fun c hc => (nomatch hc)⟩
  | h1 cs c ih =>
    intro k hk
    rw [OM.snoc] at hk
    obtain ⟨ca, hca, hb⟩ := hk
    have h1 := ih ca hca
    refine ⟨hb.1.2.trans h1.1, fun c' hc' => ?_⟩
    rcases List.mem_append.mp hc' with hc' | hc'
    · exact hb.1.2.trans (h1.2 c' hc')
    · rw [List.mem_singleton.mp hc']; exact hb.1.1
theorem OM.complete (hp : ∀ k, ∀ p ∈ par k, p < k) (k0 : Nat) (cs : List Nat) : ∀ x, Up par x k0 → (∀ c ∈ cs, Up par x c) → ∃ k, OM par k0 cs k ∧ Up par x k := by
  induction cs using snocInd with
  | h0 => intro x hx _; exact ⟨k0, rfl, hx⟩
  | h1 cs c ih =>
    intro x hx hc
    obtain ⟨ca, hca, hu⟩ := ih x hx fun c' hc' => hc c' (List.mem_append_left _ hc')
    obtain ⟨m, hb, hu'⟩ := best_above hp _ x rfl ⟨hc c (by simp), hu⟩
    refine ⟨m, ?_, hu'⟩
    rw [OM.snoc]
    exact ⟨ca, hca, hb⟩
theorem OM.one (k0 c k : Nat) : OM par k0 [c] k ↔ Best par k0 c k := by
  have : OM par k0 [c] = fun k => ∃ ca, OM par k0 [] ca ∧ Best par c ca k := OM.snoc par k0 [] c
  rw [this]
  constructor
  · rintro ⟨ca, e, hb⟩
    have e : ca = k0 := e
    subst e
    exact Best.symm.mp hb
  · intro hb
    exact ⟨k0, rfl, Best.symm.mp hb⟩

/- the greatest ones of a row -/
theorem mem_gr (hfb : ∀ k < n, ∀ j, j ∈ fb k ↔ Up par j k) {ks : List Nat} (hks : ∀ k ∈ ks, k < n) (k : Nat) : k ∈ gr fb ks ↔ k ∈ ks ∧ ∀ j ∈ ks, j ≠ k → ¬ Up par k j := by
  unfold gr
  rw [List.mem_filter]
  simp only [decide_eq_true_eq, List.filter_eq_nil_iff, Bool.and_eq_true, ne_eq, not_and]
  refine and_congr_right fun _ => ⟨fun h j hj hne hu => h j hj hne ((hfb j (hks j hj) k).mpr hu), fun h j hj hne hm => h j hj hne ((hfb j (hks j hj) k).mp hm)⟩

/- the octopus base and the common forebears have the same greatest ones -/
theorem gr_oct (hp : ∀ k, ∀ p ∈ par k, p < k) (hfb : ∀ k < n, ∀ j, j ∈ fb k ↔ Up par j k) (P C : Nat → Bool) (hs : ∀ k < n, P k = true → C k = true) (hc : ∀ x < n, C x = true → ∃ k < n, P k = true ∧ Up par x k) :
    gr fb ((List.range n).filter P) = gr fb ((List.range n).filter C) := by
  have key : ∀ B : Nat → Bool, gr fb ((List.range n).filter B) = (List.range n).filter fun k => B k && decide (((List.range n).filter fun j => B j && (decide (j ≠ k) && decide (k ∈ fb j))) = []) := by
    intro B
    unfold gr
    rw [List.filter_filter]
    refine List.filter_congr fun k _ => ?_
    rw [List.filter_filter, Bool.and_comm]
    have : ((List.range n).filter fun j => (decide (j ≠ k) && decide (k ∈ fb j)) && B j) = (List.range n).filter fun j => B j && (decide (j ≠ k) && decide (k ∈ fb j)) := List.filter_congr fun j _ => Bool.and_comm _ _
    rw [this]
  rw [key, key]
  refine List.filter_congr fun k hk => ?_
  have hkn := List.mem_range.mp hk
  rw [Bool.eq_iff_iff]
  simp only [Bool.and_eq_true, decide_eq_true_eq, List.filter_eq_nil_iff, List.mem_range, not_and, ne_eq]
  constructor
  · rintro ⟨h1, h2⟩
    refine ⟨hs k hkn h1, fun j hj hCj hne hm => ?_⟩
    have hu := (hfb j hj k).mp hm
    obtain ⟨m, hmn, hPm, hum⟩ := hc j hj hCj
    have hkm := hu.trans hum
    by_cases e : m = k
    · subst e
      exact hne (hum.anti hp hu)
    · exact h2 m hmn hPm e ((hfb m hmn k).mpr hkm)
  · rintro ⟨h1, h2⟩
    obtain ⟨m, hmn, hPm, hum⟩ := hc k hkn h1
    have e : m = k := by
      by_cases e : m = k
      · exact e
      · exact absurd ((hfb m hmn k).mpr hum) (h2 m hmn (hs m hmn hPm) e)
    subst e
    exact ⟨hPm, fun j hj hPj hne hm => h2 j hj (hs j hj hPj) hne hm⟩

/- a strictly ordered list is its members -/
theorem sorted_uniq {α : Type} {R : α → α → Prop} (ha : ∀ a b, R a b → ¬ R b a) : ∀ (l r : List α), l.Pairwise R → r.Pairwise R → (∀ x, x ∈ l ↔ x ∈ r) → l = r
  | [], [], _, _, _ => rfl
  | [], b :: r, _, _, hm => by have := (hm b).mpr (.head _); cases this
  | a :: l, [], _, _, hm => by have := (hm a).mp (.head _); cases this
  | a :: l, b :: r, hl, hr, hm => by
    rw [List.pairwise_cons] at hl hr
    have e : a = b := by
      rcases List.mem_cons.mp ((hm a).mp (.head _)) with h | h
      · exact h
      · rcases List.mem_cons.mp ((hm b).mpr (.head _)) with h' | h'
        · exact h'.symm
        · exact absurd (hl.1 b h') (ha _ _ (hr.1 a h))
    subst e
    have : ∀ x, x ∈ l ↔ x ∈ r := fun x => by
      have h := hm x
      rw [List.mem_cons, List.mem_cons] at h
      have hx : ∀ q : List α, (∀ y ∈ q, R a y) → x ∈ q → x ≠ a := fun q hq hxq e => by
        subst e
        exact ha _ _ (hq x hxq) (hq x hxq)
      constructor
      · intro hxl
        exact (h.mp (.inr hxl)).resolve_left (hx l hl.1 hxl)
      · intro hxr
        exact (h.mpr (.inr hxr)).resolve_left (hx r hr.1 hxr)
    rw [sorted_uniq ha l r hl.2 hr.2 this]

theorem pLt_asymm' (a b : Int × List UInt8) (h : pLt a b = true) : ¬ pLt b a = true := by
  intro h'
  unfold pLt at h h'
  by_cases e : a.1 = b.1
  · rw [if_pos e] at h
    rw [if_pos e.symm] at h'
    have := bLt_asymm _ _ h
    rw [this] at h'
    cases h'
  · rw [if_neg e] at h
    rw [if_neg (fun e' => e e'.symm)] at h'
    simp only [decide_eq_true_eq] at h h'
    (first | lia | omega)
theorem LcaSpec.uniq {a b _c _d : Nat} {r r' : List Nat} (x : LcaSpec par st a b r) (y : r'.Pairwise fun a b => pLt ((st a : Int), nmL' a) ((st b : Int), nmL' b) = true) (hm : ∀ k, k ∈ r' ↔ Best par a b k) : r = r' :=
  sorted_uniq (fun _a _b h => pLt_asymm' _ _ h) r r' x.2 y fun k => (x.1 k).trans (hm k).symm
theorem LcaSpec.symm {a b : Nat} {r : List Nat} (x : LcaSpec par st a b r) : LcaSpec par st b a r := ⟨fun k => (x.1 k).trans Best.symm, x.2⟩

/- the merge base of two is the first one just when it is a forebear of the second -/
theorem LcaSpec.first (hp : ∀ k, ∀ p ∈ par k, p < k) {a b : Nat} {r : List Nat} (x : LcaSpec par st a b r) : r = [a] ↔ Up par a b := by
  constructor
  · intro e
    have : a ∈ r := by rw [e]; exact .head _
    exact ((x.1 a).mp this).1.2
  · intro hu
    refine sorted_uniq (R := fun a b => pLt ((st a : Int), nmL' a) ((st b : Int), nmL' b) = true) (fun a b h => pLt_asymm' _ _ h) r [a] x.2 (List.pairwise_singleton _ _) fun k => ?_
    rw [x.1, List.mem_singleton]
    constructor
    · intro hb
      exact hb.2 a ⟨.refl _, hu⟩ hb.1.1
    · rintro rfl
      exact ⟨⟨.refl _, hu⟩, fun m hm hkm => hkm.anti hp hm.1⟩

end
end Mine
end

section
open PySem PySem.W PyProof.Rows PySem.Spec PySem.Calls PySem.SeqAt
set_option maxRecDepth 100000
set_option maxHeartbeats 4000000
namespace Mine
section
variable {w : World} {mg mb : Str → Option Value} {A : Around} {E : Value → Shared → Prop} {s : Shared} {env : Env} {h : Heap} {g : Array GenState} {d : Drawn} {tk : Nat} {os : OsState} {M : Model} {prog : Program}

noncomputable abbrev idEnv (w : World) (L : Nat) : Env := callEnv (fdAt w 111) L 111
noncomputable def idFor (w : World) : Stmt := (bodyAt w 111).getD 3 default
noncomputable def idBody (w : World) : List Stmt := match idFor w with | .For _ _ b _ _ => b | _ => []
noncomputable def idIn (w : World) : Stmt := (idBody w).getD 1 default
noncomputable def idInB (w : World) : List Stmt := match idIn w with | .For _ _ b _ _ => b | _ => []

noncomputable def rowsN (lp ls ci ic i k : Nat) (t u : Tok) : List (Str × Value) := [(Str.ofString "lookup_parents", .ref lp), (Str.ofString "lookup_stamp", .ref ls), (Str.ofString "shallows", .none), (Str.ofString "commit_ids", .ref ci), (Str.ofString "independent_commits", .ref ic),
  (Str.ofString "i", .int (i : Nat) t), (Str.ofString "commit_id", .bytes (nmL' k).toArray u)]

theorem enc_two {P : Value → Nat → Prop} {v u : Value} {a b : Nat} (hv : P v a) (hu : P u b) : Enc P #[v, u] [a, b] := by
  have := ((Enc.nil P).push hv).push hu
  simpa using this
theorem enc_one {P : Value → Nat → Prop} {v : Value} {a : Nat} (hv : P v a) : Enc P #[v] [a] := by
  have := (Enc.nil P).push hv
  simpa using this

theorem ind_turn {h00 : Heap} {L lp ls ci ic n i j k o : Nat} {t u tj uo : Tok} {par : Nat → List Nat} {st : Nat → Nat} {l : List (Str × Value)} {Q : Flow → Shared → Prop} (hr : Rm A 16)
    (LK : Lk w mg mb h00 lp ls par st n) (hn : n ≤ 10) (hpar : ∀ k, ∀ p ∈ par k, p < k) (hst : ∀ k, ∀ p ∈ par k, st p < st k) (hpl : ∀ k, (par k).length ≤ 10)
    (k00 : Kx (· = 87) h00 h) (K : Ok w mg mb h) (T : Tb h 87 (qsL w)) (ab : AllB g) (F : Fv h L ((Str.ofString "other_id", .bytes (nmL' o).toArray uo) :: (Str.ofString "j", .int (j : Nat) tj) :: l))
    (R : Rows l ((Str.ofString "is_independent", .bool true) :: rowsN lp ls ci ic i k t u)) (hL : 138 < L) (hk : k < n) (ho : o < n) (hij : i = j ↔ k = o)
    (hskip : ∀ fl h' g' tk' l', (fl = .next ∨ fl = .cont) → Kx (W2 L) h h' → Ok w mg mb h' → Tb h' 87 (qsL w) → AllB g' → Fv h' L l' → Rows l' ((Str.ofString "is_independent", .bool true) :: rowsN lp ls ci ic i k t u) → (o ≠ k → ¬ Up par k o) → Q fl ⟨h', g', d, tk', os⟩)
    (hbrk : ∀ h' g' tk' l', Kx (W2 L) h h' → Ok w mg mb h' → Tb h' 87 (qsL w) → AllB g' → Fv h' L l' → Rows l' ((Str.ofString "is_independent", .bool false) :: rowsN lp ls ci ic i k t u) → o ≠ k → Up par k o → Q .brk ⟨h', g', d, tk', os⟩) :
    wpAny (model PP w) A (execs (idInB w) (idEnv w L)) Q E ⟨h, g, d, tk, os⟩ := by
  have Rn := R.2
  refine wpAny_execs_cons (wpAny_If (wpAny_isTrue_Compare1 (nmF F (Rn.sub (Str.ofString "i") _ rfl) (nmF F rfl (eqN (wpAny_truthy_bool ?_))))))
  by_cases hijj : i = j
  · rw [show decide (i = j) = true by simpa using hijj]
    simp only [if_true]
    refine wpAny_execs_cons (wpAny_Continue ?_)
    exact hskip .cont _ _ _ _ (.inr rfl) (Kx.refl _ _) K T ab F R fun e => absurd (hij.mp hijj).symm e
  · rw [show decide (i = j) = false by simpa using hijj]
    simp only [Bool.false_eq_true, if_false]
    have hko : k ≠ o := fun e => hijj (hij.mpr e)
    refine wpAny_execs_nil ?_
    refine wpAny_execs_cons (wpAny_Assign_Name (Call_ (nmG K (g_mb w) (callWith_K K.x (by kernel_rfl) ?_))))
    refine args_cons (nmF F (Rn.sub (Str.ofString "lookup_parents") _ rfl) (args_cons (nmF F (Rn.sub (Str.ofString "lookup_stamp") _ rfl) (args_cons (nmF F (Rn.sub (Str.ofString "shallows") _ rfl) (args_cons ?_))))))
    refine List_ (args_cons (nmF F (Rn.sub (Str.ofString "commit_id") _ rfl) (args_cons (nmF F rfl (args_nil (nList (fun h₁ k₁ l₁ => args_nil ?_) (by simp [sizeLine_eq])))))))
    have K₁ := K.n k₁
    refine ⟨K₁.x, ?_⟩
    refine find_mb2 K₁ (hr.less (by decide)) (T.n k₁) ab ((LK.kx k00).n k₁) hn hpar hst hpl l₁ hk ho hko fun h₂ g₂ tk₂ r vs m res k₂ T₂ ab₂ l₂ nv sp hlt hd => ?_
    have L87 : L ≠ 87 := fun e => by rw [e] at hL; exact absurd hL (by decide)
    have F₁ := F.keep k₁ id
    have F₂ := F₁.keep k₂ L87
    have K₂ : Ok w mg mb h₂ := K₁.kx k₂ fun b e => .inl e
    refine stF F₂ fun h₃ tk₃ F₃ k₃ => ?_
    have K₃ := K₂.l k₃ hL
    have T₃ := T₂.fr F₂ k₃
    have l₃ : IsL h₃ r vs m := F₂.lst l₂ k₃
    have kW : Kx (W2 L) h h₃ := (k₁.any.tr (k₂.mono fun b e => .inl (.inl e))).tr (k₃.mono fun b e => .inl (.inr e))
    refine wpAny_execs_cons (wpAny_If (wpAny_isTrue_Compare1 (nmF F₃ rfl (List_ (args_cons (nmF F₃ (Rn.sub (Str.ofString "commit_id") _ rfl) (args_nil (nList (fun h₄ k₄ l₄ => ?_) (by simp [sizeLine_eq])))))))))
    have F₄ := F₃.keep k₄ id
    have K₄ := K₃.n k₄
    have T₄ := T₃.n k₄
    refine eq_enc okN (k₄.kp _ _ l₃) l₄ nv.enc (enc_one (P := PN) ⟨_, rfl⟩) (hr.less (Nat.zero_le _)).un0 (fun x hx => Nat.lt_of_lt_of_le (hlt x hx) hn) (fun x hx => by rw [List.mem_singleton.mp hx]; exact Nat.lt_of_lt_of_le hk hn) (wpAny_truthy_bool ?_)
    have hfirst := sp.first hpar
    by_cases hup : Up par k o
    · rw [show decide (res = [k]) = true by simpa using hfirst.mpr hup]
      simp only [if_true]
      refine wpAny_execs_cons (wpAny_Assign_Name (Constant_bool ?_))
      refine stF F₄ fun h₅ tk₅ F₅ k₅ => ?_
      refine wpAny_execs_cons (wpAny_Break ?_)
      exact hbrk _ _ _ _ ((kW.tn k₄).tr (k₅.mono fun b e => .inl (.inr e))) (K₄.l k₅ hL) (T₄.fr F₄ k₅) ab₂ F₅ ⟨rfl, Rn⟩ (fun e => hko e.symm) hup
    · rw [show decide (res = [k]) = false by simpa using fun e => hup (hfirst.mp e)]
      simp only [Bool.false_eq_true, if_false]
      refine wpAny_execs_nil (wpAny_execs_nil ?_)
      exact hskip .next _ _ _ _ (.inl rfl) (kW.tn k₄) K₄ T₄ ab₂ F₄ R fun _ => hup
end
end Mine
end

section
open PySem PySem.W PyProof.Rows PySem.Spec PySem.Calls PySem.SeqAt
set_option maxRecDepth 100000
set_option maxHeartbeats 4000000
namespace Mine
section
variable {w : World} {mg mb : Str → Option Value} {A : Around} {E : Value → Shared → Prop} {s : Shared} {env : Env} {h : Heap} {g : Array GenState} {d : Drawn} {tk : Nat} {os : OsState} {M : Model} {prog : Program}

theorem g_enum (w : World) : nsIn (KK w) mainGlobals (Str.ofString "enumerate") = some none := by kernel_rfl
theorem b_enum : bootBuiltins (Str.ofString "enumerate") = some (.type "enumerate") := by kernel_rfl

theorem nodup_idx {ks : List Nat} (hnd : ks.Nodup) {i j k o : Nat} (hi : ks[i]? = some k) (hj : ks[j]? = some o) : i = j ↔ k = o := by
  constructor
  · rintro rfl
    rw [hi] at hj; cases hj; rfl
  · rintro rfl
    obtain ⟨h1, e1⟩ := List.getElem?_eq_some_iff.mp hi
    obtain ⟨h2, e2⟩ := List.getElem?_eq_some_iff.mp hj
    rcases Nat.lt_trichotomy i j with hlt | h | hlt
    · exact absurd (e1.trans e2.symm) (List.pairwise_iff_getElem.mp hnd i j h1 h2 hlt)
    · exact h
    · exact absurd (e2.trans e1.symm) (List.pairwise_iff_getElem.mp hnd j i h2 h1 hlt)

theorem ind_loop {h00 : Heap} {L lp ls ci ic n i k mi : Nat} {t u : Tok} {par : Nat → List Nat} {st : Nat → Nat} {l : List (Str × Value)} {xs : Array Value} {ks : List Nat} {Q : Flow → Shared → Prop} (hr : Rm A 17)
    (LK : Lk w mg mb h00 lp ls par st n) (hn : n ≤ 10) (hpar : ∀ k, ∀ p ∈ par k, p < k) (hst : ∀ k, ∀ p ∈ par k, st p < st k) (hpl : ∀ k, (par k).length ≤ 10)
    (k00 : Kx (· = 87) h00 h) (hL0 : h00.get? L = none) (K : Ok w mg mb h) (T : Tb h 87 (qsL w)) (ab : AllB g) (F : Fv h L l)
    (R : Rows l ((Str.ofString "is_independent", .bool true) :: rowsN lp ls ci ic i k t u)) (hL : 138 < L) (hci : IsL h ci xs mi) (hc87 : ci ≠ 87) (hxs : Nms xs ks) (hks : ∀ k ∈ ks, k < n) (hnd : ks.Nodup) (hik : ks[i]? = some k)
    (hq : ∀ h' g' tk' l' b, Kx (W2 L) h h' → Ok w mg mb h' → Tb h' 87 (qsL w) → AllB g' → Fv h' L l' → Rows l' ((Str.ofString "is_independent", .bool b) :: rowsN lp ls ci ic i k t u) → (b = true ↔ ∀ o ∈ ks, o ≠ k → ¬ Up par k o) → Q .next ⟨h', g', d, tk', os⟩) :
    wpAny (model PP w) A (exec (idIn w) (idEnv w L)) Q E ⟨h, g, d, tk, os⟩ := by
  have L87 : L ≠ 87 := fun e => by rw [e] at hL; exact absurd hL (by decide)
  refine for_enum (L := L) (d := d) (os := os) hr.1 ?_
  refine Call_ (nmB K (g_enum w) b_enum (by decide) (PyProof.Rows.callWith_type1 (args_cons (nmF F (R.2.sub (Str.ofString "commit_ids") _ rfl) (args_nil (nEnum hci fun h₁ e it k₁ de dit hei he hit => ?_))))))
  have W : ∀ {b : Nat}, h.get? b = none → ¬ W2 L b := fun {b} hb e => by
    rcases e with e | e
    · obtain ⟨ps, e87, _⟩ := T
      rw [e, e87] at hb; cases hb
    · exact F.ne hb e.symm
  have back : ∀ {hx : Heap}, (∀ b, ¬ W2 L b → b ≠ e → b ≠ it → ∀ o, h₁.get? b = some o → hx.get? b = some o) → Kx (W2 L) h hx := fun {hx} q b hb o ho =>
    q b hb (fun e' => by rw [e', de] at ho; cases ho) (fun e' => by rw [e', dit] at ho; cases ho) o (k₁.kp _ _ ho)
  refine ⟨e, it, ci, xs, mi, h₁, tk, g, l, W2 L, fun j l hh gg => Tb hh 87 (qsL w) ∧ AllB gg ∧ Rows l ((Str.ofString "is_independent", .bool true) :: rowsN lp ls ci ic i k t u) ∧ ∀ o ∈ ks.take j, o ≠ k → ¬ Up par k o, rfl, rfl, he, hit, hei, k₁.kp _ _ hci,
    W de, W dit, (fun e => e.elim hc87 (fun e => F.ne_seq hci e)), .inr rfl, F.keep k₁ id, ⟨T.n k₁, ab, R, fun o ho => by simp at ho⟩, ?_, ?_, ?_⟩
  · rintro j l₁ hx hy gg kd ⟨T, q⟩
    exact ⟨kd.tb T, q⟩
  · rintro j l₁ h₂ h₃ g₂ tk₂ tj v Q' E' hv ⟨T₂, ab₂, R₂, hno⟩ kP F₂ k₃ F₃ hQ
    obtain ⟨o, ho, uo, rfl⟩ := hxs.enc.at_ hv
    have kW := back kP
    have kW3 : Kx (W2 L) h h₃ := kW.tr (k₃.mono fun b e => .inl (.inr e))
    have K₃ : Ok w mg mb h₃ := K.kx kW3 fun b e => by rcases e with e | e; exact .inl e; exact .inr (.inr (by rw [e]; exact hL))
    have T₃ : Tb h₃ 87 (qsL w) := T₂.fr F₂ k₃
    have k00₃ : Kx (· = 87) h00 h₃ := k00.trans kW3 fun b e => by rcases e with e | e; exact .inl e; exact .inr (by rw [e]; exact hL0)
    have etake : ks.take (j + 1) = ks.take j ++ [o] := by rw [List.take_add_one, ho]; rfl
    refine ind_turn (hr.less (by decide)) LK hn hpar hst hpl k00₃ K₃ T₃ ab₂ F₃ R₂ hL (hks _ (List.mem_of_getElem? hik)) (hks _ (List.mem_of_getElem? ho)) (nodup_idx hnd hik ho)
      (fun fl h' g' tk' l' hfl kk K' T' ab' F' R' hup => .inl ⟨hfl, hQ l' h' g' tk' kk F' ⟨T', ab', R', fun o' ho' => ?_⟩⟩) fun h' g' tk' l' kk K' T' ab' F' R' hne hup => .inr ⟨rfl, hq h' g' tk' l' false (kW3.tr kk) K' T' ab' F' R' ⟨fun e => (by cases e), fun q => absurd hup (q o (List.mem_of_getElem? ho) hne)⟩⟩
    rw [etake] at ho'
    rcases List.mem_append.mp ho' with ho' | ho'
    · exact hno o' ho'
    · rw [List.mem_singleton.mp ho']; exact hup
  · rintro l₁ h₂ g₂ tk₂ kP F₂ ⟨T₂, ab₂, R₂, hno⟩
    have kW := back kP
    have K₂ : Ok w mg mb h₂ := K.kx kW fun b e => by rcases e with e | e; exact .inl e; exact .inr (.inr (by rw [e]; exact hL))
    refine hq _ _ _ _ true kW K₂ T₂ ab₂ F₂ R₂ ⟨fun _ o ho => hno o ?_, fun _ => rfl⟩
    rw [hxs.1, List.take_length]; exact ho
end
end Mine
end

section
open PySem PySem.W PyProof.Rows PySem.Spec PySem.Calls PySem.SeqAt
set_option maxRecDepth 100000
set_option maxHeartbeats 4000000
namespace Mine
section
variable {w : World} {mg mb : Str → Option Value} {A : Around} {E : Value → Shared → Prop} {s : Shared} {env : Env} {h : Heap} {g : Array GenState} {d : Drawn} {tk : Nat} {os : OsState} {M : Model} {prog : Program}

noncomputable def indP (par : Nat → List Nat) (ks : List Nat) (k : Nat) : Bool := @decide (∀ o ∈ ks, o ≠ k → ¬ Up par k o) (Classical.propDecidable _)
theorem indP_iff (par : Nat → List Nat) (ks : List Nat) (k : Nat) : indP par ks k = true ↔ ∀ o ∈ ks, o ≠ k → ¬ Up par k o := by
  unfold indP
  exact @decide_eq_true_iff _ (Classical.propDecidable _)
noncomputable def rowsM (lp ls ci ic : Nat) : List (Str × Value) := [(Str.ofString "lookup_parents", .ref lp), (Str.ofString "lookup_stamp", .ref ls), (Str.ofString "shallows", .none), (Str.ofString "commit_ids", .ref ci), (Str.ofString "independent_commits", .ref ic)]

theorem ind_outer {h00 : Heap} {L lp ls ci ic n i k mi m : Nat} {t u : Tok} {par : Nat → List Nat} {st : Nat → Nat} {l : List (Str × Value)} {xs vs : Array Value} {ks acc : List Nat} {Q : Flow → Shared → Prop} (hr : Rm A 17)
    (LK : Lk w mg mb h00 lp ls par st n) (hn : n ≤ 10) (hpar : ∀ k, ∀ p ∈ par k, p < k) (hst : ∀ k, ∀ p ∈ par k, st p < st k) (hpl : ∀ k, (par k).length ≤ 10)
    (k00 : Kx (· = 87) h00 h) (hL0 : h00.get? L = none) (K : Ok w mg mb h) (T : Tb h 87 (qsL w)) (ab : AllB g) (F : Fv h L ((Str.ofString "commit_id", .bytes (nmL' k).toArray u) :: (Str.ofString "i", .int (i : Nat) t) :: l))
    (R : Rows l (rowsM lp ls ci ic)) (hL : 138 < L) (hci : IsL h ci xs mi) (hc87 : ci ≠ 87) (hxs : Nms xs ks) (hks : ∀ k ∈ ks, k < n) (hnd : ks.Nodup) (hik : ks[i]? = some k) (hlen : acc.length ≤ 100)
    (hic : IsL h ic vs m) (hb : 138 < ic) (hvs : Nms vs acc)
    (hq : ∀ h' g' tk' l' vs' m', Kx (W4 L ic) h h' → Ok w mg mb h' → Tb h' 87 (qsL w) → AllB g' → Fv h' L l' → Rows l' (rowsM lp ls ci ic) → IsL h' ic vs' m' → Nms vs' (acc ++ [k].filter (indP par ks)) → Q .next ⟨h', g', d, tk', os⟩) :
    wpAny (model PP w) A (execs (idBody w) (idEnv w L)) Q E ⟨h, g, d, tk, os⟩ := by
  have L87 : L ≠ 87 := fun e => by rw [e] at hL; exact absurd hL (by decide)
  have i87 : ic ≠ 87 := fun e => by rw [e] at hb; exact absurd hb (by decide)
  have iL : ic ≠ L := F.ne_seq hic
  refine wpAny_execs_cons (wpAny_Assign_Name (Constant_bool ?_))
  refine stF F fun h₁ tk₁ F₁ k₁ => ?_
  have k00₁ : Kx (· = 87) h00 h₁ := k00.t1 k₁ hL0
  refine hide fun Gz kz => ?_
  obtain ⟨R1, R2, R3, R4, R5, _⟩ := R
  refine kz ?_
  clear kz Gz
  refine wpAny_execs_cons (ind_loop hr LK hn hpar hst hpl k00₁ hL0 (K.l k₁ hL) (T.fr F k₁) ab F₁ (t := t) (u := u) ⟨rfl, R1, R2, R3, R4, R5, rfl, rfl, trivial⟩ hL (F.lst hci k₁) hc87 hxs hks hnd hik
    fun h₂ g₂ tk₂ l₂ b k₂ K₂ T₂ ab₂ F₂ R₂ hb₂ => ?_)
  refine hide fun Gz kz => ?_
  obtain ⟨Rb, Q1, Q2, Q3, Q4, Q5, Q6, Q7, _⟩ := R₂
  refine kz ?_
  clear kz Gz
  have l₂' : IsL h₂ ic vs m := k₂ _ (fun e => e.elim i87 iL) _ (F.lst hic k₁)
  have kW : Kx (W4 L ic) h h₂ := (k₁.mono fun b e => .inl (.inr (.inl e))).tr (k₂.mono fun b e => .inl (e.elim .inl fun e => .inr (.inl e)))
  have hbi : b = indP par ks k := by
    rw [Bool.eq_iff_iff, hb₂, indP_iff]
  refine wpAny_execs_cons (wpAny_If (isTrue_plain (nmF F₂ Rb (wpAny_truthy_bool ?_))))
  cases b with
  | false =>
    simp only [Bool.false_eq_true, if_false]
    refine wpAny_execs_nil (wpAny_execs_nil ?_)
    refine hq _ _ _ _ _ _ kW K₂ T₂ ab₂ F₂ ⟨Q1, Q2, Q3, Q4, Q5, trivial⟩ l₂' ?_
    rw [show [k].filter (indP par ks) = [] by simp [← hbi], List.append_nil]
    exact hvs
  | true =>
    simp only [if_true]
    refine wpAny_execs_cons (wpAny_Expr (MethodCall_ (nmF F₂ Q5 ?_)))
    refine getMethod_list_of PySem.F.slot_list_append PySem.F.type_list_append l₂'.isList ⟨_, l₂', rfl⟩ ?_
    refine callWith_method1 (args_cons (nmF F₂ Q7 (args_nil ?_)))
    refine append_at l₂' (fun h₃ sb₃ ho₃ => ?_) (by rw [hvs.1]; exact Nat.le_trans hlen (by decide))
    have k₃ := Kx.of_same sb₃
    refine wpAny_execs_nil (wpAny_execs_nil ?_)
    refine hq _ _ _ _ _ _ (kW.tr (k₃.mono fun b e => .inl (.inr (.inr e)))) (K₂.l k₃ hb) (T₂.keep k₃ (fun e => i87 e.symm) fun b e o ho vs' hvs' => ?_) ab₂ (F₂.keep k₃ iL.symm) ⟨Q1, Q2, Q3, Q4, Q5, trivial⟩ ho₃ ?_
    · rw [e, l₂'] at ho; cases ho; cases hvs'
    · rw [show [k].filter (indP par ks) = [k] by simp [← hbi]]
      exact (hvs.enc.push ⟨_, rfl⟩).nms

/- independent of different commits -/
theorem find_indep {lp ls ci mi n : Nat} {xs : Array Value} {ks : List Nat} {par : Nat → List Nat} {st : Nat → Nat} {Q : Value → Shared → Prop} (K : Ok w mg mb h) (hr : Rm A 19) (T : Tb h 87 (qsL w)) (ab : AllB g)
    (LK : Lk w mg mb h lp ls par st n) (hn : n ≤ 10) (hpar : ∀ k, ∀ p ∈ par k, p < k) (hst : ∀ k, ∀ p ∈ par k, st p < st k) (hpl : ∀ k, (par k).length ≤ 10)
    (hci : IsL h ci xs mi) (hc87 : ci ≠ 87) (hxs : Nms xs ks) (hks : ∀ k ∈ ks, k < n) (hnd : ks.Nodup) (h1 : 1 ≤ ks.length) (h2 : ks.length ≤ 10)
    (hq : ∀ h' g' tk' a vs m, Kx (· = 87) h h' → Tb h' 87 (qsL w) → AllB g' → IsL h' a vs m → Nms vs (ks.filter (indP par ks)) → h.get? a = none → Q (.ref a) ⟨h', g', d, tk', os⟩) :
    wpAny (model PP w) A (call (.ref 111) [.ref lp, .ref ls, .none, .ref ci]) Q E ⟨h, g, d, tk, os⟩ := by
  refine callF' [(Str.ofString "lookup_parents", .ref lp), (Str.ofString "lookup_stamp", .ref ls), (Str.ofString "shallows", .none), (Str.ofString "commit_ids", .ref ci)] K hr fun L h₁ tk₁ hL hL' k₁ F₁ K₁ hr₁ => ?_
  have l₁ : IsL h₁ ci _ mi := k₁ _ id _ hci
  have hsz : xs.size = ks.length := hxs.1
  refine wpAny_execs_cons (wpAny_If (isTrue_not (isTrue_plain (nmF F₁ rfl (wpAny_truthy_list l₁.isList (by (first | lia | omega)) ?_)))))
  have e0 : xs.isEmpty = false := by
    cases e : xs.isEmpty with
    | false => rfl
    | true => rw [Array.isEmpty_iff] at e; rw [e] at hsz; simp at hsz; (first | lia | omega)
  rw [e0]
  refine wpAny_execs_nil ?_
  refine wpAny_execs_cons (wpAny_If (wpAny_isTrue_Compare1 (Call_ (nmB K₁ (g_len w) b_len (by decide) (PyProof.Rows.callWith_builtin1 (args_cons (nmF F₁ rfl (args_nil (len_list l₁.isList (by (first | lia | omega)) ?_)))))))))
  refine cI fun t₅ tk₅ => PyProof.Rows.eq_int (wpAny_truthy_bool ?_)
  by_cases hone : ks.length = 1
  · rw [show ((xs.size : Int) == 1) = true by rw [beq_iff_eq]; (first | lia | omega)]
    simp only [if_true]
    refine wpAny_execs_cons (wpAny_Return_some (Call_ (nmB K₁ (g_list w) b_list (by decide) (PyProof.Rows.callWith_type1 (args_cons (nmF F₁ rfl (args_nil ?_)))))))
    refine call_list_seq _ (.inl rfl) l₁ rfl rfl (fun h₄ m₄ kp₄ e₄ => ?_) (by rw [hsz, hone, sizeLine_eq]; decide)
    have k₄ := Kx.of_kp kp₄
    refine hq _ _ _ _ _ _ (k₁.tn k₄).any (T.n (k₁.tn k₄)) ab e₄ ?_ (k₁.dead0 (dead_size h₁))
    obtain ⟨k, rfl⟩ := List.length_eq_one_iff.mp hone
    rw [show [k].filter (indP par [k]) = [k] by
      rw [List.filter_eq_self]
      intro x hx
      rw [indP_iff, List.mem_singleton.mp hx]
      intro o ho hne
      exact absurd (List.mem_singleton.mp ho) hne]
    exact hxs
  · rw [show ((xs.size : Int) == 1) = false by rw [beq_eq_false_iff_ne]; (first | lia | omega)]
    simp only [Bool.false_eq_true, if_false]
    refine wpAny_execs_nil ?_
    refine wpAny_execs_cons (wpAny_Assign_Name (List_ (args_nil (nList (fun h₂ k₂ l₂ => ?_) (Nat.zero_le _)))))
    have d₂ : h₁.get? h₁.objs.size = none := dead_size h₁
    have b₂ : 138 < h₁.objs.size := K₁.sz
    generalize h₁.objs.size = ic at *
    have F₂ := F₁.keep k₂ id
    refine stF F₂ fun h₃ tk₃ F₃ k₃ => ?_
    have kk₃ : Kx none_ h h₃ := (k₁.tn k₂).t1 k₃ hL
    have K₃ : Ok w mg mb h₃ := K.n kk₃
    have T₃ := T.n kk₃
    have l₃ : IsL h₃ ic #[] 0 := F₂.lst l₂ k₃
    have c₃ : IsL h₃ ci xs mi := kk₃.kp _ _ hci
    have dic : h.get? ic = none := k₁.dead0 d₂
    have L87 : L ≠ 87 := fun e => by rw [e] at hL'; exact absurd hL' (by decide)
    have i87 : ic ≠ 87 := fun e => by rw [e] at b₂; exact absurd b₂ (by decide)
    have ciic : ci ≠ ic := ne_dead d₂ l₁
    refine wpAny_execs_cons (for_enum (L := L) (d := d) (os := os) hr₁.1 ?_)
    refine Call_ (nmB K₃ (g_enum w) b_enum (by decide) (PyProof.Rows.callWith_type1 (args_cons (nmF F₃ rfl (args_nil (nEnum c₃ fun h₄ e it k₄ de dit hei he hit => ?_))))))
    have W : ∀ {b : Nat}, h₃.get? b = none → ¬ W4 L ic b := fun {b} hb e => by
      rcases e with e | e | e
      · obtain ⟨ps, e87, _⟩ := T₃
        rw [e, e87] at hb; cases hb
      · exact F₃.ne hb e.symm
      · rw [e, l₃] at hb; cases hb
    have back : ∀ {hx : Heap}, (∀ b, ¬ W4 L ic b → b ≠ e → b ≠ it → ∀ o, h₄.get? b = some o → hx.get? b = some o) → Kx (W4 L ic) h₃ hx := fun {hx} q b hb o ho =>
      q b hb (fun e' => by rw [e', de] at ho; cases ho) (fun e' => by rw [e', dit] at ho; cases ho) o (k₄.kp _ _ ho)
    have base : ∀ {hx : Heap}, Kx (W4 L ic) h₃ hx → Kx (· = 87) h hx := fun {hx} k => (kk₃.any (P := (· = 87))).trans k fun b e => by
      rcases e with e | e | e
      · exact .inl e
      · exact .inr (by rw [e]; exact hL)
      · exact .inr (by rw [e]; exact dic)
    have okk : ∀ {hx : Heap}, Kx (W4 L ic) h₃ hx → Ok w mg mb hx := fun {hx} k => K₃.kx k fun b e => by
      rcases e with e | e | e
      · exact .inl e
      · exact .inr (.inr (by rw [e]; exact hL'))
      · exact .inr (.inr (by rw [e]; exact b₂))
    refine ⟨e, it, ci, xs, mi, h₄, tk₃, g, _, W4 L ic, fun j l hh gg => Tb hh 87 (qsL w) ∧ AllB gg ∧ Rows l (rowsM lp ls ci ic) ∧ ∃ vs m, IsL hh ic vs m ∧ Nms vs ((ks.take j).filter (indP par ks)), rfl, rfl, he, hit, hei, k₄.kp _ _ c₃,
      W de, W dit, (fun e => by rcases e with e | e | e; exact hc87 e; exact F₃.ne_seq c₃ e; exact ciic e), .inr (.inl rfl), F₃.keep k₄ id, ⟨T₃.n k₄, ab, ⟨rfl, rfl, rfl, rfl, rfl, trivial⟩, #[], 0, k₄.kp _ _ l₃, (Enc.nil PN).nms⟩, ?_, ?_, ?_⟩
    · rintro j l₁ hx hy gg kd xz
      refine hide fun Gz kz => ?_
      obtain ⟨T, a, R, vs, m, lv, nv⟩ := xz
      refine kz ?_
      clear kz Gz
      exact ⟨kd.tb T, a, R, vs, m, kd.lst lv, nv⟩
    · rintro j l₅ h₅ h₆ g₅ tk₅ tj v Q' E' hv ⟨T₅, ab₅, R₅, vs, m, lv, nv⟩ kP F₅ k₆ F₆ hQ
      refine hide fun Gz kz => ?_
      obtain ⟨k, hk, u, rfl⟩ := hxs.enc.at_ hv
      refine kz ?_
      clear kz Gz
      have kW6 : Kx (W4 L ic) h₃ h₆ := (back kP).tr (k₆.mono fun b e => .inl (.inr (.inl e)))
      have hlen : ((ks.take j).filter (indP par ks)).length ≤ 100 := by
        have h1 := List.length_filter_le (indP par ks) (ks.take j)
        have h2 : (ks.take j).length ≤ ks.length := by rw [List.length_take]; (first | lia | omega)
        (first | lia | omega)
      have etake : ks.take (j + 1) = ks.take j ++ [k] := by rw [List.take_add_one, hk]; rfl
      refine wpAny_mono (ind_outer (Q := fun fl s₃ => ((fl = .next ∨ fl = .cont) ∧ Q' s₃) ∨ _) (hr₁.less (by decide)) LK hn hpar hst hpl (base kW6) hL (okk kW6) (T₅.fr F₅ k₆) ab₅ F₆ R₅ hL' (kW6 _ (fun e => by rcases e with e | e | e; exact hc87 e; exact F₃.ne_seq c₃ e; exact ciic e) _ c₃) hc87 hxs hks hnd hk hlen
        (F₅.lst lv k₆) b₂ nv fun h₇ g₇ tk₇ l₇ vs₇ m₇ k₇ K₇ T₇ ab₇ F₇ R₇ l₇' nv₇ => .inl ⟨.inl rfl, hQ _ _ _ _ k₇ F₇ ⟨T₇, ab₇, R₇, vs₇, m₇, l₇', ?_⟩⟩) (fun _ _ q => q) fun _ _ e => e
      rw [etake, List.filter_append]
      exact nv₇
    · rintro l₅ h₅ g₅ tk₅ kP F₅ xz
      refine hide fun Gz kz => ?_
      obtain ⟨T₅, ab₅, R₅, vs, m, lv, nv⟩ := xz
      refine kz ?_
      clear kz Gz
      refine wpAny_execs_cons (wpAny_Return_some (nmF F₅ (R₅.sub (Str.ofString "independent_commits") _ rfl) ?_))
      rw [hsz, List.take_length] at nv
      exact hq _ _ _ _ _ _ (base (back kP)) T₅ ab₅ lv nv dic
end
end Mine
end

section
open PySem PySem.W PyProof.Rows PySem.Spec PySem.Calls PySem.SeqAt
set_option maxRecDepth 100000
set_option maxHeartbeats 4000000
namespace Mine
section
variable {w : World} {mg mb : Str → Option Value} {A : Around} {E : Value → Shared → Prop} {s : Shared} {env : Env} {h h' : Heap} {g : Array GenState} {d : Drawn} {tk : Nat} {os : OsState} {M : Model} {prog : Program}

noncomputable abbrev wEnv (w : World) (L : Nat) : Env := callEnvC (fdAt w 138) L 138

/- all lists kept -/
noncomputable def Kl (h h' : Heap) : Prop := ∀ b vs m, IsL h b vs m → IsL h' b vs m
theorem Kl.n (k : Kx none_ h h') : Kl h h' := fun _ _ _ l => k.kp _ _ l
theorem Kl.tr {h₁ h₂ h₃ : Heap} (x : Kl h₁ h₂) (y : Kl h₂ h₃) : Kl h₁ h₃ := fun b vs m l => y b vs m (x b vs m l)
theorem Kl.fr {L : Nat} {l : List (Str × Value)} (F : Fv h L l) (k : Kx (· = L) h h') : Kl h h' := fun _ _ _ t => F.lst t k
theorem Kl.ce {c : Nat} {ov : Option Value} (x : h.IsCell c ov) (k : Kx (· = c) h h') : Kl h h' := fun _ _ _ t => k _ (lst_cell t x) _ t
theorem Fb.kl {a n : Nat} {f : Nat → List Nat} (x : Fb h a n f) (k : Kl h h') : Fb h' a n f :=
  let ⟨us, m, l, e, r⟩ := x; ⟨us, m, k _ _ _ l, e, fun i hi => let ⟨b, vs, m', e1, e2, e3⟩ := r i hi; ⟨b, vs, m', e1, k _ _ _ e2, e3⟩⟩
/- a list of numbers or names at a -/
noncomputable def En (P : Value → Nat → Prop) (h : Heap) (a : Nat) (ks : List Nat) : Prop := ∃ vs m, IsL h a vs m ∧ Enc P vs ks
theorem En.kl {P : Value → Nat → Prop} {a : Nat} {ks : List Nat} (x : En P h a ks) (k : Kl h h') : En P h' a ks := let ⟨vs, m, l, e⟩ := x; ⟨vs, m, k _ _ _ l, e⟩

theorem ne_add {L i : Nat} (h : 1 ≤ i) : L + i ≠ L := by (first | lia | omega)
theorem ne_add2 {L i j : Nat} (h : i ≠ j) : L + i ≠ L + j := by (first | lia | omega)
/- the law's frame and cells -/
structure Bs (h0 h : Heap) (L : Nat) (l : List (Str × Value)) (cv : Nat → Option Value) : Prop where
  k : Kx none_ h0 h
  F : Fv h L l
  C : ∀ i, 1 ≤ i → i ≤ 7 → h.IsCell (L + i) (cv i)
noncomputable def setC (cv : Nat → Option Value) (i : Nat) (v : Value) : Nat → Option Value := fun j => if j = i then some v else cv j
theorem Bs.n {h0 : Heap} {L : Nat} {l : List (Str × Value)} {cv : Nat → Option Value} (B : Bs h0 h L l cv) (k : Kx none_ h h') : Bs h0 h' L l cv := ⟨B.k.tn k, B.F.keep k id, fun i a b => (B.C i a b).keeps k.kp⟩
theorem Bs.st {h0 : Heap} {L : Nat} {l l' : List (Str × Value)} {cv : Nat → Option Value} (B : Bs h0 h L l cv) (dL : h0.get? L = none) (k : Kx (· = L) h h') (F' : Fv h' L l') : Bs h0 h' L l' cv :=
  ⟨B.k.t1 k dL, F', fun i a b => let ⟨o, ho, r⟩ := B.C i a b; ⟨o, k _ (ne_add a) _ ho, r⟩⟩
theorem Bs.ce {h0 : Heap} {L i : Nat} {l : List (Str × Value)} {cv : Nat → Option Value} {v : Value} (B : Bs h0 h L l cv) (dC : h0.get? (L + i) = none) (k : Kx (· = L + i) h h') (c : h'.IsCell (L + i) (some v)) (hi : 1 ≤ i) : Bs h0 h' L l (setC cv i v) :=
  ⟨B.k.t1 k dC, B.F.keep k (ne_add hi).symm, fun j a b => by
    unfold setC
    by_cases e : j = i
    · rw [if_pos e, e]; exact c
    · rw [if_neg e]
      obtain ⟨o, ho, r⟩ := B.C j a b
      exact ⟨o, k _ (ne_add2 e) _ ho, r⟩⟩

theorem g_graph (w : World) : nsIn (KK w) mainGlobals (Str.ofString "_law_graph") = some (some (.ref 116)) := by kernel_rfl
theorem g_name (w : World) : nsIn (KK w) mainGlobals (Str.ofString "_law_name") = some (some (.ref 128)) := by kernel_rfl
theorem g_great (w : World) : nsIn (KK w) mainGlobals (Str.ofString "_law_greatest") = some (some (.ref 133)) := by kernel_rfl
theorem g_oct (w : World) : nsIn (KK w) mainGlobals (Str.ofString "find_octopus_base") = some (some (.ref 104)) := by kernel_rfl
theorem g_ind (w : World) : nsIn (KK w) mainGlobals (Str.ofString "independent") = some (some (.ref 111)) := by kernel_rfl

/- statements 0 to 3 -/
theorem law_A {h0 : Heap} {L sa : Nat} {sv : Array Value} {cv : Nat → Option Value} {_l : List (Str × Value)} {Q : Flow → Shared → Prop} (K0 : Ok w mg mb h0) (hr : Rm A 10) (hsc : h0.IsList sa sv) (hsz : sv.size ≤ 63) (hsi : AnyI sv)
    (dL : h0.get? L = none) (_hL : 138 < L) (dC : ∀ i, 1 ≤ i → h0.get? (L + i) = none) (B : Bs h0 h L [(Str.ofString "script", .ref sa)] cv)
    (hq : ∀ h' tk' l' pa sta fo n z t u par st fb, Bs h0 h' L l' (setC (setC cv 1 (.ref sta)) 2 (.ref fo)) → Rows l' [(Str.ofString "parents", .ref pa), (Str.ofString "size", .int ((n : Nat) : Int) t), (Str.ofString "pick", .int z u)] →
      2 ≤ n → n ≤ 10 → Gp par st n → Fb h' pa n par → En PI h' sta ((List.range n).map st) → Fb h' fo n fb → (∀ k < n, ∀ j, j ∈ fb k ↔ Up par j k) → wpAny (model PP w) A (execs ((bodyAt w 138).drop 4) (wEnv w L)) Q E ⟨h', g, d, tk', os⟩) :
    wpAny (model PP w) A (execs (bodyAt w 138) (wEnv w L)) Q E ⟨h, g, d, tk, os⟩ := by
  have K := K0.n B.k
  refine wpAny_execs_cons (Assign_Tuple (Call_ (nmG K (g_graph w) (callWith_K K.x (by kernel_rfl) (args_cons (nmF B.F rfl (args_nil ⟨K.x, ?_⟩)))))))
  refine law_graph K (hr.less (by decide)) (IsList.k hsc B.k id) hsz hsi fun h₁ tk₁ a pa sta n par st k₁ t₁ hn2 hn X sa₁ G _ => ?_
  have B₁ := B.n k₁
  refine assign_Tuple_tuple (items := #[.ref pa, .ref sta]) hr.1 ⟨_, t₁, rfl, _, rfl⟩ rfl rfl fun h₂ he => ?_
  have k₂ : Kx none_ h₁ h₂ := Kx.of_ext_size he
  have B₂ := B₁.n k₂
  refine assignInOrder_cons (PyProof.Rows.assign_Name (stF B₂.F fun h₃ tk₃ F₃ k₃ => ?_))
  have B₃ := B₂.st dL k₃ F₃
  refine assignInOrder_cons (PyProof.Rows.assign_Name (stC (B₃.C 1 (by decide) (by decide)) fun h₄ c₄ k₄ => ?_))
  have B₄ := B₃.ce (dC 1 (by decide)) k₄ c₄ (by decide)
  refine assignInOrder_nil ?_
  have kl₄ : Kl h₁ h₄ := ((Kl.n k₂).tr (Kl.fr B₂.F k₃)).tr (Kl.ce (B₃.C 1 (by decide) (by decide)) k₄)
  have X₄ := X.kl kl₄
  have S₄ : En PI h₄ sta ((List.range n).map st) := En.kl (let ⟨vs, m, l, i⟩ := sa₁; ⟨vs, m, l, i⟩) kl₄
  have K₄ := K0.n B₄.k
  -- size
  obtain ⟨us, m, lp, eu, ru⟩ := id X₄
  refine wpAny_execs_cons (wpAny_Assign_Name (Call_ (nmB K₄ (g_len w) b_len (by decide) (PyProof.Rows.callWith_builtin1 (args_cons (nmF B₄.F rfl (args_nil (len_list lp.isList (by (first | lia | omega)) ?_))))))))
  rw [eu]
  refine stF B₄.F fun h₅ tk₅ F₅ k₅ => ?_
  have B₅ := B₄.st dL k₅ F₅
  have K₅ := K0.n B₅.k
  have s₅ : h₅.IsList sa sv := IsList.k hsc B₅.k id
  have kl₅ := kl₄.tr (Kl.fr B₄.F k₅)
  -- pick
  refine wpAny_execs_cons (wpAny_Assign_Name (wpAny_mono (Q := fun v s => ∃ z t tk', v = .int z t ∧ s = ⟨h₅, g, d, tk', os⟩) ?_ ?_ fun _ _ e => e))
  · refine IfExp_ (wpAny_isTrue_Compare1 (wpAny_BinOp (nmF F₅ rfl (cI fun t1 tk1 => bAdd fun t2 tk2 => ?_))))
    have e1 : ((n : Nat) : Int) + 1 = ((n + 1 : Nat) : Int) := by push_cast; rfl
    refine Call_ (nmB K₅ (g_len w) b_len (by decide) (PyProof.Rows.callWith_builtin1 (args_cons (nmF F₅ rfl (args_nil (len_list s₅ (by (first | lia | omega)) ?_))))))
    refine PyProof.Rows.lt_int (wpAny_truthy_bool ?_)
    by_cases hlt : n + 1 < sv.size
    · rw [show decide (((n : Nat) : Int) + 1 < (sv.size : Int)) = true by rw [decide_eq_true_eq]; (first | lia | omega)]
      simp only [if_true]
      obtain ⟨z, u, hz⟩ := hsi (n + 1) sv[n + 1] (by simp [hlt])
      refine Call_ (nmB K₅ (g_abs w) b_abs (by decide) (PyProof.Rows.callWith_builtin1 (args_cons (Subscript_BinOp (nmF F₅ rfl (wpAny_BinOp (nmF F₅ rfl (cI fun t3 tk3 => bAdd fun t4 tk4 => ?_))))))))
      rw [e1]
      exact onListS s₅ (by (first | lia | omega)) (x := .int z u) (by rw [← hz]; simp [hlt]) (args_nil (bAbs fun t5 tk5 => ⟨_, _, _, rfl, rfl⟩))
    · rw [show decide (((n : Nat) : Int) + 1 < (sv.size : Int)) = false by rw [decide_eq_false_iff_not]; (first | lia | omega)]
      simp only [Bool.false_eq_true, if_false]
      exact cI fun t5 tk5 => ⟨_, _, _, rfl, rfl⟩
  rintro _ _ ⟨z, u, tk', rfl, rfl⟩
  refine stF F₅ fun h₆ tk₆ F₆ k₆ => ?_
  have B₆ := B₅.st dL k₆ F₆
  have K₆ := K0.n B₆.k
  have kl₆ := kl₅.tr (Kl.fr F₅ k₆)
  -- forebears
  refine wpAny_execs_cons (wpAny_Assign_Name (Call_ (nmG K₆ (g_fb w) (callWith_K K₆.x (by kernel_rfl) (args_cons (nmF F₆ rfl (args_nil ⟨K₆.x, ?_⟩)))))))
  refine law_forebears K₆ (hr.less (by decide)) (X.kl kl₆) hn G.p (fun k => Nat.le_trans (G.l k) (by decide)) fun h₇ tk₇ fo fb k₇ Y hfb _ => ?_
  have B₇ := B₆.n k₇
  refine stC (B₇.C 2 (by decide) (by decide)) fun h₈ c₈ k₈ => ?_
  have B₈ := B₇.ce (dC 2 (by decide)) k₈ c₈ (by decide)
  have klc := Kl.ce (B₇.C 2 (by decide) (by decide)) k₈
  have kl₈ := (kl₆.tr (Kl.n k₇)).tr klc
  exact hq _ _ _ pa sta fo n z _ _ par st fb B₈ ⟨rfl, rfl, rfl, trivial⟩ hn2 hn G (X.kl kl₈) (En.kl (let ⟨vs, m, l, i⟩ := sa₁; ⟨vs, m, l, i⟩) kl₈) (Y.kl klc) hfb
end
end Mine
end

section
open PySem PySem.W PyProof.Rows PySem.Spec PySem.Calls PySem.SeqAt
set_option maxRecDepth 100000
set_option maxHeartbeats 4000000
namespace Mine
section
variable {w : World} {mg mb : Str → Option Value} {A : Around} {E : Value → Shared → Prop} {s : Shared} {env : Env} {h h' : Heap} {g : Array GenState} {d : Drawn} {tk : Nat} {os : OsState} {M : Model} {prog : Program}

theorem Kd.dict {a : Nat} {kvs : List (List UInt8 × Value)} (k : Kd h h') (x : Cs w h a kvs) : Cs w h' a kvs :=
  let ⟨o, es, ep, ho, hc, hd, r⟩ := x; ⟨o, es, ep, k _ _ ho (It.no fun vs e => by rw [hd] at e; cases e), hc, hd, r⟩
theorem Kd.kl (k : Kd h h') : Kl h h' := fun _ _ _ l => k.lst l
theorem Cs.kx {a : Nat} {kvs : List (List UInt8 × Value)} {P : Nat → Prop} (x : Cs w h a kvs) (k : Kx P h h') (hP : ¬ P a) : Cs w h' a kvs := let ⟨o, es, ep, ho, r⟩ := x; ⟨o, es, ep, k _ hP _ ho, r⟩
theorem Kl.di {a : Nat} {kvs : List (List UInt8 × Value)} (x : Cs w h a kvs) (k : Kx (· = a) h h') : Kl h h' := fun b vs m l => k b (fun e => by
  obtain ⟨o, es, ep, ho, _, hd, _⟩ := x
  have e : b = a := e
  subst e
  have h2 := ho.symm.trans l
  cases h2; cases hd) _ l
theorem stored_len {K : Type} [DecidableEq K] (kvs : List (K × Value)) (k : K) (v : Value) : (stored kvs k v).length ≤ kvs.length + 1 := by
  unfold stored
  split
  · rw [List.length_map]; (first | lia | omega)
  · rw [List.length_append]; simp

/- the tables as far as they are filled -/
noncomputable def TabT (h : Heap) (kvs : List (List UInt8 × Value)) (par : Nat → List Nat) (j : Nat) : Prop := ∀ k < j, ∃ b, valueAt kvs (nmL' k) = some (.ref b) ∧ En PN h b (par k)
noncomputable def TimT (kvs : List (List UInt8 × Value)) (st : Nat → Nat) (j : Nat) : Prop := ∀ k < j, ∃ t, valueAt kvs (nmL' k) = some (.int ((st k : Nat) : Int) t)
theorem TabT.kl {kvs : List (List UInt8 × Value)} {par : Nat → List Nat} {j : Nat} (x : TabT h kvs par j) (k : Kl h h') : TabT h' kvs par j := fun i hi => let ⟨b, e, q⟩ := x i hi; ⟨b, e, q.kl k⟩
theorem TabT.step {kvs : List (List UInt8 × Value)} {par : Nat → List Nat} {j b : Nat} (x : TabT h kvs par j) (hj : j < 10) (q : En PN h b (par j)) : TabT h (stored kvs (nmL' j) (.ref b)) par (j + 1) := fun i hi => by
  rw [valueAt_stored]
  by_cases e : i = j
  · rw [e, if_pos rfl]; exact ⟨b, rfl, q⟩
  · rw [if_neg (fun e' => e (nm_inj i (by (first | lia | omega)) j hj e'))]
    exact x i (by (first | lia | omega))
theorem TimT.step {kvs : List (List UInt8 × Value)} {st : Nat → Nat} {j : Nat} {t : Tok} (x : TimT kvs st j) (hj : j < 10) : TimT (stored kvs (nmL' j) (.int ((st j : Nat) : Int) t)) st (j + 1) := fun i hi => by
  rw [valueAt_stored]
  by_cases e : i = j
  · rw [e, if_pos rfl]; exact ⟨t, rfl⟩
  · rw [if_neg (fun e' => e (nm_inj i (by (first | lia | omega)) j hj e'))]
    exact x i (by (first | lia | omega))

noncomputable def lwFor (w : World) : Stmt := (bodyAt w 138).getD 7 default
noncomputable def lwBody (w : World) : List Stmt := match lwFor w with | .For _ _ b _ _ => b | _ => []

theorem lw_turn {L pa sta na ta ti n k : Nat} {t u : Tok} {par : Nat → List Nat} {st : Nat → Nat} {l : List (Str × Value)} {kv1 kv2 : List (List UInt8 × Value)} {Q : Flow → Shared → Prop} (_K : Ok w mg mb h) (hr : Rm A 6)
    (F : Fv h L ((Str.ofString "k", .int (k : Nat) t) :: l)) (R : Rows l [(Str.ofString "parents", .ref pa), (Str.ofString "size", .int ((n : Nat) : Int) u)]) (hn : n ≤ 10) (hk : k < n) (hpl : ∀ k, (par k).length ≤ 10) (hp : ∀ k, ∀ p ∈ par k, p < k)
    (c1 : h.IsCell (L + 1) (some (.ref sta))) (c3 : h.IsCell (L + 3) (some (.ref na))) (c6 : h.IsCell (L + 6) (some (.ref ta))) (c7 : h.IsCell (L + 7) (some (.ref ti))) (htt : ta ≠ ti) (LD : L ≠ ta)
    (X : Fb h pa n par) (S : En PI h sta ((List.range n).map st)) (N : En PN h na (List.range n)) (D1 : Cs w h ta kv1) (D2 : Cs w h ti kv2) (l1 : kv1.length ≤ 10) (l2 : kv2.length ≤ 10) (T1 : TabT h kv1 par k) (T2 : TimT kv2 st k)
    (hq : ∀ h' tk' b t', Kx (fun b => b = ta ∨ b = ti) h h' → Cs w h' ta (stored kv1 (nmL' k) (.ref b)) → Cs w h' ti (stored kv2 (nmL' k) (.int ((st k : Nat) : Int) t')) → TabT h' (stored kv1 (nmL' k) (.ref b)) par (k + 1) → TimT (stored kv2 (nmL' k) (.int ((st k : Nat) : Int) t')) st (k + 1) → Q .next ⟨h', g, d, tk', os⟩) :
    wpAny (model PP w) A (execs (lwBody w) (wEnv w L)) Q E ⟨h, g, d, tk, os⟩ := by
  refine hide fun Gz kz => ?_
  obtain ⟨nvs, nm, ln, en⟩ := id N
  obtain ⟨svs, sm, lsx, es⟩ := id S
  obtain ⟨v, hv, u1, rfl⟩ := en.2 k k (by simp [hk])
  obtain ⟨v2, hv2, u2, rfl⟩ := es.2 k (st k) (by simp [hk])
  refine kz ?_
  clear kz Gz
  have fin : ∀ {hx : Heap} {Q' : Value → Shared → Prop} {E' : Value → Shared → Prop} {tkx : Nat} {p : Pos} {p1 p2 : Pos}, Fv hx L ((Str.ofString "k", .int (k : Nat) t) :: l) → hx.IsCell (L + 3) (some (.ref na)) → IsL hx na nvs nm → Q' (.bytes (nmL' k).toArray u1) ⟨hx, g, d, tkx, os⟩ →
      wpAny (model PP w) A (eval (.Subscript (.Name (Str.ofString "names") p1) (.Name (Str.ofString "k") p2) p) (wEnv w L)) Q' E' ⟨hx, g, d, tkx, os⟩ := fun {hx Q' E' tkx p p1 p2} F' c' l' q =>
    Subscript_Name (nmV c' (nmF F' rfl (onList l' (by (first | lia | omega)) hv q)))
  refine wpAny_execs_cons (wpAny_Assign_Subscript ?_)
  refine lcompL (ck := false) (g := g) (d := d) (os := os) ⟨rfl, by decide, fun _ => rfl, fun _ => rfl, fun _ => rfl⟩ rfl (fun i y _ => ∃ p, (par k)[i]? = some p ∧ PN y p) (fun _ => true) hr.1 (fun _ _ _ _ e _ => e) ?_
  refine subFb X hk (by (first | lia | omega)) (fun q => nmF F R.1 q) (fun q => nmF F rfl q) fun pb pvs pm pl pi => ?_
  refine ⟨pb, pvs, pm, h, tk, rfl, rfl, pl, by rw [pi.1]; exact Nat.le_trans (hpl k) (by decide), fun C b i v h₃ tk₃ Q' E' hv T kk hQ => wpAny_tests_nil (hQ _ _ (Kx.refl _ _)), fun C b i v h₃ tk₃ Q' E' hv _ T kk hQ => ?_, fun Dl h₃ tk₃ ys m₃ hD k₃ l₃ CR => ?_⟩
  · refine hide fun Gz kz => ?_
    obtain ⟨p, hp', t8, rfl⟩ := pi.at_ hv
    refine kz ?_
    clear kz Gz
    have hpk : p < k := hp k p (List.mem_of_getElem? hp')
    obtain ⟨v', hv', pv⟩ := en.2 p p (by rw [List.getElem?_range (by (first | lia | omega))])
    exact Subscript_Name (nmV (c3.keeps kk.kp) (T.name (onList (kk.kp _ _ ln) (by (first | lia | omega)) hv' (hQ _ _ _ (Kx.refl _ _) ⟨p, hp', pv⟩))))
  · have hys : Enc PN ys (par k) := by
      have CR' := CR
      rw [pi.1] at CR'
      have := CR'.enc (P := PN) (p := fun _ => true) (f := id) (fun _ _ _ => rfl) fun i k' y hk' hy => by
        obtain ⟨p, e, q⟩ := hy
        rw [hk'] at e; cases e; exact q
      rwa [List.filter_eq_self.mpr fun _ _ => rfl, List.map_id] at this
    have F₃ := F.keep k₃ id
    have D1₃ := D1.n k₃
    refine nmV (c6.keeps k₃.kp) (fin F₃ (c3.keeps k₃.kp) (k₃.kp _ _ ln) ?_)
    refine wpAny_setItem_pairs (key_is w k u1) D1₃ (fun h₄ c₄ sb₄ => ?_) (Nat.le_trans l1 (by decide))
    have k₄ := Kx.of_same sb₄
    have kl₄ := Kl.di D1₃ k₄
    have ncell : ∀ {c : Nat} {ov : Option Value} {a : Nat} {kvs : List (List UInt8 × Value)}, h₃.IsCell c ov → Cs w h₃ a kvs → c ≠ a := by
      rintro c ov a kvs ⟨o, ho, r⟩ ⟨o', es, ep, ho', _, hd, _⟩ rfl
      rw [ho] at ho'; cases ho'; rw [r] at hd; cases hd
    have cell4 : ∀ {c : Nat} {v : Value}, h.IsCell c (some v) → h₄.IsCell c (some v) := fun {c v} x => by
      have x3 : h₃.IsCell c (some v) := x.keeps k₃.kp
      obtain ⟨o, ho, r⟩ := id x3
      exact ⟨o, k₄ _ (ncell x3 D1₃) _ ho, r⟩
    have F₄ : Fv h₄ L ((Str.ofString "k", .int (k : Nat) t) :: l) := F₃.keep k₄ LD
    refine wpAny_execs_cons (wpAny_Assign_Subscript ?_)
    refine Subscript_Name (nmV (cell4 c1) (nmF F₄ rfl (onList (kl₄ _ _ _ (k₃.kp _ _ lsx)) (by (first | lia | omega)) hv2 ?_)))
    refine nmV (cell4 c7) (fin F₄ (cell4 c3) (kl₄ _ _ _ (k₃.kp _ _ ln)) ?_)
    have D2₄ : Cs w h₄ ti kv2 := (D2.n k₃).kx k₄ (fun e => htt e.symm)
    refine wpAny_setItem_pairs (key_is w k u1) D2₄ (fun h₅ c₅ sb₅ => ?_) (Nat.le_trans l2 (by decide))
    have k₅ := Kx.of_same sb₅
    refine wpAny_execs_nil ?_
    have T1₃ : TabT h₃ (stored kv1 (nmL' k) (.ref Dl)) par (k + 1) := (T1.kl (Kl.n k₃)).step (by (first | lia | omega)) ⟨ys, m₃, l₃, hys⟩
    exact hq _ _ Dl u2 ((k₃.any.tr (k₄.mono fun b e => .inl (.inl e))).tr (k₅.mono fun b e => .inl (.inr e))) (Cs.kx c₄ k₅ htt) c₅ (T1₃.kl (kl₄.tr (Kl.di D2₄ k₅))) (T2.step (by (first | lia | omega)))
end
end Mine
end

section
open PySem PySem.W PyProof.Rows PySem.Spec PySem.Calls PySem.SeqAt
set_option maxRecDepth 100000
set_option maxHeartbeats 4000000
namespace Mine
section
variable {w : World} {mg mb : Str → Option Value} {A : Around} {E : Value → Shared → Prop} {s : Shared} {env : Env} {h h' : Heap} {g : Array GenState} {d : Drawn} {tk : Nat} {os : OsState} {M : Model} {prog : Program}

noncomputable def rowsW (pa n : Nat) (z : Int) (t u : Tok) : List (Str × Value) := [(Str.ofString "parents", .ref pa), (Str.ofString "size", .int ((n : Nat) : Int) t), (Str.ofString "pick", .int z u)]
theorem cell_ne {c a : Nat} {ov : Option Value} (x : h.IsCell c ov) (e : h.get? a = none) : c ≠ a := by obtain ⟨o, ho, _⟩ := x; exact ne_dead e ho

theorem Kl.di2 {a b : Nat} {kvs kvs' : List (List UInt8 × Value)} (x : Cs w h a kvs) (y : Cs w h b kvs') (k : Kx (fun c => c = a ∨ c = b) h h') : Kl h h' := fun c vs m l => k c (fun e => by
  rcases e with e | e
  · subst e
    obtain ⟨o, es, ep, ho, _, hd, _⟩ := x
    have h2 := ho.symm.trans l
    cases h2; cases hd
  · subst e
    obtain ⟨o, es, ep, ho, _, hd, _⟩ := y
    have h2 := ho.symm.trans l
    cases h2; cases hd) _ l
/- the loop's state -/
inductive LbS (w : World) (L pa sta fo n : Nat) (z : Int) (t u : Tok) (par fb : Nat → List Nat) (st : Nat → Nat) (Dl ta ti : Nat) (g : Array GenState) (j : Nat) (hh : Heap) (gg : Array GenState) : Prop
  | mk (l : List (Str × Value)) (kv1 kv2 : List (List UInt8 × Value)) (e : gg = g) (F : Fv hh L l) (R : Rows l (rowsW pa n z t u)) (X : Fb hh pa n par) (S : En PI hh sta ((List.range n).map st))
      (Y : Fb hh fo n fb) (N : En PN hh Dl (List.range n)) (D1 : Cs w hh ta kv1) (D2 : Cs w hh ti kv2) (l1 : kv1.length ≤ j) (l2 : kv2.length ≤ j) (T1 : TabT hh kv1 par j) (T2 : TimT kv2 st j) :
      LbS w L pa sta fo n z t u par fb st Dl ta ti g j hh gg
/- statements 4 to 7 -/
theorem law_B {h0 : Heap} {L pa sta fo n : Nat} {z : Int} {t u : Tok} {cv : Nat → Option Value} {par fb : Nat → List Nat} {st : Nat → Nat} {l : List (Str × Value)} {Q : Flow → Shared → Prop} (K0 : Ok w mg mb h0) (hr : Rm A 10)
    (dL : h0.get? L = none) (hL : 138 < L) (dC : ∀ i, 1 ≤ i → h0.get? (L + i) = none) (B : Bs h0 h L l cv) (v1 : cv 1 = some (.ref sta)) (R : Rows l (rowsW pa n z t u)) (_hn2 : 2 ≤ n) (hn : n ≤ 10) (G : Gp par st n)
    (X : Fb h pa n par) (S : En PI h sta ((List.range n).map st)) (Y : Fb h fo n fb)
    (hq : ∀ h' tk' l' na ta ti kv1 kv2, Bs h0 h' L l' (setC (setC (setC cv 3 (.ref na)) 6 (.ref ta)) 7 (.ref ti)) → Rows l' (rowsW pa n z t u) → Fb h' pa n par → En PI h' sta ((List.range n).map st) → Fb h' fo n fb →
      En PN h' na (List.range n) → Cs w h' ta kv1 → Cs w h' ti kv2 → TabT h' kv1 par n → TimT kv2 st n → ta ≠ L → ti ≠ L → (∀ i, 1 ≤ i → i ≤ 7 → ta ≠ L + i ∧ ti ≠ L + i) → 138 < ta → 138 < ti → h0.get? ta = none → h0.get? ti = none →
      wpAny (model PP w) A (execs ((bodyAt w 138).drop 8) (wEnv w L)) Q E ⟨h', g, d, tk', os⟩) :
    wpAny (model PP w) A (execs ((bodyAt w 138).drop 4) (wEnv w L)) Q E ⟨h, g, d, tk, os⟩ := by
  have K := K0.n B.k
  -- names
  refine wpAny_execs_cons (wpAny_Assign_Name ?_)
  refine lcompR (ck := false) (g := g) (d := d) (os := os) ⟨rfl, by decide, fun _ => rfl, fun _ => rfl, fun _ => rfl⟩ rfl (fun i y _ => PN y i) (fun _ => true) hr.1 (fun _ _ _ _ e _ => e) ?_
  refine Call_ (nmB K (g_range w) b_range (by decide) (PyProof.Rows.callWith_type1 (args_cons (nmF B.F (R.sub (Str.ofString "size") _ rfl) (args_nil ?_)))))
  refine nRange fun h₁ tk₁ tt uu vv k₁ r₁ => ?_
  have B₁ := B.n k₁
  refine ⟨_, 0, _, tt, uu, vv, n, h₁, tk₁, rfl, rfl, r₁, small0 _ (by (first | lia | omega)), size0 _, by (first | lia | omega), fun C b j v h₂ tk₂ Q' E' hj hv T kk hQ => wpAny_tests_nil (hQ _ _ (Kx.refl _ _)), fun C b i v h₂ tk₂ Q' E' hi hv _ T kk hQ => ?_, fun Dl h₂ tk₂ ys m₂ hD k₂ l₂ CR => ?_⟩
  · obtain ⟨t₄, rfl⟩ := hv
    rw [Int.zero_add] at T
    have K₂ : Ok w mg mb h₂ := K.n (k₁.tn kk)
    refine Call_ (nmG K₂ (g_name w) (callWith_K K₂.x (by kernel_rfl) (args_cons (T.name (args_nil ⟨K₂.x, ?_⟩)))))
    refine law_name K₂ hr.room hr.1 (by (first | lia | omega)) fun v h₃ tk₃ hv kp => ?_
    exact hQ _ _ _ (Kx.of_kp kp) hv
  have hys : Enc PN ys (List.range n) := by
    have := CR.rng0
    rwa [List.filter_eq_self.mpr fun _ _ => rfl] at this
  have B₂ := B₁.n k₂
  refine stC (B₂.C 3 (by decide) (by decide)) fun h₃ c₃ k₃ => ?_
  have B₃ := B₂.ce (dC 3 (by decide)) k₃ c₃ (by decide)
  have kl₃ : Kl h h₃ := ((Kl.n k₁).tr (Kl.n k₂)).tr (Kl.ce (B₂.C 3 (by decide) (by decide)) k₃)
  have N₃ : En PN h₃ Dl (List.range n) := ⟨ys, m₂, Kl.ce (B₂.C 3 (by decide) (by decide)) k₃ _ _ _ l₂, hys⟩
  have K₃ := K0.n B₃.k
  -- table
  refine wpAny_execs_cons (wpAny_Assign_Name (wpAny_Dict_empty ?_))
  have k₄ : Kx none_ h₃ (h₃.push { cls := .type "dict", data := .dict #[] }) := Kx.push _ _
  have cs₄ : Cs w (h₃.push { cls := .type "dict", data := .dict #[] }) h₃.objs.size [] := Heap.DictOf.new h₃
  have d4 : h₃.get? h₃.objs.size = none := dead_size h₃
  have b4 : 138 < h₃.objs.size := K₃.sz
  show wpAny _ _ (storeName _ _ (.ref h₃.objs.size)) _ _ ⟨h₃.push { cls := .type "dict", data := .dict #[] }, g, d, tk₂, os⟩
  generalize h₃.push { cls := .type "dict", data := .dict #[] } = h₄ at *
  generalize h₃.objs.size = ta at *
  have B₄ := B₃.n k₄
  have nta : ∀ i, 1 ≤ i → i ≤ 7 → ta ≠ L + i := fun i a b => (cell_ne (B₃.C i a b) d4).symm
  have ntaL : ta ≠ L := (B₃.F.ne d4).symm
  refine stC (B₄.C 6 (by decide) (by decide)) fun h₅ c₅ k₅ => ?_
  have B₅ := B₄.ce (dC 6 (by decide)) k₅ c₅ (by decide)
  have cs₅ : Cs w h₅ ta [] := cs₄.kx k₅ (nta 6 (by decide) (by decide))
  have kl₅ : Kl h₃ h₅ := (Kl.n k₄).tr (Kl.ce (B₄.C 6 (by decide) (by decide)) k₅)
  have K₅ := K0.n B₅.k
  -- times
  refine wpAny_execs_cons (wpAny_Assign_Name (wpAny_Dict_empty ?_))
  have k₆ : Kx none_ h₅ (h₅.push { cls := .type "dict", data := .dict #[] }) := Kx.push _ _
  have cs₆ : Cs w (h₅.push { cls := .type "dict", data := .dict #[] }) h₅.objs.size [] := Heap.DictOf.new h₅
  have d6 : h₅.get? h₅.objs.size = none := dead_size h₅
  have b6 : 138 < h₅.objs.size := K₅.sz
  show wpAny _ _ (storeName _ _ (.ref h₅.objs.size)) _ _ ⟨h₅.push { cls := .type "dict", data := .dict #[] }, g, d, tk₂, os⟩
  generalize h₅.push { cls := .type "dict", data := .dict #[] } = h₆ at *
  generalize h₅.objs.size = ti at *
  have B₆ := B₅.n k₆
  have nti : ∀ i, 1 ≤ i → i ≤ 7 → ti ≠ L + i := fun i a b => (cell_ne (B₅.C i a b) d6).symm
  have ntiL : ti ≠ L := (B₅.F.ne d6).symm
  have htt : ta ≠ ti := by obtain ⟨o, _, _, ho, _⟩ := cs₅; exact ne_dead d6 ho
  refine stC (B₆.C 7 (by decide) (by decide)) fun h₇ c₇ k₇ => ?_
  have B₇ := B₆.ce (dC 7 (by decide)) k₇ c₇ (by decide)
  have D1 : Cs w h₇ ta [] := (cs₅.n k₆).kx k₇ (nta 7 (by decide) (by decide))
  have D2 : Cs w h₇ ti [] := cs₆.kx k₇ (nti 7 (by decide) (by decide))
  have kl₇ : Kl h₃ h₇ := (kl₅.tr (Kl.n k₆)).tr (Kl.ce (B₆.C 7 (by decide) (by decide)) k₇)
  have K₇ := K0.n B₇.k
  have dta : h0.get? ta = none := B₃.k.dead0 d4
  have dti : h0.get? ti = none := B₅.k.dead0 d6
  -- the loop
  refine wpAny_execs_cons (for_range (d := d) (os := os) hr.1 ?_)
  refine Call_ (nmB K₇ (g_range w) b_range (by decide) (PyProof.Rows.callWith_type1 (args_cons (nmF B₇.F (R.sub (Str.ofString "size") _ rfl) (args_nil ?_)))))
  refine nRange fun h₈ tk₈ tt uu vv k₈ r₈ => ?_
  have B₈ := B₇.n k₈
  have kl₈ : Kl h h₈ := (kl₃.tr kl₇).tr (Kl.n k₈)
  have P0 : ∀ b, P3 L ta ti b → ∃ o, h₈.get? b = some o := by
    rintro b (rfl | rfl | rfl)
    · obtain ⟨_, ⟨o, _, _, ho, _⟩, _⟩ := B₈.F
      exact ⟨o, ho⟩
    · obtain ⟨o, _, _, ho, _⟩ := D1.n k₈
      exact ⟨o, ho⟩
    · obtain ⟨o, _, _, ho, _⟩ := D2.n k₈
      exact ⟨o, ho⟩
  have nC : ∀ i, 1 ≤ i → i ≤ 7 → ¬ P3 L ta ti (L + i) := fun i a b e => by
    rcases e with e | e | e
    · exact ne_add a e
    · exact nta i a b e.symm
    · exact nti i a b e.symm
  have stay : ∀ {hx : Heap}, Kx (P3 L ta ti) h₈ hx → Kx none_ h0 hx := fun {hx} k => B₈.k.trans k fun b e => .inr (by rcases e with e | e | e <;> subst e <;> assumption)
  have cells : ∀ {hx : Heap}, Kx (P3 L ta ti) h₈ hx → ∀ i, 1 ≤ i → i ≤ 7 → hx.IsCell (L + i) (setC (setC (setC cv 3 (.ref Dl)) 6 (.ref ta)) 7 (.ref ti) i) := fun {hx} k i a b =>
    let ⟨o, ho, r⟩ := B₈.C i a b; ⟨o, k _ (nC i a b) _ ho, r⟩
  refine ⟨_, n, tt, uu, vv, h₈, tk₈, g, P3 L ta ti, LbS w L pa sta fo n z t u par fb st Dl ta ti g,
    rfl, rfl, r₈, by (first | lia | omega), P0, ⟨l, [], [], rfl, B₈.F, R, X.kl kl₈, S.kl kl₈, Y.kl kl₈, N₃.kl (kl₇.tr (Kl.n k₈)), D1.n k₈, D2.n k₈, Nat.le_refl _, Nat.le_refl _, fun k hk => absurd hk (Nat.not_lt_zero _), fun k hk => absurd hk (Nat.not_lt_zero _)⟩, ?_, ?_, ?_⟩
  · rintro j hx hy gg kd xz
    refine hide fun Gz kz => ?_
    obtain ⟨l, kv1, kv2, e, F, R, X, S, Y, N, D1, D2, l1, l2, T1, T2⟩ := xz
    refine kz ?_
    clear kz Gz
    exact ⟨l, kv1, kv2, e, kd.fv F, R, X.kl kd.kl, S.kl kd.kl, Y.kl kd.kl, N.kl kd.kl, kd.dict D1, kd.dict D2, l1, l2, T1.kl kd.kl, T2⟩
  · rintro j h₉ g₉ tk₉ tj Q' E' hj xz kP hQ
    refine hide fun Gz kz => ?_
    obtain ⟨l₉, kv1, kv2, rfl, F₉, R₉, X₉, S₉, Y₉, N₉, D1₉, D2₉, l1, l2, T1, T2⟩ := xz
    refine kz ?_
    clear kz Gz
    have K₉ : Ok w mg mb h₉ := K0.n (stay kP)
    refine wpAny_assign_Name (stF F₉ fun ha tka Fa ka => ?_)
    have kPa : Kx (P3 L ta ti) h₈ ha := kP.tr (ka.mono fun b e => .inl (.inl e))
    have kla := Kl.fr F₉ ka
    have ca := cells kPa
    refine wpAny_mono (lw_turn (Q := fun fl s₃ => (fl = .next ∨ fl = .cont) ∧ Q' s₃) (K₉.l ka hL) (hr.less (by decide)) Fa ⟨R₉.1, R₉.2.1, trivial⟩ hn hj (fun k => Nat.le_trans (G.l k) (by decide)) G.p ((congrArg (fun x => ha.IsCell (L + 1) x) v1).mp (ca 1 (by decide) (by decide))) (ca 3 (by decide) (by decide)) (ca 6 (by decide) (by decide)) (ca 7 (by decide) (by decide)) htt ntaL.symm
      (X₉.kl kla) (S₉.kl kla) (N₉.kl kla) (D1₉.kx ka ntaL) (D2₉.kx ka ntiL) (by (first | lia | omega)) (by (first | lia | omega)) (T1.kl kla) T2 fun hb tkb b t' kb D1b D2b T1b T2b => ⟨.inl rfl, hQ _ _ _ ((ka.mono fun b e => .inl (.inl e)).tr (kb.mono fun b e => .inl (.inr e))) ⟨_, _, _, rfl, Fa.keep kb (fun e => e.elim ntaL.symm ntiL.symm), R₉, ?_, ?_, ?_, ?_, D1b, D2b, ?_, ?_, T1b, T2b⟩⟩) (fun _ _ q => q) fun _ _ e => e
    · exact (X₉.kl kla).kl (Kl.di2 (D1₉.kx ka ntaL) (D2₉.kx ka ntiL) kb)
    · exact (S₉.kl kla).kl (Kl.di2 (D1₉.kx ka ntaL) (D2₉.kx ka ntiL) kb)
    · exact (Y₉.kl kla).kl (Kl.di2 (D1₉.kx ka ntaL) (D2₉.kx ka ntiL) kb)
    · exact (N₉.kl kla).kl (Kl.di2 (D1₉.kx ka ntaL) (D2₉.kx ka ntiL) kb)
    · exact Nat.le_trans (stored_len _ _ _) (Nat.succ_le_succ l1)
    · exact Nat.le_trans (stored_len _ _ _) (Nat.succ_le_succ l2)
  · rintro h₉ g₉ tk₉ kP xz
    refine hide fun Gz kz => ?_
    obtain ⟨l₉, kv1, kv2, rfl, F₉, R₉, X₉, S₉, Y₉, N₉, D1₉, D2₉, l1, l2, T1, T2⟩ := xz
    refine kz ?_
    clear kz Gz
    exact hq _ _ _ _ _ _ _ _ ⟨stay kP, F₉, cells kP⟩ R₉ X₉ S₉ Y₉ N₉ D1₉ D2₉ T1 T2 ntaL ntiL (fun i a b => ⟨nta i a b, nti i a b⟩) b4 b6 dta dti
end
end Mine
end

section
open PySem PySem.W PyProof.Rows PySem.Spec PySem.Calls PySem.SeqAt
set_option maxRecDepth 100000
set_option maxHeartbeats 4000000
namespace Mine
section
variable {w : World} {mg mb : Str → Option Value} {A : Around} {E : Value → Shared → Prop} {s : Shared} {env : Env} {h h' : Heap} {g : Array GenState} {d : Drawn} {tk : Nat} {os : OsState} {M : Model} {prog : Program}

noncomputable def lrFor (w : World) : Stmt := (bodyAt w 138).getD 9 default
noncomputable def lrBody (w : World) : List Stmt := match lrFor w with | .For _ _ b _ _ => b | _ => []

theorem lr_turn {L ro n j m pa : Nat} {z : Int} {t u tj : Tok} {l : List (Str × Value)} {vs : Array Value} {ks : List Nat} {Q : Flow → Shared → Prop} (K : Ok w mg mb h) (hr : Rm A 3)
    (F : Fv h L ((Str.ofString "j", .int (j : Nat) tj) :: l)) (R : Rows l (rowsW pa n z t u)) (hn : 0 < n) (hj : j < 4) (_hL : 138 < L) (c4 : h.IsCell (L + 4) (some (.ref ro)))
    (hl : IsL h ro vs m) (hi : Ints vs ks) (hks : ∀ p ∈ ks, p < n) (hlen : ks.length ≤ j) (hnd : ks.Nodup)
    (hq : ∀ h' tk' l' vs' m' ks', Kx (W2' L ro) h h' → Fv h' L l' → Rows l' (rowsW pa n z t u) → IsL h' ro vs' m' → Ints vs' ks' → (∀ p ∈ ks', p < n) → ks'.length ≤ j + 1 → ks'.Nodup → ks' ≠ [] → Q .next ⟨h', g, d, tk', os⟩) :
    wpAny (model PP w) A (execs (lrBody w) (wEnv w L)) Q E ⟨h, g, d, tk, os⟩ := by
  refine wpAny_execs_cons (wpAny_Assign_Name ?_)
  refine wpAny_BinOp (wpAny_BinOp (nmF F (R.sub (Str.ofString "size") _ rfl) (cI fun t1 tk1 => bSub fun t2 tk2 => ?_)))
  refine wpAny_BinOp (wpAny_BinOp (wpAny_BinOp (nmF F (R.sub (Str.ofString "pick") _ rfl) (cI fun t3 tk3 => bFd (by decide) (by decide) fun t4 tk4 => ?_))))
  refine wpAny_BinOp (cI fun t5 tk5 => nmF F rfl (bPow (by omega) (by decide) fun t6 tk6 => ?_))
  have h5 : (7 : Int) ^ j = 1 ∨ (7 : Int) ^ j = 7 ∨ (7 : Int) ^ j = 49 ∨ (7 : Int) ^ j = 343 := by
    rcases (by omega : j = 0 ∨ j = 1 ∨ j = 2 ∨ j = 3) with rfl | rfl | rfl | rfl <;> decide
  refine bFd (by rcases h5 with e | e | e | e <;> rw [e] <;> decide) (by rcases h5 with e | e | e | e <;> rw [e] <;> decide) fun t7 tk7 => ?_
  refine Call_ (nmB K (g_min w) b_min (by decide) (PyProof.Rows.callWith_builtin1 (args_cons (nmF F (R.sub (Str.ofString "size") _ rfl) (args_cons (cI fun t8 tk8 => args_nil (bMin hr.1 fun h₁ t9 tk9 k₁ => ?_)))))))
  refine bMod (by omega) fun t10 tk10 => bSub fun t11 tk11 => ?_
  generalize hx : ((z.fdiv 4).fdiv (7 ^ j)) = x
  have hf := fmod_lt x (min (n : Int) 7) (by omega)
  obtain ⟨p, hp, hpk⟩ : ∃ p : Nat, (n : Int) - 1 - x.fmod (min (n : Int) 7) = (p : Int) ∧ p < n := by
    refine ⟨((n : Int) - 1 - x.fmod (min (n : Int) 7)).toNat, ?_, ?_⟩ <;> omega
  rw [hp]
  have F₁ := F.keep k₁ id
  refine stF F₁ fun h₂ tk₂ F₂ k₂ => ?_
  have l₂ : IsL h₂ ro vs m := F₁.lst (k₁.kp _ _ hl) k₂
  have c₂ : h₂.IsCell (L + 4) (some (.ref ro)) := by
    obtain ⟨o, ho, r⟩ := c4
    exact ⟨o, k₂ _ (ne_add (by decide)) _ (k₁.kp _ _ ho), r⟩
  refine wpAny_execs_cons (wpAny_If (wpAny_isTrue_Compare1 (nmF F₂ rfl (nmV c₂ (notin_ints l₂ hi (wpAny_truthy_bool ?_))))))
  by_cases hm : p ∈ ks
  · simp only [hm, decide_true, Bool.not_true, Bool.false_eq_true, if_false]
    refine wpAny_execs_nil (wpAny_execs_nil ?_)
    exact hq _ _ _ _ _ _ (k₁.any.tr (k₂.mono fun b e => .inl (.inl e))) F₂ R l₂ hi hks (by omega) hnd (fun e => by rw [e] at hm; cases hm)
  · simp only [hm, decide_false, Bool.not_false, if_true]
    refine wpAny_execs_cons (wpAny_Expr (MethodCall_ (nmV c₂ ?_)))
    refine getMethod_list_of PySem.F.slot_list_append PySem.F.type_list_append l₂.isList ⟨_, l₂, rfl⟩ ?_
    refine callWith_method1 (args_cons (nmF F₂ rfl (args_nil ?_)))
    refine append_at l₂ (fun h₃ sb₃ ho₃ => ?_) (by rw [hi.1]; exact Nat.le_trans (by omega : ks.length ≤ 1000) (by decide))
    refine wpAny_execs_nil (wpAny_execs_nil ?_)
    have k₃ := Kx.of_same sb₃
    refine hq _ _ _ _ _ _ ((k₁.any.tr (k₂.mono fun b e => .inl (.inl e))).tr (k₃.mono fun b e => .inl (.inr e))) (F₂.keep k₃ (F₂.ne_seq l₂).symm) R ho₃ (hi.push ⟨_, rfl⟩)
      (fun q hq => (List.mem_append.mp hq).elim (hks q) fun hq => by rw [List.mem_singleton.mp hq]; exact hpk) (by rw [List.length_append]; simp; omega) ?_ (by simp)
    rw [List.nodup_append]
    refine ⟨hnd, by simp, fun a ha b hb => ?_⟩
    rw [List.mem_singleton.mp hb]
    rintro rfl
    exact hm ha

/- the places of the law -/
structure Pw where
  (L pa sta fo na ro ta ti : Nat)

noncomputable def qsM (_ : World) : List (Pos × Str) := [⟨⟨177, 0, 177, 24⟩, Str.ofString "law.<locals>.<lambda>"⟩, ⟨⟨178, 0, 178, 24⟩, Str.ofString "law.<locals>.<lambda>"⟩, ⟨⟨184, 0, 184, 24⟩, Str.ofString "law.<locals>.<lambda>"⟩, ⟨⟨185, 0, 185, 24⟩, Str.ofString "law.<locals>.<lambda>"⟩,
  ⟨⟨195, 0, 195, 24⟩, Str.ofString "law.<locals>.<lambda>"⟩, ⟨⟨196, 0, 196, 24⟩, Str.ofString "law.<locals>.<lambda>"⟩, ⟨⟨198, 0, 198, 24⟩, Str.ofString "law.<locals>.<lambda>"⟩, ⟨⟨199, 0, 199, 24⟩, Str.ofString "law.<locals>.<lambda>"⟩]

/- the law's state once its data are built -/
structure St (w : World) (mg mb : Str → Option Value) (D : Pw) (n : Nat) (par : Nat → List Nat) (st : Nat → Nat) (fb : Nat → List Nat) (rws : List Nat) (h : Heap) (l : List (Str × Value)) : Prop where
  K : Ok w mg mb h
  T : Tb h 87 (qsL w)
  T2 : Tb h 135 (qsM w)
  F : Fv h D.L l
  c1 : h.IsCell (D.L + 1) (some (.ref D.sta))
  c2 : h.IsCell (D.L + 2) (some (.ref D.fo))
  c3 : h.IsCell (D.L + 3) (some (.ref D.na))
  c4 : h.IsCell (D.L + 4) (some (.ref D.ro))
  c5 : ∃ ov, h.IsCell (D.L + 5) ov
  c6 : h.IsCell (D.L + 6) (some (.ref D.ta))
  c7 : h.IsCell (D.L + 7) (some (.ref D.ti))
  X : Fb h D.pa n par
  S : En PI h D.sta ((List.range n).map st)
  Y : Fb h D.fo n fb
  N : En PN h D.na (List.range n)
  Ro : En PI h D.ro rws
  Ta : ∃ kv, Cs w h D.ta kv ∧ TabT h kv par n
  Ti : ∃ kv, Cs w h D.ti kv ∧ TimT kv st n
  hL : 138 < D.L
  nta : D.ta ≠ D.L ∧ D.ta ≠ D.L + 5 ∧ 138 < D.ta
  nti : D.ti ≠ D.L ∧ D.ti ≠ D.L + 5 ∧ 138 < D.ti

/- the law's numbers -/
structure Nu (n : Nat) (par : Nat → List Nat) (st : Nat → Nat) (fb : Nat → List Nat) (rws : List Nat) : Prop where
  n2 : 2 ≤ n
  n10 : n ≤ 10
  G : Gp par st n
  hfb : ∀ k < n, ∀ j, j ∈ fb k ↔ Up par j k
  r1 : 1 ≤ rws.length
  r4 : rws.length ≤ 4
  rn : ∀ k ∈ rws, k < n
  rd : rws.Nodup

/- the loop's state -/
inductive LvS (L pa n : Nat) (z : Int) (t u : Tok) (ro : Nat) (g : Array GenState) (j : Nat) (hh : Heap) (gg : Array GenState) : Prop
  | mk (l : List (Str × Value)) (vs : Array Value) (m : Nat) (ks : List Nat) (e : gg = g) (F : Fv hh L l) (R : Rows l (rowsW pa n z t u)) (a : IsL hh ro vs m) (b : Ints vs ks) (c : ∀ p ∈ ks, p < n) (d : ks.length ≤ j) (f : ks.Nodup) (i : 1 ≤ j → ks ≠ []) :
      LvS L pa n z t u ro g j hh gg
/- statements 8 and 9 -/
theorem law_C {h0 : Heap} {D : Pw} {n : Nat} {z : Int} {t u : Tok} {cv : Nat → Option Value} {par fb : Nat → List Nat} {st : Nat → Nat} {l : List (Str × Value)} {kv1 kv2 : List (List UInt8 × Value)} {Q : Flow → Shared → Prop} (K0 : Ok w mg mb h0) (T0 : Tb h0 87 (qsL w)) (T20 : Tb h0 135 (qsM w)) (hr : Rm A 10)
    (dL : h0.get? D.L = none) (hL : 138 < D.L) (dC : ∀ i, 1 ≤ i → h0.get? (D.L + i) = none) (B : Bs h0 h D.L l cv) (v1 : cv 1 = some (.ref D.sta)) (v2 : cv 2 = some (.ref D.fo)) (v3 : cv 3 = some (.ref D.na)) (v6 : cv 6 = some (.ref D.ta)) (v7 : cv 7 = some (.ref D.ti))
    (R : Rows l (rowsW D.pa n z t u)) (hn2 : 2 ≤ n) (hn : n ≤ 10)
    (X : Fb h D.pa n par) (S : En PI h D.sta ((List.range n).map st)) (Y : Fb h D.fo n fb) (N : En PN h D.na (List.range n)) (D1 : Cs w h D.ta kv1) (D2 : Cs w h D.ti kv2) (T1 : TabT h kv1 par n) (T2 : TimT kv2 st n) (ntL : D.ta ≠ D.L) (niL : D.ti ≠ D.L) (nt : ∀ i, 1 ≤ i → i ≤ 7 → D.ta ≠ D.L + i ∧ D.ti ≠ D.L + i) (bta : 138 < D.ta) (bti : 138 < D.ti)
    (hq : ∀ h' tk' l' ro rws, St w mg mb { D with ro := ro } n par st fb rws h' l' → Rows l' (rowsW D.pa n z t u) → 1 ≤ rws.length → rws.length ≤ 4 → (∀ k ∈ rws, k < n) → rws.Nodup → Kx none_ h0 h' → wpAny (model PP w) A (execs ((bodyAt w 138).drop 10) (wEnv w D.L)) Q E ⟨h', g, d, tk', os⟩) :
    wpAny (model PP w) A (execs ((bodyAt w 138).drop 8) (wEnv w D.L)) Q E ⟨h, g, d, tk, os⟩ := by
  refine hide fun Gz kz => ?_
  obtain ⟨L, pa, sta, fo, na, ro0, ta, ti⟩ := D
  refine kz ?_
  clear kz Gz
  dsimp only at *
  have K := K0.n B.k
  refine wpAny_execs_cons (wpAny_Assign_Name (List_ (args_nil (nList (fun h₁ k₁ l₁ => ?_) (Nat.zero_le _)))))
  have d₁ : h.get? h.objs.size = none := dead_size h
  have b₁ : 138 < h.objs.size := K.sz
  generalize h.objs.size = ro at *
  have B₁ := B.n k₁
  have nroL : ro ≠ L := (B.F.ne d₁).symm
  have nro : ∀ i, 1 ≤ i → i ≤ 7 → ro ≠ L + i := fun i a b => (cell_ne (B.C i a b) d₁).symm
  refine stC (B₁.C 4 (by decide) (by decide)) fun h₂ c₂ k₂ => ?_
  have B₂ := B₁.ce (dC 4 (by decide)) k₂ c₂ (by decide)
  have kl₂ : Kl h h₂ := (Kl.n k₁).tr (Kl.ce (B₁.C 4 (by decide) (by decide)) k₂)
  have l₂ : IsL h₂ ro #[] 0 := Kl.ce (B₁.C 4 (by decide) (by decide)) k₂ _ _ _ l₁
  have D1₂ : Cs w h₂ ta kv1 := (D1.n k₁).kx k₂ (nt 4 (by decide) (by decide)).1
  have D2₂ : Cs w h₂ ti kv2 := (D2.n k₁).kx k₂ (nt 4 (by decide) (by decide)).2
  have K₂ := K0.n B₂.k
  have dro : h0.get? ro = none := B.k.dead0 d₁
  have nrt : ro ≠ ta := by obtain ⟨o, _, _, ho, _⟩ := D1; exact (ne_dead d₁ ho).symm
  have nri : ro ≠ ti := by obtain ⟨o, _, _, ho, _⟩ := D2; exact (ne_dead d₁ ho).symm
  refine wpAny_execs_cons (for_range (d := d) (os := os) hr.1 ?_)
  refine Call_ (nmB K₂ (g_range w) b_range (by decide) (PyProof.Rows.callWith_type1 (args_cons ?_)))
  refine wpAny_BinOp (cI fun t1 tk1 => wpAny_BinOp (nmF B₂.F (R.sub (Str.ofString "pick") _ rfl) (cI fun t2 tk2 => bMod (by decide) fun t3 tk3 => bAdd fun t4 tk4 => args_nil ?_)))
  have hf := fmod_lt z 4 (by decide)
  obtain ⟨m, hm, hm1, hm4⟩ : ∃ m : Nat, 1 + z.fmod 4 = (m : Int) ∧ 1 ≤ m ∧ m ≤ 4 := ⟨(1 + z.fmod 4).toNat, by omega, by omega, by omega⟩
  rw [hm]
  refine nRange fun h₃ tk₃ tt uu vv k₃ r₃ => ?_
  have B₃ := B₂.n k₃
  have l₃ := k₃.kp _ _ l₂
  have P0 : ∀ b, W2' L ro b → ∃ o, h₃.get? b = some o := by
    rintro b (rfl | rfl)
    · obtain ⟨_, ⟨o, _, _, ho, _⟩, _⟩ := B₃.F
      exact ⟨o, ho⟩
    · exact ⟨_, l₃⟩
  have stay : ∀ {hx : Heap}, Kx (W2' L ro) h₃ hx → Kx none_ h0 hx := fun {hx} k => B₃.k.trans k fun b e => .inr (by rcases e with e | e <;> subst e <;> assumption)
  have cells : ∀ {hx : Heap}, Kx (W2' L ro) h₃ hx → ∀ i, 1 ≤ i → i ≤ 7 → hx.IsCell (L + i) (setC cv 4 (.ref ro) i) := fun {hx} k i a b =>
    let ⟨o, ho, r⟩ := B₃.C i a b; ⟨o, k _ (fun e => e.elim (ne_add a) fun e => nro i a b e.symm) _ ho, r⟩
  refine ⟨_, m, tt, uu, vv, h₃, tk₃, g, W2' L ro, LvS L pa n z t u ro g,
    rfl, rfl, r₃, by omega, P0, ⟨l, #[], 0, [], rfl, B₃.F, R, l₃, Enc.nil _, fun p hp => (nomatch hp), Nat.le_refl _, List.nodup_nil, fun e => absurd e (by decide)⟩, ?_, ?_, ?_⟩
  · rintro j hx hy gg kd xz
    refine hide fun Gz kz => ?_
    obtain ⟨l, vs, m', ks, e, F, R, hl, q1, q2, q3, q4, q5⟩ := xz
    refine kz ?_
    clear kz Gz
    exact ⟨l, vs, m', ks, e, kd.fv F, R, kd.lst hl, q1, q2, q3, q4, q5⟩
  · rintro j h₄ g₄ tk₄ tj Q' E' hj xz kP hQ
    refine hide fun Gz kz => ?_
    obtain ⟨l₄, vs₄, m₄, ks₄, rfl, F₄, R₄, hl₄, hi₄, hks₄, hle₄, hnd₄, _⟩ := xz
    refine kz ?_
    clear kz Gz
    have K₄ : Ok w mg mb h₄ := K0.n (stay kP)
    refine wpAny_assign_Name (stF F₄ fun h₅ tk₅ F₅ k₅ => ?_)
    refine wpAny_mono (lr_turn (Q := fun fl s₃ => (fl = .next ∨ fl = .cont) ∧ Q' s₃) (K₄.l k₅ hL) (hr.less (by decide)) F₅ R₄ (by omega) (by omega) hL (cells (kP.tr (k₅.mono fun b e => .inl (.inl e))) 4 (by decide) (by decide)) (F₄.lst hl₄ k₅) hi₄ hks₄ hle₄ hnd₄
      fun h₆ tk₆ l₆ vs₆ m₆ ks₆ k₆ F₆ R₆ hl₆ hi₆ hks₆ hle₆ hnd₆ hne₆ => ⟨.inl rfl, hQ _ _ _ ((k₅.mono fun b e => .inl (.inl e)).tr k₆) ⟨_, _, _, _, rfl, F₆, R₆, hl₆, hi₆, hks₆, hle₆, hnd₆, fun _ => hne₆⟩⟩) (fun _ _ q => q) fun _ _ e => e
  · rintro h₄ g₄ tk₄ kP xz
    refine hide fun Gz kz => ?_
    obtain ⟨l₄, vs₄, m₄, ks₄, rfl, F₄, R₄, hl₄, hi₄, hks₄, hle₄, hnd₄, hne₄⟩ := xz
    refine kz ?_
    clear kz Gz
    have kl₄ : Kl h h₄ := fun b vs m lb => kP b (fun e => e.elim (B.F.ne_seq lb) (ne_dead d₁ lb)) _ (k₃.kp _ _ (kl₂ _ _ _ lb))
    have cs := cells kP
    have cc : ∀ {i : Nat} {v : Value}, 1 ≤ i → i ≤ 7 → i ≠ 4 → cv i = some v → h₄.IsCell (L + i) (some v) := fun {i v} a b c e => by
      have := cs i a b
      unfold setC at this
      rw [if_neg c, e] at this
      exact this
    refine hq _ _ _ ro ks₄ ⟨K0.n (stay kP), T0.n (stay kP), T20.n (stay kP), F₄, cc (by decide) (by decide) (by decide) v1, cc (by decide) (by decide) (by decide) v2, cc (by decide) (by decide) (by decide) v3, cs 4 (by decide) (by decide), ⟨_, cs 5 (by decide) (by decide)⟩,
      cc (by decide) (by decide) (by decide) v6, cc (by decide) (by decide) (by decide) v7, X.kl kl₄, S.kl kl₄, Y.kl kl₄, N.kl kl₄, ⟨_, _, hl₄, hi₄⟩, ⟨kv1, (D1₂.n k₃).kx kP (fun e => e.elim ntL fun e => nrt e.symm), T1.kl kl₄⟩, ⟨kv2, (D2₂.n k₃).kx kP (fun e => e.elim niL fun e => nri e.symm), T2⟩, hL,
      ⟨ntL, (nt 5 (by decide) (by decide)).1, bta⟩, ⟨niL, (nt 5 (by decide) (by decide)).2, bti⟩⟩ R₄ ?_ (by omega) hks₄ hnd₄ (stay kP)
    have := hne₄ hm1
    cases ks₄ with
    | nil => exact absurd rfl this
    | cons a b => simp
end
end Mine
end

section
open PySem PySem.W PyProof.Rows PySem.Spec PySem.Calls PySem.SeqAt
set_option maxRecDepth 100000
set_option maxHeartbeats 4000000
namespace Mine
section
variable {w : World} {mg mb : Str → Option Value} {A : Around} {E : Value → Shared → Prop} {s : Shared} {env : Env} {h h' : Heap} {g : Array GenState} {d : Drawn} {tk : Nat} {os : OsState} {M : Model} {prog : Program}
  {D : Pw} {n : Nat} {par : Nat → List Nat} {st : Nat → Nat} {fb : Nat → List Nat} {rws : List Nat} {l l' : List (Str × Value)}

theorem Tb.other {P P' : Nat} {qs qs' : List (Pos × Str)} (T : Tb h P qs) (T' : Tb h P' qs') (k : Kx (· = P') h h') (hne : P ≠ P') : Tb h' P qs := by
  obtain ⟨ps, e, ht, r⟩ := T
  obtain ⟨ps', e2, ht2, _⟩ := T'
  exact ⟨ps, k _ hne _ e, ht, fun q hq cv hc => Heap.CodeRec.ne (r q hq cv hc) e2 ht2 k⟩
theorem Tb.nolist {P : Nat} {qs : List (Pos × Str)} (T : Tb h P qs) {vs : Array Value} {m : Nat} : ¬ IsL h P vs m := fun t => by
  obtain ⟨ps, e, _⟩ := T
  have h2 := e.symm.trans t
  cases h2

noncomputable def V (D : Pw) (b : Nat) : Prop := b = 87 ∨ b = 135 ∨ b = D.L ∨ b = D.L + 5
theorem Kx.vn (k : Kx none_ h h') : Kx (V D) h h' := k.any
theorem Kx.v87 (k : Kx (· = 87) h h') : Kx (V D) h h' := k.mono fun _ e => .inl (.inl e)
theorem Kx.v135 (k : Kx (· = 135) h h') : Kx (V D) h h' := k.mono fun _ e => .inl (.inr (.inl e))
theorem Kx.vL (k : Kx (· = D.L) h h') : Kx (V D) h h' := k.mono fun _ e => .inl (.inr (.inr (.inl e)))
theorem Kx.v5 (k : Kx (· = D.L + 5) h h') : Kx (V D) h h' := k.mono fun _ e => .inl (.inr (.inr (.inr e)))

theorem St.kl (S : St w mg mb D n par st fb rws h l) (k : Kx (V D) h h') : Kl h h' := fun b vs m t => k b (fun e => by
  obtain ⟨ov, c5⟩ := S.c5
  rcases e with e | e | e | e
  · exact S.T.nolist (e ▸ t)
  · exact S.T2.nolist (e ▸ t)
  · exact S.F.ne_seq t e
  · exact lst_cell t c5 e) _ t
theorem St.go (S : St w mg mb D n par st fb rws h l) (k : Kx (V D) h h') (T : Tb h' 87 (qsL w)) (T2 : Tb h' 135 (qsM w)) (F : Fv h' D.L l') (c5 : ∃ ov, h'.IsCell (D.L + 5) ov) : St w mg mb D n par st fb rws h' l' := by
  have hL := S.hL
  have kl := S.kl k
  have cc : ∀ {i : Nat} {v : Value}, 1 ≤ i → i ≠ 5 → h.IsCell (D.L + i) (some v) → h'.IsCell (D.L + i) (some v) := fun {i v} a b ⟨o, ho, r⟩ => ⟨o, k _ (fun e => by
    rcases e with e | e | e | e
    · have e : D.L + i = 87 := e; (first | lia | omega)
    · have e : D.L + i = 135 := e; (first | lia | omega)
    · exact ne_add a e
    · exact ne_add2 b e) _ ho, r⟩
  have dd : ∀ {a : Nat} {kv : List (List UInt8 × Value)}, a ≠ D.L ∧ a ≠ D.L + 5 ∧ 138 < a → Cs w h a kv → Cs w h' a kv := fun {a kv} q x => x.kx k fun e => by
    rcases e with e | e | e | e
    · have := q.2.2; rw [e] at this; exact absurd this (by decide)
    · have := q.2.2; rw [e] at this; exact absurd this (by decide)
    · exact q.1 e
    · exact q.2.1 e
  exact { S with
    K := S.K.kx k fun b e => by
      rcases e with e | e | e | e
      · exact .inl e
      · exact .inr (.inl e)
      · exact .inr (.inr (by rw [e]; exact hL))
      · exact .inr (.inr (by rw [e]; exact Nat.lt_add_right 5 hL))
    T := T, T2 := T2, F := F
    c1 := cc (by decide) (by decide) S.c1
    c2 := cc (by decide) (by decide) S.c2
    c3 := cc (by decide) (by decide) S.c3
    c4 := cc (by decide) (by decide) S.c4
    c5 := c5
    c6 := cc (by decide) (by decide) S.c6
    c7 := cc (by decide) (by decide) S.c7
    X := S.X.kl kl
    S := S.S.kl kl
    Y := S.Y.kl kl
    N := S.N.kl kl
    Ro := S.Ro.kl kl
    Ta := let ⟨kv, x, y⟩ := S.Ta; ⟨kv, dd S.nta x, y.kl kl⟩
    Ti := let ⟨kv, x, y⟩ := S.Ti; ⟨kv, dd S.nti x, y⟩ }
theorem St.no (S : St w mg mb D n par st fb rws h l) (k : Kx none_ h h') : St w mg mb D n par st fb rws h' l :=
  S.go k.any (S.T.n k) (S.T2.n k) (S.F.keep k id) (let ⟨ov, c⟩ := S.c5; ⟨ov, c.keeps k.kp⟩)
theorem St.L87 (S : St w mg mb D n par st fb rws h l) : D.L ≠ 87 := fun e => by have := S.hL; rw [e] at this; exact absurd this (by decide)
theorem St.L135 (S : St w mg mb D n par st fb rws h l) : D.L ≠ 135 := fun e => by have := S.hL; rw [e] at this; exact absurd this (by decide)
theorem St.fr (S : St w mg mb D n par st fb rws h l) (k : Kx (· = D.L) h h') (F : Fv h' D.L l') : St w mg mb D n par st fb rws h' l' :=
  S.go (k.mono fun b e => .inl (.inr (.inr (.inl e)))) (S.T.fr S.F k) (S.T2.fr S.F k) F (let ⟨ov, o, ho, r⟩ := S.c5; ⟨ov, o, k _ (ne_add (by decide)) _ ho, r⟩)
theorem St.f (S : St w mg mb D n par st fb rws h l) (k : Kx (· = 87) h h') (T : Tb h' 87 (qsL w)) : St w mg mb D n par st fb rws h' l :=
  S.go (k.mono fun b e => .inl (.inl e)) T (S.T2.other S.T k (by decide)) (S.F.keep k S.L87) (let ⟨ov, o, ho, r⟩ := S.c5; ⟨ov, o, k _ (fun e => by have := S.hL; have e : D.L + 5 = 87 := e; (first | lia | omega)) _ ho, r⟩)
theorem St.m (S : St w mg mb D n par st fb rws h l) (k : Kx (· = 135) h h') (T2 : Tb h' 135 (qsM w)) : St w mg mb D n par st fb rws h' l :=
  S.go (k.mono fun b e => .inl (.inr (.inl e))) (S.T.other S.T2 k (by decide)) T2 (S.F.keep k S.L135) (let ⟨ov, o, ho, r⟩ := S.c5; ⟨ov, o, k _ (fun e => by have := S.hL; have e : D.L + 5 = 135 := e; (first | lia | omega)) _ ho, r⟩)
theorem St.c (S : St w mg mb D n par st fb rws h l) {v : Value} (k : Kx (· = D.L + 5) h h') (c : h'.IsCell (D.L + 5) (some v)) : St w mg mb D n par st fb rws h' l := by
  obtain ⟨ov, o, ho, r⟩ := id S.c5
  have nf : ∀ b, b = D.L + 5 → ∀ o', h.get? b = some o' → ∀ vs, o'.data ≠ .fields vs := by
    rintro b rfl o' ho' vs e
    rw [ho] at ho'; cases ho'; rw [r] at e; cases e
  have hL := S.hL
  exact S.go (k.mono fun b e => .inl (.inr (.inr (.inr e)))) (S.T.keep k (fun e => by have e : 87 = D.L + 5 := e; (first | lia | omega)) nf) (S.T2.keep k (fun e => by have e : 135 = D.L + 5 := e; (first | lia | omega)) nf) (S.F.keep k (ne_add (by decide)).symm) ⟨_, c⟩

/- the lookups' lambdas -/
noncomputable def lamParams (p : Pos) : Arguments := { posonlyargs := [], args := [{ arg := "name", annotation := none, pos := p }], vararg := none, kwonlyargs := [], kw_defaults := [], kwarg := none, defaults := [] }
noncomputable def lamBody (x : Str) (p1 p2 p3 : Pos) : Expr := .Subscript (.Name x p1) (.Name (Str.ofString "name") p2) p3
noncomputable def lamScope (x : Str) : Scope := { kind := .function, names := [(Str.ofString "name", .local), (x, .free)], isGenerator := false, isCoroutine := false, more := [] }
noncomputable def LamAt (h : Heap) (fa : Nat) (x : Str) (c : Nat) : Prop := ∃ name qual q p1 p2 p3 pm cv ctv, h.get? fa = some { cls := .type "function", data := .func (kla_fn name qual (lamParams q) (lamBody x p1 p2 p3) (lamScope x) [(x, c)] pm cv ctv) } ∧ h.CodeRec cv qual
theorem LamAt.no {fa c : Nat} {x : Str} (X : LamAt h fa x c) (k : Kx none_ h h') : LamAt h' fa x c := by
  obtain ⟨name, qual, q, p1, p2, p3, pm, cv, ctv, ho, hr⟩ := X
  exact ⟨name, qual, q, p1, p2, p3, pm, cv, ctv, k.kp _ _ ho, hr.keeps k.kp⟩
theorem LamAt.t {fa c P : Nat} {x : Str} {qs : List (Pos × Str)} (X : LamAt h fa x c) (T : Tb h P qs) (k : Kx (· = P) h h') : LamAt h' fa x c := by
  obtain ⟨name, qual, q, p1, p2, p3, pm, cv, ctv, ho, hr⟩ := X
  obtain ⟨ps, e, ht, _⟩ := T
  refine ⟨name, qual, q, p1, p2, p3, pm, cv, ctv, k _ (fun e' => ?_) _ ho, Heap.CodeRec.ne hr e ht k⟩
  have e' : fa = P := e'
  rw [e', e] at ho
  cases ho

theorem ch138 (K : Ok w mg mb h) : CodeHd h 137 135 := ⟨_, _, _, _, _, _, _, _, _, K.x 137 _ rfl, rfl, rfl, rfl, rfl, rfl, rfl, rfl, rfl, by decide⟩

theorem lam_make {x : Str} {c i : Nat} {q p1 p2 p3 P : Pos} {Q : Value → Shared → Prop} (S : St w mg mb D n par st fb rws h l) (hx : (x = Str.ofString "table" ∧ i = 6) ∨ (x = Str.ofString "times" ∧ i = 7)) (hc : c = D.L + i) (hP : (P, Str.ofString "law.<locals>.<lambda>") ∈ qsM w)
    (hq : ∀ h' tk' fa, Kx (· = 135) h h' → St w mg mb D n par st fb rws h' l → LamAt h' fa x c → h.get? fa = none → Q (.ref fa) ⟨h', g, d, tk', os⟩) :
    wpAny (model PP w) A (eval (.Lambda (lamParams q) (lamBody x p1 p2 p3) (lamScope x) P) (wEnv w D.L)) Q E ⟨h, g, d, tk, os⟩ := by
  subst hc
  have eq : (wEnv w D.L).qual ++ Str.ofString "<lambda>" = Str.ofString "law.<locals>.<lambda>" := by kernel_rfl
  rcases hx with ⟨rfl, rfl⟩ | ⟨rfl, rfl⟩
  all_goals
    refine kla_eval rfl ?_
    refine mkLam (qs := qsM w) (c := 137) (P := 135) S.K S.T2 (ch138 S.K) (by rw [eq]; exact hP) (by decide) (by kernel_rfl) rfl rfl rfl fun fa h₁ tk₁ cv pm ctv hfa k₁ T₁ ho₁ hcr₁ => ?_
    exact hq _ _ fa k₁ (S.m k₁ T₁) ⟨_, _, q, p1, p2, p3, pm, cv, ctv, ho₁, hcr₁⟩ hfa

theorem lam_call {x : Str} {fa c a k : Nat} {t : Tok} {v : Value} {f : List UInt8 → Option Value} {Q : Value → Shared → Prop} (K : Ok w mg mb h) (hr : Rm A 3) (hx : x = Str.ofString "table" ∨ x = Str.ofString "times") (X : LamAt h fa x c)
    (hc : h.IsCell c (some (.ref a))) (hm : h.MapOf (bytesKind PP w) a f) (hv : f (nmL' k) = some v) (hq : ∀ h' tk', Kx none_ h h' → Q v ⟨h', g, d, tk', os⟩) :
    wpAny (model PP w) A (call (.ref fa) [.bytes (nmL' k).toArray t]) Q E ⟨h, g, d, tk, os⟩ := by
  refine hide fun Gz kz => ?_
  obtain ⟨name, qual, q, p1, p2, p3, pm, cv, ctv, ho, hcr⟩ := X
  refine kz ?_
  clear kz Gz
  rcases hx with rfl | rfl
  all_goals
    refine callL [(Str.ofString "name", .bytes (nmL' k).toArray t)] K hr ho rfl hcr (fun L h₁ tk₁ hL hL' k₁ F₁ K₁ hr₁ => ?_) (by kernel_rfl) rfl (by kernel_rfl) (by kernel_rfl) (by kernel_rfl) (by kernel_rfl) (by kernel_rfl)
    refine Subscript_Name (nmV (c := c) (hc.keeps k₁.kp) (nmF F₁ rfl (itemDict (key_is w k t) (let ⟨o, es, ep, e, r⟩ := hm; ⟨o, es, ep, k₁.kp _ _ e, r⟩) hv ?_)))
    exact hq _ _ k₁

theorem St.lk {lp ls : Nat} (S : St w mg mb D n par st fb rws h l) (_hn : n ≤ 10) (X : LamAt h lp (Str.ofString "table") (D.L + 6)) (Y : LamAt h ls (Str.ofString "times") (D.L + 7)) : Lk w mg mb h lp ls par st n where
  fp := by obtain ⟨name, qual, q, p1, p2, p3, pm, cv, ctv, ho, hr⟩ := X; exact ⟨_, _, _, _, ho⟩
  fs := by obtain ⟨name, qual, q, p1, p2, p3, pm, cv, ctv, ho, hr⟩ := Y; exact ⟨_, _, _, _, ho⟩
  n87 := by
    obtain ⟨ps, e, _⟩ := S.T
    constructor
    · rintro rfl
      obtain ⟨name, qual, q, p1, p2, p3, pm, cv, ctv, ho, hr⟩ := X
      rw [e] at ho; cases ho
    · rintro rfl
      obtain ⟨name, qual, q, p1, p2, p3, pm, cv, ctv, ho, hr⟩ := Y
      rw [e] at ho; cases ho
  p := fun {A E Q g d tk os h₁ k t} hr hk k₁ K₁ hq => by
    refine hide fun Gz kz => ?_
    obtain ⟨kv, C, T⟩ := S.Ta
    obtain ⟨b, e, vs, m, lb, eb⟩ := T k hk
    refine kz ?_
    clear kz Gz
    have hL := S.hL
    have c6 : h₁.IsCell (D.L + 6) (some (.ref D.ta)) := by
      obtain ⟨o, ho, r⟩ := S.c6
      exact ⟨o, k₁ _ (fun e => by have e : D.L + 6 = 87 := e; (first | lia | omega)) _ ho, r⟩
    have C₁ : Cs w h₁ D.ta kv := C.kx k₁ fun e => by have := S.nta.2.2; rw [e] at this; exact absurd this (by decide)
    refine lam_call K₁ (hr.less (by decide)) (.inl rfl) (X.t S.T k₁) c6 C₁.mapOf e fun h₂ tk₂ k₂ => ?_
    exact hq b vs m h₂ tk₂ (fun e => by rw [e] at lb; exact S.T.nolist lb) lb eb.nms k₂
  s := fun {A E Q g d tk os h₁ k t} hr hk k₁ K₁ hq => by
    obtain ⟨kv, C, T⟩ := S.Ti
    obtain ⟨u, e⟩ := T k hk
    have hL := S.hL
    have c7 : h₁.IsCell (D.L + 7) (some (.ref D.ti)) := by
      obtain ⟨o, ho, r⟩ := S.c7
      exact ⟨o, k₁ _ (fun e => by have e : D.L + 7 = 87 := e; (first | lia | omega)) _ ho, r⟩
    have C₁ : Cs w h₁ D.ti kv := C.kx k₁ fun e => by have := S.nti.2.2; rw [e] at this; exact absurd this (by decide)
    refine lam_call K₁ (hr.less (by decide)) (.inr rfl) (Y.t S.T k₁) c7 C₁.mapOf e fun h₂ tk₂ k₂ => ?_
    exact hq h₂ u tk₂ k₂
end
end Mine
end

section
open PySem PySem.W PyProof.Rows PySem.Spec PySem.Calls PySem.SeqAt
set_option maxRecDepth 100000
set_option maxHeartbeats 4000000
namespace Mine
section
variable {w : World} {mg mb : Str → Option Value} {A : Around} {E : Value → Shared → Prop} {s : Shared} {env : Env} {h h' : Heap} {g : Array GenState} {d : Drawn} {tk : Nat} {os : OsState} {M : Model} {prog : Program}
  {D : Pw} {n : Nat} {par : Nat → List Nat} {st : Nat → Nat} {fb : Nat → List Nat} {rws : List Nat} {l l' : List (Str × Value)}

theorem nms1 {xs : Array Value} {a : Nat} (x : Nms xs [a]) : ∃ t, xs = #[.bytes (nmL' a).toArray t] := by
  obtain ⟨t, e⟩ := x.2 0 a rfl
  refine ⟨t, ?_⟩
  have hs : xs.size = 1 := x.1
  apply Array.ext
  · simpa using hs
  · intro i h1 h2
    have : i = 0 := by (first | lia | omega)
    subst this
    rw [Array.getElem?_eq_getElem h1] at e
    simpa using e
theorem nms2 {xs : Array Value} {a b : Nat} (x : Nms xs [a, b]) : ∃ t u, xs = #[.bytes (nmL' a).toArray t, .bytes (nmL' b).toArray u] := by
  obtain ⟨t, e⟩ := x.2 0 a rfl
  obtain ⟨u, e'⟩ := x.2 1 b rfl
  refine ⟨t, u, ?_⟩
  have hs : xs.size = 2 := x.1
  apply Array.ext
  · simpa using hs
  · intro i h1 h2
    rcases (by (first | lia | omega) : i = 0 ∨ i = 1) with rfl | rfl
    · rw [Array.getElem?_eq_getElem h1] at e
      simpa using e
    · rw [Array.getElem?_eq_getElem h1] at e'
      simpa using e'

/- find_octopus_base of one to four different commits -/
theorem call_oct {lp ls ai mi n k0 : Nat} {xs : Array Value} {cs : List Nat} {Q : Value → Shared → Prop} (K : Ok w mg mb h) (hr : Rm A 18) (T : Tb h 87 (qsL w)) (ab : AllB g)
    (LK : Lk w mg mb h lp ls par st n) (hn : n ≤ 10) (hpar : ∀ k, ∀ p ∈ par k, p < k) (hst : ∀ k, ∀ p ∈ par k, st p < st k) (hpl : ∀ k, (par k).length ≤ 10)
    (hai : IsL h ai xs mi) (hxs : Nms xs (k0 :: cs)) (hk0 : k0 < n) (hcs : ∀ k ∈ cs, k < n) (h3 : cs.length ≤ 3) (hnd : (k0 :: cs).Nodup)
    (hq : ∀ h' g' tk' a vs m res, Kx (· = 87) h h' → Tb h' 87 (qsL w) → AllB g' → IsL h' a vs m → Nms vs res → (∀ k, k ∈ res ↔ OM par k0 cs k) → (cs = [] → res = [k0]) → (∀ c, cs = [c] → LcaSpec par st k0 c res) → (∀ k ∈ res, k < n) → res.length ≤ 1000 → h.get? a = none → Q (.ref a) ⟨h', g', d, tk', os⟩) :
    wpAny (model PP w) A (call (.ref 104) [.ref lp, .ref ls, .none, .ref ai]) Q E ⟨h, g, d, tk, os⟩ := by
  match cs, hxs, hcs, h3, hnd, hq with
  | [], hxs, hcs, h3, hnd, hq =>
    obtain ⟨t, rfl⟩ := nms1 hxs
    refine oct_small (n := 17) K hr hai (by simp) (by simp) fun h₁ tk₁ L k₁ K₁ hr₁ => ?_
    refine find_mb1 K₁ (hr₁.less (by decide)) (k₁.kp _ _ hai) fun h₂ tk₂ a m k₂ l₂ hd => ?_
    refine hq _ _ _ _ _ _ [k0] (k₁.tn k₂).any (T.n (k₁.tn k₂)) ab l₂ ?_ (fun k => by rw [List.mem_singleton]; exact Iff.rfl) (fun _ => rfl) (fun c e => by cases e) (fun k hk => by rw [List.mem_singleton.mp hk]; exact hk0) (by simp) (k₁.dead0 hd)
    exact (enc_one (P := PN) ⟨t, rfl⟩).nms
  | [c], hxs, hcs, h3, hnd, hq =>
    obtain ⟨t, u, rfl⟩ := nms2 hxs
    refine oct_small (n := 17) K hr hai (by simp) (by simp) fun h₁ tk₁ L k₁ K₁ hr₁ => ?_
    have hne : k0 ≠ c := fun e => by rw [e] at hnd; simp at hnd
    refine find_mb2 K₁ (hr₁.less (by decide)) (T.n k₁) ab (LK.n k₁) hn hpar hst hpl (k₁.kp _ _ hai) hk0 (hcs c (.head _)) hne fun h₂ g₂ tk₂ a vs m res k₂ T₂ ab₂ l₂ nv sp hlt hd => ?_
    refine hq _ _ _ _ _ _ res ((k₁.any (P := (· = 87))).tr k₂) T₂ ab₂ l₂ nv (fun k => (sp.1 k).trans (OM.one k0 c k).symm) (fun e => by cases e) (fun c' e => by cases e; exact sp) hlt (Nat.le_trans (sp.le hlt) (by (first | lia | omega))) (k₁.dead0 hd)
  | c :: c' :: cs, hxs, hcs, h3, hnd, hq =>
    refine find_oct K hr T ab LK hn hpar hst hpl hai hxs hk0 hcs (by simp) h3 fun h₂ g₂ tk₂ a vs m res k₂ T₂ ab₂ l₂ nv mem hlt hlen hd => ?_
    exact hq _ _ _ _ _ _ res k₂ T₂ ab₂ l₂ nv mem (fun e => by cases e) (fun c e => by cases e) hlt hlen hd

noncomputable def nmScope : Scope := { kind := .function, names := [(Str.ofString ".0", .local), (Str.ofString "k", .local), (Str.ofString "names", .free)], isGenerator := false, isCoroutine := false, more := [] }
/- [names[k] for k in ..] -/
theorem names_of {iter : Expr} {p1 p2 p3 p4 pos : Pos} (js : List Nat) {Q : Value → Shared → Prop} (hh : A.handled = none)
    (hi : wpAny (model PP w) A (eval iter (wEnv w D.L)) (fun v s₁ => ∃ a h₁ tk₁ l₁, v = .ref a ∧ s₁ = ⟨h₁, g, d, tk₁, os⟩ ∧ En PI h₁ a js ∧ js.length ≤ 1000 ∧ (∀ j ∈ js, j < n) ∧ n ≤ 1000 ∧ St w mg mb D n par st fb rws h₁ l₁ ∧
      (∀ h' tk' r, Kx none_ h₁ h' → En PN h' r js → h₁.get? r = none → Q (.ref r) ⟨h', g, d, tk', os⟩)) E s)
    (hs : ∀ x, foldedSetIterable iter (wEnv w D.L) x = pure x := by intro _; rfl) :
    wpAny (model PP w) A (eval (.ListComp (.Subscript (.Name (Str.ofString "names") p1) (.Name (Str.ofString "k") p2) p3) [⟨.Name (Str.ofString "k") p4, iter, [], 0⟩] nmScope pos) (wEnv w D.L)) Q E s := by
  refine lcompL (ck := false) (g := g) (d := d) (os := os) ⟨rfl, by decide, fun _ => rfl, fun _ => rfl, fun _ => rfl⟩ rfl (fun i y _ => ∃ p, js[i]? = some p ∧ PN y p) (fun _ => true) hh (fun _ _ _ _ e _ => e) (wpAny_mono hi (fun v s₁ q => ?_) fun _ _ e => e) hs
  refine hide fun Gz kz => ?_
  obtain ⟨a, h₁, tk₁, l₁, rfl, rfl, ⟨vs, m, lv, ev⟩, hlen, hjn, hn, S, hq⟩ := q
  obtain ⟨nvs, nm, ln, en⟩ := S.N
  refine kz ?_
  clear kz Gz
  refine ⟨a, vs, m, h₁, tk₁, rfl, rfl, lv, by rw [ev.1]; exact hlen, fun C b i v h₃ tk₃ Q' E' hv T kk hQ => wpAny_tests_nil (hQ _ _ (Kx.refl _ _)), fun C b i v h₃ tk₃ Q' E' hv _ T kk hQ => ?_, fun Dl h₃ tk₃ ys m₃ hD k₃ l₃ CR => ?_⟩
  · refine hide fun Gz kz => ?_
    obtain ⟨p, hp', t8, rfl⟩ := ev.at_ hv
    refine kz ?_
    clear kz Gz
    have hpn : p < n := hjn p (List.mem_of_getElem? hp')
    obtain ⟨v', hv', pv⟩ := en.2 p p (by rw [List.getElem?_range hpn])
    exact Subscript_Name (nmV (S.c3.keeps kk.kp) (T.name (onList (kk.kp _ _ ln) (by (first | lia | omega)) hv' (hQ _ _ _ (Kx.refl _ _) ⟨p, hp', pv⟩))))
  · have hys : Enc PN ys js := by
      have CR' := CR
      rw [ev.1] at CR'
      have := CR'.enc (P := PN) (p := fun _ => true) (f := id) (fun _ _ _ => rfl) fun i k' y hk' hy => by
        obtain ⟨p, e, q⟩ := hy
        rw [hk'] at e; cases e; exact q
      rwa [List.filter_eq_self.mpr fun _ _ => rfl, List.map_id] at this
    exact hq _ _ _ k₃ ⟨ys, m₃, l₃, hys⟩ hD

/- statement 10: told -/
theorem law_10 {Q : Flow → Shared → Prop} (hr : Rm A 19) (S : St w mg mb D n par st fb rws h l) (U : Nu n par st fb rws) (ab : AllB g)
    (hq : ∀ h' g' tk' a res k0 cs, rws = k0 :: cs → St w mg mb D n par st fb rws h' ((Str.ofString "told", .ref a) :: l) → AllB g' → En PN h' a res → (∀ k, k ∈ res ↔ OM par k0 cs k) → (cs = [] → res = [k0]) → (∀ k ∈ res, k < n) → res.length ≤ 1000 → Kx (V D) h h' →
      wpAny (model PP w) A (execs ((bodyAt w 138).drop 11) (wEnv w D.L)) Q E ⟨h', g', d, tk', os⟩) :
    wpAny (model PP w) A (execs ((bodyAt w 138).drop 10) (wEnv w D.L)) Q E ⟨h, g, d, tk, os⟩ := by
  refine wpAny_execs_cons (wpAny_Assign_Name (Call_ (nmG S.K (g_oct w) (callWith_K S.K.x (by kernel_rfl) ?_))))
  refine args_cons (lam_make (i := 6) S (.inl ⟨rfl, rfl⟩) rfl (.head _) fun h₁ tk₁ lp k₁ S₁ X₁ hd₁ => ?_)
  refine args_cons (lam_make (i := 7) S₁ (.inr ⟨rfl, rfl⟩) rfl (.tail _ (.head _)) fun h₂ tk₂ ls k₂ S₂ Y₂ hd₂ => ?_)
  have X₂ := X₁.t S₁.T2 k₂
  refine args_cons (wpAny_Constant_none (args_cons ?_))
  refine names_of (D := D) (n := n) (par := par) (st := st) (fb := fb) (rws := rws) (mg := mg) (mb := mb) (g := g) (d := d) (os := os) rws hr.1 (nmV S₂.c4 ?_)
  refine ⟨D.ro, h₂, tk₂, l, rfl, rfl, S₂.Ro, Nat.le_trans U.r4 (by decide), U.rn, Nat.le_trans U.n10 (by decide), S₂, fun h₃ tk₃ r k₃ R₃ hd₃ => args_nil ?_⟩
  have S₃ := S₂.no k₃
  refine hide fun Gz kz => ?_
  obtain ⟨xs, mi, lx, ex⟩ := R₃
  refine kz ?_
  clear kz Gz
  have LK := S₃.lk U.n10 (X₂.no k₃) (Y₂.no k₃)
  refine ⟨S₃.K.x, ?_⟩
  cases hrw : rws with
  | nil => have := U.r1; rw [hrw] at this; exact absurd this (by decide)
  | cons k0 cs =>
    have hnd := U.rd
    have hrn := U.rn
    have h4 := U.r4
    rw [hrw] at hnd hrn h4 ex
    refine call_oct S₃.K (hr.less (by decide)) S₃.T ab LK U.n10 U.G.p U.G.s (fun k => Nat.le_trans (U.G.l k) (by decide)) lx ex.nms (hrn k0 (.head _)) (fun k hk => hrn k (.tail _ hk)) (by simpa using h4) hnd
      fun h₄ g₄ tk₄ a vs m res k₄ T₄ ab₄ l₄ nv mem hone _ hlt hlen hd => ?_
    have S₄ := S₃.f k₄ T₄
    refine stF S₄.F fun h₅ tk₅ F₅ k₅ => ?_
    have S₅ := S₄.fr k₅ F₅
    exact hq _ _ _ a res k0 cs hrw S₅ ab₄ ⟨vs, m, S₄.F.lst l₄ k₅, nv.enc⟩ mem hone hlt hlen ((((k₁.v135.tr k₂.v135).tr k₃.vn).tr k₄.v87).tr k₅.vL)
end
end Mine
end

section
open PySem PySem.W PyProof.Rows PySem.Spec PySem.Calls PySem.SeqAt
set_option maxRecDepth 100000
set_option maxHeartbeats 4000000
namespace Mine
section
variable {w : World} {mg mb : Str → Option Value} {A : Around} {E : Value → Shared → Prop} {s : Shared} {env : Env} {h h' : Heap} {g : Array GenState} {d : Drawn} {tk : Nat} {os : OsState} {M : Model} {prog : Program}
  {D : Pw} {n : Nat} {par : Nat → List Nat} {st : Nat → Nat} {fb : Nat → List Nat} {rws : List Nat} {l l' : List (Str × Value)}

/- the common forebears -/
noncomputable def cmn (n : Nat) (fb : Nat → List Nat) (rws : List Nat) : List Nat := (List.range n).filter fun k => decide ((rws.filter fun j => !decide (k ∈ fb j)) = [])

/- statement 12: common -/
theorem law_12 {z : Int} {t u : Tok} {Q : Flow → Shared → Prop} (hr : Rm A 19) (S : St w mg mb D n par st fb rws h l) (U : Nu n par st fb rws) (R : Rows l (rowsW D.pa n z t u))
    (hq : ∀ h' tk' co, St w mg mb D n par st fb rws h' l → h'.IsCell (D.L + 5) (some (.ref co)) → En PI h' co (cmn n fb rws) → Kx (V D) h h' →
      wpAny (model PP w) A (execs ((bodyAt w 138).drop 13) (wEnv w D.L)) Q E ⟨h', g, d, tk', os⟩) :
    wpAny (model PP w) A (execs ((bodyAt w 138).drop 12) (wEnv w D.L)) Q E ⟨h, g, d, tk, os⟩ := by
  obtain ⟨rvs, rm, lr, er⟩ := id S.Ro
  refine wpAny_execs_cons (wpAny_Assign_Name ?_)
  refine lcompR (ck := true) (g := g) (d := d) (os := os) ⟨rfl, by decide, fun _ => rfl, fun _ => rfl, fun _ => rfl⟩ rfl (fun i y _ => PI y i) (fun k => decide ((rws.filter fun j => !decide (k ∈ fb j)) = [])) hr.1 (fun _ _ _ _ e _ => e) ?_
  refine Call_ (nmB S.K (g_range w) b_range (by decide) (PyProof.Rows.callWith_type1 (args_cons (nmF S.F (R.sub (Str.ofString "size") _ rfl) (args_nil ?_)))))
  refine nRange fun h₁ tk₁ tt uu vv k₁ r₁ => ?_
  have S₁ := S.no k₁
  refine ⟨_, 0, _, tt, uu, vv, n, h₁, tk₁, rfl, rfl, r₁, small0 _ (Nat.le_trans U.n10 (by decide)), size0 _, Nat.le_trans U.n10 (by decide), fun C b j v h₂ tk₂ Q' E' hj hv T kk hQ => ?_, fun C b i v h₂ tk₂ Q' E' hi hv _ T kk hQ => ?_, fun Dl h₂ tk₂ ys m₂ hD k₂ l₂ CR => ?_⟩
  · obtain ⟨t₄, rfl⟩ := hv
    rw [Int.zero_add] at T
    have ck : h₂.IsCell (C + 1) (some (.int ((j : Nat) : Int) t₄)) := T.cell rfl rfl
    have S₂ := S₁.no kk
    refine wpAny_tests_one (wpAny_isTrue_Compare1 ?_)
    refine lcompL (ck := false) (g := g) (d := d) (os := os) ⟨rfl, by decide, fun _ => rfl, fun _ => rfl, fun _ => rfl⟩ rfl (fun i y _ => rvs[i]? = some y)
      (fun i => match rws[i]? with | some p => !decide (j ∈ fb p) | none => false) hr.1 (fun _ _ _ _ e _ => e) (nmV S₂.c4 ?_)
    have lr₂ : IsL h₂ D.ro rvs rm := (k₁.tn kk).kp _ _ lr
    refine ⟨D.ro, rvs, rm, h₂, tk₂, rfl, rfl, lr₂, by rw [er.1]; exact Nat.le_trans U.r4 (by decide), fun C₂ b₂ i₂ v₂ h₃ tk₃ Q₂ E₂ hv₂ T₂ kk₂ hQ₂ => ?_, fun C₂ b₂ i₂ v₂ h₃ tk₃ Q₂ E₂ hv₂ _ T₂ kk₂ hQ₂ => T₂.name (hQ₂ _ _ _ (Kx.refl _ _) hv₂), fun Dl h' tk' ys m' hD k' l' CR => ?_⟩
    · refine hide fun Gz kz => ?_
      obtain ⟨p, hp, t₂, rfl⟩ := er.at_ hv₂
      refine kz ?_
      clear kz Gz
      simp only [hp] at hQ₂
      have S₃ := S₂.no kk₂
      refine wpAny_tests_one (wpAny_isTrue_Compare1 (nmV (ck.keeps kk₂.kp) ?_))
      refine subFb S₃.Y (U.rn p (List.mem_of_getElem? hp)) (Nat.le_trans U.n10 (by decide)) (fun q => nmV S₃.c2 q) (fun q => T₂.name q) fun b' vs' m' l' i' => ?_
      exact notin_ints l' i' (wpAny_truthy_bool (hQ₂ _ _ (Kx.refl _ _)))
    · have hys : Ints ys (rws.filter fun p => !decide (j ∈ fb p)) := CR.sub er _ fun i k' hk' => by simp only [hk']
      refine List_ (args_nil (nList (fun h₅ k₅ l₅ => ?_) (Nat.zero_le _)))
      refine eq_nil (k₅.kp _ _ l') l₅ (hr.less (Nat.zero_le _)).un0 ?_
      rw [hys.eq]
      exact wpAny_truthy_bool (hQ h₅ tk' (k'.tn k₅))
  · obtain ⟨t₄, rfl⟩ := hv
    exact T.name (hQ _ _ _ (Kx.refl _ _) ⟨t₄, by simp⟩)
  · have hys : Ints ys (cmn n fb rws) := CR.rng0
    have S₂ := S₁.no k₂
    obtain ⟨ov, c5⟩ := S₂.c5
    refine stC c5 fun h₃ c₃ k₃ => ?_
    have S₃ := S₂.c k₃ c₃
    exact hq _ _ _ S₃ c₃ ⟨ys, m₂, Kl.ce c5 k₃ _ _ _ l₂, hys⟩ ((k₁.tn k₂).vn.tr k₃.v5)

/- statement 13: the octopus base against the common forebears -/
theorem law_13 {fo co : Nat} {fs : List Nat} {Q : Flow → Shared → Prop} (hr : Rm A 19) (S : St w mg mb D n par st fb rws h l) (U : Nu n par st fb rws) (hf : l.lookup (Str.ofString "found") = some (.ref fo)) (Ef : En PI h fo fs)
    (c5 : h.IsCell (D.L + 5) (some (.ref co))) (Ec : En PI h co (cmn n fb rws)) (hsub : ∀ k ∈ fs, k ∈ cmn n fb rws) (hfl : fs.length ≤ 100) (hfn : ∀ k ∈ fs, k < n) (hgr : gr fb fs = gr fb (cmn n fb rws))
    (hq : ∀ h' tk', Kx none_ h h' → wpAny (model PP w) A (execs ((bodyAt w 138).drop 14) (wEnv w D.L)) Q E ⟨h', g, d, tk', os⟩) :
    wpAny (model PP w) A (execs ((bodyAt w 138).drop 13) (wEnv w D.L)) Q E ⟨h, g, d, tk, os⟩ := by
  refine hide fun Gz kz => ?_
  obtain ⟨fvs, fm, lf, ef⟩ := id Ef
  obtain ⟨cvs, cm, lc, ec⟩ := id Ec
  refine kz ?_
  clear kz Gz
  have hcl : (cmn n fb rws).length ≤ 1000 := by
    have h1 := List.length_filter_le (fun k => decide ((rws.filter fun j => !decide (k ∈ fb j)) = [])) (List.range n)
    rw [List.length_range] at h1
    have h2 : (cmn n fb rws).length ≤ n := h1
    have h3 := U.n10
    (first | lia | omega)
  refine wpAny_execs_cons (wpAny_If (isTrue_or (wpAny_isTrue_Compare1 ?_)))
  refine lcompL (ck := false) (g := g) (d := d) (os := os) ⟨rfl, by decide, fun _ => rfl, fun _ => rfl, fun _ => rfl⟩ rfl (fun i y _ => fvs[i]? = some y) (fun _ => false) hr.1 (fun _ _ _ _ e _ => e) (nmF S.F hf ?_)
  refine ⟨fo, fvs, fm, h, tk, rfl, rfl, lf, by rw [ef.1]; (first | lia | omega), fun C b i v h₃ tk₃ Q' E' hv T kk hQ => ?_, fun C b i v h₃ tk₃ Q' E' hv hf _ _ _ => (by cases hf), fun Dl h₁ tk₁ ys m₁ hD k₁ l₁ CR => ?_⟩
  · refine hide fun Gz kz => ?_
    obtain ⟨k, hk, t, rfl⟩ := ef.at_ hv
    refine kz ?_
    clear kz Gz
    refine wpAny_tests_one (wpAny_isTrue_Compare1 (T.name (nmV (c5.keeps kk.kp) (notin_ints (kk.kp _ _ lc) ec (wpAny_truthy_bool ?_)))))
    have := hQ h₃ tk₃ (Kx.refl _ _)
    rwa [show (!decide (k ∈ cmn n fb rws)) = false by simpa using hsub k (List.mem_of_getElem? hk)]
  have hys : ys.size = 0 := by
    rw [CR.1]; simp
  refine List_ (args_nil (nList (fun h₂ k₂ l₂ => ?_) (Nat.zero_le _)))
  refine ne_nil (k₂.kp _ _ l₁) l₂ (hr.less (Nat.zero_le _)).un0 (wpAny_truthy_bool ?_)
  rw [show decide (ys.size ≠ 0) = false by simpa using hys]
  simp only [Bool.false_eq_true, if_false]
  have S₂ := (S.no k₁).no k₂
  have k02 : Kx none_ h h₂ := k₁.tn k₂
  refine isTrue_or (wpAny_isTrue_Compare1 ?_)
  refine Call_ (nmG S₂.K (g_great w) (callWith_K S₂.K.x (by kernel_rfl) (args_cons (nmF S₂.F hf (args_cons (nmV S₂.c2 (args_nil ⟨S₂.K.x, ?_⟩)))))))
  refine law_greatest S₂.K (hr.less (by decide)) (k02.kp _ _ lf) ef hfn (by (first | lia | omega)) S₂.Y (Nat.le_trans U.n10 (by decide)) fun h₃ tk₃ a us m k₃ l₃ i₃ _ => ?_
  have S₃ := S₂.no k₃
  refine Call_ (nmG S₃.K (g_great w) (callWith_K S₃.K.x (by kernel_rfl) (args_cons (nmV (c5.keeps (k02.tn k₃).kp) (args_cons (nmV S₃.c2 (args_nil ⟨S₃.K.x, ?_⟩)))))))
  refine law_greatest S₃.K (hr.less (by decide)) ((k02.tn k₃).kp _ _ lc) ec (fun k hk => List.mem_range.mp (List.mem_filter.mp hk).1) hcl S₃.Y (Nat.le_trans U.n10 (by decide)) fun h₄ tk₄ a' us' m' k₄ l₄ i₄ _ => ?_
  refine ne_enc okI (k₄.kp _ _ l₃) l₄ i₃ i₄ (hr.less (Nat.zero_le _)).un0 (fun _ _ => trivial) (fun _ _ => trivial) (wpAny_truthy_bool ?_)
  rw [show (!decide (gr fb fs = gr fb (cmn n fb rws))) = false by simp [hgr]]
  simp only [Bool.false_eq_true, if_false]
  refine isTrue_or_nil ?_
  simp only [Bool.false_eq_true, if_false]
  exact wpAny_execs_nil (hq _ _ ((k02.tn k₃).tn k₄))
end
end Mine
end

section
open PySem PySem.W PyProof.Rows PySem.Spec PySem.Calls PySem.SeqAt
set_option maxRecDepth 100000
set_option maxHeartbeats 4000000
namespace Mine
section
variable {w : World} {mg mb : Str → Option Value} {A : Around} {E : Value → Shared → Prop} {s : Shared} {env : Env} {h h' : Heap} {g : Array GenState} {d : Drawn} {tk : Nat} {os : OsState} {M : Model} {prog : Program}
  {D : Pw} {n : Nat} {par : Nat → List Nat} {st : Nat → Nat} {fb : Nat → List Nat} {rws : List Nat} {l l' : List (Str × Value)}

theorem ind_gr (hfb : ∀ k < n, ∀ j, j ∈ fb k ↔ Up par j k) {ks : List Nat} (hks : ∀ k ∈ ks, k < n) : ks.filter (indP par ks) = gr fb ks := by
  unfold gr
  refine List.filter_congr fun k hk => ?_
  rw [Bool.eq_iff_iff, indP_iff, decide_eq_true_eq, List.filter_eq_nil_iff]
  simp only [Bool.and_eq_true, decide_eq_true_eq, not_and, ne_eq]
  exact ⟨fun q j hj hne hm => q j hj hne ((hfb j (hks j hj) k).mp hm), fun q o ho hne hu => q o ho hne ((hfb o (hks o ho) k).mpr hu)⟩

/- statement 14: alone -/
theorem law_14 {Q : Flow → Shared → Prop} (hr : Rm A 19) (S : St w mg mb D n par st fb rws h l) (U : Nu n par st fb rws) (ab : AllB g)
    (hq : ∀ h' g' tk' a, St w mg mb D n par st fb rws h' ((Str.ofString "alone", .ref a) :: l) → AllB g' → En PN h' a (gr fb rws) → Kx (V D) h h' →
      wpAny (model PP w) A (execs ((bodyAt w 138).drop 15) (wEnv w D.L)) Q E ⟨h', g', d, tk', os⟩) :
    wpAny (model PP w) A (execs ((bodyAt w 138).drop 14) (wEnv w D.L)) Q E ⟨h, g, d, tk, os⟩ := by
  refine wpAny_execs_cons (wpAny_Assign_Name (Call_ (nmG S.K (g_ind w) (callWith_K S.K.x (by kernel_rfl) ?_))))
  refine args_cons (lam_make (i := 6) S (.inl ⟨rfl, rfl⟩) rfl (.tail _ (.tail _ (.head _))) fun h₁ tk₁ lp k₁ S₁ X₁ hd₁ => ?_)
  refine args_cons (lam_make (i := 7) S₁ (.inr ⟨rfl, rfl⟩) rfl (.tail _ (.tail _ (.tail _ (.head _)))) fun h₂ tk₂ ls k₂ S₂ Y₂ hd₂ => ?_)
  have X₂ := X₁.t S₁.T2 k₂
  refine args_cons (wpAny_Constant_none (args_cons ?_))
  refine names_of (D := D) (n := n) (par := par) (st := st) (fb := fb) (rws := rws) (mg := mg) (mb := mb) (g := g) (d := d) (os := os) rws hr.1 (nmV S₂.c4 ?_)
  refine ⟨D.ro, h₂, tk₂, l, rfl, rfl, S₂.Ro, Nat.le_trans U.r4 (by decide), U.rn, Nat.le_trans U.n10 (by decide), S₂, fun h₃ tk₃ r k₃ R₃ hd₃ => args_nil ?_⟩
  have S₃ := S₂.no k₃
  obtain ⟨xs, mi, lx, ex⟩ := R₃
  have LK := S₃.lk U.n10 (X₂.no k₃) (Y₂.no k₃)
  refine ⟨S₃.K.x, ?_⟩
  refine find_indep S₃.K hr S₃.T ab LK U.n10 U.G.p U.G.s (fun k => Nat.le_trans (U.G.l k) (by decide)) lx (fun e => by rw [e] at lx; exact S₃.T.nolist lx) ex.nms U.rn U.rd U.r1 (Nat.le_trans U.r4 (by decide))
      fun h₄ g₄ tk₄ a vs m k₄ T₄ ab₄ l₄ nv hd => ?_
  have S₄ := S₃.f k₄ T₄
  refine stF S₄.F fun h₅ tk₅ F₅ k₅ => ?_
  have S₅ := S₄.fr k₅ F₅
  rw [ind_gr U.hfb U.rn] at nv
  exact hq _ _ _ a S₅ ab₄ ⟨vs, m, S₄.F.lst l₄ k₅, nv.enc⟩ ((((k₁.v135.tr k₂.v135).tr k₃.vn).tr k₄.v87).tr k₅.vL)

theorem gr_len (fb : Nat → List Nat) (ks : List Nat) : (gr fb ks).length ≤ ks.length := List.length_filter_le _ _
theorem gr_sub {fb : Nat → List Nat} {ks : List Nat} {k : Nat} (hk : k ∈ gr fb ks) : k ∈ ks := (List.mem_filter.mp hk).1

/- statement 15 -/
theorem law_15 {a : Nat} {Q : Flow → Shared → Prop} (hr : Rm A 19) (S : St w mg mb D n par st fb rws h l) (U : Nu n par st fb rws) (ha : l.lookup (Str.ofString "alone") = some (.ref a)) (Ea : En PN h a (gr fb rws))
    (hq : ∀ h' tk', Kx none_ h h' → wpAny (model PP w) A (execs ((bodyAt w 138).drop 16) (wEnv w D.L)) Q E ⟨h', g, d, tk', os⟩) :
    wpAny (model PP w) A (execs ((bodyAt w 138).drop 15) (wEnv w D.L)) Q E ⟨h, g, d, tk, os⟩ := by
  obtain ⟨avs, am, la, ea⟩ := id Ea
  obtain ⟨rvs, rm, lr, er⟩ := id S.Ro
  refine wpAny_execs_cons (wpAny_If (wpAny_isTrue_Compare1 (nmF S.F ha ?_)))
  refine names_of (D := D) (n := n) (par := par) (st := st) (fb := fb) (rws := rws) (mg := mg) (mb := mb) (g := g) (d := d) (os := os) (gr fb rws) hr.1 ?_
  refine Call_ (nmG S.K (g_great w) (callWith_K S.K.x (by kernel_rfl) (args_cons (nmV S.c4 (args_cons (nmV S.c2 (args_nil ⟨S.K.x, ?_⟩)))))))
  refine law_greatest S.K (hr.less (by decide)) lr er U.rn (Nat.le_trans U.r4 (by decide)) S.Y (Nat.le_trans U.n10 (by decide)) fun h₁ tk₁ b us m k₁ l₁ i₁ _ => ?_
  refine ⟨b, h₁, tk₁, l, rfl, rfl, ⟨us, m, l₁, i₁⟩, Nat.le_trans (gr_len _ _) (Nat.le_trans U.r4 (by decide)), fun j hj => U.rn j (gr_sub hj), Nat.le_trans U.n10 (by decide), S.no k₁, fun h₂ tk₂ r k₂ R₂ hd₂ => ?_⟩
  obtain ⟨xs, mi, lx, ex⟩ := R₂
  have h10 : ∀ k ∈ gr fb rws, k < 10 := fun k hk => Nat.lt_of_lt_of_le (U.rn k (gr_sub hk)) U.n10
  refine ne_enc okN ((k₁.tn k₂).kp _ _ la) lx ea ex (hr.less (Nat.zero_le _)).un0 h10 h10 (wpAny_truthy_bool ?_)
  rw [show (!decide (gr fb rws = gr fb rws)) = false by simp]
  simp only [Bool.false_eq_true, if_false]
  exact wpAny_execs_nil (hq _ _ (k₁.tn k₂))

/- statement 16 -/
theorem law_16 {a : Nat} {res : List Nat} {Q : Flow → Shared → Prop} (hr : Rm A 19) (S : St w mg mb D n par st fb rws h l) (U : Nu n par st fb rws) (ha : l.lookup (Str.ofString "told") = some (.ref a)) (Ea : En PN h a res) (hres : ∀ k ∈ res, k < n)
    (hone : rws.length < 2 → res = rws)
    (hq1 : ∀ h' tk', Kx none_ h h' → Q (.ret (.bool true)) ⟨h', g, d, tk', os⟩)
    (hq : 2 ≤ rws.length → ∀ tk', wpAny (model PP w) A (execs ((bodyAt w 138).drop 17) (wEnv w D.L)) Q E ⟨h, g, d, tk', os⟩) :
    wpAny (model PP w) A (execs ((bodyAt w 138).drop 16) (wEnv w D.L)) Q E ⟨h, g, d, tk, os⟩ := by
  obtain ⟨avs, am, la, ea⟩ := id Ea
  obtain ⟨rvs, rm, lr, er⟩ := id S.Ro
  have hsz : rvs.size = rws.length := er.1
  have h4 := U.r4
  refine wpAny_execs_cons (wpAny_If (wpAny_isTrue_Compare1 (Call_ (nmB S.K (g_len w) b_len (by decide) (PyProof.Rows.callWith_builtin1 (args_cons (nmV S.c4 (args_nil (len_list lr.isList (by (first | lia | omega)) ?_)))))))))
  refine wpAny_mono (Q := fun v s => ∃ t tk', v = .int 2 t ∧ s = ⟨h, g, d, tk', os⟩) (cI fun t tk => ⟨_, _, rfl, rfl⟩) ?_ fun _ _ e => e
  rintro _ _ ⟨t5, tk5, rfl, rfl⟩
  refine PyProof.Rows.lt_int (wpAny_truthy_bool ?_)
  by_cases hlt : rws.length < 2
  · rw [show decide ((rvs.size : Int) < 2) = true by rw [decide_eq_true_eq]; (first | lia | omega)]
    simp only [if_true]
    refine wpAny_execs_cons (wpAny_Return_some (wpAny_Compare1 (nmF S.F ha ?_)))
    refine names_of (D := D) (n := n) (par := par) (st := st) (fb := fb) (rws := rws) (mg := mg) (mb := mb) (g := g) (d := d) (os := os) rws hr.1 (nmV S.c4 ?_)
    refine ⟨D.ro, h, tk5, l, rfl, rfl, S.Ro, by (first | lia | omega), U.rn, Nat.le_trans U.n10 (by decide), S, fun h₂ tk₂ r k₂ R₂ hd₂ => ?_⟩
    obtain ⟨xs, mi, lx, ex⟩ := R₂
    refine eq_enc okN (k₂.kp _ _ la) lx ea ex (hr.less (Nat.zero_le _)).un0 (fun k hk => Nat.lt_of_lt_of_le (hres k hk) U.n10) (fun k hk => Nat.lt_of_lt_of_le (U.rn k hk) U.n10) ?_
    rw [show decide (res = rws) = true by simpa using hone hlt]
    exact hq1 _ _ k₂
  · rw [show decide ((rvs.size : Int) < 2) = false by rw [decide_eq_false_iff_not]; (first | lia | omega)]
    simp only [Bool.false_eq_true, if_false]
    exact wpAny_execs_nil (hq (by (first | lia | omega)) _)
end
end Mine
end

section
open PySem PySem.W PyProof.Rows PySem.Spec PySem.Calls PySem.SeqAt
set_option maxRecDepth 100000
set_option maxHeartbeats 4000000
namespace Mine
section
variable {w : World} {mg mb : Str → Option Value} {A : Around} {E : Value → Shared → Prop} {s : Shared} {env : Env} {h h' : Heap} {g : Array GenState} {d : Drawn} {tk : Nat} {os : OsState} {M : Model} {prog : Program}
  {D : Pw} {n : Nat} {par : Nat → List Nat} {st : Nat → Nat} {fb : Nat → List Nat} {rws : List Nat} {l l' : List (Str × Value)}

theorem tailList {value slice : Expr} {a m i : Nat} {vs : Array Value} {x : Value} {t : Tok} {Q : Value → Shared → Prop} (l : IsL s.heap a vs m) (hi : i ≤ 1000) (hx : vs[i]? = some x) (hq : Q x s)
    (hs : subscripted slice false (.ref a) (.int (i : Nat) t) = operate [.ref a, .int (i : Nat) t] (getItem (.ref a) (.int (i : Nat) t)) := by with_unfolding_all rfl) (ht : ∀ r, letTemporaryGo value (.ref a) r = pure () := by intro _; with_unfolding_all rfl) :
    wpAny (model prog w) A (subscriptTail value slice (.ref a) (.int (i : Nat) t)) Q E s :=
  subscriptTail_builtin l.isList.typeIs slot_list_getitem.lookup (wpAny_getItem_list l.isList (by (first | lia | omega)) (by (first | lia | omega)) (by simpa using hx) hq) hs ht

/- statement 17: pair -/
theorem law_17 {r0 r1 : Nat} {rr : List Nat} {Q : Flow → Shared → Prop} (_hr : Rm A 19) (S : St w mg mb D n par st fb rws h l) (U : Nu n par st fb rws) (hrw : rws = r0 :: r1 :: rr)
    (hq : ∀ h' tk' p t0 t1, St w mg mb D n par st fb rws h' ((Str.ofString "pair", .ref p) :: l) → IsL h' p #[.bytes (nmL' r0).toArray t0, .bytes (nmL' r1).toArray t1] 0 → Kx (V D) h h' →
      wpAny (model PP w) A (execs ((bodyAt w 138).drop 18) (wEnv w D.L)) Q E ⟨h', g, d, tk', os⟩) :
    wpAny (model PP w) A (execs ((bodyAt w 138).drop 17) (wEnv w D.L)) Q E ⟨h, g, d, tk, os⟩ := by
  refine hide fun Gz kz => ?_
  obtain ⟨rvs, rm, lr, er⟩ := id S.Ro
  obtain ⟨nvs, nm, ln, en⟩ := id S.N
  refine kz ?_
  clear kz Gz
  have h0 : r0 < n := U.rn r0 (by rw [hrw]; exact .head _)
  have h1 : r1 < n := U.rn r1 (by rw [hrw]; exact .tail _ (.head _))
  have h10 := U.n10
  obtain ⟨v0, e0, u0, rfl⟩ := er.2 0 r0 (by rw [hrw]; rfl)
  obtain ⟨v1, e1, u1, rfl⟩ := er.2 1 r1 (by rw [hrw]; rfl)
  refine hide fun Gz kz => ?_
  obtain ⟨x0, f0, t0, rfl⟩ := en.2 r0 r0 (by rw [List.getElem?_range h0])
  obtain ⟨x1, f1, t1, rfl⟩ := en.2 r1 r1 (by rw [List.getElem?_range h1])
  refine kz ?_
  clear kz Gz
  refine wpAny_execs_cons (wpAny_Assign_Name (List_ (args_cons (Subscript_ (nmV S.c3 (Subscript_Constant (nmV S.c4 (cI fun t2 tk2 => onList (i := 0) lr (by decide) e0 ?_))))))))
  refine tailList ln (by (first | lia | omega)) f0 ?_
  refine args_cons (Subscript_ (nmV S.c3 (Subscript_Constant (nmV S.c4 (cI fun t3 tk3 => onList (i := 1) lr (by decide) e1 ?_)))))
  refine tailList ln (by (first | lia | omega)) f1 ?_
  refine args_nil (nList (fun h₁ k₁ l₁ => ?_) (by simp [sizeLine_eq]))
  have S₁ := S.no k₁
  refine stF S₁.F fun h₂ tk₂ F₂ k₂ => ?_
  exact hq _ _ _ t0 t1 (S₁.fr k₂ F₂) (S₁.F.lst l₁ k₂) (k₁.vn.tr k₂.vL)

/- the greatest common forebears of two -/
noncomputable def lws (n : Nat) (fb : Nat → List Nat) (r0 r1 : Nat) : List Nat := (List.range n).filter fun k => decide (k ∈ fb r0) && decide (k ∈ fb r1)

/- statement 18: lowest -/
theorem law_18 {r0 r1 : Nat} {z : Int} {t u : Tok} {rr : List Nat} {Q : Flow → Shared → Prop} (hr : Rm A 19) (S : St w mg mb D n par st fb rws h l) (U : Nu n par st fb rws) (R : Rows l (rowsW D.pa n z t u)) (hrw : rws = r0 :: r1 :: rr)
    (hq : ∀ h' tk' p, St w mg mb D n par st fb rws h' ((Str.ofString "lowest", .ref p) :: l) → En PI h' p (gr fb (lws n fb r0 r1)) → Kx (V D) h h' →
      wpAny (model PP w) A (execs ((bodyAt w 138).drop 19) (wEnv w D.L)) Q E ⟨h', g, d, tk', os⟩) :
    wpAny (model PP w) A (execs ((bodyAt w 138).drop 18) (wEnv w D.L)) Q E ⟨h, g, d, tk, os⟩ := by
  obtain ⟨rvs, rm, lr, er⟩ := id S.Ro
  have h0 : r0 < n := U.rn r0 (by rw [hrw]; exact .head _)
  have h1 : r1 < n := U.rn r1 (by rw [hrw]; exact .tail _ (.head _))
  have h10 := U.n10
  obtain ⟨v0, e0, u0, rfl⟩ := er.2 0 r0 (by rw [hrw]; rfl)
  obtain ⟨v1, e1, u1, rfl⟩ := er.2 1 r1 (by rw [hrw]; rfl)
  refine wpAny_execs_cons (wpAny_Assign_Name (Call_ (nmG S.K (g_great w) (callWith_K S.K.x (by kernel_rfl) (args_cons ?_)))))
  refine lcompR (ck := false) (g := g) (d := d) (os := os) ⟨rfl, by decide, fun _ => rfl, fun _ => rfl, fun _ => rfl⟩ rfl (fun i y _ => PI y i) (fun k => decide (k ∈ fb r0) && decide (k ∈ fb r1)) hr.1 (fun _ _ _ _ e _ => e) ?_
  refine Call_ (nmB S.K (g_range w) b_range (by decide) (PyProof.Rows.callWith_type1 (args_cons (nmF S.F (R.sub (Str.ofString "size") _ rfl) (args_nil ?_)))))
  refine nRange fun h₁ tk₁ tt uu vv k₁ r₁ => ?_
  have S₁ := S.no k₁
  refine ⟨_, 0, _, tt, uu, vv, n, h₁, tk₁, rfl, rfl, r₁, small0 _ (by (first | lia | omega)), size0 _, by (first | lia | omega), fun C b j v h₂ tk₂ Q' E' hj hv T kk hQ => ?_, fun C b i v h₂ tk₂ Q' E' hi hv _ T kk hQ => ?_, fun Dl h₂ tk₂ ys m₂ hD k₂ l₂ CR => ?_⟩
  · obtain ⟨t₄, rfl⟩ := hv
    rw [Int.zero_add] at T
    have S₂ := S₁.no kk
    have lr₂ : IsL h₂ D.ro rvs rm := (k₁.tn kk).kp _ _ lr
    refine hide fun Gz kz => ?_
    obtain ⟨us, m, lf, ef, rf⟩ := id S₂.Y
    obtain ⟨b0, vs0, m0, g0, l0, i0⟩ := rf r0 h0
    obtain ⟨b1, vs1, m1, g1, l1, i1⟩ := rf r1 h1
    refine kz ?_
    clear kz Gz
    refine wpAny_tests_one (isTrue_and (wpAny_isTrue_Compare1 (T.name (Subscript_ (nmV S₂.c2 (Subscript_Constant (nmV S₂.c4 (cI fun t2 tk2 => onList (i := 0) lr₂ (by decide) e0 ?_))))))))
    refine tailList lf (by (first | lia | omega)) g0 ?_
    refine in_ints l0 i0 (wpAny_truthy_bool ?_)
    by_cases hm : j ∈ fb r0
    · rw [show decide (j ∈ fb r0) = true by simpa using hm]
      simp only [if_true]
      refine isTrue_and (wpAny_isTrue_Compare1 (T.name (Subscript_ (nmV S₂.c2 (Subscript_Constant (nmV S₂.c4 (cI fun t2 tk2 => onList (i := 1) lr₂ (by decide) e1 ?_)))))))
      refine tailList lf (by (first | lia | omega)) g1 ?_
      refine in_ints l1 i1 (wpAny_truthy_bool ?_)
      have := fun tkx => hQ h₂ tkx (Kx.refl _ _)
      rw [show decide (j ∈ fb r0) = true by simpa using hm, Bool.true_and] at this
      by_cases hm1 : j ∈ fb r1
      · rw [show decide (j ∈ fb r1) = true by simpa using hm1] at this ⊢
        exact isTrue_and_nil (this _)
      · rw [show decide (j ∈ fb r1) = false by simpa using hm1] at this ⊢
        exact this _
    · rw [show decide (j ∈ fb r0) = false by simpa using hm]
      simp only [Bool.false_eq_true, if_false]
      have := fun tkx => hQ h₂ tkx (Kx.refl _ _)
      rw [show decide (j ∈ fb r0) = false by simpa using hm, Bool.false_and] at this
      exact this _
  · obtain ⟨t₄, rfl⟩ := hv
    exact T.name (hQ _ _ _ (Kx.refl _ _) ⟨t₄, by simp⟩)
  · have hys : Ints ys (lws n fb r0 r1) := CR.rng0
    have S₂ := S₁.no k₂
    refine args_cons (nmV S₂.c2 (args_nil ⟨S₂.K.x, ?_⟩))
    have hlen : (lws n fb r0 r1).length ≤ n := by
      have h1 := List.length_filter_le (fun k => decide (k ∈ fb r0) && decide (k ∈ fb r1)) (List.range n)
      rw [List.length_range] at h1
      exact h1
    refine law_greatest S₂.K (hr.less (by decide)) l₂ hys (fun k hk => List.mem_range.mp (List.mem_filter.mp hk).1) (by (first | lia | omega)) S₂.Y (by (first | lia | omega)) fun h₃ tk₃ a us m k₃ l₃ i₃ _ => ?_
    have S₃ := S₂.no k₃
    refine stF S₃.F fun h₄ tk₄ F₄ k₄ => ?_
    exact hq _ _ a (S₃.fr k₄ F₄) ⟨us, m, S₃.F.lst l₃ k₄, i₃⟩ (((k₁.tn k₂).tn k₃).vn.tr k₄.vL)
end
end Mine
end

section
open PySem PySem.W PyProof.Rows PySem.Spec PySem.Calls PySem.SeqAt
set_option maxRecDepth 100000
set_option maxHeartbeats 4000000
namespace Mine
section
variable {w : World} {mg mb : Str → Option Value} {A : Around} {E : Value → Shared → Prop} {s : Shared} {env : Env} {h h' : Heap} {g : Array GenState} {d : Drawn} {tk : Nat} {os : OsState} {M : Model} {prog : Program}
  {D : Pw} {n : Nat} {par : Nat → List Nat} {st : Nat → Nat} {fb : Nat → List Nat} {rws : List Nat} {l l' : List (Str × Value)}

noncomputable def gvFor (w : World) : Stmt := (bodyAt w 138).getD 20 default
noncomputable def gvBody (w : World) : List Stmt := match gvFor w with | .For _ _ b _ _ => b | _ => []

theorem St.V135 (S : St w mg mb D n par st fb rws h l) (k : Kx (· = 135) h h') : Kl h h' := S.kl (k.mono fun _b e => .inl (.inr (.inl e)))
theorem St.V87 (S : St w mg mb D n par st fb rws h l) (k : Kx (· = 87) h h') : Kl h h' := S.kl (k.mono fun _b e => .inl (.inl e))

theorem gv_turn {a b gi du m : Nat} {dl : List Nat} {ta tb : Tok} {Q : Flow → Shared → Prop} (hr : Rm A 19) (S : St w mg mb D n par st fb rws h ((Str.ofString "given", .ref gi) :: l)) (U : Nu n par st fb rws) (ab : AllB g)
    (hg : IsL h gi #[.bytes (nmL' a).toArray ta, .bytes (nmL' b).toArray tb] m) (ha : a < n) (hb : b < n) (hne : a ≠ b) (hdue : l.lookup (Str.ofString "due") = some (.ref du)) (Ed : En PN h du dl) (hdn : ∀ k ∈ dl, k < n)
    (hdl : ∀ res, LcaSpec par st a b res → res = dl)
    (hq : ∀ h' g' tk' l', St w mg mb D n par st fb rws h' (l' ++ l) → (∀ x v, l.lookup x = some v → x ≠ Str.ofString "given" → x ≠ Str.ofString "two" → (l' ++ l).lookup x = some v) → AllB g' → Kx (V D) h h' → Q .next ⟨h', g', d, tk', os⟩) :
    wpAny (model PP w) A (execs (gvBody w) (wEnv w D.L)) Q E ⟨h, g, d, tk, os⟩ := by
  have h10 := U.n10
  have hpl := fun k => Nat.le_trans (U.G.l k) (by decide : 3 ≤ 10)
  have kv : ∀ {P : Nat → Prop} {h₁ h₂ : Heap}, Kx P h₁ h₂ → (∀ b, P b → V D b) → Kx (V D) h₁ h₂ := fun {P h₁ h₂} k q => k.mono fun b e => .inl (q b e)
  refine wpAny_execs_cons (wpAny_Assign_Name (Call_ (nmG S.K (g_oct w) (callWith_K S.K.x (by kernel_rfl) ?_))))
  refine args_cons (lam_make (i := 6) S (.inl ⟨rfl, rfl⟩) rfl (.tail _ (.tail _ (.tail _ (.tail _ (.head _))))) fun h₁ tk₁ lp k₁ S₁ X₁ hd₁ => ?_)
  refine args_cons (lam_make (i := 7) S₁ (.inr ⟨rfl, rfl⟩) rfl (.tail _ (.tail _ (.tail _ (.tail _ (.tail _ (.head _)))))) fun h₂ tk₂ ls k₂ S₂ Y₂ hd₂ => ?_)
  have X₂ := X₁.t S₁.T2 k₂
  refine args_cons (wpAny_Constant_none (args_cons (nmF S₂.F rfl (args_nil ⟨S₂.K.x, ?_⟩))))
  have kl₂ : Kl h h₂ := (S.V135 k₁).tr (S₁.V135 k₂)
  have kk₂ : Kx (V D) h h₂ := (kv k₁ fun b e => .inr (.inl e)).tr (kv k₂ fun b e => .inr (.inl e))
  refine call_oct (k0 := a) (cs := [b]) S₂.K (hr.less (by decide)) S₂.T ab (S₂.lk h10 X₂ Y₂) h10 U.G.p U.G.s hpl (kl₂ _ _ _ hg) (enc_two (P := PN) ⟨ta, rfl⟩ ⟨tb, rfl⟩).nms ha (fun k hk => by rw [List.mem_singleton.mp hk]; exact hb) (by simp) (by simp [hne])
      fun h₃ g₃ tk₃ tw vs mt res k₃ T₃ ab₃ l₃ nv _ _ hsp hlt _ hd => ?_
  have S₃ := S₂.f k₃ T₃
  have hres : res = dl := hdl res (hsp b rfl)
  subst hres
  have kl₃ := kl₂.tr (S₂.V87 k₃)
  have kk₃ := kk₂.tr (kv k₃ fun b e => .inl e)
  refine stF S₃.F fun h₄ tk₄ F₄ k₄ => ?_
  have S₄ := S₃.fr k₄ F₄
  have kl₄ := kl₃.tr (Kl.fr S₃.F k₄)
  have kk₄ := kk₃.tr (kv k₄ fun b e => .inr (.inr (.inl e)))
  have t₄ : IsL h₄ tw vs mt := S₃.F.lst l₃ k₄
  refine hide fun Gz kz => ?_
  obtain ⟨dvs, dm, ld, ed⟩ := id (Ed.kl kl₄)
  refine kz ?_
  clear kz Gz
  have hd10 : ∀ k ∈ res, k < 10 := fun k hk => Nat.lt_of_lt_of_le (hdn k hk) h10
  refine wpAny_execs_cons (wpAny_If (isTrue_or (wpAny_isTrue_Compare1 (nmF S₄.F rfl (nmF S₄.F hdue ?_)))))
  refine ne_enc okN t₄ ld nv.enc ed (hr.less (Nat.zero_le _)).un0 hd10 hd10 (wpAny_truthy_bool ?_)
  rw [show (!decide (res = res)) = false by simp]
  simp only [Bool.false_eq_true, if_false]
  refine isTrue_or (wpAny_isTrue_Compare1 (Call_ (nmG S₄.K (g_mb w) (callWith_K S₄.K.x (by kernel_rfl) ?_))))
  refine args_cons (lam_make (i := 6) S₄ (.inl ⟨rfl, rfl⟩) rfl (.tail _ (.tail _ (.tail _ (.tail _ (.tail _ (.tail _ (.head _))))))) fun h₅ tk₅ lp' k₅ S₅ X₅ hd₅ => ?_)
  refine args_cons (lam_make (i := 7) S₅ (.inr ⟨rfl, rfl⟩) rfl (.tail _ (.tail _ (.tail _ (.tail _ (.tail _ (.tail _ (.tail _ (.head _)))))))) fun h₆ tk₆ ls' k₆ S₆ Y₆ hd₆ => ?_)
  have X₆ := X₅.t S₅.T2 k₆
  refine args_cons (wpAny_Constant_none (args_cons (nmF S₆.F rfl (args_nil ⟨S₆.K.x, ?_⟩))))
  have kl₆ : Kl h h₆ := (kl₄.tr (S₄.V135 k₅)).tr (S₅.V135 k₆)
  have kk₆ : Kx (V D) h h₆ := (kk₄.tr (kv k₅ fun b e => .inr (.inl e))).tr (kv k₆ fun b e => .inr (.inl e))
  refine find_mb2 S₆.K (hr.less (by decide)) S₆.T ab₃ (S₆.lk h10 X₆ Y₆) h10 U.G.p U.G.s hpl (kl₆ _ _ _ hg) ha hb hne fun h₇ g₇ tk₇ r vs₇ m₇ res₇ k₇ T₇ ab₇ l₇ nv₇ sp₇ hlt₇ hd₇ => ?_
  have S₇ := S₆.f k₇ T₇
  have hres : res₇ = res := hdl res₇ sp₇
  subst hres
  have kl₇ := kl₆.tr (S₆.V87 k₇)
  refine hide fun Gz kz => ?_
  obtain ⟨dvs', dm', ld', ed'⟩ := id (Ed.kl kl₇)
  refine kz ?_
  clear kz Gz
  refine nmF S₇.F hdue ?_
  refine ne_enc okN l₇ ld' nv₇.enc ed' (hr.less (Nat.zero_le _)).un0 hd10 hd10 (wpAny_truthy_bool ?_)
  rw [show (!decide (res₇ = res₇)) = false by simp]
  simp only [Bool.false_eq_true, if_false]
  refine isTrue_or_nil ?_
  simp only [Bool.false_eq_true, if_false]
  refine wpAny_execs_nil (wpAny_execs_nil ?_)
  refine hq _ _ _ [(Str.ofString "two", .ref tw), (Str.ofString "given", .ref gi)] S₇ (fun x v hx h1 h2 => ?_) ab₇ (kk₆.tr (kv k₇ fun b e => .inl e))
  show List.lookup x ((Str.ofString "two", _) :: (Str.ofString "given", _) :: l) = some v
  rw [List.lookup_cons, List.lookup_cons, beq_eq_false_iff_ne.mpr h2, beq_eq_false_iff_ne.mpr h1]
  exact hx
end
end Mine
end

section
open PySem PySem.W PyProof.Rows PySem.Spec PySem.Calls PySem.SeqAt
set_option maxRecDepth 100000
set_option maxHeartbeats 4000000
namespace Mine
section
variable {w : World} {mg mb : Str → Option Value} {A : Around} {E : Value → Shared → Prop} {s : Shared} {env : Env} {h h' : Heap} {g : Array GenState} {d : Drawn} {tk : Nat} {os : OsState} {M : Model} {prog : Program}
  {D : Pw} {n : Nat} {par : Nat → List Nat} {st : Nat → Nat} {fb : Nat → List Nat} {rws : List Nat} {l l' : List (Str × Value)}

theorem St.kd (S : St w mg mb D n par st fb rws h l) (k : Kd h h') (K' : Ok w mg mb h') : St w mg mb D n par st fb rws h' l :=
  { S with
    K := K'
    T := k.tb S.T
    T2 := k.tb S.T2
    F := k.fv S.F
    c1 := k.cell S.c1
    c2 := k.cell S.c2
    c3 := k.cell S.c3
    c4 := k.cell S.c4
    c5 := let ⟨ov, c⟩ := S.c5; ⟨ov, k.cell c⟩
    c6 := k.cell S.c6
    c7 := k.cell S.c7
    X := S.X.kl k.kl
    S := S.S.kl k.kl
    Y := S.Y.kl k.kl
    N := S.N.kl k.kl
    Ro := S.Ro.kl k.kl
    Ta := let ⟨kv, x, y⟩ := S.Ta; ⟨kv, k.dict x, y.kl k.kl⟩
    Ti := let ⟨kv, x, y⟩ := S.Ti; ⟨kv, k.dict x, y⟩ }
theorem St.obj (S : St w mg mb D n par st fb rws h l) (k : Kx (V D) h h') {a : Nat} {o : Obj} (ho : h.get? a = some o) (h1 : o.cls ≠ .none) (h2 : ∀ es ep, o.data ≠ .dict es ep) (h3 : ∀ ov, o.data ≠ .cell ov) : h'.get? a = some o := k a (fun e => by
  rcases e with e | e | e | e
  · obtain ⟨ps, e', _⟩ := S.T
    rw [e, e'] at ho; cases ho; exact h1 rfl
  · obtain ⟨ps, e', _⟩ := S.T2
    rw [e, e'] at ho; cases ho; exact h1 rfl
  · obtain ⟨m, ⟨o', es, ep, ho', hd, _⟩, _⟩ := S.F
    rw [e, ho'] at ho; cases ho; exact h2 _ _ hd
  · obtain ⟨ov, o', ho', hd⟩ := S.c5
    rw [e, ho'] at ho; cases ho; exact h3 _ hd) _ ho

theorem pair_rev {p m : Nat} {va vb : Value} {pos p1 p2 p3 p4 : Pos} {Q : Value → Shared → Prop} (hF : Fv h D.L l) (hp : l.lookup (Str.ofString "pair") = some (.ref p)) (lp : IsL h p #[va, vb] m)
    (hq : ∀ h' tk' q, Kx none_ h h' → IsL h' q #[vb, va] 0 → h.get? q = none → Q (.ref q) ⟨h', g, d, tk', os⟩) :
    wpAny (model PP w) A (eval (.Subscript (.Name (Str.ofString "pair") p1) (.Slice none none (some (.UnaryOp .USub (.Constant (.int 1) 0 p2) p3)) p4) pos) (wEnv w D.L)) Q E ⟨h, g, d, tk, os⟩ := by
  refine Subscript_ (nmF hF hp (wpAny_Slice ?_))
  rw [evalPart_none]
  refine wpAny_pure (wpAny_pure ?_)
  rw [evalPart_some]
  refine wpAny_UnaryOp (cI fun t1 tk1 => uNeg fun t2 tk2 => ?_)
  have k₁ : Kx none_ h (h.push { cls := .type "slice", data := .fields #[.none, .none, .int (-1) t2] }) := Kx.push _ _
  have l₁ : IsL (h.push { cls := .type "slice", data := .fields #[.none, .none, .int (-1) t2] }) p #[va, vb] m := k₁.kp _ _ lp
  refine subscriptTail_builtin l₁.isList.typeIs slot_list_getitem.lookup ?_
  refine wpAny_getItem_list_slice l₁.isList (Heap.IsSliceOf.new ..) .none .none (.int (-1) t2) (by decide) ?_ (by simp [sizeLine_eq])
  have e : slicePick #[va, vb] none none (some (-1)) = #[vb, va] := by rw [krv_pick]; rfl
  rw [e]
  generalize h.push { cls := .type "slice", data := .fields #[.none, .none, .int (-1) t2] } = h₁ at *
  exact hq _ _ _ (k₁.tn (Kx.push h₁ _)) (Heap.get?_push_size _ rfl) (k₁.dead0 (dead_size h₁))

/- the state of the last loop -/
inductive GvS (w : World) (mg mb : Str → Option Value) (D : Pw) (n : Nat) (par : Nat → List Nat) (st : Nat → Nat) (fb : Nat → List Nat) (rws : List Nat) (h : Heap) (it tu p q du r0 r1 m : Nat) (t0 t1 : Tok) (dl : List Nat) (d : Drawn) (os : OsState) (N : Nat) (s : Shared) : Prop
  | mk (q1 : Kx (fun b => V D b ∨ b = it) h s.heap)
      (j : Nat) (l' : List (Str × Value))
      (q2 : N = 2 - j)
      (q3 : j ≤ 2)
      (q4 : St w mg mb D n par st fb rws s.heap l')
      (q5 : l'.lookup (Str.ofString "due") = some (.ref du))
      (q6 : AllB s.gens)
      (q7 : IsT s.heap tu [.ref p, .ref q])
      (q8 : IsL s.heap p #[.bytes (nmL' r0).toArray t0, .bytes (nmL' r1).toArray t1] m)
      (q9 : IsL s.heap q #[.bytes (nmL' r1).toArray t1, .bytes (nmL' r0).toArray t0] 0)
      (q10 : En PN s.heap du dl)
      (q11 : s.heap.IsTupleIter it tu j)
      (q12 : s.drawn = d)
      (q13 : s.os = os) : GvS w mg mb D n par st fb rws h it tu p q du r0 r1 m t0 t1 dl d os N s
/- statement 20 and the end -/
theorem law_20 {r0 r1 p du : Nat} {rr dl : List Nat} {t0 t1 : Tok} {m : Nat} {Q : Flow → Shared → Prop} (hr : Rm A 19) (S : St w mg mb D n par st fb rws h l) (U : Nu n par st fb rws) (ab : AllB g) (hrw : rws = r0 :: r1 :: rr)
    (hp : l.lookup (Str.ofString "pair") = some (.ref p)) (lp : IsL h p #[.bytes (nmL' r0).toArray t0, .bytes (nmL' r1).toArray t1] m) (hdue : l.lookup (Str.ofString "due") = some (.ref du)) (Ed : En PN h du dl) (hdn : ∀ k ∈ dl, k < n)
    (hdl : ∀ res, LcaSpec par st r0 r1 res → res = dl)
    (hq : ∀ h' g' tk', Kx (V D) h h' → Tb h' 87 (qsL w) → Tb h' 135 (qsM w) → AllB g' → Q (.ret (.bool true)) ⟨h', g', d, tk', os⟩) :
    wpAny (model PP w) A (execs ((bodyAt w 138).drop 20) (wEnv w D.L)) Q E ⟨h, g, d, tk, os⟩ := by
  have h0 : r0 < n := U.rn r0 (by rw [hrw]; exact .head _)
  have h1 : r1 < n := U.rn r1 (by rw [hrw]; exact .tail _ (.head _))
  have hne : r0 ≠ r1 := by
    have := U.rd
    rw [hrw] at this
    intro e
    rw [e] at this
    simp at this
  refine wpAny_execs_cons (wpAny_For ?_)
  refine Tuple_ (args_cons (nmF S.F hp (args_cons (pair_rev S.F hp lp fun h₁ tk₁ q k₁ lq _ => args_nil (nTup (fun h₂ k₂ t₂ => ?_) (by simp [sizeLine_eq]))))))
  have S₂ := (S.no k₁).no k₂
  have kl₂ : Kl h h₂ := Kl.n (k₁.tn k₂)
  have hit : h₂.IsTuple h₁.objs.size #[.ref p, .ref q] := ⟨_, t₂, rfl, _, rfl⟩
  generalize h₁.objs.size = tu at *
  refine wpAny_pyIter_tuple hit ?_
  have k₃ : Kx none_ h₂ (h₂.push { cls := .type "tuple_iterator", data := .fields #[.ref tu, .int 0 0] }) := Kx.push _ _
  have i₃ : (h₂.push { cls := .type "tuple_iterator", data := .fields #[.ref tu, .int 0 0] }).IsTupleIter h₂.objs.size tu 0 := ⟨_, Heap.get?_push_size _ rfl, rfl, rfl⟩
  have b₃ : 138 < h₂.objs.size := S₂.K.sz
  have dit : h.get? h₂.objs.size = none := (k₁.tn k₂).deadS
  show codeAny _ _ _ _ ⟨h₂.push { cls := .type "tuple_iterator", data := .fields #[.ref tu, .int 0 0] }, g, d, tk₁, os⟩
  generalize h₂.push { cls := .type "tuple_iterator", data := .fields #[.ref tu, .int 0 0] } = h₃ at *
  generalize h₂.objs.size = it at *
  refine codeAny_forLoop (GvS w mg mb D n par st fb rws h it tu p q du r0 r1 m t0 t1 dl d os) ?_ 2
    ⟨((k₁.tn k₂).tn k₃).any, 0, l, rfl, by decide, S₂.no k₃, hdue, ab, k₃.kp _ _ t₂, k₃.kp _ _ (kl₂ _ _ _ lp), k₃.kp _ _ (k₂.kp _ _ lq), Ed.kl (kl₂.tr (Kl.n k₃)), i₃, rfl, rfl⟩
  rintro N ⟨h₄, g₄, d₄, tk₄, os₄⟩ xz
  refine hide fun Gz kz => ?_
  obtain ⟨kk₄, j, l₄, rfl, hj, S₄, hd₄, ab₄, tt₄, lp₄, lq₄, E₄, i₄, e2, e3⟩ := xz
  refine kz ?_
  clear kz Gz
  have e2' : d₄ = d := e2
  have e3' : os₄ = os := e3
  subst e2' e3'
  have htup : h₄.IsTuple tu #[.ref p, .ref q] := ⟨_, tt₄, rfl, _, rfl⟩
  have kdi : ∀ {hx : Heap}, Kx (· = it) h₄ hx → Kd h₄ hx := fun {hx} k b o ho hd => k b (fun e => by
    obtain ⟨o', ho', hc', hd'⟩ := i₄
    rw [e, ho'] at ho; cases ho
    exact hd ⟨(fun e => by rw [hc'] at e; cases e), _, hd', fun q t e => by cases e⟩) _ ho
  have item : j < 2 → ∃ a b gi ta tb mi, (#[Value.ref p, Value.ref q] : Array Value)[j]? = some (.ref gi) ∧ IsL h₄ gi #[.bytes (nmL' a).toArray ta, .bytes (nmL' b).toArray tb] mi ∧ a < n ∧ b < n ∧ a ≠ b ∧ ∀ res, LcaSpec par st a b res → res = dl := by
    intro hlt
    rcases (by omega : j = 0 ∨ j = 1) with rfl | rfl
    · exact ⟨r0, r1, p, t0, t1, m, rfl, lp₄, h0, h1, hne, hdl⟩
    · exact ⟨r1, r0, q, t1, t0, 0, rfl, lq₄, h1, h0, hne.symm, fun res x => hdl res x.symm⟩
  by_cases hlt : j < 2
  · refine hide fun Gz kz => ?_
    obtain ⟨a, b, gi, ta, tb, mi, hx, lg, ha, hb, hab, hab2⟩ := item hlt
    refine kz ?_
    clear kz Gz
    refine wpAny_pyNext_tuple_item (s := ⟨h₄, g₄, d₄, tk₄, os₄⟩) i₄ htup hx fun h₅ i₅ sb₅ => ?_
    have k₅ := Kx.of_same sb₅
    have kd := kdi k₅
    have S₅ := S₄.kd kd (S₄.K.l k₅ b₃)
    refine wpAny_assign_Name (stF S₅.F fun h₆ tk₆ F₆ k₆ => ?_)
    have S₆ := S₅.fr k₆ F₆
    have kl₆ : Kl h₄ h₆ := kd.kl.tr (Kl.fr S₅.F k₆)
    have tt₅ : IsT h₅ tu [.ref p, .ref q] := kd _ _ tt₄ (It.no fun vs e => by cases e)
    have tt₆ : IsT h₆ tu [.ref p, .ref q] := S₅.F.tup tt₅ k₆
    have i₆ : h₆.IsTupleIter it tu (j + 1) := by
      obtain ⟨o, ho, hc, hd⟩ := i₅
      refine ⟨o, k₆ _ (fun e => ?_) _ ho, hc, hd⟩
      obtain ⟨m', ⟨o', es, ep, ho', hd', _⟩, _⟩ := S₅.F
      rw [e, ho'] at ho; cases ho; rw [hd] at hd'; cases hd'
    refine wpAny_mono (gv_turn (l := l₄) (Q := fun fl s₃ => fl = .next ∧ ∃ m', m' < 2 - j ∧ GvS w mg mb D n par st fb rws h it tu p q du r0 r1 m t0 t1 dl d₄ os₄ m' s₃)
      hr S₆ U ab₄ (kl₆ _ _ _ lg) ha hb hab hd₄ (E₄.kl kl₆) hdn hab2 fun h₇ g₇ tk₇ l₇ S₇ hl₇ ab₇ k₇ => ?_) (fun fl s₃ q => ?_) fun _ _ e => e
    · have kl₇ := S₆.kl k₇
      refine ⟨rfl, 2 - (j + 1), Nat.sub_lt_sub_left (by assumption) (Nat.lt_succ_self _), ((kk₄.tr (k₅.mono fun b e => .inl (.inr e))).tr (k₆.mono fun b e => .inl (.inl (.inr (.inr (.inl e)))))).tr (k₇.mono fun b e => .inl (.inl e)), j + 1, l₇ ++ l₄, rfl, hlt, S₇, hl₇ _ _ hd₄ (by decide) (by decide), ab₇, ?_, kl₇ _ _ _ (kl₆ _ _ _ lp₄), kl₇ _ _ _ (kl₆ _ _ _ lq₄), (E₄.kl kl₆).kl kl₇, ?_, rfl, rfl⟩
      · exact S₆.obj k₇ tt₆ (fun e => by cases e) (fun _ _ e => by cases e) (fun _ e => by cases e)
      · obtain ⟨o, ho, hc, hd⟩ := i₆
        exact ⟨o, S₆.obj k₇ ho (fun e => by rw [hc] at e; cases e) (fun _ _ e => by rw [hd] at e; cases e) (fun _ e => by rw [hd] at e; cases e), hc, hd⟩
    · obtain ⟨e, q⟩ := q
      subst e
      exact q
  · obtain rfl : j = 2 := by omega
    refine wpAny_pyNext_tuple_end (s := ⟨h₄, g₄, d₄, tk₄, os₄⟩) hr.1 i₄ htup rfl fun h₅ he => ?_
    refine wpAny_execs_nil ?_
    refine wpAny_execs_cons (wpAny_Return_some (Constant_bool (hq _ _ _ ?_ ((kdi (Kx.of_ext he)).tb S₄.T) ((kdi (Kx.of_ext he)).tb S₄.T2) ab₄)))
    have k₅ : Kx (fun b => V D b ∨ b = it) h₄ h₅ := (Kx.of_ext he).mono fun b e => .inl (.inr e)
    exact (kk₄.tr k₅).mono fun b e => e.elim .inl fun e => .inr (e ▸ dit)
end
end Mine
end

section
open PySem PySem.W PyProof.Rows
set_option maxRecDepth 100000
set_option maxHeartbeats 4000000
/-! the sort's questions, answered by an order -/
namespace Mine
section
variable {lt : Nat → Nat → Bool}

structure Ork (lt : Nat → Nat → Bool) (n : Nat) : Prop where
  tr : ∀ x y z, lt x y = true → lt y z = true → lt x z = true
  tot : ∀ x < n, ∀ y < n, x ≠ y → lt x y = false → lt y x = true
noncomputable def cmpP (lt : Nat → Nat → Bool) (n : Nat) (i j : Nat) (C : Bool → Shared → Prop) (s : Shared) : Prop := i < n ∧ j < n ∧ C (lt i j) s
noncomputable abbrev run (lt : Nat → Nat → Bool) (n : Nat) {α : Type} (t : KasT α) (Q : α → Prop) (s : Shared) : Prop := t.kasWp (cmpP lt n) (fun a s' => s' = s ∧ Q a) s
theorem run_pre {n : Nat} {α : Type} (t : KasT α) {P P' : α → Shared → Prop} (s : Shared) (hp : t.kasWp (cmpP lt n) P s) (hh : ∀ a s', P a s' → P' a s') : t.kasWp (cmpP lt n) P' s := by
  induction t with
  | ret a => exact hh _ _ hp
  | ask i j k ih => exact ⟨hp.1, hp.2.1, ih (lt i j) hp.2.2⟩
theorem run_cmp {n : Nat} {α : Type} {cmp : Nat → Nat → (Bool → Shared → Prop) → Shared → Prop} (t : KasT α) {P : α → Shared → Prop} (s : Shared) (hp : t.kasWp (cmpP lt n) P s) (hc : ∀ i j, i < n → j < n → ∀ C : Bool → Shared → Prop, C (lt i j) s → cmp i j C s) : t.kasWp cmp P s := by
  induction t with
  | ret a => exact hp
  | ask i j k ih => exact hc i j hp.1 hp.2.1 _ (ih (lt i j) hp.2.2)
theorem run_bind {n : Nat} {α β : Type} {t : KasT α} {f : α → KasT β} {Q : β → Prop} {s : Shared} (h : run lt n t (fun a => run lt n (f a) Q s) s) : run lt n (t.bind f) Q s := by
  unfold run at *
  rw [KasT.kasWp_bind]
  refine run_pre t s h fun a s' q => ?_
  obtain ⟨rfl, q⟩ := q
  exact q
theorem run_mono {n : Nat} {α : Type} {t : KasT α} {Q Q' : α → Prop} {s : Shared} (h : run lt n t Q s) (hq : ∀ a, Q a → Q' a) : run lt n t Q' s := run_pre t s h fun a _s' q => ⟨q.1, hq a q.2⟩
theorem run_ret {n : Nat} {α : Type} {a : α} {Q : α → Prop} {s : Shared} (h : Q a) : run lt n (.ret a) Q s := ⟨rfl, h⟩
theorem run_ask {n : Nat} {α : Type} {i j : Nat} {k : Bool → KasT α} {Q : α → Prop} {s : Shared} (hi : i < n) (hj : j < n) (h : run lt n (k (lt i j)) Q s) : run lt n (.ask i j k) Q s := ⟨hi, hj, h⟩

/- rising and falling prefixes -/
noncomputable def Sd (lt : Nat → Nat → Bool) (p : Array Nat) (k : Nat) : Prop := ∀ i j, i < j → j < k → lt (p.getD i 0) (p.getD j 0) = true
noncomputable def Ds (lt : Nat → Nat → Bool) (p : Array Nat) (k : Nat) : Prop := ∀ i j, i < j → j < k → lt (p.getD j 0) (p.getD i 0) = true
/- an order of n things -/
structure Pm (p : Array Nat) (n : Nat) : Prop where
  pm : p.toList.Perm (List.range n)
theorem Pm.size {p : Array Nat} {n : Nat} (x : Pm p n) : p.size = n := by
  have := x.pm.length_eq
  rwa [Array.length_toList, List.length_range] at this
theorem Pm.less {p : Array Nat} {n i : Nat} (x : Pm p n) (hi : i < n) : p.getD i 0 < n := by
  have hs := x.size
  have : p.getD i 0 = p[i] := by simp [Array.getD, hs, hi]
  rw [this]
  exact List.mem_range.mp (x.pm.mem_iff.mp (by rw [Array.mem_toList_iff]; exact Array.getElem_mem _))
theorem Pm.ne {p : Array Nat} {n i j : Nat} (x : Pm p n) (hi : i < n) (hj : j < n) (hij : i ≠ j) : p.getD i 0 ≠ p.getD j 0 := by
  have hs := x.size
  have e1 : p.getD i 0 = p[i] := by simp [Array.getD, hs, hi]
  have e2 : p.getD j 0 = p[j] := by simp [Array.getD, hs, hj]
  rw [e1, e2]
  have hnd : p.toList.Nodup := x.pm.nodup_iff.mpr List.nodup_range
  have key := List.pairwise_iff_getElem.mp hnd
  intro e
  rcases Nat.lt_or_gt_of_ne hij with h | h
  · exact key i j (by simp [hs, hi]) (by simp [hs, hj]) h (by simpa using e)
  · exact key j i (by simp [hs, hj]) (by simp [hs, hi]) h (by simpa using e.symm)
theorem Pm.tot {p : Array Nat} {n i j : Nat} (O : Ork lt n) (x : Pm p n) (hi : i < n) (hj : j < n) (hij : i ≠ j) (h : lt (p.getD i 0) (p.getD j 0) = false) : lt (p.getD j 0) (p.getD i 0) = true :=
  O.tot _ (x.less hi) _ (x.less hj) (x.ne hi hj hij) h
theorem Pm.of {p q : Array Nat} {n : Nat} (x : Pm p n) (h : q.Perm p) : Pm q n := ⟨(Array.perm_iff_toList_perm.mp h).trans x.pm⟩
theorem getD_of {p q : Array Nat} {i j : Nat} (h : p[i]? = q[j]?) : p.getD i 0 = q.getD j 0 := by
  rw [Array.getD_eq_getD_getElem?, Array.getD_eq_getD_getElem?, h]

theorem Sd.snoc {p : Array Nat} {n k : Nat} (O : Ork lt n) (h : Sd lt p k) (hk : 1 ≤ k) (hl : lt (p.getD (k - 1) 0) (p.getD k 0) = true) : Sd lt p (k + 1) := by
  intro i j hij hj
  by_cases e : j < k
  · exact h i j hij e
  · have e : j = k := by (first | lia | omega)
    subst e
    by_cases e2 : i = j - 1
    · rw [e2]; exact hl
    · exact O.tr _ _ _ (h i (j - 1) (by (first | lia | omega)) (by (first | lia | omega))) hl
theorem Ds.snoc {p : Array Nat} {n k : Nat} (O : Ork lt n) (h : Ds lt p k) (hk : 1 ≤ k) (hl : lt (p.getD k 0) (p.getD (k - 1) 0) = true) : Ds lt p (k + 1) := by
  intro i j hij hj
  by_cases e : j < k
  · exact h i j hij e
  · have e : j = k := by (first | lia | omega)
    subst e
    by_cases e2 : i = j - 1
    · rw [e2]; exact hl
    · exact O.tr _ _ _ hl (h i (j - 1) (by (first | lia | omega)) (by (first | lia | omega)))

theorem asc_run {p : Array Nat} {n : Nat} {s : Shared} (O : Ork lt n) (P : Pm p n) : ∀ (f k : Nat), 1 ≤ k → k + f = n → Sd lt p k →
    run lt n (kas_asc p f k) (fun m => k ≤ m ∧ m ≤ n ∧ Sd lt p m ∧ (m = n ∨ lt (p.getD m 0) (p.getD (m - 1) 0) = true)) s
  | 0, k, h1, h2, h => run_ret ⟨Nat.le_refl _, by (first | lia | omega), h, .inl (by (first | lia | omega))⟩
  | f + 1, k, h1, h2, h => by
    refine run_ask (P.less (by (first | lia | omega))) (P.less (by (first | lia | omega))) ?_
    cases e : lt (p.getD k 0) (p.getD (k - 1) 0) with
    | true => rw [if_pos rfl]; exact run_ret ⟨Nat.le_refl _, by (first | lia | omega), h, .inr e⟩
    | false =>
      rw [if_neg (by decide)]
      exact run_mono (asc_run O P f (k + 1) (by (first | lia | omega)) (by (first | lia | omega)) (h.snoc O h1 (P.tot O (by (first | lia | omega)) (by (first | lia | omega)) (by (first | lia | omega)) e))) fun m q => ⟨by (first | lia | omega), q.2⟩
theorem desc_run {p : Array Nat} {n : Nat} {s : Shared} (O : Ork lt n) (P : Pm p n) : ∀ (f k : Nat), 1 ≤ k → k + f = n → Ds lt p k →
    run lt n (kas_desc f p k 0) (fun r => r.1 = p ∧ r.2.2 = 0 ∧ k ≤ r.2.1 ∧ r.2.1 ≤ n ∧ Ds lt p r.2.1) s
  | 0, k, h1, h2, h => run_ret ⟨rfl, rfl, Nat.le_refl _, (show k ≤ n by (first | lia | omega)), h⟩
  | f + 1, k, h1, h2, h => by
    refine run_ask (P.less (by (first | lia | omega))) (P.less (by (first | lia | omega))) ?_
    cases e : lt (p.getD k 0) (p.getD (k - 1) 0) with
    | true =>
      rw [if_pos rfl, if_neg (by decide)]
      exact run_mono (desc_run O P f (k + 1) (by (first | lia | omega)) (by (first | lia | omega)) (h.snoc O h1 e)) fun m q => ⟨q.1, q.2.1, Nat.le_trans (Nat.le_succ _) q.2.2.1, q.2.2.2⟩
    | false =>
      rw [if_neg (by decide)]
      refine run_ask (P.less (by (first | lia | omega))) (P.less (by (first | lia | omega))) ?_
      rw [P.tot O (by (first | lia | omega)) (by (first | lia | omega)) (by (first | lia | omega)) e, if_pos rfl]
      exact run_ret ⟨rfl, rfl, Nat.le_refl _, (show k ≤ n by (first | lia | omega)), h⟩
theorem tail_run {p : Array Nat} {n k : Nat} {s : Shared} (O : Ork lt n) (P : Pm p n) (h1 : 1 ≤ k) (h2 : k ≤ n) (h : Ds lt p k) :
    run lt n (kas_tail3 k n p) (fun r => 1 ≤ r.1 ∧ r.1 ≤ n ∧ Pm r.2 n ∧ Sd lt r.2 r.1) s := by
  unfold kas_tail3
  have P' : Pm (kas_rev p 0 k) n := P.of (mirror_perm _ _ _ _)
  have hS : Sd lt (kas_rev p 0 k) k := by
    intro i j hij hj
    have hsz : k ≤ p.size := by rw [P.size]; exact h2
    have e1 : (kas_rev p 0 k).getD i 0 = p.getD (0 + k - 1 - i) 0 := getD_of (by
      unfold kas_rev
      rw [getElem?_mirror_all hsz, if_pos (by (first | lia | omega))])
    have e2 : (kas_rev p 0 k).getD j 0 = p.getD (0 + k - 1 - j) 0 := getD_of (by
      unfold kas_rev
      rw [getElem?_mirror_all hsz, if_pos (by (first | lia | omega))])
    rw [e1, e2]
    exact h _ _ (by (first | lia | omega)) (by (first | lia | omega))
  refine run_bind (run_mono (asc_run O P' (n - k) k h1 (by (first | lia | omega)) hS) fun m q => ?_)
  exact run_ret ⟨by (first | lia | omega), q.2.1, P', q.2.2.1⟩
theorem count_run {p : Array Nat} {n : Nat} {s : Shared} (O : Ork lt n) (P : Pm p n) (h1 : 1 ≤ n) : run lt n (kas_count n p) (fun r => 1 ≤ r.1 ∧ r.1 ≤ n ∧ Pm r.2 n ∧ Sd lt r.2 r.1) s := by
  unfold kas_count
  refine run_bind (run_mono (asc_run O P (n - 1) 1 (Nat.le_refl _) (by (first | lia | omega)) (fun i j hij hj => by (first | lia | omega))) fun m q => ?_)
  obtain ⟨q1, q2, q3, q4⟩ := q
  by_cases e : m = n
  · rw [if_pos (by simpa using e)]
    exact run_ret ⟨q1, q2, P, q3⟩
  · rw [if_neg (by simpa using e)]
    have q4 := q4.resolve_left e
    by_cases e1 : m > 1
    · rw [if_pos e1]
      refine run_ask (P.less (by (first | lia | omega))) (P.less (by (first | lia | omega))) ?_
      rw [q3 0 (m - 1) (by (first | lia | omega)) (by (first | lia | omega)), if_pos rfl]
      exact run_ret ⟨q1, q2, P, q3⟩
    · rw [if_neg e1]
      have hm : m = 1 := by (first | lia | omega)
      subst hm
      unfold kas_descPart
      refine run_bind (run_mono (desc_run O P (n - (1 + 1)) (1 + 1) (by (first | lia | omega)) (by (first | lia | omega)) ?_) fun r q => ?_)
      · intro i j hij hj
        have : i = 0 ∧ j = 1 := by (first | lia | omega)
        obtain ⟨rfl, rfl⟩ := this
        exact q4
      · obtain ⟨pr, k, c⟩ := r
        obtain ⟨rfl, rfl, c1, c2, c3⟩ := q
        rw [if_neg (by exact Nat.lt_irrefl 0)]
        exact tail_run O P (Nat.le_trans (by decide) c1) c2 c3
theorem place_run {p : Array Nat} {n k : Nat} {s : Shared} (O : Ork lt n) (P : Pm p n) (hk : k < n) (h : Sd lt p k) : ∀ (f l r : Nat), l ≤ r → r ≤ k → r - l ≤ f → (∀ i < l, lt (p.getD i 0) (p.getD k 0) = true) → (∀ i, r ≤ i → i < k → lt (p.getD k 0) (p.getD i 0) = true) →
    run lt n (kas_place p k f l r) (fun m => m ≤ k ∧ (∀ i < m, lt (p.getD i 0) (p.getD k 0) = true) ∧ ∀ i, m ≤ i → i < k → lt (p.getD k 0) (p.getD i 0) = true) s
  | 0, l, r, h1, h2, h3, h4, h5 => run_ret ⟨by (first | lia | omega), h4, fun i hi hk => h5 i (by (first | lia | omega)) hk⟩
  | f + 1, l, r, h1, h2, h3, h4, h5 => by
    unfold kas_place
    by_cases e : l ≥ r
    · rw [if_pos e]
      exact run_ret ⟨by (first | lia | omega), h4, fun i hi hk => h5 i (by (first | lia | omega)) hk⟩
    · rw [if_neg e]
      refine run_ask (P.less (by (first | lia | omega))) (P.less (by (first | lia | omega))) ?_
      have m1 : l ≤ (l + r) / 2 := by (first | lia | omega)
      have m2 : (l + r) / 2 < r := by (first | lia | omega)
      generalize (l + r) / 2 = md at *
      cases e2 : lt (p.getD k 0) (p.getD md 0) with
      | true =>
        rw [if_pos rfl]
        refine place_run O P hk h f l md m1 (by (first | lia | omega)) (by (first | lia | omega)) h4 fun i hi hik => ?_
        by_cases e3 : i = md
        · rw [e3]; exact e2
        · exact O.tr _ _ _ e2 (h md i (by (first | lia | omega)) hik)
      | false =>
        rw [if_neg (by decide)]
        have e3 := P.tot O hk (by (first | lia | omega) : md < n) (by (first | lia | omega)) e2
        refine place_run O P hk h f (md + 1) r (by (first | lia | omega)) h2 (by (first | lia | omega)) (fun i hi => ?_) h5
        by_cases e4 : i = md
        · rw [e4]; exact e3
        · exact O.tr _ _ _ (h i md (by (first | lia | omega)) (by (first | lia | omega))) e3
theorem bin_run {n : Nat} {s : Shared} (O : Ork lt n) : ∀ (f k : Nat) (p : Array Nat), Pm p n → k + f = n → Sd lt p k → run lt n (kas_bin f p k) (fun p' => Pm p' n ∧ Sd lt p' n) s
  | 0, k, p, P, h1, h => run_ret ⟨P, (by (first | lia | omega) : k = n) ▸ h⟩
  | f + 1, k, p, P, h1, h => by
    unfold kas_bin
    refine run_bind (run_mono (place_run O P (by (first | lia | omega)) h k 0 k (Nat.zero_le _) (Nat.le_refl _) (by (first | lia | omega)) (fun i hi => absurd hi (Nat.not_lt_zero _)) (fun i hi hk => by (first | lia | omega))) fun m q => ?_)
    obtain ⟨q1, q2, q3⟩ := q
    refine bin_run O f (k + 1) _ (P.of (bubble_perm _ _ _)) (by (first | lia | omega)) ?_
    have hsz : k < p.size := by rw [P.size]; (first | lia | omega)
    have get : ∀ i, (bubble p k (k - m)).getD i 0 = if i = m then p.getD k 0 else if m < i ∧ i ≤ k then p.getD (i - 1) 0 else p.getD i 0 := by
      intro i
      have hm : k - (k - m) = m := by (first | lia | omega)
      have := getElem?_bubble hsz (k - m) (by (first | lia | omega)) i
      rw [hm] at this
      by_cases e : i = m
      · rw [if_pos e]; rw [if_pos e] at this; exact getD_of this
      · rw [if_neg e]; rw [if_neg e] at this
        by_cases e2 : m < i ∧ i ≤ k
        · rw [if_pos e2]; rw [if_pos e2] at this; exact getD_of this
        · rw [if_neg e2]; rw [if_neg e2] at this; exact getD_of this
    intro i j hij hj
    rw [get, get]
    by_cases e1 : i = m
    · rw [if_pos e1, if_neg (by (first | lia | omega)), if_pos (by (first | lia | omega))]
      exact q3 _ (by (first | lia | omega)) (by (first | lia | omega))
    · rw [if_neg e1]
      by_cases e2 : m < i ∧ i ≤ k
      · rw [if_pos e2, if_neg (by (first | lia | omega)), if_pos (by (first | lia | omega))]
        exact h _ _ (by (first | lia | omega)) (by (first | lia | omega))
      · rw [if_neg e2]
        by_cases e3 : j = m
        · rw [if_pos e3]; exact q2 _ (by (first | lia | omega))
        · rw [if_neg e3]
          by_cases e4 : m < j ∧ j ≤ k
          · rw [if_pos e4]
            exact h _ _ (by (first | lia | omega)) (by (first | lia | omega))
          · rw [if_neg e4]
            exact h _ _ hij (by (first | lia | omega))
/- the sort sorts -/
theorem sort_run {n : Nat} {s : Shared} (O : Ork lt n) (h1 : 1 ≤ n) : run lt n (kas_sort n) (fun p => Pm p n ∧ Sd lt p n) s := by
  unfold kas_sort
  have P : Pm (List.toArray (List.range n)) n := ⟨by simp⟩
  refine run_bind (run_mono (count_run O P h1) fun r q => ?_)
  obtain ⟨q1, q2, q3, q4⟩ := q
  by_cases e : r.1 < n
  · rw [if_pos e]
    have hm : max r.1 1 = r.1 := by (first | lia | omega)
    rw [hm]
    exact bin_run O _ _ _ q3 (by (first | lia | omega)) q4
  · rw [if_neg e]
    have : r.1 = n := by (first | lia | omega)
    rw [this] at q4
    exact run_ret ⟨q3, q4⟩
end
end Mine
end

section
open PySem PySem.W PyProof.Rows PySem.Spec PySem.Calls
set_option maxRecDepth 100000
set_option maxHeartbeats 4000000
namespace Mine
section
variable {prog : Program} {w : World} {A : Around} {E : Value → Shared → Prop} {s : Shared} {h : Heap} {g : Array GenState} {d : Drawn} {tk : Nat} {os : OsState}

/- how two of the list's things are told apart -/
structure Tell (prog : Program) (w : World) (A : Around) (vs : List Value) (lt : Nat → Nat → Bool) (h : Heap) (g : Array GenState) (d : Drawn) (os : OsState) : Prop where
  kind : 2 ≤ vs.length → ∃ κ : SortKind, ∀ (E : Value → Shared → Prop) (h₁ : Heap) (tk : Nat), (∀ b o, h.get? b = some o → o.cls ≠ .type "list" → h₁.get? b = some o) →
    (∀ Q : SortKind → Shared → Prop, Q κ ⟨h₁, g, d, tk, os⟩ → wpAny (model prog w) A (keyKind' vs.toArray) Q E ⟨h₁, g, d, tk, os⟩) ∧
    ∀ i j, i < vs.length → j < vs.length → ∀ C : Bool → Shared → Prop, C (lt i j) ⟨h₁, g, d, tk, os⟩ → wpAny (model prog w) A (keyLt' κ (vs.getD i .none) (vs.getD j .none)) C (fun _ _ => False) ⟨h₁, g, d, tk, os⟩
  ord : Ork lt vs.length

theorem sort_body {a n : Nat} {vs : List Value} {lt : Nat → Nat → Bool} {Q : Value → Shared → Prop} (hl : IsL h a vs.toArray n) (h64 : vs.length < 64) (Te : Tell prog w A vs lt h g d os)
    (hq : ∀ h' m p, IsL h' a (p.toList.map fun i => vs.getD i Value.none).toArray m → Pm p vs.length → Sd lt p vs.length → Kx (· = a) h h' → Q .none ⟨h', g, d, tk, os⟩) :
    wpAny (model prog w) A (Builtin.«list.sort» ⟨[.ref a], []⟩) (fun fin s' => ∃ v, fin = .done (.ret v) ∧ Q v s') E ⟨h, g, d, tk, os⟩ := by
  rw [list_sort_plain]
  have s1 := Heap.SameBut.update h a (Obj.mapSeq fun _ => (#[] : Array Value))
  obtain ⟨e1, ho1⟩ : ∃ e1, (h.update a (Obj.mapSeq fun _ => (#[] : Array Value))).get? a = some (seqObj "list" #[] e1) := ⟨_, get?_update_seq hl fun _ => #[]⟩
  have k1 := Kx.of_same s1
  refine wpAny_bind (listItems_at hl rfl ?_)
  refine wpAny_bind (listUpdate_at hl rfl ?_ (by rw [List.size_toArray, sizeLine_eq]; omega) (Nat.zero_le _))
  generalize (h.update a (Obj.mapSeq fun _ => (#[] : Array Value))) = h1 at *
  refine wpAny_bind (seqEpoch_at ho1 rfl ?_)
  refine wpAny_bind (nTup (fun h2 k2 t2 => ?_) (by show vs.length ≤ _; rw [sizeLine_eq]; omega))
  refine wpAny_bind (nList (fun h3 k3 l3 => ?_) (Nat.zero_le _))
  have k03 : Kx (· = a) h h3 := (k1.tn k2).tn k3
  have ha3 : h3.get? a = some (seqObj "list" #[] e1) := k3.kp _ _ (k2.kp _ _ ho1)
  refine wpAny_holding ?_
  dsimp only
  have keep : ∀ b o, h.get? b = some o → o.cls ≠ .type "list" → h3.get? b = some o := fun b o ho hc => k03 b (fun e => by
    have e : b = a := e
    rw [e, hl] at ho; cases ho; exact hc rfl) _ ho
  have fin : ∀ (st : SortSt) (p : Array Nat), (arrOf st).map (·.2) = (p.toList.map fun i => vs.getD i Value.none).toArray → failedOf st = none → Pm p vs.length → Sd lt p vs.length →
      wpAny (model prog w) A (do
        let sorted := (arrOf st).map (·.2)
        let touched := (← seqEpoch a) != e1
        Builtin.List.listUpdate (.ref a) fun _ => sorted
        if let some e := failedOf st then rule "list.sort.comparison-raised"; throw e
        if touched then rule "list.sort.modified"; raiseError "ValueError" "list modified during sort"
        ret .none) (fun fin s' => ∃ v, fin = .done (.ret v) ∧ Q v s') E ⟨h3, g, d, tk, os⟩ := by
    intro st p har hfl P S
    have s2 := Heap.SameBut.update h3 a (Obj.mapSeq fun _ => (arrOf st).map (·.2))
    obtain ⟨c2, hc2⟩ : ∃ c2, (h3.update a (Obj.mapSeq fun _ => (arrOf st).map (·.2))).get? a = some (seqObj "list" ((arrOf st).map (·.2)) c2) := ⟨_, get?_update_seq ha3 fun _ => (arrOf st).map (·.2)⟩
    refine wpAny_bind (seqEpoch_at ha3 rfl ?_)
    refine wpAny_bind (listUpdate_at ha3 rfl ?_ (Nat.zero_le _) (by
      rw [har, List.size_toArray, List.length_map, Array.length_toList, P.size, sizeLine_eq]; omega))
    rw [hfl]
    simp only [bne_self_eq_false, Bool.false_eq_true, if_false]
    refine wpAny_pure ⟨.none, rfl, hq _ c2 p ?_ P S (k03.tr (Kx.of_same s2))⟩
    rw [← har]; exact hc2
  by_cases h2' : vs.toArray.size < 2
  · rw [if_pos h2', if_pos h2']
    refine wpAny_bind (wpAny_pure ?_)
    rw [StateT.run_pure]
    refine wpAny_bind (wpAny_pure ?_)
    refine fin (SortSt.mk' general' (vs.toArray.zip vs.toArray) #[] 7 none) (List.toArray (List.range vs.length)) ?_ rfl ⟨by simp⟩ fun i j hij hj => ?_
    · show (vs.toArray.zip vs.toArray).map (·.2) = _
      apply Array.ext_getElem?
      intro i
      by_cases hi : i < vs.length
      · simp [hi]
      · simp [hi]
    · rw [List.size_toArray] at h2'; omega
  · rw [if_neg h2', if_neg h2']
    rw [List.size_toArray] at h2'
    obtain ⟨κ, hκ⟩ := Te.kind (by omega)
    refine wpAny_bind ((hκ E h3 tk keep).1 _ ?_)
    have ask := run_cmp (cmp := kas_ask prog w A κ vs) (kas_sort vs.length) (⟨h3, g, d, tk, os⟩ : Shared) (sort_run (lt := lt) (n := vs.length) (s := ⟨h3, g, d, tk, os⟩) Te.ord (by omega)) fun i j hi hj C hC => ?_
    · refine wpAny_bind (wpAny_mono (kat_run (Q := fun st' s' => s' = (⟨h3, g, d, tk, os⟩ : Shared) ∧ ∃ p, (arrOf st').map (·.2) = (p.toList.map fun i => vs.getD i Value.none).toArray ∧ failedOf st' = none ∧ Pm p vs.length ∧ Sd lt p vs.length)
        rfl (by omega) h64 (fun p st' s' a1 a2 a3 a4 => ⟨a4.1, p, kat_snds rfl a2, a3, a4.2.1, a4.2.2⟩) ask) ?_ fun _ _ e => e)
      rintro ⟨⟨⟩, st'⟩ s' ⟨rfl, p, har, hf, P, S⟩
      exact fin st' p har hf P S
    · unfold kas_ask
      exact (hκ (fun _ _ => False) h3 tk keep).2 i j hi hj C hC
end
end Mine
end

section
open PySem PySem.W PyProof.Rows PySem.Spec PySem.Calls
set_option maxRecDepth 100000
set_option maxHeartbeats 4000000
namespace Mine
section
variable {prog : Program} {w : World} {A : Around} {E : Value → Shared → Prop} {s : Shared} {h : Heap} {g : Array GenState} {d : Drawn} {tk : Nat} {os : OsState}

theorem Tell.n {vs : List Value} {lt : Nat → Nat → Bool} {h' : Heap} (T : Tell prog w A vs lt h g d os) (k : Kx none_ h h') : Tell prog w A vs lt h' g d os :=
  ⟨fun h2 => let ⟨κ, q⟩ := T.kind h2; ⟨κ, fun E h₁ tk kk => q E h₁ tk fun b o ho hc => kk b o (k.kp _ _ ho) hc⟩, T.ord⟩

theorem sorted_gen {v : Value} {Q : Value → Shared → Prop} (hc : wpAny (model prog w) A.in1 (collect v) (fun vs s₁ => ∃ h₁ d₁ tk₁ lt, s₁ = ⟨h₁, g, d₁, tk₁, os⟩ ∧ vs.length < 64 ∧ Tell prog w A.in1.in1 vs lt h₁ g d₁ os ∧
      (∀ h' z m p, Kx none_ h₁ h' → IsL h' z (p.toList.map fun i => vs.getD i Value.none).toArray m → Pm p vs.length → Sd lt p vs.length → h₁.get? z = none → Q (.ref z) ⟨h', g, d₁, tk₁, os⟩)) E s) :
    wpAny (model prog w) A (call (.builtin "sorted") [v]) Q E s := by
  refine Calls.call_function_entry kind_sorted plain_sorted entry_sorted (args_sorted1 _) ?_
  unfold Builtin.«sorted»
  refine wpAny_bind (m := checkCount "sorted" 1 1 _) (wpAny_pure ?_)
  refine wpAny_bind (wpAny_mono hc (fun vs s₁ q => ?_) fun _ _ e => e)
  refine hide fun Gz kz => ?_
  obtain ⟨h₁, d₁, tk₁, lt, rfl, h64, T, hq⟩ := q
  refine kz ?_
  clear kz Gz
  refine wpAny_bind (nList (fun h₂ k₂ l₂ => ?_) (by rw [sizeLine_eq]; (first | lia | omega)))
  have hd : h₁.get? h₁.objs.size = none := dead_size h₁
  generalize h₁.objs.size = z at *
  refine wpAny_bind (wpAny_holding (wpAny_call_entry slot_list_sort ⟨_, l₂, rfl⟩ entry_list_sort (sort_body l₂ h64 (T.n k₂) fun h₃ m p l₃ P S k₃ => ?_) (args_list_sort _)))
  exact wpAny_pure ⟨_, rfl, hq h₃ z m p (k₂.t1 k₃ hd) l₃ P S hd⟩

theorem getD_lt {α : Type} (l : List α) (i : Nat) (dd : α) (hi : i < l.length) : l.getD i dd = l[i] := by
  rw [List.getD_eq_getElem?_getD, List.getElem?_eq_getElem hi, Option.getD_some]
theorem getD_some {α : Type} {l : List α} {i : Nat} (dd : α) (hi : i < l.length) : l[i]? = some (l.getD i dd) := by rw [getD_lt l i dd hi]; exact List.getElem?_eq_getElem hi
/- numbers -/
theorem tell_ints {vs : List Value} {kz : List Int} (hi : IntsAre vs kz) (hnd : kz.Nodup) : Tell prog w A vs (fun i j => decide (kz.getD i 0 < kz.getD j 0)) h g d os := by
  have hl := hi.length
  refine ⟨fun h2 => ⟨oneType', fun E h₁ tk _ => ⟨fun Q hq => ?_, fun i j hi' hj' C hC => ?_⟩⟩, ⟨fun x y z h1 h2 => ?_, fun x hx y hy hne h1 => ?_⟩⟩
  · rw [ksk_kind (keys := vs.toArray) (by simpa using hi) (by simpa using h2)]
    exact wpAny_pure hq
  · obtain ⟨t, e1⟩ := hi.get i (kz.getD i 0) (getD_some 0 (by (first | lia | omega)))
    obtain ⟨u, e2⟩ := hi.get j (kz.getD j 0) (getD_some 0 (by (first | lia | omega)))
    rw [show vs.getD i .none = .int (kz.getD i 0) t by rw [List.getD_eq_getElem?_getD, e1]; rfl, show vs.getD j .none = .int (kz.getD j 0) u by rw [List.getD_eq_getElem?_getD, e2]; rfl, keyLt'_oneType]
    exact oneLt_int hC
  · simp only [decide_eq_true_eq] at *
    (first | lia | omega)
  · simp only [decide_eq_true_eq, decide_eq_false_iff_not] at *
    have hne' : kz.getD x 0 ≠ kz.getD y 0 := by
      have e1 : kz.getD x 0 = kz[x]'(by (first | lia | omega)) := getD_lt _ _ _ _
      have e2 : kz.getD y 0 = kz[y]'(by (first | lia | omega)) := getD_lt _ _ _ _
      rw [e1, e2]
      have key := List.pairwise_iff_getElem.mp hnd
      intro e
      rcases Nat.lt_or_gt_of_ne hne with q | q
      · exact key x y (by (first | lia | omega)) (by (first | lia | omega)) q e
      · exact key y x (by (first | lia | omega)) (by (first | lia | omega)) q e.symm
    (first | lia | omega)

theorem kat_firsts' (h : Heap) : ∀ (vs : List Value), (∀ v ∈ vs, ∃ (a : Nat) (i : Int) (t : Tok) (b : Array UInt8) (u : Tok), v = .ref a ∧ IsT h a [.int i t, .bytes b u]) → ∃ fs, KatTups h vs fs ∧ fs.length = vs.length ∧ ∀ f ∈ fs, ∃ (i : Int) (t : Tok), f = .int i t
  | [], _ => ⟨[], KatTups.nil, rfl, fun f hf => (nomatch hf)⟩
  | v :: vs, hv => by
    refine hide fun Gz kz => ?_
    obtain ⟨fs, k, e, q⟩ := kat_firsts' h vs fun v hv' => hv v (.tail _ hv')
    obtain ⟨a, i, t, b, u, rfl, ha⟩ := hv v (.head _)
    refine kz ?_
    clear kz Gz
    refine ⟨.int i t :: fs, KatTups.cons ha rfl rfl rfl k, by simp [e], fun f hf => ?_⟩
    rcases List.mem_cons.mp hf with rfl | hf
    · exact ⟨i, t, rfl⟩
    · exact q f hf
/- pairs of a time and a name -/
theorem pLt_tr (a b c : Key) (h1 : pLt a b = true) (h2 : pLt b c = true) : pLt a c = true := by
  cases e : pLt a c with
  | true => rfl
  | false =>
    have := pLt_trans b c a (pLt_asymm _ _ h2) e
    rw [h1] at this; cases this
noncomputable def kOf (st : Nat → Nat) (ks : List Nat) (i : Nat) : Key := ((st (ks.getD i 0) : Int), nmL' (ks.getD i 0))
noncomputable def PrsAt (h : Heap) (vs : List Value) (st : Nat → Nat) (ks : List Nat) : Prop := vs.length = ks.length ∧ ∀ i < ks.length, ∃ a t u, vs.getD i .none = .ref a ∧ IsT h a [.int (kOf st ks i).1 t, .bytes (kOf st ks i).2.toArray u]

theorem tell_pairs {vs : List Value} {st : Nat → Nat} {ks : List Nat} (hp : PrsAt h vs st ks) (hnd : ks.Nodup) (h10 : ∀ k ∈ ks, k < 10) : Tell prog w A vs (fun i j => pLt (kOf st ks i) (kOf st ks j)) h g d os := by
  have hl := hp.1
  have mem : ∀ i < ks.length, ks.getD i 0 ∈ ks := fun i hi => by
    have : ks.getD i 0 = ks[i] := by simp [hi]
    rw [this]; exact List.getElem_mem hi
  refine ⟨fun h2 => ⟨tuples' (Value.type "int" != Value.type "tuple"), fun E h₁ tk kk => ⟨fun Q hq => ?_, fun i j hi' hj' C hC => ?_⟩⟩, ⟨fun x y z h1 h2 => pLt_tr _ _ _ h1 h2, fun x hx y hy hne h1 => ?_⟩⟩
  · obtain ⟨fs, kt, el, ef⟩ := kat_firsts' h₁ vs fun v hv => by
      refine hide fun Gz kz => ?_
      obtain ⟨i, hi, e⟩ := List.getElem_of_mem hv
      obtain ⟨a, t, u, e1, ta⟩ := hp.2 i (by (first | lia | omega))
      refine kz ?_
      clear kz Gz
      rw [getD_lt vs i _ hi, e] at e1
      exact ⟨a, _, t, _, u, e1, kk _ _ ta (fun e => by injection e with e; exact absurd e (by decide))⟩
    refine kat_kind (s := ⟨h₁, g, d, tk, os⟩) (T := Value.type "int") kt (by (first | lia | omega)) (fun v hv => ?_) (by decide) hq
    obtain ⟨i, t, rfl⟩ := ef v hv
    exact Looks.of_pure rfl
  · refine hide fun Gz kz => ?_
    obtain ⟨a, t, u, e1, ta⟩ := hp.2 i (by (first | lia | omega))
    obtain ⟨b, t', u', e2, tb⟩ := hp.2 j (by (first | lia | omega))
    refine kz ?_
    clear kz Gz
    have ta₁ : IsT h₁ a _ := kk _ _ ta (fun e => by injection e with e; exact absurd e (by decide))
    have tb₁ : IsT h₁ b _ := kk _ _ tb (fun e => by injection e with e; exact absurd e (by decide))
    rw [e1, e2]
    refine kat_lt (s := ⟨h₁, g, d, tk, os⟩) ta₁ rfl tb₁ rfl ?_
    refine kat_cons (wpAny_eqBool_int ?_)
    refine kat_go (fun q => ?_) fun q => ?_
    · rw [beq_iff_eq] at q
      refine kat_yes (kat_cons (eqBool_bytes ?_))
      refine kat_go (fun q2 => ?_) fun q2 => ?_
      · refine kat_yes (kat_nil ?_)
        simp only [decide_eq_true_eq] at q2
        have : pLt (kOf st ks i) (kOf st ks j) = false := by
          have e : (kOf st ks i) = (kOf st ks j) := Prod.ext q (by simpa using q2)
          rw [e]
          cases e : pLt (kOf st ks j) (kOf st ks j) with
          | false => rfl
          | true => have := pLt_asymm _ _ e; rw [e] at this; cases this
        rw [this] at hC
        exact hC
      · refine kat_no ?_
        refine kat_one _ _ ?_
        show wpAny _ _ (richCompare .Lt _ _) _ _ _
        refine rc_lt_bytes ?_
        show C _ _
        have : bLt (kOf st ks i).2 (kOf st ks j).2 = pLt (kOf st ks i) (kOf st ks j) := by unfold pLt; rw [if_pos q]
        simpa [this] using hC
    · refine kat_no ?_
      rw [beq_eq_false_iff_ne] at q
      refine oneLt_int ?_
      have : pLt (kOf st ks i) (kOf st ks j) = decide ((kOf st ks i).1 < (kOf st ks j).1) := by unfold pLt; rw [if_neg q]
      rwa [this] at hC
  · have hx' : x < ks.length := by (first | lia | omega)
    have hy' : y < ks.length := by (first | lia | omega)
    have hxy : ks.getD x 0 ≠ ks.getD y 0 := by
      have e1 : ks.getD x 0 = ks[x] := by simp [hx']
      have e2 : ks.getD y 0 = ks[y] := by simp [hy']
      rw [e1, e2]
      have key := List.pairwise_iff_getElem.mp hnd
      intro e
      rcases Nat.lt_or_gt_of_ne hne with q | q
      · exact key x y hx' hy' q e
      · exact key y x hy' hx' q e.symm
    unfold pLt kOf at h1 ⊢
    dsimp only at h1 ⊢
    by_cases e : ((st (ks.getD x 0) : Nat) : Int) = ((st (ks.getD y 0) : Nat) : Int)
    · rw [if_pos e] at h1
      rw [if_pos e.symm]
      exact nm_tot _ (h10 _ (mem y hy')) _ (h10 _ (mem x hx')) hxy.symm h1
    · rw [if_neg e] at h1
      rw [if_neg (fun e' => e e'.symm)]
      simp only [decide_eq_false_iff_not, decide_eq_true_eq] at *
      (first | lia | omega)
end
end Mine
end

section
open PySem PySem.W PyProof.Rows PySem.Spec PySem.Calls PySem.SeqAt
set_option maxRecDepth 100000
set_option maxHeartbeats 4000000
namespace Mine
section
variable {w : World} {mg mb : Str → Option Value} {A : Around} {E : Value → Shared → Prop} {s : Shared} {env : Env} {h h' : Heap} {g : Array GenState} {d : Drawn} {tk : Nat} {os : OsState} {M : Model} {prog : Program}
  {D : Pw} {n : Nat} {par : Nat → List Nat} {st : Nat → Nat} {fb : Nat → List Nat} {rws : List Nat} {l l' : List (Str × Value)}

theorem g_sorted (w : World) : nsIn (KK w) mainGlobals (Str.ofString "sorted") = some none := by kernel_rfl
theorem b_sorted : bootBuiltins (Str.ofString "sorted") = some (.builtin "sorted") := by kernel_rfl

theorem nCollect {a m : Nat} {vs : List Value} {Q : List Value → Shared → Prop} (hl : IsL h a vs.toArray m) (hz : vs.length ≤ 1000) (hq : ∀ h', Kx none_ h h' → Q vs ⟨h', g, d, tk, os⟩) : wpAny (model prog w) A (collect (.ref a)) Q E ⟨h, g, d, tk, os⟩ := by
  refine collect_list hl.isList (hq _ fun b _ o ho => ?_) (by rw [sizeLine_eq]; (first | lia | omega))
  have hlt : b < h.objs.size := Heap.lt_size ho
  show ((h.push (seqObj "list" #[] 0)).update h.objs.size (Obj.mapSeq (· ++ vs.toArray))).get? b = some o
  rw [Heap.get?_update_ne _ _ _ _ (Nat.ne_of_lt hlt), Heap.get?_push_ne _ _ _ (Nat.ne_of_lt hlt)]
  exact ho

/- by time and name -/
noncomputable def Rst (st : Nat → Nat) (a b : Nat) : Prop := pLt ((st a : Int), nmL' a) ((st b : Int), nmL' b) = true
noncomputable def dul (st : Nat → Nat) (ks : List Nat) : List Nat := @dite _ (∃ r : List Nat, r.Perm ks ∧ r.Pairwise (Rst st)) (Classical.propDecidable _) (fun h => Classical.choose h) fun _ => []
theorem dul_eq {ks r : List Nat} (hp : r.Perm ks) (hs : r.Pairwise (Rst st)) : dul st ks = r := by
  have hx : ∃ r : List Nat, r.Perm ks ∧ r.Pairwise (Rst st) := ⟨r, hp, hs⟩
  have e : dul st ks = Classical.choose hx := dif_pos hx
  rw [e]
  have hc := Classical.choose_spec hx
  exact sorted_uniq (R := Rst st) (fun a b h => pLt_asymm' _ _ h) _ _ hc.2 hs fun x => hc.1.mem_iff.trans hp.mem_iff.symm

theorem order_of {p : Array Nat} {ks : List Nat} (P : Pm p ks.length) (S : Sd (fun i j => pLt (kOf st ks i) (kOf st ks j)) p ks.length) :
    (p.toList.map fun i => ks.getD i 0).Perm ks ∧ (p.toList.map fun i => ks.getD i 0).Pairwise (Rst st) := by
  constructor
  · have h1 := P.pm.map fun i => ks.getD i 0
    have h2 : (List.range ks.length).map (fun i => ks.getD i 0) = ks := by
      refine List.ext_getElem? fun i => ?_
      by_cases hi : i < ks.length
      · rw [List.getElem?_map, List.getElem?_range hi, Option.map_some, getD_some 0 hi]
      · rw [List.getElem?_map, List.getElem?_eq_none (by simpa using hi), List.getElem?_eq_none (by (first | lia | omega))]; rfl
    rwa [h2] at h1
  · rw [List.pairwise_iff_getElem]
    intro i j hi hj hij
    have hs := P.size
    rw [List.length_map, Array.length_toList] at hi hj
    have := S i j hij (by (first | lia | omega))
    have e1 : p.getD i 0 = p[i] := by simp [Array.getD, hi]
    have e2 : p.getD j 0 = p[j] := by simp [Array.getD, hj]
    rw [e1, e2] at this
    simpa [Rst, kOf] using this

/- statement 19: due -/
theorem law_19 {lo : Nat} {ks : List Nat} {Q : Flow → Shared → Prop} (hr : Rm A 19) (S : St w mg mb D n par st fb rws h l) (U : Nu n par st fb rws) (hlo : l.lookup (Str.ofString "lowest") = some (.ref lo)) (El : En PI h lo ks) (hnd : ks.Nodup) (hkn : ∀ k ∈ ks, k < n)
    (hq : ∀ h' tk' du, St w mg mb D n par st fb rws h' ((Str.ofString "due", .ref du) :: l) → En PN h' du (dul st ks) → (dul st ks).Perm ks → (dul st ks).Pairwise (Rst st) → Kx (V D) h h' →
      wpAny (model PP w) A (execs ((bodyAt w 138).drop 20) (wEnv w D.L)) Q E ⟨h', g, d, tk', os⟩) :
    wpAny (model PP w) A (execs ((bodyAt w 138).drop 19) (wEnv w D.L)) Q E ⟨h, g, d, tk, os⟩ := by
  refine hide fun Gz kz => ?_
  obtain ⟨vs, m, lv, ev⟩ := id El
  obtain ⟨nvs, nm, ln, en⟩ := id S.N
  obtain ⟨svs, sm, lsx, es⟩ := id S.S
  refine kz ?_
  clear kz Gz
  have h10 := U.n10
  have hlen : ks.length ≤ 10 := by
    have h3 := nodup_le ks (List.range n) hnd fun x hx => List.mem_range.mpr (hkn x hx)
    rw [List.length_range] at h3
    (first | lia | omega)
  refine wpAny_execs_cons ?_
  refine lassL (ck := false) (L := D.L) (g := g) (d := d) (os := os) rfl ⟨rfl, by decide, fun _ => rfl, fun _ => rfl, fun _ => rfl⟩ rfl (fun i y _ => ∃ k, (dul st ks)[i]? = some k ∧ PN y k) (fun _ => true) hr.1 (fun _ _ _ _ e _ => e) ?_
  refine Call_ (nmB S.K (g_sorted w) b_sorted (by decide) (PyProof.Rows.callWith_builtin1 (args_cons ?_)))
  refine lcompL (ck := false) (g := g) (d := d) (os := os) ⟨rfl, by decide, fun _ => rfl, fun _ => rfl, fun _ => rfl⟩ rfl (fun i y hh => ∃ k, ks[i]? = some k ∧ PairAt hh y ((st k : Int), nmL' k)) (fun _ => true) hr.1
    (fun i y h h' ⟨k, e, a, t, u, ey, ht⟩ kt => ⟨k, e, a, t, u, ey, kt _ _ ht⟩) (nmF S.F hlo ?_)
  refine ⟨lo, vs, m, h, tk, rfl, rfl, lv, by rw [ev.1]; (first | lia | omega), fun C b i v h₃ tk₃ Q' E' hv T kk hQ => wpAny_tests_nil (hQ _ _ (Kx.refl _ _)), fun C b i v h₃ tk₃ Q' E' hv _ T kk hQ => ?_, fun Dl h₁ tk₁ ys m₁ hD k₁ l₁ CR => args_nil ?_⟩
  · refine hide fun Gz kz => ?_
    obtain ⟨k, hk, t8, rfl⟩ := ev.at_ hv
    refine kz ?_
    clear kz Gz
    have hkn' : k < n := hkn k (List.mem_of_getElem? hk)
    refine hide fun Gz kz => ?_
    obtain ⟨v1, e1, t1, rfl⟩ := es.2 k (st k) (by simp [hkn'])
    obtain ⟨v2, e2, t2, rfl⟩ := en.2 k k (by rw [List.getElem?_range hkn'])
    refine kz ?_
    clear kz Gz
    refine Tuple_ (args_cons (Subscript_Name (nmV (S.c1.keeps kk.kp) (T.name (onList (kk.kp _ _ lsx) (by (first | lia | omega)) e1 (args_cons (Subscript_Name (nmV (S.c3.keeps kk.kp) (T.name (onList (kk.kp _ _ ln) (by (first | lia | omega)) e2 (args_nil (nTup (fun h₄ k₄ t₄ => ?_) (by simp [sizeLine_eq])))))))))))))
    exact hQ _ _ _ k₄ ⟨k, hk, _, t1, t2, rfl, t₄⟩
  · have hys : ys.toList.length = ks.length := by
      rw [Array.length_toList, CR.1, ev.1, List.filter_eq_self.mpr fun _ _ => rfl, List.length_range]
    have hpr : PrsAt h₁ ys.toList st ks := by
      refine ⟨hys, fun i hi => ?_⟩
      have hf : ((List.range vs.size).filter fun _ => true)[i]? = some i := by
        rw [List.filter_eq_self.mpr fun _ _ => rfl, List.getElem?_range (by rw [ev.1]; exact hi)]
      refine hide fun Gz kz => ?_
      obtain ⟨y, ey, k, ek, a, t, u, e, ht⟩ := CR.2 i i hf
      refine kz ?_
      clear kz Gz
      refine ⟨a, t, u, ?_, ?_⟩
      · rw [List.getD_eq_getElem?_getD, Array.getElem?_toList, ey]; exact e
      · have : ks.getD i 0 = k := by rw [List.getD_eq_getElem?_getD, ek]; rfl
        unfold kOf
        rw [this]; exact ht
    have l₁' : IsL h₁ Dl ys.toList.toArray m₁ := by rw [Array.toArray_toList]; exact l₁
    refine sorted_gen (nCollect l₁' (by (first | lia | omega)) fun h₂ k₂ => ⟨h₂, d, tk₁, _, rfl, by (first | lia | omega), (tell_pairs hpr hnd fun k hk => Nat.lt_of_lt_of_le (hkn k hk) h10).n k₂, fun h₃ z m₃ p k₃ l₃ P Sx _ => ?_⟩)
    rw [hys] at P Sx
    obtain ⟨o1, o2⟩ := order_of P Sx
    have hdu := dul_eq o1 o2
    have k03 : Kx none_ h h₃ := (k₁.tn k₂).tn k₃
    have S₃ := S.no k03
    have hps := P.size
    have hsz : (p.toList.map fun i => ys.toList.getD i Value.none).toArray.size = (dul st ks).length := by
      rw [hdu]; simp
    refine ⟨z, _, m₃, h₃, tk₁, rfl, rfl, l₃, by rw [hsz, hdu, o1.length_eq]; (first | lia | omega), fun C b i v h₄ tk₄ Q' E' hv T kk hQ => wpAny_tests_nil (hQ _ _ (Kx.refl _ _)), fun C b i v h₄ tk₄ Q' E' hv _ T kk hQ => ?_, l, S₃.F, fun Du h₄ tk₄ ys₄ m₄ hD₄ k₄ F₄ l₄ CR₄ => ?_⟩
    · have hv' : (p.toList.map fun i => ys.toList.getD i Value.none)[i]? = some v := by simpa using hv
      rw [List.getElem?_map] at hv'
      cases hp' : p.toList[i]? with
      | none => rw [hp'] at hv'; cases hv'
      | some j =>
        rw [hp'] at hv'
        simp only [Option.map_some, Option.some.injEq] at hv'
        have hj : j < ks.length := List.mem_range.mp (P.pm.mem_iff.mp (List.mem_of_getElem? hp'))
        refine hide fun Gz kz => ?_
        obtain ⟨a, t, u, e, ht⟩ := hpr.2 j hj
        refine kz ?_
        clear kz Gz
        rw [hv'] at e
        subst e
        have ht₄ : IsT h₄ a _ := kk.kp _ _ (k₃.kp _ _ (k₂.kp _ _ ht))
        refine Subscript_Constant (T.name (cI fun t₄ tk₅ => ?_))
        refine ⟨"tuple", _, slot_tuple_getitem.lookup, ⟨_, ht₄, rfl⟩, ?_⟩
        refine getItem_tuple (j := 1) (x := .bytes (kOf st ks j).2.toArray u) ⟨_, ht₄, rfl, _, rfl⟩ (by decide) (by decide) rfl rfl (hQ _ _ _ (Kx.refl _ _) ⟨ks.getD j 0, ?_, u, rfl⟩)
        rw [hdu, List.getElem?_map, hp']; rfl
    · have hys₄ : Enc PN ys₄ (dul st ks) := by
        have CR' := CR₄
        rw [hsz] at CR'
        have := CR'.enc (P := PN) (p := fun _ => true) (f := id) (fun _ _ _ => rfl) fun i k' y hk' hy => by
          obtain ⟨k, e, q⟩ := hy
          rw [hk'] at e; cases e; exact q
        rwa [List.filter_eq_self.mpr fun _ _ => rfl, List.map_id] at this
      exact hq _ _ Du (S₃.fr k₄ F₄) ⟨ys₄, m₄, l₄, hys₄⟩ (hdu ▸ o1) (hdu ▸ o2) (k03.vn.tr k₄.vL)
end
end Mine
end

section
open PySem PySem.W PyProof.Rows PySem.Spec PySem.Calls
set_option maxRecDepth 100000
set_option maxHeartbeats 4000000
namespace Mine
section
variable {w : World} {A : Around} {E : Value → Shared → Prop} {R : Result → Shared → Prop} {s : Shared} {h h' : Heap} {g : Array GenState} {d : Drawn} {tk : Nat} {os : OsState}

theorem SetI.at_ {a : Nat} {ks : List Nat} (S : SetI w h a ks) (k : ∀ o, h.get? a = some o → h'.get? a = some o) : SetI w h' a ks :=
  let ⟨es, ep, t, ho, r⟩ := S; ⟨es, ep, t, k _ ho, r⟩
noncomputable def addK (l : List Nat) (k : Nat) : List Nat := if k ∈ l then l else l ++ [k]
noncomputable def ddl (ks : List Nat) : Nat → List Nat
  | 0 => []
  | i + 1 => addK (ddl ks i) (ks.getD i 0)
theorem ddl_len (ks : List Nat) : ∀ i, (ddl ks i).length ≤ i
  | 0 => Nat.le_refl _
  | i + 1 => by
    have := ddl_len ks i
    unfold ddl addK
    split
    · (first | lia | omega)
    · rw [List.length_append, List.length_singleton]; (first | lia | omega)
theorem mem_ddl (ks : List Nat) (k : Nat) : ∀ i, k ∈ ddl ks i ↔ ∃ j < i, ks.getD j 0 = k
  | 0 => ⟨fun h => (by cases h), fun ⟨j, hj, _⟩ => absurd hj (Nat.not_lt_zero _)⟩
  | i + 1 => by
    have ih := mem_ddl ks k i
    have key : k ∈ ddl ks (i + 1) ↔ k ∈ ddl ks i ∨ k = ks.getD i 0 := by
      show k ∈ addK _ _ ↔ _
      unfold addK
      split
      · rename_i hm
        exact ⟨.inl, fun h => h.elim id fun e => e ▸ hm⟩
      · rw [List.mem_append, List.mem_singleton]
    rw [key, ih]
    constructor
    · rintro (⟨j, hj, e⟩ | e)
      · exact ⟨j, by (first | lia | omega), e⟩
      · exact ⟨i, by (first | lia | omega), e.symm⟩
    · rintro ⟨j, hj, e⟩
      by_cases q : j = i
      · subst q; exact .inr e.symm
      · exact .inl ⟨j, by (first | lia | omega), e⟩

theorem update_loop {I : Addr} {fp wr : List Addr} {G : Array GenState → Array GenState → Prop} {n : Nat} {P : Nat → Value → Prop} {St : Nat → Shared → Prop}
    (W : WalksS PP w A.in1 I fp wr G n P St) (S : Nat) (hSf : S ∉ fp) {ks : List Nat} (hval : ∀ i v, P i v → PI v (ks.getD i 0)) (hb : n + 1 < scanBound) :
    ∀ (k i : Nat) (s : Shared), n - i = k → i ≤ n → St i s → SetI w s.heap S (ddl ks i) →
      (∀ s', Moved (S :: wr) G s s' → SetI w s'.heap S (ddl ks n) → R (.ok (.ret .none)) s') →
      codeAny (model PP w) A (.builtin "set.update.loop" ⟨[.ref S, .ref I], []⟩) R s := by
  have hSw : S ∉ wr := fun h => hSf (W.sub _ h)
  have hsub : ∀ b ∈ wr, b ∈ S :: wr := fun b hb => List.mem_cons_of_mem _ hb
  intro k
  induction k with
  | zero =>
    intro i s hk hi hst hS hR
    have hin : i = n := by (first | lia | omega)
    subst hin
    refine codeAny_builtin F.entry_set_update_loop ?_
    rw [Around.under_plainId F.plain_set_update_loop _]
    show wpAny _ A.in1 (pyNext (.ref I) >>= _) _ _ s
    refine wpAny_bind (W.done s _ _ hst fun s' hm => ?_)
    show wpAny _ A.in1 (ret Value.none) _ _ s'
    exact wpAny_pure (hR s' (hm.mono hsub) (hS.at_ fun o e => hm.heap S _ hSw e))
  | succ k ih =>
    intro i s hk hi hst hS hR
    have hlt : i < n := by (first | lia | omega)
    refine codeAny_builtin F.entry_set_update_loop ?_
    rw [Around.under_plainId F.plain_set_update_loop _]
    show wpAny _ A.in1 (pyNext (.ref I) >>= _) _ _ s
    refine wpAny_bind (W.item i s _ _ hlt hst fun v s' hP hst' hm => ?_)
    obtain ⟨t, rfl⟩ := hval i v hP
    have hS' : SetI w s'.heap S (ddl ks i) := hS.at_ fun o e => hm.heap S _ hSw e
    show wpAny _ A.in1 (holding [Value.int ((ks.getD i 0 : Nat) : Int) t] (setAdd S (.int ((ks.getD i 0 : Nat) : Int) t)) >>= _) _ _ s'
    refine wpAny_bind (wpAny_holding ?_)
    unfold setAdd
    refine wpAny_holding ?_
    refine wpAny_bind ((intKind PP w).pyHash (k := ((ks.getD i 0 : Nat) : Int)) (intKind_is _ _ _ _) ?_)
    have hroom : (ddl ks i).length + 1 < scanBound := by have := ddl_len ks i; (first | lia | omega)
    obtain ⟨h1, g1, d1, tk1, os1⟩ := s'
    refine add_I (tk := tk1 + 1) hS' hroom fun h' b hsb hS2 => ?_
    refine wpAny_pure ⟨plainId_quiet F.plain_set_update_loop _, ih (i + 1) _ (by (first | lia | omega)) hlt (W.frame _ ⟨h1, g1, d1, tk1, os1⟩ _ _ hst' (Nat.le_succ _) fun b hb o e => ?_) hS2 fun s'' hm'' hS'' => ?_⟩
    · exact hsb b (fun h : b = S => hSf (by rw [← h]; exact hb)) o e
    · refine hR s'' (Moved.trans W.gtrans ((hm.mono hsub).then_heap (tk := tk1 + 1) (Nat.le_succ _) fun b o hb e => ?_) hm'') hS''
      exact hsb b (fun h : b = S => hb (by rw [h]; exact List.mem_cons_self)) o e

theorem set_new_1 (a : Value) {Q₁ : Value → Shared → Prop}
    (hq : Q₁ (.ref s.heap.objs.size) { s with heap := s.heap.push (setObj #[] 0 (.fresh 0 0 (!byT w))) }) :
    codeAny (model PP w) A (.call (.builtin "set.__new__") ⟨[.type "set", a], []⟩) (wants Q₁ E) s := by
  refine codeAny_of_tree ?_
  show wpAny _ A.in1 (do checkBuiltinCall "set.__new__" ⟨[.type "set", a], []⟩; again (.builtin "set.__new__" ⟨[.type "set", a], []⟩)) _ _ s
  refine wpAny_bind (wpAny_of_eq (PySem.F.newCall_set_1 a) (wpAny_pure ⟨plainId_quiet PySem.F.plain_set_new _, codeAny_builtin PySem.F.entry_set_new ?_⟩))
  rw [Around.under_plainId PySem.F.plain_set_new _]
  unfold Builtin.«set.__new__» Builtin.Frozenset.newClass
  have hsub := sub_set_self
  obtain ⟨hp, g, d, tk, os⟩ := s
  dsimp only
  wp_walk
  refine wpAny_askSetting (wpAny_pure ?_)
  dsimp only
  simp only [newObj]
  refine wpAny_bind (wpAny_alloc (wpAny_pure ?_))
  exact wpAny_pure hq
end
end Mine
end

section
open PySem PySem.W PyProof.Rows PySem.Spec PySem.Calls
set_option maxRecDepth 100000
set_option maxHeartbeats 4000000
namespace Mine
section
variable {w : World} {A : Around} {E : Value → Shared → Prop} {R : Result → Shared → Prop} {s : Shared} {h h' : Heap} {g : Array GenState} {d : Drawn} {tk : Nat} {os : OsState}

theorem call_set {l : Nat} {items : Array Value} {ks : List Nat} {Q : Value → Shared → Prop}
    (hh : A.handled = none) (hl : s.heap.IsList l items) (hi : Enc PI items ks) (hb : items.size + 1 < scanBound)
    (hq : ∀ (h' : Heap) (tk : Nat), SetI w h' s.heap.objs.size (ddl ks items.size) →
      (∀ b o, b < s.heap.objs.size → s.heap.get? b = some o → h'.get? b = some o) → Q (.ref s.heap.objs.size) { s with heap := h', toks := tk }) :
    wpAny (model PP w) A (call (.type "set") [.ref l]) Q E s := by
  obtain ⟨c, tl, hmro⟩ := PySem.F.called_set.mro
  have hmade := PySem.F.called_set.made
  have hsub := PySem.F.called_set.sub
  refine wpAny_call (codeAny_of_tree ?_)
  show wpAny _ _ (callAny (.type "set") _) _ _ _
  refine wpAny_pure ⟨Code.quiet_builtin _ (by decide +kernel), codeAny_builtin PySem.F.entry_type_call ?_⟩
  rw [Around.under_plain (weight_type_call_type "set" [.ref l] []) rfl]
  have h1 := PySem.F.called_set.notType
  have h2 := PySem.F.called_set.canCreate
  have hct := PySem.F.typeCall_set_1 (.ref l)
  repeat (any_goals (first | assumption | wp_step))
  refine codeAny_mono (set_new_1 (.ref l) (E := E) (Q₁ := fun obj s₁ => obj = .ref s.heap.objs.size ∧ s₁ = { s with heap := s.heap.push (setObj #[] 0 (.fresh 0 0 (!byT w))) }) ⟨rfl, rfl⟩) fun r s₁ hr => ?_
  cases r with
  | error e => exact hr
  | ok fl =>
    cases fl with
    | ret obj =>
      obtain ⟨rfl, rfl⟩ := hr
      have hS : (s.heap.push (setObj #[] 0 (.fresh 0 0 (!byT w)))).get? s.heap.objs.size = some (setObj #[] 0 (.fresh 0 0 (!byT w))) := Heap.get?_push_size _ rfl
      have hT : Shared.TypeIs { s with heap := s.heap.push (setObj #[] 0 (.fresh 0 0 (!byT w))) } (.ref s.heap.objs.size) "set" := ⟨_, hS, rfl⟩
      have hS0 : SetI w (s.heap.push (setObj #[] 0 (.fresh 0 0 (!byT w)))) s.heap.objs.size [] := ⟨#[], 0, _, hS, TK.fresh _, ⟨fun e he => by simp at he, fun e he => by simp at he, List.Perm.refl _, List.nodup_nil⟩⟩
      unfold setObj at hS hT hS0 ⊢
      have hli := PySem.F.called_set.init.lookup
      have hbi := PySem.F.called_set.init.bind (.ref s.heap.objs.size)
      repeat (any_goals (first | assumption | wp_step))
      refine codeAny_mono (codeAny_call_builtin (R := wants (fun r s₂ => r = .none ∧ ∃ h' tk, s₂ = { s with heap := h', toks := tk } ∧
          SetI w h' s.heap.objs.size (ddl ks items.size) ∧
          (∀ b o, b < s.heap.objs.size → s.heap.get? b = some o → h'.get? b = some o)) E) PySem.F.called_set.init.plain PySem.F.entry_set_init (PySem.check_set_init_1 hT ?_)) fun r₂ s₂ hr₂ => ?_
      · obtain ⟨ol, hol, hcl, nl, hdl⟩ := hl
        obtain ⟨ocls, odict, odata, oslots⟩ := ol
        simp only at hcl hdl
        subst hcl; subst hdl
        have hol' : (s.heap.push { cls := .type "set", dict := none, data := .set #[] 0 (.fresh 0 0 (!byT w)) }).get? l = some { cls := .type "list", dict := odict, data := .seq items nl, slots := oslots } := Heap.get?_push_of_some _ hol
        have hsls := PySem.F.sub_list_set
        have hslf := PySem.F.sub_list_frozenset
        have hne : (Value.type "list" == Value.type "dict") = false := by decide
        have hl1 : (s.heap.push { cls := .type "set", dict := none, data := .set #[] 0 (.fresh 0 0 (!byT w)) }).IsList l items := ⟨_, hol', rfl, nl, rfl⟩
        unfold Builtin.«set.__init__» noKeywords Builtin.Frozenset.updateFrom
        generalize hPI : pyIter = PI'
        wp_walk
        subst hPI
        refine wpAny_pyIter_list hl1 ?_
        refine wpAny_bind (wpAny_runValue ?_)
        have hlS : l < s.heap.objs.size := Heap.lt_size hol
        have hh3 : A.in1.in1.in1.handled = none := by simp [hh]
        have hneI : l ≠ (s.heap.push { cls := .type "set", dict := none, data := .set #[] 0 (.fresh 0 0 (!byT w)) }).objs.size := by
          rw [Heap.size_push]; exact Nat.ne_of_lt (Nat.lt_succ_of_lt hlS)
        have hSf : s.heap.objs.size ∉ [(s.heap.push { cls := .type "set", dict := none, data := .set #[] 0 (.fresh 0 0 (!byT w)) }).objs.size, l] := by
          rw [Heap.size_push]; simp only [List.mem_cons, List.not_mem_nil, or_false, not_or]
          exact ⟨Nat.ne_of_lt (Nat.lt_succ_self _), Nat.ne_of_gt hlS⟩
        have hval : ∀ (i : Nat) (v : Value), items[i]? = some v → PI v (ks.getD i 0) := fun i v hv => by
          obtain ⟨k, hk, p⟩ := hi.at_ hv
          rw [List.getD_eq_getElem?_getD, hk]; exact p
        refine update_loop ((Walks.list hh3 _ l hneI items).toS) s.heap.objs.size
          hSf hval hb (items.size - 0) 0 _ (by (first | lia | omega)) (Nat.zero_le _)
          ⟨⟨_, Heap.get?_push_size _ rfl, rfl, rfl⟩, (hl1.push _)⟩ (hS0.at_ fun o e => Heap.get?_push_of_some _ e) ?hR
        case hR =>
          intro s' hm hS'
          obtain ⟨h', g', d', tk', os'⟩ := s'
          have eg : g' = s.gens := hm.gens
          have ed : d' = s.drawn := hm.drawn
          have eo : os' = s.os := hm.os
          subst eg; subst ed; subst eo
          show wpAny _ _ _ _ _ _
          refine wpAny_pure ?_
          show wpAny _ _ (ret Value.none) _ _ _
          refine wpAny_pure ⟨rfl, h', tk', rfl, hS', fun b o hb e => ?_⟩
          have hb1 : b ≠ s.heap.objs.size := Nat.ne_of_lt hb
          have hb2 : b ≠ (s.heap.push { cls := .type "set", dict := none, data := .set #[] 0 (.fresh 0 0 (!byT w)) }).objs.size := by
            rw [Heap.size_push]; exact Nat.ne_of_lt (Nat.lt_succ_of_lt hb)
          exact hm.heap b o (by simp only [List.mem_cons, List.not_mem_nil, or_false, not_or]; exact ⟨hb1, hb2⟩) (Heap.get?_push_of_some _ (Heap.get?_push_of_some _ e))
      · cases r₂ with
        | error e => exact hr₂
        | ok fl₂ =>
          cases fl₂ with
          | ret r =>
            obtain ⟨rfl, h', tk, rfl, hS', hk'⟩ := hr₂
            repeat (any_goals (first | assumption | wp_step))
            exact hq _ _ hS' hk'
          | _ => exact hr₂.elim
    | _ => exact hr.elim
end
end Mine
end

section
open PySem PySem.W PyProof.Rows PySem.Spec PySem.Calls
set_option maxRecDepth 100000
set_option maxHeartbeats 4000000
namespace Mine
theorem slot_setiter_next : Slot "set_iterator" "__next__" "set_iterator.__next__" :=
  .of (owner := "set_iterator") (n := "__next__") (by rw [typeLookup_type, builtinLookup_eq_fast]; kernel_rfl) (by decide +kernel) (by decide +kernel) (by decide +kernel)
    (by first | exact .inl (by decide +kernel) | exact .inr (by decide +kernel)) (by rw [isSubtype_type]; kernel_rfl)
theorem slot_setiter_iter : Slot "set_iterator" "__iter__" "set_iterator.__iter__" :=
  .of (owner := "set_iterator") (n := "__iter__") (by rw [typeLookup_type, builtinLookup_eq_fast]; kernel_rfl) (by decide +kernel) (by decide +kernel) (by decide +kernel)
    (by first | exact .inl (by decide +kernel) | exact .inr (by decide +kernel)) (by rw [isSubtype_type]; kernel_rfl)
theorem entry_setiter_next : entryFor table "set_iterator.__next__" = some Builtin.«set_iterator.__next__» := entryFor_of_tree (by kernel_rfl)
theorem entry_setiter_iter : entryFor table "set_iterator.__iter__" = some Builtin.«dict_keyiterator.__iter__» :=
  entryFor_alias (id' := "dict_keyiterator.__iter__") (by kernel_rfl) rfl (by decide +kernel) (by kernel_rfl)
theorem entry_set_iter : entryFor table "set.__iter__" = some Builtin.«frozenset.__iter__» :=
  entryFor_alias (id' := "frozenset.__iter__") (by kernel_rfl) rfl (by decide +kernel) (by kernel_rfl)
theorem args_setiter_next (a : Value) : argsOk "set_iterator.__next__" ⟨[a], []⟩ := by unfold argsOk; kernel_rfl
theorem args_setiter_iter (a : Value) : argsOk "set_iterator.__iter__" ⟨[a], []⟩ := by unfold argsOk; kernel_rfl

theorem erase_perm {α : Type} : ∀ (l : List α) (i : Nat) (hi : i < l.length), (l[i] :: l.eraseIdx i).Perm l
  | [], i, hi => absurd hi (Nat.not_lt_zero _)
  | x :: xs, 0, _ => List.Perm.refl _
  | x :: xs, i + 1, hi => (List.Perm.swap x _ _).trans ((erase_perm xs i (by simpa using hi)).cons x)
theorem pick_go {α : Type} (nx : Nat → Nat) : ∀ (f k : Nat) (left : List α) (out : Array α), left.length = f → (pickOrder.go nx f k left out).toList.Perm (out.toList ++ left)
  | 0, k, left, out, hl => by
    rw [List.length_eq_zero_iff.mp hl, List.append_nil]
    exact List.Perm.refl _
  | f + 1, k, left, out, hl => by
    unfold pickOrder.go
    have hp : 0 < left.length := by (first | lia | omega)
    have hlt : nx k % left.length < left.length := Nat.mod_lt _ hp
    rw [List.getElem?_eq_getElem hlt]
    dsimp only
    refine (pick_go nx f (k + 1) _ _ (by rw [List.length_eraseIdx, if_pos hlt]; (first | lia | omega))).trans ?_
    rw [Array.toList_push, List.append_assoc]
    refine List.Perm.append_left _ ?_
    have := erase_perm _ _ hlt
    exact this
theorem pick_perm {α : Type} (nx : Nat → Nat) (xs : Array α) : (pickOrder nx xs).toList.Perm xs.toList := by
  have := pick_go nx xs.size 0 xs.toList #[] (by simp)
  simpa [pickOrder] using this

section
variable {w : World} {A : Around} {E : Value → Shared → Prop} {R : Result → Shared → Prop} {s : Shared} {h h' : Heap} {g : Array GenState} {d : Drawn} {tk : Nat} {os : OsState}

theorem choose_any {M : Model} {src : Source} {n : Nat} {Q : Nat → Shared → Prop} (hn : n ≠ 0) (hq : ∀ i < n, ∀ d', Q i { s with drawn := d' }) : wpAny M A (choose src n) Q E s :=
  fun _Γ _p _hΓ => ⟨hn, hq _ (Nat.mod_lt _ (Nat.pos_of_ne_zero hn)) _⟩

theorem draw_perm {M : Model} {α : Type} : ∀ (n : Nat) (xs : List α) (s : Shared) {Q : List α → Shared → Prop}, xs.length = n → (∀ ys d', ys.Perm xs → Q ys { s with drawn := d' }) → wpAny M A (drawOrder n xs) Q E s
  | 0, xs, s, Q, hl, hq => by
    unfold drawOrder
    rw [List.length_eq_zero_iff.mp hl] at hq
    exact wpAny_pure (hq [] s.drawn (List.Perm.refl _))
  | n + 1, xs, s, Q, hl, hq => by
    cases xs with
    | nil => cases hl
    | cons x xs =>
      unfold drawOrder
      refine wpAny_bind (choose_any (by rw [hl]; (first | lia | omega)) fun i hi d' => ?_)
      rw [List.getElem?_eq_getElem hi]
      dsimp only
      refine wpAny_bind (draw_perm n _ _ (by rw [List.length_eraseIdx, if_pos hi]; (first | lia | omega)) fun ys d'' hp => wpAny_pure ?_)
      exact hq _ _ ((List.Perm.cons _ hp).trans (erase_perm _ _ hi))

noncomputable def itObj (first : Value) (i a n ep : Nat) : Obj := { cls := .type "set_iterator", dict := none, data := .fields #[first, .int (i : Nat) 0, .ref a, .int (n : Nat) 0, .int (ep : Nat) 0], slots := #[] }

end
end Mine
end

section
open PySem PySem.W PyProof.Rows PySem.Spec PySem.Calls
set_option maxRecDepth 100000
set_option maxHeartbeats 4000000
namespace Mine
section
variable {w : World} {A : Around} {E : Value → Shared → Prop} {R : Result → Shared → Prop} {s : Shared} {h h' : Heap} {g : Array GenState} {d : Drawn} {tk : Nat} {os : OsState}

theorem it_typ {I i a n ep : Nat} {first : Value} (hI : s.heap.get? I = some (itObj first i a n ep)) : s.TypeIs (.ref I) "set_iterator" := ⟨_, hI, rfl⟩
theorem it_set0 {H : Heap} {I i a n ep : Nat} {first x : Value} (hI : H.get? I = some (itObj first i a n ep)) : (H.update I (Obj.mapFields (·.setIfInBounds 0 x))).get? I = some (itObj x i a n ep) :=
  Heap.get?_update_self _ hI rfl
theorem it_set1 {H : Heap} {I i a n ep : Nat} {first : Value} (hI : H.get? I = some (itObj first i a n ep)) : (H.update I (Obj.mapFields (·.setIfInBounds 1 (rawInt ((i : Nat) + 1))))).get? I = some (itObj first (i + 1) a n ep) :=
  Heap.get?_update_self _ hI rfl
theorem next_pt {es : Array (Int × Value)} {t : SetTable} {I a ep i slot : Nat} {Q : Option Value → Shared → Prop} (hh : A.handled = none) (hI : s.heap.get? I = some (itObj (.int (slot : Nat) 0) i a es.size ep)) (ha : s.heap.get? a = some (setObj es ep t)) (hT : t.fits es.size = true)
    (r : Option (Value × Nat)) (hn : ∀ {A' : Around} {E' : Value → Shared → Prop} (Q' : Option (Value × Nat) → Shared → Prop), Q' r s → wpAny (model PP w) A' (setNext a slot i ep) Q' E' s)
    (h1 : ∀ x nx h', r = some (x, nx) → h'.get? I = some (itObj (.int (nx : Nat) 0) (i + 1) a es.size ep) → Kx (· = I) s.heap h' → Q (some x) { s with heap := h' })
    (h0 : r = none → ∀ h', Kx (· = I) s.heap h' → Q none { s with heap := h' }) : wpAny (model PP w) A (pyNext (.ref I)) Q E s := by
  unfold pyNext
  refine wpAny_bind (wpAny_attempt (wpAny_callSpecial?_slot (name := Str.ofString "__next__") (it_typ hI) slot_setiter_next
    (wpAny_call_entry slot_setiter_next (it_typ hI) entry_setiter_next ?_ (args_setiter_next _))))
  unfold Builtin.«set_iterator.__next__»
  refine wpAny_bind (m := slotArgs "__next__" 0 _) (wpAny_pure ?_)
  refine wpAny_bind (wpAny_fieldsOf hI rfl ?_)
  dsimp only
  refine wpAny_bind (wpAny_setEntries_of ha rfl hT ?_)
  rw [if_neg (by simp)]
  refine wpAny_bind (hn _ ?_)
  cases r with
  | some p =>
    obtain ⟨x, nx⟩ := p
    dsimp only
    refine wpAny_bind (wpAny_setField hI rfl (by simp) ?_)
    have hI1 := it_set0 (x := rawInt nx) hI
    refine wpAny_bind (wpAny_setField hI1 rfl (by simp) ?_)
    have hI2 := it_set1 hI1
    exact wpAny_pure ⟨x, rfl, wpAny_pure (h1 x nx _ rfl hI2 ((Kx.of_same (Heap.SameBut.update ..)).tr (Kx.of_same (Heap.SameBut.update ..))))⟩
  | none =>
    dsimp only
    refine wpAny_bind (wpAny_setField hI rfl (by simp) ?_)
    refine wpAny_bind ?_
    simp only [newExc, newTuple]
    refine wpAny_bind (wpAny_newObj_type ?_ (by size_fits))
    refine wpAny_bind (m := firstArgMember _ _) (wpAny_of_eq (a := Value.none) (by first | rfl | (simp only [firstArgMember]; rfl)) ?_)
    refine wpAny_newObj_type ?_ (by size_fits)
    simp only [raiseNew]
    refine wpAny_bind (wpAny_handled ?_)
    rw [show A.in1.handled = none from hh]
    refine wpAny_bind (wpAny_pure (wpAny_throw ?_))
    refine wpAny_bind (wpAny_isInstance (T := "StopIteration") (b := true) ⟨_, Heap.get?_push_size _ rfl, rfl⟩ isSubtype_stop ?_)
    exact wpAny_pure (h0 rfl _ (Kx.of_ext (((Heap.SameBut.update ..).extBut.push _).push _)))

theorem next_d {es : Array (Int × Value)} {t : SetTable} {I a ep i pt : Nat} {ps : List Nat} {Q : Option Value → Shared → Prop} (hh : A.handled = none) (hI : s.heap.get? I = some (itObj (.ref pt) i a es.size ep)) (ha : s.heap.get? a = some (setObj es ep t)) (hT : t.fits es.size = true)
    (hp : IsT s.heap pt (ps.map fun p : Nat => rawInt p))
    (h1 : ∀ p e h', ps[i]? = some p → es[p]? = some e → h'.get? I = some (itObj (.ref pt) (i + 1) a es.size ep) → Kx (· = I) s.heap h' → Q (some e.2) { s with heap := h' })
    (hlt : ∀ p, ps[i]? = some p → p < es.size)
    (h0 : ps[i]? = none → ∀ h', Kx (· = I) s.heap h' → Q none { s with heap := h' }) : wpAny (model PP w) A (pyNext (.ref I)) Q E s := by
  unfold pyNext
  refine wpAny_bind (wpAny_attempt (wpAny_callSpecial?_slot (name := Str.ofString "__next__") (it_typ hI) slot_setiter_next
    (wpAny_call_entry slot_setiter_next (it_typ hI) entry_setiter_next ?_ (args_setiter_next _))))
  unfold Builtin.«set_iterator.__next__»
  refine wpAny_bind (m := slotArgs "__next__" 0 _) (wpAny_pure ?_)
  refine wpAny_bind (wpAny_fieldsOf hI rfl ?_)
  dsimp only
  refine wpAny_bind (wpAny_setEntries_of ha rfl hT ?_)
  rw [if_neg (by simp)]
  refine wpAny_bind (wpAny_seqItems hp rfl ?_)
  have hx : (ps.map fun p : Nat => rawInt p).toArray[((i : Nat) : Int).toNat]? = ps[i]?.map fun p : Nat => rawInt p := by
    simp
  dsimp only
  rw [hx]
  cases e : ps[i]? with
  | some p =>
    have hpl := hlt p e
    have hep : es[p]? = some es[p] := Array.getElem?_eq_getElem hpl
    show wpAny _ _ (setNextDrawn a ((p : Nat) : Int).toNat ((ep : Nat) : Int).toNat >>= _) _ _ _
    refine wpAny_bind ?_
    unfold setNextDrawn
    refine wpAny_bind (wpAny_setState_of ha rfl hT ?_)
    dsimp only
    rw [if_neg (by simp)]
    simp only [Int.toNat_natCast, hep]
    refine wpAny_pure ?_
    refine wpAny_bind (wpAny_setField hI rfl (by simp) ?_)
    have hI2 := it_set1 hI
    exact wpAny_pure ⟨_, rfl, wpAny_pure (h1 p _ _ e hep hI2 (Kx.of_same (Heap.SameBut.update ..)))⟩
  | none =>
    dsimp only [Option.map]
    refine wpAny_bind (wpAny_setField hI rfl (by simp) ?_)
    have hI1 := it_set0 (x := rawInt 0) hI
    refine wpAny_bind (wpAny_setField hI1 rfl (by simp) ?_)
    refine wpAny_bind ?_
    simp only [newExc, newTuple]
    refine wpAny_bind (wpAny_newObj_type ?_ (by size_fits))
    refine wpAny_bind (m := firstArgMember _ _) (wpAny_of_eq (a := Value.none) (by first | rfl | (simp only [firstArgMember]; rfl)) ?_)
    refine wpAny_newObj_type ?_ (by size_fits)
    simp only [raiseNew]
    refine wpAny_bind (wpAny_handled ?_)
    rw [show A.in1.handled = none from hh]
    refine wpAny_bind (wpAny_pure (wpAny_throw ?_))
    refine wpAny_bind (wpAny_isInstance (T := "StopIteration") (b := true) ⟨_, Heap.get?_push_size _ rfl, rfl⟩ isSubtype_stop ?_)
    exact wpAny_pure (h0 e _ ((Kx.of_same (Heap.SameBut.update ..)).tr (Kx.of_ext (((Heap.SameBut.update ..).extBut.push _).push _))))

/- what the next turn of a plain walk gives -/
theorem setNext_p {es : Array (Int × Value)} {t : SetTable} {a ep i slot : Nat} {Q' : Option (Value × Nat) → Shared → Prop} (ha : s.heap.get? a = some (setObj es ep t)) (hT : t.fits es.size = true) (hbt : byT w = false) (hl : t.led = true)
    (hd : (!t.plain && decide (es.size > 1)) = false) (hq : Q' (match es[SetTable.below t.place slot]?, t.place[SetTable.below t.place slot]? with
    | some (_, x), some j => some (x, j + 1)
    | _, _ => none) s) : wpAny (model PP w) A (setNext a slot i ep) Q' E s := by
  unfold setNext
  refine wpAny_bind (wpAny_setState_of ha rfl hT ?_)
  dsimp only
  unfold setsByText
  refine wpAny_bind (wpAny_bind (wpAny_askSetting (wpAny_pure ?_)))
  show wpAny _ _ (if byT w = true then _ else _) _ _ _
  rw [hbt]
  simp only [Bool.false_eq_true, if_false]
  split
  · rename_i hc
    exact absurd (hd.symm.trans hc) (by decide)
  · refine wpAny_bind (wpAny_of_eq (a := ()) ?_ (wpAny_pure ?_))
    · show (if (!t.led && !es.isEmpty) = true then unsupported _ else pure ()) = pure ()
      rw [hl]; rfl
    · exact hq
/- by the text -/
theorem setNext_t {es : Array (Int × Value)} {t : SetTable} {a ep i slot : Nat} {Q' : Option (Value × Nat) → Shared → Prop} (ha : s.heap.get? a = some (setObj es ep t)) (hT : t.fits es.size = true) (hbt : byT w = true)
    (hq : Q' ((pickOrder (w.params.setOrder a ep) es)[i]?.map fun e => (e.2, slot)) s) : wpAny (model PP w) A (setNext a slot i ep) Q' E s := by
  unfold setNext
  refine wpAny_bind (wpAny_setState_of ha rfl hT ?_)
  dsimp only
  unfold setsByText
  refine wpAny_bind (wpAny_bind (wpAny_askSetting (wpAny_pure ?_)))
  show wpAny _ _ (if byT w = true then _ else _) _ _ _
  rw [hbt]
  simp only [if_true]
  rw [if_neg (by simp)]
  refine wpAny_bind ?_
  unfold setWalk
  refine wpAny_bind (wpAny_setState_of ha rfl hT ?_)
  dsimp only
  unfold setsByText
  refine wpAny_bind (wpAny_bind (wpAny_askSetting (wpAny_pure ?_)))
  show wpAny _ _ (if byT w = true then _ else _) _ _ _
  rw [hbt]
  simp only [if_true]
  refine wpAny_bind (wpAny_askSetting (wpAny_pure ?_))
  exact wpAny_pure hq
end
end Mine
end

section
open PySem PySem.W PyProof.Rows PySem.Spec PySem.Calls
set_option maxRecDepth 100000
set_option maxHeartbeats 4000000
namespace Mine
section
variable {w : World} {A : Around} {E : Value → Shared → Prop} {R : Result → Shared → Prop} {s : Shared} {h h' : Heap} {g : Array GenState} {d : Drawn} {tk : Nat} {os : OsState}

theorem it_self {I a i n ep : Nat} {first : Value} {Q : Value → Shared → Prop} (hI : s.heap.get? I = some (itObj first i a n ep)) (hq : Q (.ref I) s) : wpAny (model PP w) A (pyIter (.ref I)) Q E s := by
  refine wpAny_pyIter_slot (it_typ hI) slot_setiter_iter (wpAny_call_entry slot_setiter_iter (it_typ hI) entry_setiter_iter ?_ (args_setiter_iter _))
  show wpAny _ _ (ret (.ref I)) _ _ s
  exact wpAny_pure ⟨_, rfl, "set_iterator", _, it_typ hI, slot_setiter_next.lookup, hq⟩

theorem walks_pt {es : Array (Int × Value)} {ep : Nat} {t : SetTable} {I a : Nat} (hh : A.handled = none) (hIa : I ≠ a) (hT : t.fits es.size = true) (sl : Nat → Nat) (ord : List Value) (hlen : ord.length = es.size)
    (hn : ∀ i, i ≤ es.size → ∀ (s : Shared), s.heap.get? a = some (setObj es ep t) → ∀ {A' : Around} {E' : Value → Shared → Prop} (Q' : Option (Value × Nat) → Shared → Prop), Q' (ord[i]?.map fun v => (v, sl (i + 1))) s → wpAny (model PP w) A' (setNext a (sl i) i ep) Q' E' s) :
    Walks PP w A I [I, a] [I] ord.length (fun i v => ord[i]? = some v) (fun i h => h.get? a = some (setObj es ep t) ∧ h.get? I = some (itObj (.int (sl i : Nat) 0) i a es.size ep)) where
  sub := fun b hb => by simp at hb; simp [hb]
  frame := fun _ _ _ st hk => ⟨hk a (by simp) _ st.1, hk I (by simp) _ st.2⟩
  item := fun i s Q E hi st hQ => by
    have e : ord[i]? = some ord[i] := List.getElem?_eq_getElem hi
    refine next_pt hh st.2 st.1 hT _ (fun Q' hq => hn i (by (first | lia | omega)) s st.1 Q' hq) (fun x nx h' e' hI' k => ?_) fun e' => ?_
    · rw [e] at e'
      injection e' with e'
      injection e' with e1 e2
      subst e1; subst e2
      exact hQ _ h' s.toks e ⟨k a (fun q => hIa (id q.symm)) _ st.1, hI'⟩ fun b o hb ho => k b (fun q : b = I => hb (by rw [q]; exact List.mem_singleton.mpr rfl)) o ho
    · rw [e] at e'; cases e'
  done := fun s Q E st hQ => by
    have e : ord[ord.length]? = none := List.getElem?_eq_none (Nat.le_refl _)
    refine next_pt hh st.2 st.1 hT _ (fun Q' hq => hn ord.length (by (first | lia | omega)) s st.1 Q' hq) (fun x nx h' e' hI' k => ?_) fun e' h' k => ?_
    · rw [e] at e'; cases e'
    · exact hQ h' s.toks fun b o hb ho => k b (fun q : b = I => hb (by rw [q]; exact List.mem_singleton.mpr rfl)) o ho
  self := fun _ _ _ _ st hQ => it_self st.2 hQ

theorem walks_d {es : Array (Int × Value)} {ep : Nat} {t : SetTable} {I a pt : Nat} {ps : List Nat} (hh : A.handled = none) (hIa : I ≠ a) (hIp : I ≠ pt) (hT : t.fits es.size = true) (hps : ∀ p ∈ ps, p < es.size) (_hlen : ps.length = es.size)
    (ord : List Value) (hord : ord = ps.map fun p => (es.getD p (0, .none)).2) :
    Walks PP w A I [I, a, pt] [I] ord.length (fun i v => ord[i]? = some v) (fun i h => h.get? a = some (setObj es ep t) ∧ IsT h pt (ps.map fun p : Nat => rawInt p) ∧ h.get? I = some (itObj (.ref pt) i a es.size ep)) where
  sub := fun b hb => by simp at hb; simp [hb]
  frame := fun _ _ _ st hk => ⟨hk a (by simp) _ st.1, hk pt (by simp) _ st.2.1, hk I (by simp) _ st.2.2⟩
  item := fun i s Q E hi st hQ => by
    have e : ord[i]? = some ord[i] := List.getElem?_eq_getElem hi
    have hi' : i < ps.length := by rw [hord, List.length_map] at hi; exact hi
    refine next_d hh st.2.2 st.1 hT st.2.1 (fun p e2 h' e1 e3 hI' k => ?_) (fun p e1 => hps p (List.mem_of_getElem? e1)) fun e1 => ?_
    · refine hQ _ h' s.toks ?_ ⟨k a (fun q => hIa (id q.symm)) _ st.1, k pt (fun q => hIp (id q.symm)) _ st.2.1, hI'⟩ fun b o hb ho => k b (fun q : b = I => hb (by rw [q]; exact List.mem_singleton.mpr rfl)) o ho
      rw [hord, List.getElem?_map, e1, Option.map_some, Array.getD_eq_getD_getElem?, e3]
      rfl
    · rw [List.getElem?_eq_getElem hi'] at e1; cases e1
  done := fun s Q E st hQ => by
    have hl : ord.length = ps.length := by rw [hord, List.length_map]
    have st2 := st.2.2
    refine next_d hh st2 st.1 hT st.2.1 (fun p e2 h' e1 e3 hI' k => ?_) (fun p e1 => hps p (List.mem_of_getElem? e1)) fun e1 h' k => ?_
    · rw [hl, List.getElem?_eq_none (Nat.le_refl _)] at e1; cases e1
    · exact hQ h' s.toks fun b o hb ho => k b (fun q : b = I => hb (by rw [q]; exact List.mem_singleton.mpr rfl)) o ho
  self := fun _ _ _ _ st hQ => it_self st.2.2 hQ

noncomputable def slP (t : SetTable) : Nat → Nat
  | 0 => 0
  | i + 1 => t.place.getD i 0 + 1
theorem below_eq {xs : Array Nat} {j p : Nat} (hs : Inc xs) (hp : p ≤ xs.size) (h1 : ∀ i < p, xs.getD i 0 < j) (h2 : ∀ i, p ≤ i → i < xs.size → j ≤ xs.getD i 0) : SetTable.below xs j = p := by
  obtain ⟨b1, b2, b3⟩ := below_ok j hs
  rcases Nat.lt_trichotomy (SetTable.below xs j) p with h | h | h
  · have a1 := h1 _ h
    have a2 := b3 _ (Nat.le_refl _) (by (first | lia | omega))
    (first | lia | omega)
  · exact h
  · have a1 := b2 _ h
    have a2 := h2 _ (Nat.le_refl _) (by (first | lia | omega))
    (first | lia | omega)
theorem below_slP {t : SetTable} (hs : Inc t.place) : ∀ i, i ≤ t.place.size → SetTable.below t.place (slP t i) = i
  | 0, hi => below_eq hs hi (fun i h => absurd h (Nat.not_lt_zero _)) fun i _ _ => Nat.zero_le _
  | i + 1, hi => below_eq hs hi (fun j hj => by
      show _ < t.place.getD i 0 + 1
      by_cases e : j = i
      · rw [e]; exact Nat.lt_succ_self _
      · exact Nat.lt_succ_of_lt (hs j i (by (first | lia | omega)) (by (first | lia | omega)))) fun j h1 h2 => by
      show t.place.getD i 0 + 1 ≤ _
      exact hs i j (by (first | lia | omega)) h2

theorem ord_enc {es : Array (Int × Value)} {ks : List Nat} (X : EsOk w es ks) {ordE : List (Int × Value)} (p : ordE.Perm es.toList) : ∃ ks', ks'.Perm ks ∧ Enc PI (ordE.map (·.2)).toArray ks' := by
  refine ⟨ordE.map natE, (p.map natE).trans X.pm.symm, by simp, fun i k hk => ?_⟩
  rw [List.getElem?_map] at hk
  cases e : ordE[i]? with
  | none => rw [e] at hk; cases hk
  | some x =>
    rw [e] at hk
    injection hk with hk
    refine ⟨x.2, by simp [e], ?_⟩
    rw [← hk]
    exact X.pi x (p.mem_iff.mp (List.mem_of_getElem? e))

theorem iter_set {a : Nat} {ks : List Nat} {A₀ : Around} {Q : Value → Shared → Prop} (S : SetI w h a ks) (hh : A₀.handled = none) (hb : ks.length < scanBound)
    (hq : ∀ I h' d' (ord : List Value) fp St, Kx none_ h h' → Walks PP w A₀ I fp [I] ord.length (fun i v => ord[i]? = some v) St → St 0 h' → (∀ b ∈ fp, b < h'.objs.size) → I ∈ fp → h.get? I = none → (∀ b ∈ fp, b = a ∨ h.get? b = none) → ord.length = ks.length → (∃ ks', ks'.Perm ks ∧ Enc PI ord.toArray ks') → Q (.ref I) ⟨h', g, d', tk, os⟩) :
    wpAny (model PP w) A (pyIter (.ref a)) Q E ⟨h, g, d, tk, os⟩ := by
  obtain ⟨es, ep, t, ho, T, X⟩ := S
  have hlen : es.size = ks.length := by rw [X.pm.length_eq, List.length_map, Array.length_toList]
  have hty : Shared.TypeIs ⟨h, g, d, tk, os⟩ (.ref a) "set" := ⟨_, ho, rfl⟩
  have hps : t.place.size = es.size := by have := T.f; simp only [SetTable.fits, Bool.and_eq_true, beq_iff_eq] at this; exact this.1
  refine wpAny_pyIter_slot hty PySem.F.slot_set_iter (wpAny_call_entry PySem.F.slot_set_iter hty entry_set_iter ?_ (PySem.F.args_set_iter_1 _))
  unfold Builtin.«frozenset.__iter__» Builtin.Frozenset.slot0
  refine wpAny_bind (wpAny_bind (m := slotArgs "__iter__" 0 _) (wpAny_pure (wpAny_pure ?_)))
  unfold Builtin.Frozenset.sizeOf
  refine wpAny_bind (wpAny_bind (wpAny_setEntries_of ho rfl T.f (wpAny_pure ?_)))
  refine wpAny_bind (m := setDrawn a) ?_
  unfold setDrawn
  refine wpAny_bind (wpAny_setState_of ho rfl T.f ?_)
  dsimp only
  unfold setsByText
  refine wpAny_bind (wpAny_bind (wpAny_askSetting (wpAny_pure ?_)))
  refine wpAny_pure ?_
  show wpAny _ _ (if (!byT w && (!t.plain && decide (es.size > 1))) = true then _ else _) _ _ _
  have fin : ∀ (first : Value) (h1 : Heap) (d1 : Drawn), Kx none_ h h1 → (∀ I h2, h1.get? I = none → h.get? I = none → I < h2.objs.size → h2.get? I = some (itObj first 0 a es.size ep) → Kx none_ h1 h2 → Q (.ref I) ⟨h2, g, d1, tk, os⟩) →
      wpAny (model PP w) A.in1 (do ret (← newFields "set_iterator" [first, rawInt 0, .ref a, rawInt es.size, rawInt (← setEpoch a)])) (fun fin s' => ∃ r, fin = .done (.ret r) ∧ ∃ T' r', s'.TypeIs r T' ∧ typeLookup (.type T') "__next__" = pure (some r') ∧ Q r s') E ⟨h1, g, d1, tk, os⟩ := by
    intro first h1 d1 k1 q
    refine wpAny_bind (wpAny_setEpoch_of (k1 _ (fun x => x) _ ho) rfl T.f ?_)
    refine wpAny_bind (wpAny_newObj_type (wpAny_pure ⟨_, rfl, "set_iterator", _, ⟨_, Heap.get?_push_size _ rfl, rfl⟩, slot_setiter_next.lookup, ?_⟩))
    exact q _ _ (dead_size h1) k1.deadS (by rw [Heap.size_push]; exact Nat.lt_succ_self _) (Heap.get?_push_size _ rfl) (Kx.push _ _)
  cases hD : (!byT w && (!t.plain && decide (es.size > 1))) with
  | true =>
    rw [if_pos rfl]
    refine wpAny_bind (draw_perm es.size (List.range es.size) _ (by simp) fun ps d1 hp => ?_)
    have hmem : ∀ p ∈ ps, p < es.size := fun p hp' => by simpa using hp.mem_iff.mp hp'
    have hpl : ps.length = es.size := by rw [hp.length_eq, List.length_range]
    refine wpAny_bind (nTup (fun h1 k1 tp => ?_) (by rw [List.length_map, hpl]; unfold scanBound at hb; rw [sizeLine_eq]; (first | lia | omega)))
    have ptd := dead_size h
    generalize h.objs.size = pt at *
    refine fin (.ref pt) h1 d1 k1 fun I h2 hI1 hI0 hIl hI k2 => ?_
    have hIa : I ≠ a := fun e => by rw [e, ho] at hI0; cases hI0
    have hIp : I ≠ pt := fun e => by rw [e, tp] at hI1; cases hI1
    have ho2 : h2.get? a = some (setObj es ep t) := (k1.tr k2) _ (fun x => x) _ ho
    have tp2 : IsT h2 pt _ := k2.kp _ _ tp
    refine hq I h2 d1 (ps.map fun p => (es.getD p (0, .none)).2) _ _ (k1.tr k2) (walks_d hh hIa hIp T.f hmem hpl _ rfl) ⟨ho2, tp2, hI⟩ (fun b hb => ?_) (by simp) hI0 (fun b hb => ?_) (by rw [List.length_map, hpl, hlen]) ?_
    · simp only [List.mem_cons, List.not_mem_nil, or_false] at hb
      rcases hb with rfl | rfl | rfl
      · exact hIl
      · exact Heap.lt_size ho2
      · exact Heap.lt_size tp2
    · simp only [List.mem_cons, List.not_mem_nil, or_false] at hb
      rcases hb with rfl | rfl | rfl
      · exact .inr hI0
      · exact .inl rfl
      · exact .inr ptd
    · have := ord_enc X (ordE := ps.map fun p => es.getD p (0, .none)) ((hp.map _).trans ?_)
      · rw [List.map_map] at this; exact this
      · have e : (List.range es.size).map (fun p => es.getD p (0, .none)) = es.toList := by
          refine List.ext_getElem (by simp) fun i h1 h2 => ?_
          simp at h1 h2
          simp [h2]
        rw [e]
  | false =>
    rw [if_neg (by decide)]
    refine wpAny_bind (wpAny_pure ?_)
    refine fin (rawInt 0) h d (Kx.refl _ _) fun I h2 hI1 hI0 hIl hI k2 => ?_
    have hIa : I ≠ a := fun e => by rw [e, ho] at hI0; cases hI0
    have ho2 : h2.get? a = some (setObj es ep t) := k2 _ (fun x => x) _ ho
    have hfp : ∀ b ∈ [I, a], b < h2.objs.size := fun b hb => by
      simp only [List.mem_cons, List.not_mem_nil, or_false] at hb
      rcases hb with rfl | rfl
      · exact hIl
      · exact Heap.lt_size ho2
    have hfd : ∀ b ∈ [I, a], b = a ∨ h.get? b = none := fun b hb => by
      simp only [List.mem_cons, List.not_mem_nil, or_false] at hb
      rcases hb with rfl | rfl
      · exact .inr hI0
      · exact .inl rfl
    cases hbt : byT w with
    | true =>
      have hpp := pick_perm (w.params.setOrder a ep) es
      have hps : (pickOrder (w.params.setOrder a ep) es).size = es.size := by rw [← Array.length_toList, hpp.length_eq, Array.length_toList]
      refine hq I h2 d ((pickOrder (w.params.setOrder a ep) es).toList.map (·.2)) _ _ k2 (walks_pt hh hIa T.f (fun _ => 0) _ (by simp [hps]) fun i hi s ha A' E' Q' hq' => setNext_t ha T.f hbt ?_) ⟨ho2, hI⟩ hfp (by simp) hI0 hfd (by simp [hps, hlen]) (ord_enc X hpp)
      rw [List.getElem?_map, Array.getElem?_toList, Option.map_map] at hq'
      exact hq'
    | false =>
      rw [hbt] at hD
      have hl : t.led = true := by rw [T.l, hbt]; rfl
      refine hq I h2 d (es.toList.map (·.2)) _ _ k2 (walks_pt hh hIa T.f (slP t) _ (by simp) fun i hi s ha A' E' Q' hq' => setNext_p ha T.f hbt hl (by simpa using hD) ?_) ⟨ho2, hI⟩ hfp (by simp) hI0 hfd (by simp [hlen]) (ord_enc X (List.Perm.refl _))
      rw [below_slP T.s i (by rw [hps]; exact hi)]
      rw [List.getElem?_map, Array.getElem?_toList] at hq'
      by_cases hlt : i < es.size
      · have h1 : es[i]? = some es[i] := Array.getElem?_eq_getElem hlt
        have h2 : t.place[i]? = some (t.place.getD i 0) := by
          have : i < t.place.size := by (first | lia | omega)
          simp [Array.getD, this]
        rw [h1] at hq' ⊢
        rw [h2]
        exact hq'
      · have h1 : es[i]? = none := Array.getElem?_eq_none (by (first | lia | omega))
        rw [h1] at hq' ⊢
        exact hq'
end
end Mine
end

section
open PySem PySem.W PyProof.Rows PySem.Spec PySem.Calls
set_option maxRecDepth 100000
set_option maxHeartbeats 4000000
namespace Mine
section
variable {w : World} {A : Around} {E : Value → Shared → Prop} {R : Result → Shared → Prop} {s : Shared} {h h' : Heap} {g : Array GenState} {d : Drawn} {tk : Nat} {os : OsState}

theorem collect_set {a : Nat} {ks : List Nat} {Q : List Value → Shared → Prop} (S : SetI w h a ks) (hh : A.handled = none) (hb : ks.length < scanBound)
    (hq : ∀ h' d' tk' (vs : List Value) ks', Kx none_ h h' → ks'.Perm ks → Enc PI vs.toArray ks' → Q vs ⟨h', g, d', tk', os⟩) : wpAny (model PP w) A (collect (.ref a)) Q E ⟨h, g, d, tk, os⟩ := by
  unfold collect
  refine wpAny_bind (wpAny_runValue (codeAny_builtin PySem.F.entry_proto_collect ?_))
  rw [Around.under_plainId PySem.F.plain_proto_collect _]
  show wpAny _ A.in1 (newList [] >>= fun l => again (.builtin "list.__iadd__" ⟨[l, .ref a], []⟩)) _ _ _
  refine wpAny_bind (nList (fun h1 k1 l1 => ?_) (by rw [sizeLine_eq]; exact Nat.zero_le _))
  have zd := dead_size h
  generalize h.objs.size = z at *
  refine wpAny_pure ⟨plainId_quiet PySem.F.plain_list_iadd _, codeAny_builtin PySem.F.entry_list_iadd ?_⟩
  rw [Around.under_plainId PySem.F.plain_list_iadd _]
  have S1 : SetI w h1 a ks := S.at_ fun o e => k1 _ (fun x => x) o e
  have hza : z ≠ a := by
    obtain ⟨es, ep, t, ho, _⟩ := S
    intro e; rw [e, ho] at zd; cases zd
  have hty : Shared.TypeIs ⟨h1, g, d, tk, os⟩ (.ref a) "set" := by obtain ⟨es, ep, t, ho, _⟩ := S1; exact ⟨_, ho, rfl⟩
  show wpAny _ A.in1 (Builtin.List.listExtendWith (.ref z) (.ref a) (.ref z)) _ _ _
  unfold Builtin.List.listExtendWith
  refine wpAny_bind (wpAny_typeOf hty ?_)
  have h1' : Builtin.List.listSameRef (.ref z) (.ref a) = false := by simp [Builtin.List.listSameRef, hza]
  have h2' : (Value.type "set" == Value.type "list") = false := by decide
  have h3' : (Value.type "set" == Value.type "tuple") = false := by decide
  simp only [h1', h2', h3', Bool.or_false, Bool.false_eq_true, if_false]
  refine wpAny_bind (iter_set (A₀ := A.in1) S1 (by simp [hh]) hb fun I h2 d2 ord fp St k2 W st0 fpl If Id fd len enc => ?_)
  have hty2 : Shared.TypeIs ⟨h2, g, d2, tk, os⟩ (.ref a) "set" := by obtain ⟨es, ep, t, ho, _⟩ := S1; exact ⟨_, k2 _ (fun x => x) _ ho, rfl⟩
  refine wpAny_bind (wpAny_holding ?_)
  unfold Builtin.List.listLengthHint
  refine wpAny_bind (wpAny_specialOf hty2 PySem.F.slot_set_len.lookup ?_)
  (generalize hid : ("set.__len__" : String) = id0; (fail_if_success (clear hid id0)); wp_delta; rw [show splitId id0 = some ("set", "__len__") from by subst hid; decide +kernel]; subst hid)
  refine wpAny_bind (wpAny_isInstance (b := true) hty2 sub_set_self ?_)
  rw [if_neg (by decide)]
  rw [if_pos (by decide)]
  refine wpAny_bind (wpAny_typeOf hty2 ?_)
  refine wpAny_pure ?_
  rw [if_pos (by decide)]
  refine wpAny_bind (wpAny_rule ?_)
  have l2 : IsL h2 z #[] 0 := k2 _ (fun x => x) _ l1
  refine wpAny_bind ?_
  show wpAny _ A.in1 (updateSeq z (·.push .none) >>= fun _ => updateSeq z (·.pop)) _ _ _
  refine wpAny_bind (wpAny_updateSeq l2 rfl ?_)
  have l3 := Heap.get?_update_self (Obj.mapSeq (·.push Value.none)) l2 rfl
  refine wpAny_updateSeq l3 rfl ?_
  have l4 := Heap.get?_update_self (Obj.mapSeq (·.pop)) l3 rfl
  have k4 : Kx (· = z) h2 ((h2.update z (Obj.mapSeq (·.push Value.none))).update z (Obj.mapSeq (·.pop))) := (Kx.of_same (Heap.SameBut.update ..)).tr (Kx.of_same (Heap.SameBut.update ..))
  generalize (h2.update z (Obj.mapSeq (·.push Value.none))).update z (Obj.mapSeq (·.pop)) = h4 at *
  have hIz : I ≠ z := fun e => by rw [e, l1] at Id; cases Id
  have zf : z ∉ fp := fun hz => (fd z hz).elim hza fun e => by rw [l1] at e; cases e
  have hno : ord.length ≤ sizeLine := by rw [len, sizeLine_eq]; unfold scanBound at hb; (first | lia | omega)
  have st4 : St 0 h4 := W.frame 0 h2 h4 st0 fun b hb o e => k4 b (fun q : b = z => zf (q ▸ hb)) o e
  have hI4 : ∀ b, h.get? b ≠ none → b ≠ I := fun b hb e => hb (k1.dead0 (e ▸ Id))
  refine wpAny_pure ⟨plainId_quiet PySem.F.plain_extend_loop _, codeAny_extend_loopS W.toS hno _ zf _ ord.length 0 ⟨h4, g, d2, tk, os⟩ _ _ (Nat.sub_zero _) (Nat.zero_le _) st4 l4 (ItemsOf.nil _) fun s' acc' c' hm l5 hacc => ?_⟩
  show wpAny _ A (load z >>= _) _ _ s'
  refine wpAny_bind (wpAny_load l5 (wpAny_pure ?_))
  obtain ⟨h5, g5, d5, tk5, os5⟩ := s'
  have eg : g5 = g := hm.gens
  have ed : d5 = d2 := hm.drawn
  have eo : os5 = os := hm.os
  subst eg; subst ed; subst eo
  obtain ⟨ks', pk, ek⟩ := enc
  have e : acc'.toList = ord := by
    refine List.ext_getElem? fun i => ?_
    by_cases hi : i < ord.length
    · have h1 : acc'[i]? = some (acc'[i]'(by rw [hacc.1]; exact hi)) := Array.getElem?_eq_getElem _
      have h2 := hacc.2 i _ h1
      rw [Array.getElem?_toList, h1, h2]
    · rw [List.getElem?_eq_none (by rw [Array.length_toList, hacc.1]; (first | lia | omega)), List.getElem?_eq_none (by (first | lia | omega))]
  show Q acc'.toList _
  rw [e]
  refine hq h5 d5 tk5 ord ks' (Kx.of_kp fun b o ho => ?_) pk ek
  have hbz : b ≠ z := fun q => by rw [q, zd] at ho; cases ho
  have hbI : b ≠ I := hI4 b (by rw [ho]; simp)
  exact hm.heap b o (by simp only [List.mem_cons, List.not_mem_nil, or_false, not_or]; exact ⟨hbz, hbI⟩) (k4 b hbz o (k2 b (fun x => x) o (k1 b (fun x => x) o ho)))
end
end Mine
end

section
open PySem PySem.W PyProof.Rows PySem.Spec PySem.Calls PySem.SeqAt
set_option maxRecDepth 100000
set_option maxHeartbeats 4000000
namespace Mine
section
variable {w : World} {mg mb : Str → Option Value} {A : Around} {E : Value → Shared → Prop} {s : Shared} {env : Env} {h h' : Heap} {g : Array GenState} {d : Drawn} {tk : Nat} {os : OsState} {M : Model} {prog : Program}
  {D : Pw} {n : Nat} {par : Nat → List Nat} {st : Nat → Nat} {fb : Nat → List Nat} {rws : List Nat} {l l' : List (Str × Value)}

theorem g_set (w : World) : nsIn (KK w) mainGlobals (Str.ofString "set") = some none := by kernel_rfl
theorem b_set : bootBuiltins (Str.ofString "set") = some (.type "set") := by kernel_rfl

theorem Enc.intsAre : ∀ {vs : List Value} {ks : List Nat}, Enc PI vs.toArray ks → IntsAre vs (ks.map fun k => ((k : Nat) : Int))
  | [], [], _ => .nil
  | [], k :: ks, x => by have := x.1; simp at this
  | v :: vs, [], x => by have := x.1; simp at this
  | v :: vs, k :: ks, x => by
    obtain ⟨v', e, t, ev⟩ := x.2 0 k rfl
    have e' : v = v' := by simpa using e
    rw [e', ev]
    exact .cons _ t (Enc.intsAre ⟨by have := x.1; simpa using this, fun i k' hk => by simpa using x.2 (i + 1) k' (by simpa using hk)⟩)

noncomputable def isN (k : Nat) : Value → Bool
  | .bytes b _ => decide (b.toList = nmL' k)
  | _ => false
theorem index_names {a m k n : Nat} {vs : Array Value} {t : Tok} {Q : Value → Shared → Prop} (hl : IsL s.heap a vs m) (x : Enc PN vs (List.range n)) (hn : n ≤ 10) (hk : k < n) (hq : Q (.int (k : Nat) s.toks) { s with toks := s.toks + 1 }) :
    wpAny (model prog w) A (call (.builtin "list.index") [.ref a, .bytes (nmL' k).toArray t]) Q E s := by
  have hsz : vs.size = n := by rw [x.1, List.length_range]
  have at_ : ∀ j (hj : j < vs.size), ∃ u, vs[j] = .bytes (nmL' j).toArray u := fun j hj => by
    obtain ⟨v, e, u, ev⟩ := x.2 j j (by rw [List.getElem?_range (by (first | lia | omega))])
    obtain ⟨_, e'⟩ := Array.getElem?_eq_some_iff.mp e
    exact ⟨u, by rw [e', ev]⟩
  refine call_meets PySem.F.slot_list_index ⟨_, hl, rfl⟩ PySem.F.entry_list_index (PySem.F.args_list_index_2 _ _)
    (list_indexAt a vs m none #[] (.bytes (nmL' k).toArray t) (isN k) k (by (first | lia | omega)) (by (first | lia | omega)) ?_ ?_) ⟨hl, fun y hy => ?_, hq⟩
  · obtain ⟨u, e⟩ := at_ k (by (first | lia | omega))
    rw [e]; simp [isN]
  · intro j hj hlt
    obtain ⟨u, e⟩ := at_ j hj
    rw [e]
    simp only [isN, decide_eq_false_iff_not]
    intro e2
    have := nm_inj j (by (first | lia | omega)) k (by (first | lia | omega)) (by simpa using e2)
    (first | lia | omega)
  · obtain ⟨j, _, u, rfl⟩ := x.mem hy
    have := at_names (A := A.in1) (s := s) (nmL' j) (nmL' k) u t
    simpa [isN] using this

/- statement 11: found -/
theorem law_11 {to : Nat} {res : List Nat} {Q : Flow → Shared → Prop} (hr : Rm A 19) (S : St w mg mb D n par st fb rws h l) (U : Nu n par st fb rws) (hto : l.lookup (Str.ofString "told") = some (.ref to)) (El : En PN h to res) (hlen : res.length ≤ 1000) (hkn : ∀ k ∈ res, k < n)
    (hq : ∀ h' d' tk' fo, St w mg mb D n par st fb rws h' ((Str.ofString "found", .ref fo) :: l) → En PI h' fo ((List.range n).filter fun k => decide (k ∈ res)) → Kx (V D) h h' →
      wpAny (model PP w) A (execs ((bodyAt w 138).drop 12) (wEnv w D.L)) Q E ⟨h', g, d', tk', os⟩) :
    wpAny (model PP w) A (execs ((bodyAt w 138).drop 11) (wEnv w D.L)) Q E ⟨h, g, d, tk, os⟩ := by
  refine hide fun Gz kz => ?_
  obtain ⟨vs, m, lv, ev⟩ := id El
  obtain ⟨nvs, nm, ln, en⟩ := id S.N
  refine kz ?_
  clear kz Gz
  have h10 := U.n10
  refine wpAny_execs_cons (wpAny_Assign_Name ?_)
  refine Call_ (nmB S.K (g_sorted w) b_sorted (by decide) (PyProof.Rows.callWith_builtin1 (args_cons ?_)))
  refine Call_ (nmB S.K (g_set w) b_set (by decide) (PyProof.Rows.callWith_type1 (args_cons ?_)))
  refine lcompL (ck := false) (g := g) (d := d) (os := os) ⟨rfl, by decide, fun _ => rfl, fun _ => rfl, fun _ => rfl⟩ rfl (fun i y _ => ∃ k, res[i]? = some k ∧ PI y k) (fun _ => true) hr.1 (fun _ _ _ _ e _ => e) (nmF S.F hto ?_)
  refine ⟨to, vs, m, h, tk, rfl, rfl, lv, by rw [ev.1]; exact hlen, fun C b i v h₃ tk₃ Q' E' hv T kk hQ => wpAny_tests_nil (hQ _ _ (Kx.refl _ _)), fun C b i v h₃ tk₃ Q' E' hv _ T kk hQ => ?_, fun Dl h₁ tk₁ ys m₁ hD k₁ l₁ CR => args_nil ?_⟩
  · refine hide fun Gz kz => ?_
    obtain ⟨k, hk, t8, rfl⟩ := ev.at_ hv
    refine kz ?_
    clear kz Gz
    have hkn' : k < n := hkn k (List.mem_of_getElem? hk)
    have ln₃ : IsL h₃ D.na nvs nm := kk.kp _ _ ln
    refine MethodCall_ (nmV (S.c3.keeps kk.kp) ?_)
    refine getMethod_list_of PySem.F.slot_list_index PySem.F.type_list_index ln₃.isList ⟨_, ln₃, rfl⟩ ?_
    refine callWith_method1 (args_cons (T.name (args_nil ?_)))
    exact index_names ln₃ en h10 hkn' (hQ _ _ _ (Kx.refl _ _) ⟨k, hk, _, rfl⟩)
  have hys : Enc PI ys res := by
    have CR' := CR
    rw [ev.1] at CR'
    have := CR'.enc (P := PI) (p := fun _ => true) (f := id) (fun _ _ _ => rfl) fun i k' y hk' hy => by
      obtain ⟨p, e, q⟩ := hy
      rw [hk'] at e; cases e; exact q
    rwa [List.filter_eq_self.mpr fun _ _ => rfl, List.map_id] at this
  have hysz : ys.size = res.length := hys.1
  refine call_set (s := ⟨h₁, g, d, tk₁, os⟩) (ks := res) hr.1 l₁.isList hys (by unfold scanBound; (first | lia | omega)) fun h₂ tk₂ S₂ kp₂ => args_nil ?_
  have k₂ : Kx none_ h₁ h₂ := Kx.of_kp fun b o ho => kp₂ b o (Heap.lt_size ho) ho
  have hdd : (ddl res ys.size).Nodup := by obtain ⟨es, ep, t, ho, T, X⟩ := S₂; exact X.nd
  have hmd : ∀ k, k ∈ ddl res ys.size ↔ k ∈ res := fun k => by
    rw [mem_ddl, hysz]
    constructor
    · rintro ⟨j, hj, e⟩
      rw [← e, getD_lt res j 0 hj]; exact List.getElem_mem hj
    · intro hk
      obtain ⟨j, hj, e⟩ := List.getElem_of_mem hk
      exact ⟨j, hj, by rw [getD_lt res j 0 hj]; exact e⟩
  generalize ddl res ys.size = dd at *
  have hdl : dd.length ≤ 10 := by
    have h3 := nodup_le dd (List.range n) hdd fun x hx => List.mem_range.mpr (hkn x ((hmd x).mp hx))
    rw [List.length_range] at h3
    (first | lia | omega)
  refine sorted_gen (g := g) (os := os) (collect_set (g := g) (os := os) S₂ (by simp [hr.1]) (by unfold scanBound; (first | lia | omega)) fun h₃ d₃ tk₃ us ks k₃ pk ek => ?_)
  have hus : us.length = ks.length := by have := ek.1; simpa using this
  have hkl : ks.length = dd.length := pk.length_eq
  have hknd : ks.Nodup := pk.nodup_iff.mpr hdd
  have hia := ek.intsAre
  refine ⟨h₃, d₃, tk₃, _, rfl, by (first | lia | omega), tell_ints hia (by
    rw [List.Nodup, List.pairwise_map]; exact hknd.imp fun h e => h (by exact_mod_cast e)), fun h₄ z m₄ p k₄ l₄ P Sx hz => ?_⟩
  have hps := P.size
  have hmp : ∀ i ∈ p.toList, i < ks.length := fun i hi => by have := List.mem_range.mp (P.pm.mem_iff.mp hi); (first | lia | omega)
  have hfo : (p.toList.map fun i => ks.getD i 0) = (List.range n).filter fun k => decide (k ∈ res) := by
    refine sorted_uniq (R := fun a b : Nat => a < b) (fun a b h => by (first | lia | omega)) _ _ ?_ ?_ fun x => ?_
    · rw [List.pairwise_iff_getElem]
      intro i j hi hj hij
      rw [List.length_map, Array.length_toList] at hi hj
      have := Sx i j hij (by (first | lia | omega))
      have e1 : p.getD i 0 = p[i] := by simp [Array.getD, hi]
      have e2 : p.getD j 0 = p[j] := by simp [Array.getD, hj]
      rw [e1, e2] at this
      have q1 : p[i] < ks.length := hmp _ (by simp)
      have q2 : p[j] < ks.length := hmp _ (by simp)
      simp only [decide_eq_true_eq] at this
      rw [getD_lt _ _ _ (by simpa using q1), getD_lt _ _ _ (by simpa using q2), List.getElem_map, List.getElem_map] at this
      simp only [List.getElem_map, Array.getElem_toList]
      rw [getD_lt _ _ _ q1, getD_lt _ _ _ q2]
      exact_mod_cast this
    · exact List.Pairwise.filter _ List.pairwise_lt_range
    · have hperm : (p.toList.map fun i => ks.getD i 0).Perm ks := by
        have h1 := P.pm.map fun i => ks.getD i 0
        have h2 : (List.range us.length).map (fun i => ks.getD i 0) = ks := by
          rw [hus]
          refine List.ext_getElem? fun i => ?_
          by_cases hi : i < ks.length
          · rw [List.getElem?_map, List.getElem?_range hi, Option.map_some, getD_some 0 hi]
          · rw [List.getElem?_map, List.getElem?_eq_none (by simpa using hi), List.getElem?_eq_none (by (first | lia | omega))]; rfl
        rwa [h2] at h1
      rw [hperm.mem_iff, pk.mem_iff, hmd, List.mem_filter, List.mem_range, decide_eq_true_eq]
      exact ⟨fun hx => ⟨hkn x hx, hx⟩, fun hx => hx.2⟩
  have k04 : Kx none_ h h₄ := ((k₁.tn k₂).tn k₃).tn k₄
  have S₄ := S.no k04
  refine stF S₄.F fun h₅ tk₅ F₅ k₅ => ?_
  refine hq _ _ _ z (S₄.fr k₅ F₅) ⟨_, m₄, S₄.F.lst l₄ k₅, ?_⟩ (k04.vn.tr k₅.vL)
  rw [← hfo]
  refine ⟨by simp, fun i k hk => ?_⟩
  rw [List.getElem?_map] at hk
  cases hp' : p.toList[i]? with
  | none => rw [hp'] at hk; cases hk
  | some j =>
    rw [hp'] at hk
    simp only [Option.map_some, Option.some.injEq] at hk
    have hj : j < ks.length := hmp j (List.mem_of_getElem? hp')
    obtain ⟨v, e, pv⟩ := ek.2 j (ks.getD j 0) (getD_some 0 hj)
    refine ⟨v, ?_, hk ▸ pv⟩
    have e' : us[j]? = some v := by simpa using e
    rw [← Array.getElem?_toList, List.getElem?_map, hp', Option.map_some, List.getD_eq_getElem?_getD, e']
    rfl
end
end Mine
end

section
open PySem PySem.W PyProof.Rows PySem.Spec PySem.Calls PySem.SeqAt
set_option maxRecDepth 100000
set_option maxHeartbeats 4000000
namespace Mine
section
variable {w : World} {mg mb : Str → Option Value} {A : Around} {E : Value → Shared → Prop} {s : Shared} {env : Env} {h h' : Heap} {g : Array GenState} {d : Drawn} {tk : Nat} {os : OsState} {M : Model} {prog : Program}
  {D : Pw} {n : Nat} {par : Nat → List Nat} {st : Nat → Nat} {fb : Nat → List Nat} {rws : List Nat} {l l' : List (Str × Value)}

theorem cmn_iff (U : Nu n par st fb rws) (k : Nat) : (decide ((rws.filter fun j => !decide (k ∈ fb j)) = []) = true) ↔ ∀ j ∈ rws, Up par k j := by
  rw [decide_eq_true_eq, List.filter_eq_nil_iff]
  simp only [Bool.not_eq_true, Bool.not_eq_false', decide_eq_true_eq]
  refine forall_congr' fun j => forall_congr' fun hj => ?_
  rw [← U.hfb j (U.rn j hj) k]
theorem law_D {z : Int} {t u : Tok} {Q : Flow → Shared → Prop} (hr : Rm A 19) (S : St w mg mb D n par st fb rws h l) (R : Rows l (rowsW D.pa n z t u)) (U : Nu n par st fb rws) (ab : AllB g)
    (hq : ∀ h' g' d' tk', Kx (V D) h h' → Tb h' 87 (qsL w) → Tb h' 135 (qsM w) → AllB g' → Q (.ret (.bool true)) ⟨h', g', d', tk', os⟩) :
    wpAny (model PP w) A (execs ((bodyAt w 138).drop 10) (wEnv w D.L)) Q E ⟨h, g, d, tk, os⟩ := by
  have h10 := U.n10
  have hp := U.G.p
  refine law_10 hr S U ab fun h₁ g₁ tk₁ to res k0 cs hrw S₁ ab₁ Et mem hone hkn hlen k₁ => ?_
  refine law_11 hr S₁ U rfl Et hlen hkn fun h₂ d₂ tk₂ fo S₂ Ef k₂ => ?_
  refine law_12 (z := z) (t := t) (u := u) hr S₂ U R fun h₃ tk₃ co S₃ c5 Ec k₃ => ?_
  have hall : ∀ k, (∀ j ∈ rws, Up par k j) ↔ Up par k k0 ∧ ∀ c ∈ cs, Up par k c := fun k => by
    rw [hrw]; simp
  refine law_13 hr S₃ U rfl (Ef.kl (S₂.kl k₃)) c5 Ec (fun k hk => ?_) ?_ (fun k hk => List.mem_range.mp (List.mem_filter.mp hk).1) ?_ fun h₄ tk₄ k₄ => ?_
  · obtain ⟨hk1, hk2⟩ := List.mem_filter.mp hk
    refine List.mem_filter.mpr ⟨hk1, (cmn_iff U k).mpr ((hall k).mpr ?_)⟩
    exact OM.sound k0 cs k ((mem k).mp (of_decide_eq_true hk2))
  · have := List.length_filter_le (fun k => decide (k ∈ res)) (List.range n)
    rw [List.length_range] at this
    (first | lia | omega)
  · refine gr_oct hp U.hfb _ _ (fun k hk hP => ?_) fun x hx hC => ?_
    · exact (cmn_iff U k).mpr ((hall k).mpr (OM.sound k0 cs k ((mem k).mp (of_decide_eq_true hP))))
    · obtain ⟨h1, h2⟩ := (hall x).mp ((cmn_iff U x).mp hC)
      obtain ⟨k, hk, hu⟩ := OM.complete hp k0 cs x h1 h2
      have hkr := (mem k).mpr hk
      exact ⟨k, hkn k hkr, decide_eq_true hkr, hu⟩
  have S₄ := S₃.no k₄
  refine law_14 hr S₄ U ab₁ fun h₅ g₅ tk₅ al S₅ ab₅ Ea k₅ => ?_
  refine law_15 hr S₅ U rfl Ea fun h₆ tk₆ k₆ => ?_
  have S₆ := S₅.no k₆
  have Et₆ : En PN h₆ to res := ((((Et.kl (S₁.kl k₂)).kl (S₂.kl k₃)).kl (Kl.n k₄)).kl (S₄.kl k₅)).kl (Kl.n k₆)
  have k06 : Kx (V D) h h₆ := ((((k₁.tr k₂).tr k₃).tn k₄).tr k₅).tn k₆
  refine law_16 hr S₆ U rfl Et₆ hkn (fun hl => ?_) (fun h' tk' k' => hq _ _ _ _ (k06.tn k') (S₆.T.n k') (S₆.T2.n k') ab₅) fun h2 tk₇ => ?_
  · rw [hrw] at hl ⊢
    have : cs = [] := List.length_eq_zero_iff.mp (by simp at hl; (first | lia | omega))
    rw [this]; exact hone this
  obtain ⟨r0, r1, rr, hrw2⟩ : ∃ r0 r1 rr, rws = r0 :: r1 :: rr := by
    cases hr1 : rws with
    | nil => rw [hr1] at h2; simp at h2
    | cons a as =>
      cases as with
      | nil => rw [hr1] at h2; simp at h2
      | cons b bs => exact ⟨a, b, bs, rfl⟩
  have h0 : r0 < n := U.rn r0 (by rw [hrw2]; exact .head _)
  have h1 : r1 < n := U.rn r1 (by rw [hrw2]; exact .tail _ (.head _))
  refine law_17 hr S₆ U hrw2 fun h₈ tk₈ p t0 t1 S₈ lp k₈ => ?_
  refine law_18 (z := z) (t := t) (u := u) hr S₈ U R hrw2 fun h₉ tk₉ lo S₉ El k₉ => ?_
  have hln : ∀ k ∈ lws n fb r0 r1, k < n := fun k hk => List.mem_range.mp (List.mem_filter.mp hk).1
  have hnd : (gr fb (lws n fb r0 r1)).Nodup := by
    have := List.nodup_range (n := n)
    exact (this.filter _).filter _
  have hgn : ∀ k ∈ gr fb (lws n fb r0 r1), k < n := fun k hk => hln k (gr_sub hk)
  refine law_19 hr S₉ U rfl El hnd hgn fun h₁₀ tk₁₀ du S₁₀ Ed pd sd k₁₀ => ?_
  refine law_20 hr S₁₀ U ab₅ hrw2 rfl (S₉.kl k₁₀ _ _ _ (S₈.kl k₉ _ _ _ lp)) rfl Ed (fun k hk => hgn k (pd.mem_iff.mp hk)) (fun res' sp => ?_) fun h' g' tk' k' ta' tb' ab' => hq _ _ _ _ ((((k06.tr k₈).tr k₉).tr k₁₀).tr k') ta' tb' ab'
  refine LcaSpec.uniq (_c := 0) (_d := 0) sp sd fun k => ?_
  have hl : ∀ j, j ∈ lws n fb r0 r1 ↔ Com par r0 r1 j := fun j => by
    unfold lws
    rw [List.mem_filter, List.mem_range, Bool.and_eq_true, decide_eq_true_eq, decide_eq_true_eq, U.hfb r0 h0, U.hfb r1 h1]
    exact ⟨fun q => q.2, fun q => ⟨Nat.lt_of_le_of_lt (q.1.le hp) h0, q⟩⟩
  rw [pd.mem_iff, mem_gr U.hfb hln, hl]
  refine and_congr_right fun _ => ⟨fun q m hm hu => ?_, fun q j hj hne hu => hne (q j ((hl j).mp hj) hu).symm⟩
  by_cases e : k = m
  · exact e
  · exact absurd hu (q m ((hl m).mpr hm) fun e' => e e'.symm)
end
end Mine
end

section
open PySem PySem.W PyProof.Rows PySem.Spec PySem.Calls PySem.SeqAt
set_option maxRecDepth 100000
set_option maxHeartbeats 4000000
namespace Mine
section
variable {w : World} {mg mb : Str → Option Value} {A : Around} {E : Value → Shared → Prop} {s : Shared} {env : Env} {h h' : Heap} {g : Array GenState} {d : Drawn} {tk : Nat} {os : OsState} {M : Model} {prog : Program}

theorem callFC2 {f : Nat} {pos : List Value} {kw : List (Str × Value)} (binds : List (Str × Value)) (l : List (Str × Value)) {Q : Value → Shared → Prop} {n : Nat}
    (K : Ok w mg mb h) (hr : Rm A (n + 1)) (hbind : bindArgs (fdAt w f) ⟨pos, kw⟩ = pure binds)
    (hl : ∀ L, RowsP (bindL (callEnvC (fdAt w f) L f).kindOf binds fun _ => none) l)
    (hkind : ∀ L : Nat, ∀ x ∈ binds, (fdAt w f).scope.names.lookup x.1 = some .local ∨ ((fdAt w f).scope.names.lookup x.1 = some .cell ∧ ((cellsFrom (L + 1) (fdAt w f).scope.names []).lookup x.1).isSome = true))
    (hb : ∀ L h₁ tk', L = h.objs.size → 138 < L → Kx none_ h h₁ → Fv h₁ L l →
      (∀ nm c, (callEnvC (fdAt w f) L f).cells.lookup nm = some c → h₁.IsCell c (bindC (callEnvC (fdAt w f) L f).kindOf binds (fun _ => none) nm)) → Ok w mg mb h₁ → Rm (A.deeper (callEnvC (fdAt w f) L f)) n →
      wpAny (model PP w) (A.deeper (callEnvC (fdAt w f) L f)) (execs (bodyAt w f) (callEnvC (fdAt w f) L f)) (fun fl s' => Q (match fl with | .ret v => v | _ => .none) s') (fun _ _ => False) ⟨h₁, g, d, tk', os⟩)
    (ho : (KK w).lookup f = some (fnObj w f) := by kernel_rfl) (hcd : codeIn (KK w) (fdAt w f).code (fdAt w f).qualname = true := by kernel_rfl)
    (hbody : (fdAt w f).body = .stmts (bodyAt w f) := by kernel_rfl) (hclo : (fdAt w f).closure = [] := by kernel_rfl)
    (hco : (fdAt w f).scope.isCoroutine = false := by kernel_rfl) (hgen : (fdAt w f).scope.isGenerator = false := by kernel_rfl) (hk : (fdAt w f).scope.kind = .function := by kernel_rfl) :
    wpAny (model PP w) A (call (.ref f) pos kw) Q E ⟨h, g, d, tk, os⟩ := by
  refine wpAny_call (codeAny_call_function hr.room (K.x _ _ ho) rfl hco hgen hbody (codeRec_of K.x hcd) (BindsTo.of_eq hbind _ _ _ _ ?_))
  rw [hclo]
  refine wpAny_newFunctionEnv_cells hk (hkind _) fun env he s' x => ?_
  subst he
  obtain ⟨⟨h₁, tk₁, rfl⟩, ns, keep, fresh⟩ := x.toInCall
  have k₁ : Kx none_ h h₁ := Kx.of_kp keep
  exact ⟨K.nl.keeps k₁.kp, codeAny_func (wpAny_mono (hb h.objs.size h₁ tk₁ rfl K.sz k₁ ⟨_, ns, (hl _).sub⟩ (fun nm c hc => x.cell nm c hc) (K.n k₁) (hr.deeper _)) (fun _ _ x => x) fun _ _ x => x.elim)⟩

theorem seven (j : Nat) (h1 : 1 ≤ j) (h7 : j ≤ 7) : j = 1 ∨ j = 2 ∨ j = 3 ∨ j = 4 ∨ j = 5 ∨ j = 6 ∨ j = 7 := by (first | lia | omega)
theorem law_walk {sa : Nat} {sv : Array Value} {Q : Value → Shared → Prop} (K : Ok w mg mb h) (hr : Rm A 20) (T : Tb h 87 (qsL w)) (T2 : Tb h 135 (qsM w)) (ab : AllB g) (hsc : h.IsList sa sv) (hsz : sv.size ≤ 63) (hsi : AnyI sv)
    (hq : ∀ h' g' d' tk', Kx (fun b => b = 87 ∨ b = 135) h h' → Tb h' 87 (qsL w) → Tb h' 135 (qsM w) → AllB g' → Q (.bool true) ⟨h', g', d', tk', os⟩) :
    wpAny (model PP w) A (call (.ref 138) [.ref sa]) Q E ⟨h, g, d, tk, os⟩ := by
  refine callFC2 [(Str.ofString "script", .ref sa)] [(Str.ofString "script", .ref sa)] K hr (by kernel_rfl) (fun L => ⟨rfl, trivial⟩) (fun L x hx => .inl ?_) fun L h₁ tk₁ hL hL' k₁ F₁ hc₁ K₁ hr₁ => ?_
  · simp only [List.mem_cons, List.not_mem_nil, or_false] at hx
    subst hx
    kernel_rfl
  have dead : ∀ i, h.get? (L + i) = none := fun i => by
    cases e : h.get? (L + i) with
    | none => rfl
    | some o => exact absurd (Heap.lt_size e) (by rw [hL]; exact Nat.not_lt.mpr (Nat.le_add_right _ _))
  have B : Bs h h₁ L [(Str.ofString "script", .ref sa)] (fun _ => none) := by
    refine ⟨k₁, F₁, fun i a b => ?_⟩
    rcases seven i a b with rfl | rfl | rfl | rfl | rfl | rfl | rfl
    · exact hc₁ (Str.ofString "stamps") (L + 1) rfl
    · exact hc₁ (Str.ofString "forebears") (L + 2) rfl
    · exact hc₁ (Str.ofString "names") (L + 3) rfl
    · exact hc₁ (Str.ofString "rows") (L + 4) rfl
    · exact hc₁ (Str.ofString "common") (L + 5) rfl
    · exact hc₁ (Str.ofString "table") (L + 6) rfl
    · exact hc₁ (Str.ofString "times") (L + 7) rfl
  refine law_A (_l := []) K (hr₁.less (by decide)) hsc hsz hsi (dead 0) hL' (fun i _ => dead i) B fun h₂ tk₂ l₂ pa sta fo n z t u par st fb B₂ R₂ hn2 hn G X S Y hfb => ?_
  refine law_B (fo := fo) (n := n) (z := z) (t := t) (u := u) (fb := fb) K (hr₁.less (by decide)) (dead 0) hL' (fun i _ => dead i) B₂ rfl R₂ hn2 hn G X S Y fun h₃ tk₃ l₃ na ta ti kv1 kv2 B₃ R₃ X₃ S₃ Y₃ N₃ D1 D2 T1 T2' ntL niL nt bta bti _ _ => ?_
  refine law_C (D := ⟨L, pa, sta, fo, na, 0, ta, ti⟩) K T T2 (hr₁.less (by decide)) (dead 0) hL' (fun i _ => dead i) B₃ rfl rfl rfl rfl rfl R₃ hn2 hn X₃ S₃ Y₃ N₃ D1 D2 T1 T2' ntL niL nt bta bti fun h₄ tk₄ l₄ ro rws S₄ R₄ r1 r4 rn rd k₄ => ?_
  have S₅ : St w mg mb ⟨L, pa, sta, fo, na, ro, ta, ti⟩ n par st fb rws h₄ l₄ := S₄
  refine law_D (D := ⟨L, pa, sta, fo, na, ro, ta, ti⟩) (z := z) (t := t) (u := u) hr₁ S₅ R₄ ⟨hn2, hn, G, hfb, r1, r4, rn, rd⟩ ab fun h₅ g₅ d₅ tk₅ k₅ ta₅ tb₅ ab₅ => ?_
  have k05 : Kx (fun b => b = 87 ∨ b = 135) h h₅ := Kx.trans (P := fun b => b = 87 ∨ b = 135) k₄.any k₅ fun b e => by
    rcases e with e | e | e | e
    · exact .inl (.inl e)
    · exact .inl (.inr e)
    · rw [e]; exact .inr (dead 0)
    · rw [e]; exact .inr (dead 5)
  exact hq _ _ _ _ k05 ta₅ tb₅ ab₅
end
end Mine
end

section
open PySem PySem.W PyProof.Rows PySem.Spec PySem.Calls PySem.SeqAt
set_option maxRecDepth 100000
set_option maxHeartbeats 4000000
namespace Mine
section
variable {w : World} {mg mb : Str → Option Value} {A : Around} {E : Value → Shared → Prop} {s : Shared} {h h' : Heap} {g : Array GenState} {d : Drawn} {tk : Nat} {os : OsState}

theorem tab_code {c P : Nat} (C : CodeHd h c P) : isCodeTable h P := by
  obtain ⟨o, vs, _, _, _, _, _, _, _, e1, e2, e3, e4, _⟩ := C
  exact ⟨c, o, vs, e1, e2, e3, e4⟩
theorem tab_was {c P : Nat} {qs : List (Pos × Str)} (C : CodeHd h c P) (e : h.get? P = some (tabObj #[])) (T : Tb h' P qs) {o : Obj} (ho : h.get? P = some o) : asItWas h h' P o := by
  obtain ⟨ps, e', _⟩ := T
  rw [e] at ho
  cases ho
  refine .inr (.inl ⟨tab_code C, rfl, #[], ps, rfl, ?_⟩)
  rw [e', Array.empty_append]
theorem old_law (K : Ok w mg mb h) (hT : ∀ P ∈ [87, 135], h.get? P = some (tabObj #[])) (k : Kx (fun b => b = 87 ∨ b = 135) h h') (T : Tb h' 87 (qsL w)) (T2 : Tb h' 135 (qsM w)) : OldK h h' := by
  refine ⟨fun b o ho => ?_, fun b o ho => ?_⟩
  · by_cases hb : b = 87 ∨ b = 135
    · rcases hb with rfl | rfl
      · exact tab_was (c := 89) ⟨_, _, _, _, _, _, _, _, _, K.x 89 _ rfl, rfl, rfl, rfl, rfl, rfl, rfl, rfl, rfl, by decide⟩ (hT 87 (by simp)) T ho
      · exact tab_was (ch138 K) (hT 135 (by simp)) T2 ho
    · exact .inl (k b hb o ho)
  · by_cases hb : b = 87 ∨ b = 135
    · rcases hb with rfl | rfl
      · obtain ⟨ps, e, _⟩ := T; exact ⟨_, e⟩
      · obtain ⟨ps, e, _⟩ := T2; exact ⟨_, e⟩
    · exact ⟨o, k b hb o ho⟩

theorem law_ok {loose : List Str} {mean : ExcName → Option Value} (KX : (Mine.hd.heap_39 w.params).In h) (T : Top Mine.hd.view_39 loose mean mg mb h) : Ok w mg mb h := by
  refine ⟨KX, T.g, T.b, T.nolimit, T.builtins, ?_⟩
  obtain ⟨bm, ob, e, _, ho, hc, hd, hp⟩ := T.bmain
  have e4 : mg (Str.ofString "__builtins__") = some (.ref 4) := mg_of (K := KK w) KX T.g (by kernel_rfl)
  have e' : mg (Str.ofString "__builtins__") = some (.ref bm) := e
  rw [e4] at e'
  injection e' with e'
  injection e' with e'
  subst e'
  exact ⟨ob, ho, hc, hd, hp⟩

theorem ints_any {vs : List Value} {ns : List Int} (hI : IntsAre vs ns) : AnyI vs.toArray := fun i x hx => by
  obtain ⟨t, e⟩ := IntsAre.int_at hI i x (by simpa using hx)
  exact ⟨_, t, e⟩

theorem law_end {s₁ : Shared} {loose : List Str} {mean : ExcName → Option Value} {cl : Str → Option Addr} {fa a : Nat} {vs : List Value} {ns : List Int} {args : List WData} {E : Value → Shared → Prop}
    (KX : (Mine.hd.heap_39 w.params).In s₁.heap) (T : Top Mine.hd.view_39 loose mean mg mb s₁.heap) (hT : ∀ P ∈ [87, 135], s₁.heap.get? P = some (tabObj #[])) (hg : s₁.gens = #[])
    (hmg : mg (Str.ofString "law") = some (.ref fa)) (hl : s₁.heap.IsList a vs.toArray) (hI : IntsAre vs ns) (hlen : ns.length ≤ 63) :
    wpAny (model PP w) callerA (call (.ref fa) [.ref a]) (fun v s' => GoodWG PySem.Challenge.rw_jg0023_01.row.claim cl mean args s₁ (.ok (.ret v)) s') E s₁ := by
  have K := law_ok KX T
  have e138 : mg (Str.ofString "law") = some (.ref 138) := mg_of (K := KK w) KX T.g (by kernel_rfl)
  rw [e138] at hmg
  injection hmg with hmg
  injection hmg with hmg
  subst hmg
  obtain ⟨h, g, d, tk, os⟩ := s₁
  have hg : g = #[] := hg
  subst hg
  refine law_walk K ⟨rfl, by decide, by decide⟩ (Tb.empty _ (hT 87 (by simp))) (Tb.empty _ (hT 135 (by simp))) (fun x hx => by simp at hx) hl (by rw [List.size_toArray, hI.length]; exact hlen) (ints_any hI) fun h' g' d' tk' k T1 T2 ab => ?_
  refine ⟨.inl ⟨.bool true, .bool true, [], rfl, fun cls => rfl, .bool _, postW_of (X := true) (r := PySem.Challenge.rw_jg0023_01.row.toRowW) rfl (by kernel_rfl) rfl, fun _ => ⟨List.nodup_nil, fun a ha => nomatch ha⟩⟩, old_law K hT k T1 T2, rfl, ab⟩
end
end Mine
end

open PySem PySem.W PyProof.Rows PySem.Spec PySem.Calls PySem.SeqAt
set_option maxRecDepth 100000
set_option maxHeartbeats 8000000
theorem PySem.Challenge.cw_jg0023_01_holds : PySem.Challenge.rw_jg0023_01.Holds := by
  refine Mine.hd ?_
  k_fill
  intro w s₀ s₁ mg mb G Y fa o pm cd doc dV kV ho hd hcd hD hmg hg args vals as hpre hlay hrd hwl hlo
  have KX := km_in_of Y
  have hT := km_tabs_of Y
  refine Ground.open G ?_
  intro T B D TE TW
  clear hd hcd hD ho B D TE TW Y G
  wrow_args hpre hlay hrd hwl hlo
  exact Mine.law_end KX T hT hg hmg (by assumption) (by assumption) (by omega)
