import PyProof.Rows.All
import Wide.All
import OpenK.AllK
import Wide.FinOn
import Lean
import PySem.Challenge.RW_id0006_01
open PySem PySem.W PyProof.Rows PySem.Spec PySem.Calls
set_option Elab.async false
set_option maxRecDepth 100000
set_option linter.unusedVariables false
set_option linter.unusedSimpArgs false

namespace Mine
set_option maxHeartbeats 8000000 in
open_top hd for PySem.Challenge.rw_id0006_01
end Mine

namespace Mine
noncomputable abbrev looseX : List Str := looseW hd.view_39 [] ++ List.map (fun x => x.name) (recsOf hd.view_39) ++
        List.map (fun x => x.fst) (litsOf hd.view_39) ++
      List.map (fun x => x.name) (clssOf hd.view_39 (looseW hd.view_39 []))
abbrev tup2 (a b : Value) : Obj := { cls := .type "tuple", data := .seq #[a, b] }

theorem bits_le {x : Int} {k : Nat} (h0 : 0 ≤ x) (h : x < 2 ^ k) : (Builtin.Int.intBits x : Int) ≤ k := by
  unfold Builtin.Int.intBits
  by_cases z : x = 0
  · subst z; simp
  · have hz : (x == 0) = false := by simpa using z
    rw [hz]
    have hn : x.natAbs ≠ 0 := by omega
    have : x.natAbs < 2 ^ k := by
      have e : ((x.natAbs : Int)) = x := by omega
      have : ((x.natAbs : Int)) < ((2 ^ k : Nat) : Int) := by rw [e]; push_cast; exact h
      exact_mod_cast this
    have := (Nat.log2_lt hn).mpr this
    simp only [Bool.false_eq_true, if_false]
    omega
theorem noPy {x y : Int} (h0 : 0 ≤ y) (h : y < 2 ^ 200) : Builtin.divisionGoesByPylong x y = false := by
  refine PyProof.noPylong_of_log2 ?_
  have := bits_le h0 h
  unfold Builtin.Int.intBits at this
  by_cases z : y = 0
  · subst z; decide
  · have hz : (y == 0) = false := by simpa using z
    rw [hz] at this
    simp only [Bool.false_eq_true, if_false] at this
    omega
end Mine

namespace Mine
/-- what stood outside the hidden places stands -/
def Kept (hid : List Addr) (h h' : Heap) : Prop := ∀ b o, b ∉ hid → h.get? b = some o → h'.get? b = some o

section
variable {prog : Program} {w : World} {A₀ A : Around} {s : Shared} {base h₀ : Heap} {outer : List Env} {L : Addr} {m : Str → Option Value} {env : Env} {news : List (Addr × Obj)}
  {R : Result → Shared → Prop}

theorem groundF (B : Below A₀ base outer h₀) (F : Fr h₀ L s.heap m) (N : News h₀ L s.heap news) (hA : A.frames = some (env :: outer)) (hf : env.frame = some L) (hke : env.scope.kind = .function) :
    Fr h₀ L (hideAll s.heap (news.map (·.1))) m ∧ Below A base (env :: outer) (hideAll s.heap (news.map (·.1))) ∧ h₀.StaysIn (hideAll s.heap (news.map (·.1))) ∧
      ∀ v s', LeaveK h₀ L m (hideAll s.heap (news.map (·.1))) (fun r s' => Kept (news.map (·.1)) s.heap s'.heap → R r s') v s' → R (.ok (.ret v)) s' := by
  obtain ⟨a, b, c, d⟩ := groundX (R := fun r s' => Kept (news.map (·.1)) s.heap s'.heap → R r s') B F N hA hf hke
  refine ⟨a, b, c, fun v s' hl => d v s' hl ?_⟩
  obtain ⟨L', m', news', F', N', _⟩ := hl
  exact fun x o hx e => F'.keep x o (hideAll_get _ e hx)

variable {name qual : Str} {params : Arguments} {body : List Stmt} {scope : Scope} {cl : List (Str × Addr)} {dV kV doc pm cdv ct : Value} {an : Option Addr} {fo : Obj} {f : Addr} {args : Args} {binds : List (Str × Value)}

theorem callF_plain (B : Below A₀ base outer h₀) (F : Fr h₀ L s.heap m) (N : News h₀ L s.heap news) (hlim : h₀.NoLimit) (hA : A.frames = some (env :: outer)) (hf : env.frame = some L) (hke : env.scope.kind = .function)
    (ho : s.heap.get? f = some fo) (hd : fo.data = .func (fnX name qual params body scope cl dV kV doc pm an cdv ct)) (hcd : s.heap.CodeRec cdv qual) (hroom : A.depth < recursionLimit)
    (hbind : BindsTo s (fnX name qual params body scope cl dV kV doc pm an cdv ct) args binds) (hloc : ∀ y ∈ binds, scope.names.lookup y.1 = some .local)
    (h : ∀ g L' h₁, Fr h₀ L g m → Fr g L' h₁ (fun y => binds.reverse.lookup y) → News g L' h₁ news → Below A base (env :: outer) g → h₀.StaysIn g → (∀ p ∈ news, p.1 < L') → s.heap.objs.size ≤ L' → Kept (news.map (·.1)) s.heap g →
      wpAny (model prog w) (A.deeper (envX qual scope L' f cdv cl)) (execs body (envX qual scope L' f cdv cl))
        (fun fl s' => LeaveK h₀ L m g (fun r s' => Kept (news.map (·.1)) s.heap s'.heap → R r s') (match fl with | .ret v => v | _ => .none) s')
        (fun e s' => wpAny (model prog w) (A.deeper (envX qual scope L' f cdv cl)) (leaving (envX qual scope L' f cdv cl) e) (fun _ s'' => R (.error e) s'') (fun e' s'' => R (.error e') s'') s')
        { s with heap := h₁, toks := s.toks + binds.length })
    (hcell : ∀ x ∈ scope.names, x.2 ≠ .cell) (hco : scope.isCoroutine = false := by rfl) (hgen : scope.isGenerator = false := by rfl) (hk : scope.kind = .function := by rfl) : codeAny (model prog w) A (.call (.ref f) args) R s := by
  obtain ⟨FG, BG, st, lv⟩ := groundF (R := R) B F N hA hf hke
  refine codeAny_call_def (fd := fnX name qual params body scope cl dV kV doc pm an cdv ct) (body := body) (binds := binds) hroom ho hd (hlim.keeps F.keep) hcd rfl hbind hcell hloc (fun h₁ hns hk₁ => ?_) hco hgen hk
  have F₁ : Fr (hideAll s.heap (news.map (·.1))) s.heap.objs.size h₁ (fun y => binds.reverse.lookup y) := ⟨hns, fun b o e => hk₁ b o (of_hideAll _ e), Nat.le_of_eq (hideAll_size _ _)⟩
  have N₁ : News (hideAll s.heap (news.map (·.1))) s.heap.objs.size h₁ news := fun p hp => ⟨hk₁ _ _ (N p hp).1, Nat.ne_of_lt (Heap.lt_size (N p hp).1), hideAll_none _ (List.mem_map_of_mem hp)⟩
  exact wpAny_mono (h _ s.heap.objs.size h₁ FG F₁ N₁ BG st (fun p hp => Heap.lt_size (N p hp).1) (Nat.le_refl _) (fun b o hb e => hideAll_get _ e hb)) (fun fl s' hl => lv _ _ hl) fun _ _ y => y

theorem callF_cells (B : Below A₀ base outer h₀) (F : Fr h₀ L s.heap m) (N : News h₀ L s.heap news) (hlim : h₀.NoLimit) (hA : A.frames = some (env :: outer)) (hf : env.frame = some L) (hke : env.scope.kind = .function)
    (ho : s.heap.get? f = some fo) (hd : fo.data = .func (fnX name qual params body scope [] dV kV doc pm an cdv ct)) (hcd : s.heap.CodeRec cdv qual) (hroom : A.depth < recursionLimit)
    (hbind : BindsTo s (fnX name qual params body scope [] dV kV doc pm an cdv ct) args binds)
    (hkind : ∀ n, ∀ x ∈ binds, scope.names.lookup x.1 = some .local ∨ (scope.names.lookup x.1 = some .cell ∧ ((cellsFrom n scope.names []).lookup x.1).isSome = true))
    (hnd : ((cellsFrom 0 scope.names []).map (·.1)).Nodup)
    (h : ∀ g L' h₁ tk cells, Fr h₀ L g m → Fr g L' h₁ (bindL (envOfC qual scope L' f cdv).kindOf binds fun _ => none) → News g L' h₁ (cells ++ news) →
      CellsAre (bindC (envOfC qual scope L' f cdv).kindOf binds fun _ => none) (cellsFrom (L' + 1) scope.names []) cells → Below A base (env :: outer) g → h₀.StaysIn g → (∀ p ∈ news, p.1 < L') → s.heap.objs.size ≤ L' → Kept (news.map (·.1)) s.heap g →
      wpAny (model prog w) (A.deeper (envOfC qual scope L' f cdv)) (execs body (envOfC qual scope L' f cdv))
        (fun fl s' => LeaveK h₀ L m g (fun r s' => Kept (news.map (·.1)) s.heap s'.heap → R r s') (match fl with | .ret v => v | _ => .none) s')
        (fun e s' => wpAny (model prog w) (A.deeper (envOfC qual scope L' f cdv)) (leaving (envOfC qual scope L' f cdv) e) (fun _ s'' => R (.error e) s'') (fun e' s'' => R (.error e') s'') s')
        { s with heap := h₁, toks := tk })
    (hco : scope.isCoroutine = false := by rfl) (hgen : scope.isGenerator = false := by rfl) (hk : scope.kind = .function := by rfl) : codeAny (model prog w) A (.call (.ref f) args) R s := by
  obtain ⟨FG, BG, st, lv⟩ := groundF (R := R) B F N hA hf hke
  refine codeAny_call_function hroom ho hd hco hgen rfl hcd (hbind _ _ _ _ ?_)
  refine wpAny_newFunctionEnv_cells hk (hkind _) fun env' he s' x => ?_
  subst he
  refine ⟨(hlim.keeps F.keep).keeps x.toInCall.keep, codeAny_func ?_⟩
  obtain ⟨h₁, tk, rfl, _⟩ := x.done
  have hk₁ := x.toInCall.keep
  obtain ⟨cells, NC, Y⟩ := Cl.news (h₀ := s.heap) (Nat.le_refl _) fun n c hm => ⟨x.cell n c (lookup_of_mem_nodup (cellsFrom_names scope.names 0 (s.heap.objs.size + 1) [] [] rfl ▸ hnd) hm), x.above n c hm⟩
  have F₁ : Fr (hideAll s.heap (news.map (·.1))) s.heap.objs.size h₁ _ := ⟨x.toInCall.ns, fun b o e => hk₁ b o (of_hideAll _ e), Nat.le_of_eq (hideAll_size _ _)⟩
  refine wpAny_mono (h _ s.heap.objs.size h₁ tk cells FG F₁ (fun p hp => ?_) Y BG st (fun p hp => Heap.lt_size (N p hp).1) (Nat.le_refl _) (fun b o hb e => hideAll_get _ e hb)) (fun fl s' hl => lv _ _ hl) fun _ _ y => y
  rcases List.mem_append.mp hp with hp | hp
  · refine ⟨(NC p hp).1, (NC p hp).2.1, ?_⟩
    cases q : (hideAll s.heap (news.map (·.1))).get? p.1 with
    | none => rfl
    | some o => have := of_hideAll _ q; rw [(NC p hp).2.2] at this; cases this
  · exact ⟨hk₁ _ _ (N p hp).1, Nat.ne_of_lt (Heap.lt_size (N p hp).1), hideAll_none _ (List.mem_map_of_mem hp)⟩
end

section
variable {prog : Program} {w : World} {A A₀ : Around} {s : Shared} {K : Frag} {L : Addr} {h₀ base : Heap} {m mg mb : Str → Option Value} {news : List (Addr × Obj)} {p : Program} {loose : List Str} {mean : ExcName → Option Value}
  {env : Env} {outer : List Env} {R : Result → Shared → Prop} {name qual : Str} {params : Arguments} {body : List Stmt} {scope : Scope} {dV kV doc pm cdv ct oc : Value} {an od : Option Addr} {osl : Array (Option Value)} {f : Addr} {args : Args} {binds : List (Str × Value)}

theorem enterF (B : Below A₀ base outer h₀) (F : Fr h₀ L s.heap m) (X₀ : K.In h₀) (N : News h₀ L s.heap news) (T : Top p loose mean mg mb h₀) (hA : A.frames = some (env :: outer)) (hf : env.frame = some L) (hke : env.scope.kind = .function)
    (ho : K.lookup f = some ⟨oc, od, .func (fnOf name qual params body scope dV kV doc pm an cdv ct), osl⟩) (hcd : codeIn K cdv qual = true) (hroom : A.depth < recursionLimit)
    (hbind : BindsTo s (fnOf name qual params body scope dV kV doc pm an cdv ct) args binds) (hloc : ∀ y ∈ binds, scope.names.lookup y.1 = some .local)
    (h : ∀ g L' h₁, Fr h₀ L g m → Fr g L' h₁ (fun y => binds.reverse.lookup y) → News g L' h₁ news → Below A base (env :: outer) g → K.In g → Top p loose mean mg mb g → (∀ p ∈ news, p.1 < L') → s.heap.objs.size ≤ L' → h₀.StaysIn g → Kept (news.map (·.1)) s.heap g →
      wpAny (model prog w) (A.deeper (envOf qual scope L' f cdv)) (execs body (envOf qual scope L' f cdv))
        (fun fl s' => LeaveK h₀ L m g (fun r s' => Kept (news.map (·.1)) s.heap s'.heap → R r s') (match fl with | .ret v => v | _ => .none) s')
        (fun e s' => wpAny (model prog w) (A.deeper (envOf qual scope L' f cdv)) (leaving (envOf qual scope L' f cdv) e) (fun _ s'' => R (.error e) s'') (fun e' s'' => R (.error e') s'') s')
        { s with heap := h₁, toks := s.toks + binds.length })
    (hco : scope.isCoroutine = false) (hgen : scope.isGenerator = false) (hk : scope.kind = .function)
    (hcell : ∀ x ∈ scope.names, x.2 ≠ .cell) : codeAny (model prog w) A (.call (.ref f) args) R s :=
  callF_plain (cl := []) B F N T.nolimit hA hf hke ((X₀.keeps F.keep) _ _ ho) rfl (codeRec_of (X₀.keeps F.keep) hcd) hroom hbind hloc (fun g L' h₁ FG F' N' B' st l1 l2 kp => h g L' h₁ FG F' N' B' (X₀.keeps st) (T.keeps st) l1 l2 st kp) hcell hco hgen hk

theorem enterFC (B : Below A₀ base outer h₀) (F : Fr h₀ L s.heap m) (X₀ : K.In h₀) (N : News h₀ L s.heap news) (T : Top p loose mean mg mb h₀) (hA : A.frames = some (env :: outer)) (hf : env.frame = some L) (hke : env.scope.kind = .function)
    (ho : K.lookup f = some ⟨oc, od, .func (fnOf name qual params body scope dV kV doc pm an cdv ct), osl⟩) (hcd : codeIn K cdv qual = true) (hroom : A.depth < recursionLimit)
    (hbind : BindsTo s (fnOf name qual params body scope dV kV doc pm an cdv ct) args binds) (hkind : (binds.all fun y => scope.names.lookup y.1 == some .local || scope.names.lookup y.1 == some .cell) = true)
    (hnd : ((cellsFrom 0 scope.names []).map (·.1)).Nodup)
    (h : ∀ g L' h₁ tk cells, Fr h₀ L g m → Fr g L' h₁ (bindL (envOfC qual scope L' f cdv).kindOf binds fun _ => none) → News g L' h₁ (cells ++ news) →
      CellsAre (bindC (envOfC qual scope L' f cdv).kindOf binds fun _ => none) (cellsFrom (L' + 1) scope.names []) cells → Below A base (env :: outer) g → K.In g → Top p loose mean mg mb g → (∀ p ∈ news, p.1 < L') → s.heap.objs.size ≤ L' → h₀.StaysIn g → Kept (news.map (·.1)) s.heap g →
      wpAny (model prog w) (A.deeper (envOfC qual scope L' f cdv)) (execs body (envOfC qual scope L' f cdv))
        (fun fl s' => LeaveK h₀ L m g (fun r s' => Kept (news.map (·.1)) s.heap s'.heap → R r s') (match fl with | .ret v => v | _ => .none) s')
        (fun e s' => wpAny (model prog w) (A.deeper (envOfC qual scope L' f cdv)) (leaving (envOfC qual scope L' f cdv) e) (fun _ s'' => R (.error e) s'') (fun e' s'' => R (.error e') s'') s')
        { s with heap := h₁, toks := tk })
    (hco : scope.isCoroutine = false) (hgen : scope.isGenerator = false) (hk : scope.kind = .function) : codeAny (model prog w) A (.call (.ref f) args) R s :=
  callF_cells B F N T.nolimit hA hf hke ((X₀.keeps F.keep) _ _ ho) rfl (codeRec_of (X₀.keeps F.keep) hcd) hroom hbind (kindsX hkind) hnd (fun g L' h₁ tk cells FG F' N' Y B' st l l2 kp => h g L' h₁ tk cells FG F' N' Y B' (X₀.keeps st) (T.keeps st) l l2 st kp) hco hgen hk

theorem enterFN {cl : List (Str × Addr)} {ctv : Value} {c' : Addr} {pmv : Value}
    (B : Below A₀ base outer h₀) (F : Fr h₀ L s.heap m) (X₀ : K.In h₀) (N : News h₀ L s.heap news) (T : Top p loose mean mg mb h₀) (hA : A.frames = some (env :: outer)) (hf : env.frame = some L) (hke : env.scope.kind = .function)
    (ho : s.heap.get? f = some (fnMade name qual params body scope cl doc pmv c' ctv)) (hcd : s.heap.CodeRec (.ref c') qual) (hroom : A.depth < recursionLimit)
    (hbind : BindsTo s (fnX name qual params body scope cl .none .none doc pmv none (.ref c') ctv) args binds) (hloc : ∀ y ∈ binds, scope.names.lookup y.1 = some .local)
    (h : ∀ g L' h₁, Fr h₀ L g m → Fr g L' h₁ (fun y => binds.reverse.lookup y) → News g L' h₁ news → Below A base (env :: outer) g → K.In g → Top p loose mean mg mb g → (∀ p ∈ news, p.1 < L') → s.heap.objs.size ≤ L' → h₀.StaysIn g → Kept (news.map (·.1)) s.heap g →
      wpAny (model prog w) (A.deeper (envX qual scope L' f (.ref c') cl)) (execs body (envX qual scope L' f (.ref c') cl))
        (fun fl s' => LeaveK h₀ L m g (fun r s' => Kept (news.map (·.1)) s.heap s'.heap → R r s') (match fl with | .ret v => v | _ => .none) s')
        (fun e s' => wpAny (model prog w) (A.deeper (envX qual scope L' f (.ref c') cl)) (leaving (envX qual scope L' f (.ref c') cl) e) (fun _ s'' => R (.error e) s'') (fun e' s'' => R (.error e') s'') s')
        { s with heap := h₁, toks := s.toks + binds.length })
    (hco : scope.isCoroutine = false) (hgen : scope.isGenerator = false) (hk : scope.kind = .function)
    (hcell : ∀ x ∈ scope.names, x.2 ≠ .cell) : codeAny (model prog w) A (.call (.ref f) args) R s :=
  callF_plain (cl := cl) B F N T.nolimit hA hf hke ho rfl hcd hroom hbind hloc (fun g L' h₁ FG F' N' B' st l1 l2 kp => h g L' h₁ FG F' N' B' (X₀.keeps st) (T.keeps st) l1 l2 st kp) hcell hco hgen hk
end

section
variable {h₀ h h' : Heap} {L q : Addr} {m : Str → Option Value} {news nw nw' : List (Addr × Obj)} {o : Obj}
/-- a fresh object above all that stood; all that stood is kept -/
theorem news_ext (F : Fr h₀ L h m) (N : News h₀ L h news) (K : Kept [] h h') (hq : h'.get? q = some o) (hs : h.objs.size ≤ q) : News h₀ L h' ((q, o) :: news) ∧ (∀ p ∈ news, p.1 < q) ∧ L < q := by
  have hL : L < q := Nat.lt_of_lt_of_le F.ns.lt hs
  refine ⟨fun p hp => ?_, fun p hp => Nat.lt_of_lt_of_le (Heap.lt_size (N p hp).1) hs, hL⟩
  rcases List.mem_cons.mp hp with rfl | hp
  · exact ⟨hq, Nat.ne_of_gt hL, Heap.get?_none_of_le (Nat.le_trans F.above (Nat.le_of_lt hL))⟩
  · exact ⟨K _ _ List.not_mem_nil (N p hp).1, (N p hp).2⟩
theorem news_same (N : News h₀ L h news) (K : Kept [] h h') : News h₀ L h' news := fun p hp => ⟨K _ _ List.not_mem_nil (N p hp).1, (N p hp).2⟩
/-- what a part of the ledger that came back unchanged leaves kept -/
theorem kept_of (K : Kept (nw.map (·.1)) h h') (N : News h₀ L h nw) (N' : News h₀ L h' nw) : Kept [] h h' := fun b o _ e => by
  by_cases hb : b ∈ nw.map (·.1)
  · obtain ⟨p, hp, rfl⟩ := List.mem_map.mp hb
    have := (N p hp).1
    rw [e] at this
    rw [Option.some.inj this]
    exact (N' p hp).1
  · exact K b o hb e
end
end Mine

namespace Mine
local macro_rules | `(tactic| walk_at "call builtin:divmod") => `(tactic| (k_here; (with_reducible show wpAny _ _ (call (Value.builtin "divmod") [Value.int _ _, Value.int _ _]) _ _ _); refine' divmod_N (by k_asm) (by k_asm) (by omega) ?_ (Or.inl (by assumption)); intro hq' hF' hN'))
set_option maxHeartbeats 8000000 in
theorem c_div2n1n (w : World) (mean : ExcName → Option Value) (mg mb : Str → Option Value)
  (dp un : Nat) (gd : Option (List Code)) (cn : Str) (cs : Scope) (a : Addr) (ccd : Value) (cl : List (Str × Addr)) (outer : List Env) (A₀ : Around) (base h₀ : Heap) (L : Addr) (m : Str → Option Value) (news : List (Addr × Obj)) (s : Shared)
  (Q E : Value → Shared → Prop) (x y n : Int) (tx ty tn : Tok)
  (B : Below A₀ base outer h₀) (F : Fr h₀ L s.heap m) (X : (hd.heap_39 w.params).In h₀) (N : News h₀ L s.heap news)
  (T : Top topProg looseX mean mg mb h₀) (hk : cs.kind = .function) (hdp : dp + 1 < recursionLimit) (hun : un + 8 < cLine)
  (hx : 0 ≤ x) (hy : 0 < y) (hn : 0 ≤ n) (hb : x < 2 ^ 200) (hyb : y < 2 ^ 100)
  (hret : ∀ q t1 t2 h' tk', Fr h₀ L h' m → News h₀ L h' ((q, tup2 (.int (x / y) t1) (.int (x % y) t2)) :: news) → (∀ p ∈ news, p.1 < q) → L < q → Q (.ref q) { s with heap := h', toks := tk' }) :
  wpAny (model PySem.Challenge.rw_id0006_01.row.prog w) (ktrTop dp un gd cn cs L a ccd cl outer) (call (.ref 21) [.int x tx, .int y ty, .int n tn]) Q E s := by
  have hbits := bits_le hx hb
  have hnp : Builtin.divisionGoesByPylong x y = false := noPy (by omega) (by omega)
  have e1 : x.fdiv y = x / y := Int.fdiv_eq_ediv_of_nonneg _ (by omega)
  have e2 : x.fmod y = x % y := Int.fmod_eq_emod_of_nonneg _ (by omega)
  revert X; k_fill; intro X
  refine wpAny_call ?_
  k_dflt (refine' enterF (news := []) ?k1 ?k2 ?k3 ?k4 ?k5 ?kA ?kF ?kK ?k6 ?k7 ?k8 ?k9 ?kB ?_ ?c2 ?c3 ?c4 ?c5; (case kA => exact rfl); (case kF => exact rfl); (case kK => assumption); (case k1 => k_asm); (case k2 => k_asm); (case k3 => k_asm); (case k4 => exact fun _ h => nomatch h); (case k5 => k_asm); (case k6 => k_is); (case k7 => k_is); (case k8 => ktr_room); (case k9 => exact BindsTo.of_eq rfl); (case c5 => decide); (case kB => exact locs rfl); (case c2 => exact rfl); (case c3 => exact rfl); (case c4 => exact rfl); k_whole; intro g' L' h' FG' F' N' B' X' T' l1 l2 st kp; (try dsimp only); (try k_lift B'); (try k_fold))
  k_steps
  rename_i kF kN _ _ kpt
  have z := news_ext F N (q := h'.objs.size) kpt (kN _ (.head _)).1 (Nat.le_trans l2 (Nat.le_of_lt F'.ns.lt))
  rw [e1, e2] at z
  exact hret _ _ _ _ _ kF z.1 z.2.1 z.2.2
end Mine

namespace Mine
noncomputable def stOf (i : Nat) : Stmt := PySem.Challenge.pw_id0006_01.main.body.getD i (.Pass ⟨0, 0, 0, 0⟩)
def stBody : Stmt → List Stmt
  | .FunctionDef _ _ b _ _ _ _ _ _ _ => b
  | _ => []
def stScope : Stmt → Scope
  | .FunctionDef _ _ _ _ _ _ sc _ _ _ => sc
  | _ => default
def stParams : Stmt → Arguments
  | .FunctionDef _ p _ _ _ _ _ _ _ _ => p
  | _ => default
noncomputable def in1 : Stmt := (stBody (stOf 4)).getD 1 (.Pass ⟨0, 0, 0, 0⟩)
noncomputable def in2 : Stmt := (stBody (stOf 5)).getD 0 (.Pass ⟨0, 0, 0, 0⟩)
noncomputable def in1B : List Stmt := stBody in1
noncomputable def in1S : Scope := stScope in1
noncomputable def in1P : Arguments := stParams in1
noncomputable def in2B : List Stmt := stBody in2
noncomputable def in2S : Scope := stScope in2
noncomputable def in2P : Arguments := stParams in2

section
variable {h₀ h h' : Heap} {L D : Addr} {news nwr : List (Addr × Obj)} {o o' : Obj} {g : Obj → List (Addr × Obj)}
theorem upd_mem (U : UpdF D o news g) : (D, o) ∈ news := by
  obtain ⟨own, rest, rfl, _, _, _⟩ := U.split
  exact List.mem_append_right _ (.head _)
theorem upd_back (U : UpdF D o news g) (N : News h₀ L h news) (hsub : ∀ p ∈ nwr, p ∈ news) (kN : News h₀ L h' ((D, o') :: nwr)) (K : Kept (D :: nwr.map (·.1)) h h') : News h₀ L h' (g o') := by
  obtain ⟨own, rest, rfl, hg, h1, h2⟩ := U.split
  have old : ∀ p ∈ own ++ (D, o) :: rest, p.1 ≠ D → h'.get? p.1 = some p.2 := fun p hp hne => by
    by_cases hb : p.1 ∈ nwr.map (·.1)
    · obtain ⟨q, hq, e⟩ := List.mem_map.mp hb
      have e1 := (N q (hsub q hq)).1
      rw [e, (N p hp).1] at e1
      rw [Option.some.inj e1, ← e]
      exact (kN q (.tail _ hq)).1
    · refine K _ _ (fun hm => ?_) (N p hp).1
      rcases List.mem_cons.mp hm with e | hm
      · exact hne e
      · exact hb hm
  rw [hg]
  intro p hp
  rcases List.mem_append.mp hp with hp | hp
  · have hm : p ∈ own ++ (D, o) :: rest := List.mem_append_left _ hp
    exact ⟨old p hm (h1 p hp), (N p hm).2⟩
  · rcases List.mem_cons.mp hp with rfl | hp
    · exact ⟨(kN _ (.head _)).1, (N (D, o) (List.mem_append_right _ (.head _))).2⟩
    · have hm : p ∈ own ++ (D, o) :: rest := List.mem_append_right _ (.tail _ hp)
      exact ⟨old p hm (h2 p hp), (N p hm).2⟩
end
end Mine

namespace Mine
theorem nat_and_high (x s : Nat) : x &&& (x / 2 ^ s * 2 ^ s) = x / 2 ^ s * 2 ^ s := by
  apply Nat.eq_of_testBit_eq
  intro i
  rw [Nat.testBit_and, Nat.testBit_mul_two_pow, Nat.testBit_div_two_pow]
  by_cases h : s ≤ i
  · have : s + (i - s) = i := by omega
    have h2 : i - s + s = i := by omega
    simp [h, h2]
  · simp [h]
theorem xor_low {x : Int} (hx : 0 ≤ x) (s : Nat) : Builtin.bitXor x (x.fdiv (2 ^ s) * 2 ^ s) = x % 2 ^ s := by
  have hp : (0 : Int) < 2 ^ s := Int.pow_pos (by decide)
  rw [Int.fdiv_eq_ediv_of_nonneg _ (Int.le_of_lt hp)]
  have hy : 0 ≤ x / 2 ^ s * 2 ^ s := Int.mul_nonneg (Int.ediv_nonneg hx (Int.le_of_lt hp)) (Int.le_of_lt hp)
  have ht : (x / 2 ^ s * 2 ^ s).toNat = x.toNat / 2 ^ s * 2 ^ s := by
    obtain ⟨n, rfl⟩ := Int.eq_ofNat_of_zero_le hx
    have : ((n : Int) / 2 ^ s * 2 ^ s) = ((n / 2 ^ s * 2 ^ s : Nat) : Int) := by push_cast; rfl
    rw [this, Int.toNat_natCast, Int.toNat_natCast]
  have ha : Builtin.bitAnd x (x / 2 ^ s * 2 ^ s) = x / 2 ^ s * 2 ^ s := by
    rw [bitAnd_pp hx hy, ht, nat_and_high, ← ht, Int.toNat_of_nonneg hy]
  rw [bitXor_and, ha, Int.emod_def, Int.mul_comm (2 ^ s) (x / 2 ^ s)]
  omega
theorem split_facts {l r n x : Int} (hl : 0 ≤ l) (hlr : l < r) (hr : r ≤ 64) (hn0 : 0 < n) (hn : n ≤ 64) (hx : 0 ≤ x) (hx64 : x < 2 ^ 64) :
    ∃ k : Nat, (l + r).fdiv (2 ^ Int.toNat 1) = l + k ∧ (¬ l + 1 = r → 0 < k) ∧ l + k < r ∧ (((l + r).fdiv (2 ^ Int.toNat 1) - l) * n).toNat = n.toNat * k ∧ 0 ≤ ((l + r).fdiv (2 ^ Int.toNat 1) - l) * n ∧ ((l + r).fdiv (2 ^ Int.toNat 1) - l) * n ≤ 4096 ∧
      (x.fdiv (2 ^ (((l + r).fdiv (2 ^ Int.toNat 1) - l) * n).toNat)).natAbs < 2 ^ 64 := by
  have e0 : (l + r).fdiv (2 ^ Int.toNat 1) = (l + r) / 2 := Int.fdiv_eq_ediv_of_nonneg _ (by decide)
  refine ⟨((l + r) / 2 - l).toNat, ?_⟩
  have hk : (((l + r) / 2 - l).toNat : Int) = (l + r) / 2 - l := Int.toNat_of_nonneg (by omega)
  rw [e0, hk]
  have h1 : 0 ≤ (l + r) / 2 - l := by omega
  have h2 : (l + r) / 2 - l ≤ 64 := by omega
  have h3 : ((l + r) / 2 - l) * n ≤ 64 * 64 := Int.mul_le_mul h2 hn (by omega) (by decide)
  have h4 : 0 ≤ ((l + r) / 2 - l) * n := Int.mul_nonneg h1 (by omega)
  refine ⟨by omega, by omega, by omega, ?_, h4, h3, ?_⟩
  · rw [Int.toNat_mul h1 (by omega), Nat.mul_comm]
  · have hp : (0 : Int) < 2 ^ (((l + r) / 2 - l) * n).toNat := Int.pow_pos (by decide)
    rw [Int.fdiv_eq_ediv_of_nonneg _ (Int.le_of_lt hp)]
    have a1 : x / 2 ^ (((l + r) / 2 - l) * n).toNat ≤ x := Int.ediv_le_self _ hx
    have a2 : 0 ≤ x / 2 ^ (((l + r) / 2 - l) * n).toNat := Int.ediv_nonneg hx (Int.le_of_lt hp)
    generalize x / 2 ^ (((l + r) / 2 - l) * n).toNat = y at a1 a2
    omega
theorem take_join (ns A : List Int) (l k j : Nat) (h : l + k + j ≤ ns.length) (hA : A.length = k) (B : List Int) :
    (ns.take l ++ A ++ ns.drop (l + k)).take (l + k) ++ B ++ (ns.take l ++ A ++ ns.drop (l + k)).drop (l + k + j) = ns.take l ++ (A ++ B) ++ ns.drop (l + k + j) := by
  have e1 : (ns.take l ++ A).length = l + k := by rw [List.length_append, List.length_take, hA]; omega
  have e2 : (ns.take l ++ A ++ ns.drop (l + k)).take (l + k) = ns.take l ++ A := by rw [← e1]; exact List.take_left ..
  have e3 : (ns.take l ++ A ++ ns.drop (l + k)).drop (l + k + j) = ns.drop (l + k + j) := by
    rw [List.drop_append, e1]
    have : (ns.take l ++ A).drop (l + k + j) = [] := List.drop_eq_nil_of_le (by rw [e1]; omega)
    rw [this, List.nil_append, List.drop_drop]
    congr 1; omega
  rw [e2, e3]; simp only [List.append_assoc]
end Mine

namespace Mine
theorem emod_mul_div (x p q : Int) (hp : 0 < p) : x % (p * q) / p = x / p % q := by
  have h1 : x % (p * q) = x - p * q * (x / (p * q)) := Int.emod_def _ _
  have h2 : x / p % q = x / p - q * (x / p / q) := Int.emod_def _ _
  have h3 : x / (p * q) = x / p / q := (Int.ediv_ediv_of_nonneg (Int.le_of_lt hp)).symm
  rw [h1, h2, h3, Int.mul_assoc]
  have h4 : x - p * (q * (x / p / q)) = x + p * (-(q * (x / p / q))) := by rw [Int.mul_neg]; omega
  rw [h4, Int.add_mul_ediv_left _ _ (by omega)]; omega
/-- k digits of x to the base 2 ^ n, the low one first -/
def dgs (n : Nat) : Int → Nat → List Int
  | _, 0 => []
  | x, k + 1 => x % 2 ^ n :: dgs n (x / 2 ^ n) k
theorem dgs_len (n : Nat) : ∀ (k : Nat) (x : Int), (dgs n x k).length = k
  | 0, _ => rfl
  | k + 1, x => by rw [dgs, List.length_cons, dgs_len n k]
theorem dgs_split (n : Nat) : ∀ (a b : Nat) (x : Int), dgs n x (a + b) = dgs n (x % 2 ^ (n * a)) a ++ dgs n (x / 2 ^ (n * a)) b
  | 0, b, x => by simp [dgs]
  | a + 1, b, x => by
    have h1 : a + 1 + b = (a + b) + 1 := by omega
    have hpn : (0 : Int) < 2 ^ n := Int.pow_pos (by decide)
    have hp : (2 : Int) ^ (n * (a + 1)) = 2 ^ n * 2 ^ (n * a) := by rw [Nat.mul_succ, Nat.add_comm, Int.pow_add]
    have e1 : x % 2 ^ (n * (a + 1)) % 2 ^ n = x % 2 ^ n := by
      rw [hp]; exact Int.emod_emod_of_dvd _ (Int.dvd_mul_right _ _)
    have e2 : x % 2 ^ (n * (a + 1)) / 2 ^ n = x / 2 ^ n % 2 ^ (n * a) := by
      rw [hp]; exact emod_mul_div x _ _ hpn
    have e3 : x / 2 ^ (n * (a + 1)) = x / 2 ^ n / 2 ^ (n * a) := by
      rw [hp, Int.ediv_ediv_of_nonneg (Int.le_of_lt hpn)]
    rw [h1, dgs, dgs, e1, e2, e3, dgs_split n a b, List.cons_append]

noncomputable abbrev fn1 (q : Str) (kA kI kN : Addr) (doc pm : Value) (c1 : Addr) (ctv : Value) : Obj :=
  fnMade (Str.ofString "inner") q in1P in1B in1S [(Str.ofString "n", kN), (Str.ofString "inner", kI), (Str.ofString "a_digits", kA)] doc pm c1 ctv
def Inner1 (w : World) (mean : ExcName → Option Value) (mg mb : Str → Option Value) (sz : Nat) : Prop := ∀
  (dp un : Nat) (gd : Option (List Code)) (cn : Str) (cs : Scope) (a : Addr) (ccd : Value) (cl : List (Str × Addr)) (outer : List Env) (A₀ : Around) (base h₀ : Heap) (L : Addr) (m : Str → Option Value) (news : List (Addr × Obj)) (s : Shared)
  (Q E : Value → Shared → Prop) (x l r n : Int) (tx tl tr tn : Tok) (f c1 D kA kI kN : Addr) (oA oI oN oc1 : Obj) (q : Str) (doc pm ctv : Value) (vs1 : Array Value) (t1 : Tok) (vs : List Value) (ns : List Int) (e : Nat) (g : Obj → List (Addr × Obj)),
  (Below A₀ base outer h₀) → (Fr h₀ L s.heap m) → ((hd.heap_39 w.params).In h₀) → (News h₀ L s.heap news) → (Top topProg looseX mean mg mb h₀) → (CodeHd h₀ 34 30) → (cs.kind = .function) → (dp + sz < recursionLimit) → (un + 8 * sz < cLine) → ((f, fn1 q kA kI kN doc pm c1 ctv) ∈ news) → ((kA, oA) ∈ news) → (oA.data = .cell (some (.ref D))) → ((kI, oI) ∈ news) → (oI.data = .cell (some (.ref f))) → ((kN, oN) ∈ news) → (oN.data = .cell (some (.int n tn))) → ((c1, oc1) ∈ news) → (oc1.data = .fields vs1) → (vs1[1]? = some (.str q t1)) → (UpdF D (listOf vs.toArray e) news g) → (IntsAre vs ns) → (0 ≤ l) → (l < r) → (r ≤ ns.length) → (ns.length ≤ 64) → (0 < n) → (n ≤ 64) → (0 ≤ x) → (x < 2 ^ 64) → (x < 2 ^ (n.toNat * (r - l).toNat)) → ((r - l).toNat ≤ sz) → (∀ vs' h' tk', IntsAre vs' (ns.take l.toNat ++ dgs n.toNat x (r - l).toNat ++ ns.drop r.toNat) → Fr h₀ L h' m → News h₀ L h' (g (listOf vs'.toArray e)) → Q .none { s with heap := h', toks := tk' }) →
  wpAny (model PySem.Challenge.rw_id0006_01.row.prog w) (ktrTop dp un gd cn cs L a ccd cl outer) (call (.ref f) [.int x tx, .int l tl, .int r tr]) Q E s
theorem inner1_use {w : World} {mean : ExcName → Option Value} {mg mb : Str → Option Value} {sz : Nat}
  {dp un : Nat} {gd : Option (List Code)} {cn : Str} {cs : Scope} {a : Addr} {ccd : Value} {cl : List (Str × Addr)} {outer : List Env} {A₀ : Around} {base h₀ : Heap} {L : Addr} {m : Str → Option Value} {news : List (Addr × Obj)} {s : Shared}
  {Q E : Value → Shared → Prop} {x l r n : Int} {tx tl tr tn : Tok} {f c1 D kA kI kN : Addr} {oA oI oN oc1 : Obj} {q : Str} {doc pm ctv : Value} {vs1 : Array Value} {t1 : Tok} {vs : List Value} {ns : List Int} {e : Nat} {g : Obj → List (Addr × Obj)}
  (I : Inner1 w mean mg mb sz) (B : Below A₀ base outer h₀) (F : Fr h₀ L s.heap m) (X : (hd.heap_39 w.params).In h₀) (N : News h₀ L s.heap news) (T : Top topProg looseX mean mg mb h₀) (C : CodeHd h₀ 34 30) (hk : cs.kind = .function) (hdp : dp + sz < recursionLimit) (hun : un + 8 * sz < cLine) (hf : (f, fn1 q kA kI kN doc pm c1 ctv) ∈ news) (hA : (kA, oA) ∈ news) (dA : oA.data = .cell (some (.ref D))) (hI : (kI, oI) ∈ news) (dI : oI.data = .cell (some (.ref f))) (hN : (kN, oN) ∈ news) (dN : oN.data = .cell (some (.int n tn))) (hc1 : (c1, oc1) ∈ news) (do1 : oc1.data = .fields vs1) (dv1 : vs1[1]? = some (.str q t1)) (U : UpdF D (listOf vs.toArray e) news g) (hi : IntsAre vs ns) (hl : 0 ≤ l) (hlr : l < r) (hrn : r ≤ ns.length) (hn64 : ns.length ≤ 64) (hn0 : 0 < n) (hn : n ≤ 64) (hx : 0 ≤ x) (hx64 : x < 2 ^ 64) (hxb : x < 2 ^ (n.toNat * (r - l).toNat)) (hsz : (r - l).toNat ≤ sz) (hret : ∀ vs' h' tk', IntsAre vs' (ns.take l.toNat ++ dgs n.toNat x (r - l).toNat ++ ns.drop r.toNat) → Fr h₀ L h' m → News h₀ L h' (g (listOf vs'.toArray e)) → Q .none { s with heap := h', toks := tk' }) :
  wpAny (model PySem.Challenge.rw_id0006_01.row.prog w) (ktrTop dp un gd cn cs L a ccd cl outer) (call (.ref f) [.int x tx, .int l tl, .int r tr]) Q E s := I _ _ _ _ _ _ _ _ _ _ _ _ _ _ _ _ _ _ _ _ _ _ _ _ _ _ _ _ _ _ _ _ _ _ _ _ _ _ _ _ _ _ _ _ _ _ B F X N T C hk hdp hun hf hA dA hI dI hN dN hc1 do1 dv1 U hi hl hlr hrn hn64 hn0 hn hx hx64 hxb hsz hret
theorem emod_le_self_of (x p : Int) (hx : 0 ≤ x) (hp : 0 < p) : x % p ≤ x := by
  have h1 := Int.emod_add_mul_ediv x p
  have h2 : 0 ≤ p * (x / p) := Int.mul_nonneg (Int.le_of_lt hp) (Int.ediv_nonneg hx (Int.le_of_lt hp))
  omega
theorem sub5 {l : List (Addr × Obj)} {a b c d e : Addr × Obj} (ha : a ∈ l) (hb : b ∈ l) (hc : c ∈ l) (hd : d ∈ l) (he : e ∈ l) : ∀ p ∈ [a, b, c, d, e], p ∈ l := fun p hp => by
  simp only [List.mem_cons, List.not_mem_nil, or_false] at hp
  rcases hp with rfl | rfl | rfl | rfl | rfl <;> assumption
set_option maxHeartbeats 4000000 in
theorem inner_base {x l r n : Int} {vs : List Value} {ns : List Int} {tx : Tok} (hl : 0 ≤ l) (e : l + 1 = r) (hrn : r ≤ ns.length) (hx : 0 ≤ x) (hxb : x < 2 ^ (n.toNat * (r - l).toNat)) (h : IntsAre (vs.set l.toNat (.int x tx)) (ns.set l.toNat x)) :
    IntsAre (vs.set l.toNat (.int x tx)) (ns.take l.toNat ++ dgs n.toNat x (r - l).toNat ++ ns.drop r.toNat) := by
  have e1 : (r - l).toNat = 1 := by omega
  have e2 : r.toNat = l.toNat + 1 := by omega
  rw [e1, Nat.mul_one] at hxb
  have e3 : dgs n.toNat x 1 = [x] := by rw [dgs, dgs, Int.emod_eq_of_lt hx hxb]
  rw [e1, e2, e3]
  have e4 : ns.set l.toNat x = ns.take l.toNat ++ [x] ++ ns.drop (l.toNat + 1) := by
    rw [List.set_eq_take_append_cons_drop, if_pos (by omega), List.append_assoc]; rfl
  rw [← e4]; exact h
local macro_rules | `(tactic| walk_at "eval Name") => `(tactic| (k_here; kc_free; k_dflt (refine' nameX_F ?N ?c ?m ?d ?_ ?a ?b; (case a => rfl); (case b => rfl); (case N => k_asm); (case c => rfl); (case m => k_mem); (case d => k_asm); k_whole)))
set_option maxHeartbeats 4000000 in
theorem c_inner1 (w : World) (mean : ExcName → Option Value) (mg mb : Str → Option Value) (sz : Nat) (ih : ∀ k, k < sz → Inner1 w mean mg mb k) : Inner1 w mean mg mb sz := by
  unfold Inner1
  intro dp un gd cn cs a ccd cl outer A₀ base h₀ L m news s Q E x l r n tx tl tr tn f c1 D kA kI kN oA oI oN oc1 q doc pm ctv vs1 t1 vs ns e g B F X N T C hk hdp hun hf hA dA hI dI hN dN hc1 do1 dv1 U hi hl hlr hrn hn64 hn0 hn hx hx64 hxb hsz hret
  unfold fn1 at hf
  generalize hB : in1B = ib at hf
  generalize hS : in1S = isc at hf
  generalize hP : in1P = ip at hf
  conv at hB => lhs; whnf
  conv at hS => lhs; whnf
  conv at hP => lhs; whnf
  subst hB hS hP
  have hD := upd_mem U
  have ne1 : @Ne Nat D f := fun q => by subst q; exact absurd (congrArg (fun o : Obj => o.cls) (Option.some.inj ((N _ hD).1.symm.trans (N _ hf).1))) (show (Value.type "list") ≠ .type "function" by decide)
  have ne2 : @Ne Nat D kA := fun q => by subst q; have z := Option.some.inj ((N _ hD).1.symm.trans (N _ hA).1); simp only at z; rw [← z] at dA; cases dA
  have ne3 : @Ne Nat D kI := fun q => by subst q; have z := Option.some.inj ((N _ hD).1.symm.trans (N _ hI).1); simp only at z; rw [← z] at dI; cases dI
  have ne4 : @Ne Nat D kN := fun q => by subst q; have z := Option.some.inj ((N _ hD).1.symm.trans (N _ hN).1); simp only at z; rw [← z] at dN; cases dN
  have ne5 : @Ne Nat D c1 := fun q => by subst q; have z := Option.some.inj ((N _ hD).1.symm.trans (N _ hc1).1); simp only at z; rw [← z] at do1; cases do1
  revert X; k_fill; intro X
  refine wpAny_call ?_
  have hsub := sub5 hf hA hI hN hc1
  have N1 : News h₀ L s.heap ((D, listOf vs.toArray e) :: _) := fun p hp => (List.mem_cons.mp hp).elim (fun q => q ▸ N _ hD) fun q => N p (hsub p q)
  k_dflt (refine' enterFN (news := [(D, listOf vs.toArray e), (f, _), (kA, oA), (kI, oI), (kN, oN), (c1, oc1)]) ?k1 ?k2 ?k3 ?k4 ?k5 ?kA ?kF ?kK ?k6 ?k7 ?k8 ?k9 ?kB ?_ ?c2 ?c3 ?c4 ?c5; (case kA => exact rfl); (case kF => exact rfl); (case kK => assumption); (case k1 => k_asm); (case k2 => k_asm); (case k3 => k_asm); (case k4 => exact N1); (case k5 => k_asm); (case k6 => exact (N _ hf).1); (case k7 => exact codeRec_news N hc1 do1 dv1); (case k8 => ktr_room); (case k9 => exact BindsTo.of_eq rfl); (case c5 => decide); (case kB => exact locs rfl); (case c2 => exact rfl); (case c3 => exact rfl); (case c4 => exact rfl); k_whole; intro g' L' h' FG' F' N' B' X' T' l1 l2 st kp; (try dsimp only); (try k_lift B'); (try k_fold))
  have C' := C.keeps st
  obtain ⟨k, hk1, hk2, hk3, hk4, hk5, hk6, hk7⟩ := split_facts hl hlr (by omega) hn0 hn hx hx64
  k_steps
  · rename_i kF kN _ _ kpt
    have hlast' : l + 1 = r := by assumption
    exact hret _ _ _ (inner_base hl hlast' hrn hx hxb (by assumption)) kF (upd_back U N hsub kN kpt)
  · have hlast : ¬ l + 1 = r := by assumption
    have hkp := hk2 hlast
    have hlow : Builtin.bitXor x (x.fdiv (2 ^ (((l + r).fdiv (2 ^ Int.toNat 1) - l) * n).toNat) * 2 ^ (((l + r).fdiv (2 ^ Int.toNat 1) - l) * n).toNat) = x % 2 ^ (n.toNat * k) := by rw [hk4]; exact xor_low hx _
    have hup : x.fdiv (2 ^ (((l + r).fdiv (2 ^ Int.toNat 1) - l) * n).toNat) = x / 2 ^ (n.toNat * k) := by rw [hk4]; exact Int.fdiv_eq_ediv_of_nonneg _ (Int.le_of_lt (Int.pow_pos (by decide)))
    have hpp : (0 : Int) < 2 ^ (n.toNat * k) := Int.pow_pos (by decide)
    have e5 : (l + (k : Int) - l).toNat = k := by omega
    have e6 : (l + (k : Int)).toNat = l.toNat + k := by omega
    obtain ⟨j, hj⟩ : ∃ j : Nat, r = l + k + j := ⟨(r - l - k).toNat, by omega⟩
    have e7 : (r - (l + (k : Int))).toNat = j := by omega
    have e8 : (r - l).toNat = k + j := by omega
    have e9 : r.toNat = l.toNat + k + j := by omega
    have x0 : 0 ≤ x % 2 ^ (n.toNat * k) := Int.emod_nonneg _ (by omega)
    have x1 : x % 2 ^ (n.toNat * k) < 2 ^ (n.toNat * k) := Int.emod_lt_of_pos _ hpp
    have x2 : x % 2 ^ (n.toNat * k) ≤ x := emod_le_self_of x _ hx hpp
    have x3 : 0 ≤ x / 2 ^ (n.toNat * k) := Int.ediv_nonneg hx (Int.le_of_lt hpp)
    have x4 : x / 2 ^ (n.toNat * k) ≤ x := Int.ediv_le_self _ hx
    have x5 : x / 2 ^ (n.toNat * k) < 2 ^ (n.toNat * j) := by
      rw [e8, Nat.mul_add, Int.pow_add] at hxb
      exact Int.ediv_lt_of_lt_mul hpp (by rw [Int.mul_comm]; exact hxb)
    rw [hlow, hk1]
    k_dflt (refine' inner1_use (ih k (by omega)) (by k_asm) (by k_asm) (by k_asm) (by k_asm) (by k_asm) C' rfl (by ktr_room) (by ktr_units) (by k_mem) (by k_mem) dA (by k_mem) dI (by k_mem) dN (by k_mem) do1 dv1 (by k_updF) hi hl (by omega) (by omega) hn64 hn0 hn x0 (by omega) (by rw [e5]; exact x1) (by omega) ?_)
    intro vs2 h2 tk2 hi2 F2 N2
    (try dsimp only at N2)
    rw [e5, e6] at hi2
    k_steps
    rw [hup, hk1]
    have e10 : (l.toNat + k) + j ≤ ns.length := by omega
    have e11 : (ns.take l.toNat ++ dgs n.toNat (x % 2 ^ (n.toNat * k)) k ++ ns.drop (l.toNat + k)).length = ns.length := by
      rw [List.length_append, List.length_append, List.length_take, List.length_drop, dgs_len]; omega
    k_dflt (refine' inner1_use (ih j (by omega)) (by k_asm) (by k_asm) (by k_asm) (by k_asm) (by k_asm) C' rfl (by ktr_room) (by ktr_units) (by k_mem) (by k_mem) dA (by k_mem) dI (by k_mem) dN (by k_mem) do1 dv1 (by k_updF) hi2 (by omega) (by omega) (by omega) (by omega) hn0 hn x3 (by omega) (by rw [e7]; exact x5) (by omega) ?_)
    intro vs3 h3 tk3 hi3 F3 N3
    (try dsimp only at N3)
    rw [e7, e6, e9, take_join ns _ _ _ _ e10 (dgs_len _ _ _), ← dgs_split] at hi3
    k_steps
    rename_i kF kN _ _ kpt
    rw [e8, e9] at hret
    exact hret _ _ _ hi3 kF (upd_back U N hsub kN kpt)
theorem inner1_all (w : World) (mean : ExcName → Option Value) (mg mb : Str → Option Value) (sz : Nat) : Inner1 w mean mg mb sz := by
  induction sz using Nat.strongRecOn with
  | _ sz ih => exact c_inner1 w mean mg mb sz ih
end Mine

namespace Mine
theorem lt_bits {x : Int} (h0 : 0 ≤ x) : x < 2 ^ (Builtin.Int.intBits x) := by
  unfold Builtin.Int.intBits
  by_cases z : x = 0
  · subst z; decide
  · have hz : (x == 0) = false := by simpa using z
    rw [hz]
    simp only [Bool.false_eq_true, if_false]
    have h1 : x.natAbs < 2 ^ (x.natAbs.log2 + 1) := Nat.lt_log2_self
    have e : ((x.natAbs : Int)) = x := by omega
    have h2 : ((x.natAbs : Int)) < ((2 ^ (x.natAbs.log2 + 1) : Nat) : Int) := by exact_mod_cast h1
    rw [e] at h2; push_cast at h2; exact h2
theorem bits_pos {x : Int} (h : x ≠ 0) : 0 < Builtin.Int.intBits x := by
  unfold Builtin.Int.intBits
  have hz : (x == 0) = false := by simpa using h
  rw [hz]; simp
/-- how many digits -/
def dlen (x n : Int) : Nat := (((Builtin.Int.intBits x : Int) + n - 1).fdiv n).toNat
theorem len_facts {x n : Int} (hx : 0 ≤ x) (hb : x < 2 ^ 64) (hn : 0 < n) (hnb : n ≤ 64) :
    0 ≤ ((Builtin.Int.intBits x : Int) + n - 1).fdiv n ∧ ((Builtin.Int.intBits x : Int) + n - 1).fdiv n ≤ 64 ∧ (x ≠ 0 → 0 < dlen x n) ∧ (x = 0 → dlen x n = 0) ∧ x < 2 ^ (n.toNat * dlen x n) := by
  have e0 : ((Builtin.Int.intBits x : Int) + n - 1).fdiv n = ((Builtin.Int.intBits x : Int) + n - 1) / n := Int.fdiv_eq_ediv_of_nonneg _ (by omega)
  unfold dlen
  rw [e0]
  have hbits := bits_le hx hb
  generalize hk : ((Builtin.Int.intBits x : Int) + n - 1) / n = k
  have hlo : 0 ≤ k := by rw [← hk]; exact Int.ediv_nonneg (by omega) (by omega)
  have hm := Int.emod_add_mul_ediv ((Builtin.Int.intBits x : Int) + n - 1) n
  have hm0 := Int.emod_nonneg ((Builtin.Int.intBits x : Int) + n - 1) (show n ≠ 0 by omega)
  have hm1 := Int.emod_lt_of_pos ((Builtin.Int.intBits x : Int) + n - 1) hn
  rw [hk] at hm
  have hge : (Builtin.Int.intBits x : Int) ≤ n * k := by omega
  have hle : k ≤ 64 := by
    rcases Int.lt_or_le 64 k with h | h
    · exfalso
      have h1 : n * 65 ≤ n * k := Int.mul_le_mul_of_nonneg_left (by omega) (by omega)
      omega
    · exact h
  refine ⟨hlo, hle, fun h => ?_, fun h => ?_, ?_⟩
  · have := bits_pos h
    rcases Int.lt_or_le 0 k with h1 | h1
    · omega
    · have : k = 0 := by omega
      rw [this] at hge; omega
  · subst h
    have hb0 : Builtin.Int.intBits 0 = 0 := by decide
    rw [hb0] at hk
    have : ((0 : Nat) : Int) + n - 1 = n - 1 := by omega
    rw [this, Int.ediv_eq_zero_of_lt (by omega) (by omega)] at hk
    omega
  · refine Int.lt_of_lt_of_le (lt_bits hx) ?_
    have h1 : Builtin.Int.intBits x ≤ n.toNat * k.toNat := by
      have e : ((n.toNat * k.toNat : Nat) : Int) = n * k := by rw [Int.natCast_mul, Int.toNat_of_nonneg (by omega), Int.toNat_of_nonneg hlo]
      omega
    have h2 : (2 : Nat) ^ (Builtin.Int.intBits x) ≤ 2 ^ (n.toNat * k.toNat) := Nat.pow_le_pow_right (by decide) h1
    exact_mod_cast h2
theorem sub2 {l : List (Addr × Obj)} {a b : Addr × Obj} (ha : a ∈ l) (hb : b ∈ l) : ∀ p ∈ [a, b], p ∈ l := fun p hp => by
  simp only [List.mem_cons, List.not_mem_nil, or_false] at hp
  rcases hp with rfl | rfl <;> assumption
theorem flat_rep : ∀ k : Nat, (List.replicate k [(0 : Int)]).flatten = List.replicate k 0
  | 0 => rfl
  | k + 1 => by rw [List.replicate_succ, List.flatten_cons, flat_rep k, List.replicate_succ]; rfl
abbrev q1 : Str := Str.ofString "_int2digits" ++ Str.ofString ".<locals>." ++ Str.ofString "inner"
abbrev T30 (c1 : Addr) : Obj := tabObj #[rawInt 32, rawInt 4, .ref c1]
set_option maxHeartbeats 8000000 in
theorem c_i2d (w : World) (mean : ExcName → Option Value) (mg mb : Str → Option Value)
  (dp un : Nat) (gd : Option (List Code)) (cn : Str) (cs : Scope) (a : Addr) (ccd : Value) (cl : List (Str × Addr)) (outer : List Env) (A₀ : Around) (base h₀ : Heap) (L : Addr) (m : Str → Option Value) (news : List (Addr × Obj)) (s : Shared)
  (Q E : Value → Shared → Prop) (x n : Int) (tx tn : Tok) (c1 : Addr) (oc1 : Obj) (vs1 : Array Value) (t1 : Tok)
  (B : Below A₀ base outer h₀) (F : Fr h₀ L s.heap m) (X : (hd.heap_39 w.params).In h₀) (N : News h₀ L s.heap news)
  (T : Top topProg looseX mean mg mb h₀) (hk : cs.kind = .function) (hdp : dp + 80 < recursionLimit) (hun : un + 800 < cLine)
  (C34 : CodeHd h₀ 34 30) (h30 : (30, T30 c1) ∈ news) (hc1 : (c1, oc1) ∈ news) (ho1 : oc1.data = .fields vs1) (hv1 : vs1[1]? = some (.str q1 t1)) (hlt : @LT.lt Nat _ 30 c1)
  (hx : 0 ≤ x) (hn : 0 < n) (hb : x < 2 ^ 64) (hnb : n ≤ 64)
  (hret : ∀ q vs' h' tk', IntsAre vs' (dgs n.toNat x (dlen x n)) → Fr h₀ L h' m → News h₀ L h' ((q, listOf vs'.toArray 0) :: news) → (∀ p ∈ news, p.1 < q) → L < q → Q (.ref q) { s with heap := h', toks := tk' }) :
  wpAny (model PySem.Challenge.rw_id0006_01.row.prog w) (ktrTop dp un gd cn cs L a ccd cl outer) (call (.ref 35) [.int x tx, .int n tn]) Q E s := by
  have hbits := bits_le hx hb
  obtain ⟨hq0, hq1, hq2, hq3, hq4⟩ := len_facts hx hb hn hnb
  have hdl : ((Builtin.Int.intBits x : Int) + n - 1).fdiv n = (dlen x n : Int) := (Int.toNat_of_nonneg hq0).symm
  have Ns : News h₀ L s.heap [(30, T30 c1), (c1, oc1)] := fun p hp => N p (sub2 h30 hc1 p hp)
  revert X; k_fill; intro X
  refine wpAny_call ?_
  k_dflt (refine' enterFC (news := [(30, T30 c1), (c1, oc1)]) ?k1 ?k2 ?k3 ?k4 ?k5 ?kA ?kF ?kK ?k6 ?k7 ?k8 ?k9 ?kB ?kD ?_ ?c2 ?c3 ?c4; (case kA => exact rfl); (case kF => exact rfl); (case kK => assumption); (case k1 => k_asm); (case k2 => k_asm); (case k3 => k_asm); (case k4 => exact Ns); (case k5 => k_asm); (case k6 => k_is); (case k7 => k_is); (case k8 => ktr_room); (case k9 => exact BindsTo.of_eq rfl); (case kB => exact rfl); (case kD => decide +kernel); (case c2 => exact rfl); (case c3 => exact rfl); (case c4 => exact rfl); k_whole; intro g' L' h' tk' cells' FG' F' N' Y' B' X' T' l1 l2 st kp; (try k_lt l1); k_cells Y'; (try simp only [List.cons_append, List.nil_append] at N'); (try dsimp only); (try k_lift B'); (try k_fold))
  have C34' := C34.keeps st
  k_steps
  · rename (List.length _ = _) => e1
    rename IntsAre _ _ => i1
    have en := e1
    rw [flat_rep, List.length_replicate] at en
    subst en
    have i2 : IntsAre (List.replicate (((Builtin.Int.intBits x : Int) + n - 1).fdiv n).toNat [Value.int 0 tk']).flatten (List.replicate (dlen x n) (0 : Int)) := by rw [← flat_rep]; exact i1
    have hne : x ≠ 0 := by assumption
    have hpos := hq2 hne
    have e5 : (((dlen x n : Nat) : Int) - 0).toNat = dlen x n := by omega
    k_dflt (refine' inner1_use (inner1_all w mean mg mb (dlen x n)) (by k_asm) (by k_asm) (by k_asm) (by k_asm) (by k_asm) C34' rfl (by ktr_room) (by ktr_units) (by k_mem) (by k_mem) (by k_asm) (by k_mem) (by k_asm) (by k_mem) (by k_asm) (by k_mem) ho1 hv1 (by k_updF) i2 (by omega) (by omega) (by rw [List.length_replicate]; exact Int.le_refl _) (by rw [List.length_replicate]; omega) hn hnb hx hb ?hxb ?hsz ?_)
    (case hxb => exact (show x < 2 ^ (n.toNat * (((dlen x n : Nat) : Int) - 0).toNat) by rw [e5]; exact hq4))
    (case hsz => exact (show (((dlen x n : Nat) : Int) - 0).toNat ≤ dlen x n by omega))
    intro vs2 h2 tk2 hi2 F2 N2
    (try dsimp only at N2)
    have hi3 : IntsAre vs2 (dgs n.toNat x (dlen x n)) := by
      have e : IntsAre vs2 ((List.replicate (dlen x n) (0 : Int)).take (Int.toNat 0) ++ dgs n.toNat x (((dlen x n : Nat) : Int) - 0).toNat ++ (List.replicate (dlen x n) (0 : Int)).drop (((dlen x n : Nat) : Int)).toNat) := hi2
      simpa using e
    k_steps
    rename_i kF kN _ _ kpt
    have kk := kept_of kpt Ns (fun p hp => kN p (sub2 (by k_mem) (by k_mem) p hp))
    have z := news_ext F N kk (kN (_, listOf vs2.toArray 0) (by k_mem)).1 (by omega)
    exact hret _ _ _ _ hi3 kF z.1 z.2.1 z.2.2
  · rename_i kF kN _ _ kpt
    have hz : x = 0 := by assumption
    rename IntsAre _ _ => i1
    have hd0 := hq3 hz
    have kk := kept_of kpt Ns (fun p hp => kN p (sub2 (by k_mem) (by k_mem) p hp))
    have hi3 : IntsAre (List.replicate (((Builtin.Int.intBits x : Int) + n - 1).fdiv n).toNat [Value.int 0 tk']).flatten (dgs n.toNat x (dlen x n)) := by
      have e : IntsAre (List.replicate (((Builtin.Int.intBits x : Int) + n - 1).fdiv n).toNat [Value.int 0 tk']).flatten (List.replicate (dlen x n) (0 : Int)) := by rw [← flat_rep]; exact i1
      have e2 : dgs n.toNat x (dlen x n) = List.replicate (dlen x n) 0 := by rw [hd0]; rfl
      rw [e2]; exact e
    have z := news_ext F N kk (kN (_, listOf (List.toArray _) 0) (by k_mem)).1 (by omega)
    exact hret _ _ _ _ hi3 kF z.1 z.2.1 z.2.2
end Mine

namespace Mine
/-- the number of digits to the base 2 ^ n, the low one first -/
def und (n : Nat) : List Int → Int
  | [] => 0
  | d :: r => d + 2 ^ n * und n r
theorem und_append (n : Nat) : ∀ A B : List Int, und n (A ++ B) = und n A + 2 ^ (n * A.length) * und n B
  | [], B => by simp [und]
  | d :: r, B => by
    rw [List.cons_append, und, und, und_append n r B, List.length_cons, Nat.mul_succ, Nat.add_comm (n * r.length) n, Int.pow_add, Int.mul_add, Int.mul_assoc]
    omega
theorem und_nonneg (n : Nat) : ∀ A : List Int, (∀ d ∈ A, 0 ≤ d) → 0 ≤ und n A
  | [], _ => by rw [und]; decide
  | d :: r, h => by
    have h1 := h d (.head _)
    have h2 := und_nonneg n r fun x hx => h x (.tail _ hx)
    have h3 : (0 : Int) ≤ 2 ^ n * und n r := Int.mul_nonneg (Int.le_of_lt (Int.pow_pos (by decide))) h2
    rw [und]; omega
theorem und_split {ns : List Int} (n l k j : Nat) (h : l + k + j ≤ ns.length) (hp : ∀ d ∈ ns, 0 ≤ d) :
    und n ((ns.drop l).take (k + j)) = und n ((ns.drop (l + k)).take j) * 2 ^ (n * k) + und n ((ns.drop l).take k) ∧ 0 ≤ und n ((ns.drop (l + k)).take j) ∧ 0 ≤ und n ((ns.drop l).take k) ∧
      und n ((ns.drop (l + k)).take j) ≤ und n ((ns.drop l).take (k + j)) ∧ und n ((ns.drop l).take k) ≤ und n ((ns.drop l).take (k + j)) := by
  have e1 : (ns.drop l).take (k + j) = (ns.drop l).take k ++ (ns.drop (l + k)).take j := by
    rw [List.take_add, List.drop_drop]
  have e2 : ((ns.drop l).take k).length = k := by rw [List.length_take, List.length_drop]; omega
  have p1 : 0 ≤ und n ((ns.drop (l + k)).take j) := und_nonneg n _ fun d hd => hp d (List.mem_of_mem_drop (List.mem_of_mem_take hd))
  have p2 : 0 ≤ und n ((ns.drop l).take k) := und_nonneg n _ fun d hd => hp d (List.mem_of_mem_drop (List.mem_of_mem_take hd))
  have hpow : (1 : Int) ≤ 2 ^ (n * k) := Int.pow_pos (by decide)
  have h4 : und n ((ns.drop (l + k)).take j) * 1 ≤ und n ((ns.drop (l + k)).take j) * 2 ^ (n * k) := Int.mul_le_mul_of_nonneg_left hpow p1
  have h5 : 0 ≤ und n ((ns.drop (l + k)).take j) * 2 ^ (n * k) := Int.mul_nonneg p1 (by omega)
  rw [e1, und_append, e2, Int.mul_comm (2 ^ (n * k))]
  refine ⟨by omega, p1, p2, by omega, by omega⟩
theorem und_one {ns : List Int} (n l : Nat) (h : l < ns.length) : und n ((ns.drop l).take 1) = ns.getD l 0 := by
  rw [List.drop_eq_getElem_cons h, List.take_succ_cons, List.take_zero, und, und, List.getD_eq_getElem?_getD, List.getElem?_eq_getElem h]
  simp

noncomputable abbrev fn2 (q : Str) (kD kI kN : Addr) (doc pm : Value) (c2 : Addr) (ctv : Value) : Obj :=
  fnMade (Str.ofString "inner") q in2P in2B in2S [(Str.ofString "n", kN), (Str.ofString "inner", kI), (Str.ofString "digits", kD)] doc pm c2 ctv
def Inner2 (w : World) (mean : ExcName → Option Value) (mg mb : Str → Option Value) (sz : Nat) : Prop := ∀
  (dp un : Nat) (gd : Option (List Code)) (cn : Str) (cs : Scope) (a : Addr) (ccd : Value) (cl : List (Str × Addr)) (outer : List Env) (A₀ : Around) (base h₀ : Heap) (L : Addr) (m : Str → Option Value) (news : List (Addr × Obj)) (s : Shared)
  (Q E : Value → Shared → Prop) (l r n : Int) (tl tr tn : Tok) (f c2 D kD kI kN : Addr) (oD oI oN oc2 : Obj) (q : Str) (doc pm ctv : Value) (vs2 : Array Value) (t2 : Tok) (vs : List Value) (ns : List Int) (e : Nat),
  (Below A₀ base outer h₀) → (Fr h₀ L s.heap m) → ((hd.heap_39 w.params).In h₀) → (News h₀ L s.heap news) → (Top topProg looseX mean mg mb h₀) → (CodeHd h₀ 41 37) → (cs.kind = .function) → (dp + sz < recursionLimit) → (un + 8 * sz < cLine) → ((f, fn2 q kD kI kN doc pm c2 ctv) ∈ news) → ((kD, oD) ∈ news) → (oD.data = .cell (some (.ref D))) → ((kI, oI) ∈ news) → (oI.data = .cell (some (.ref f))) → ((kN, oN) ∈ news) → (oN.data = .cell (some (.int n tn))) → ((c2, oc2) ∈ news) → (oc2.data = .fields vs2) → (vs2[1]? = some (.str q t2)) → ((D, listOf vs.toArray e) ∈ news) → (IntsAre vs ns) → (0 ≤ l) → (l < r) → (r ≤ ns.length) → (ns.length ≤ 64) → (0 < n) → (n ≤ 64) → (∀ d ∈ ns, 0 ≤ d) → (und n.toNat ((ns.drop l.toNat).take (r - l).toNat) < 2 ^ 64) → ((r - l).toNat ≤ sz) → (∀ t h' tk', Fr h₀ L h' m → News h₀ L h' news → Q (.int (und n.toNat ((ns.drop l.toNat).take (r - l).toNat)) t) { s with heap := h', toks := tk' }) →
  wpAny (model PySem.Challenge.rw_id0006_01.row.prog w) (ktrTop dp un gd cn cs L a ccd cl outer) (call (.ref f) [.int l tl, .int r tr]) Q E s
theorem inner2_use {w : World} {mean : ExcName → Option Value} {mg mb : Str → Option Value} {sz : Nat}
  {dp un : Nat} {gd : Option (List Code)} {cn : Str} {cs : Scope} {a : Addr} {ccd : Value} {cl : List (Str × Addr)} {outer : List Env} {A₀ : Around} {base h₀ : Heap} {L : Addr} {m : Str → Option Value} {news : List (Addr × Obj)} {s : Shared}
  {Q E : Value → Shared → Prop} {l r n : Int} {tl tr tn : Tok} {f c2 D kD kI kN : Addr} {oD oI oN oc2 : Obj} {q : Str} {doc pm ctv : Value} {vs2 : Array Value} {t2 : Tok} {vs : List Value} {ns : List Int} {e : Nat}
  (I : Inner2 w mean mg mb sz) (B : Below A₀ base outer h₀) (F : Fr h₀ L s.heap m) (X : (hd.heap_39 w.params).In h₀) (N : News h₀ L s.heap news) (T : Top topProg looseX mean mg mb h₀) (C : CodeHd h₀ 41 37) (hk : cs.kind = .function) (hdp : dp + sz < recursionLimit) (hun : un + 8 * sz < cLine) (hf : (f, fn2 q kD kI kN doc pm c2 ctv) ∈ news) (hD : (kD, oD) ∈ news) (dD : oD.data = .cell (some (.ref D))) (hI : (kI, oI) ∈ news) (dI : oI.data = .cell (some (.ref f))) (hN : (kN, oN) ∈ news) (dN : oN.data = .cell (some (.int n tn))) (hc2 : (c2, oc2) ∈ news) (do2 : oc2.data = .fields vs2) (dv2 : vs2[1]? = some (.str q t2)) (hL : (D, listOf vs.toArray e) ∈ news) (hi : IntsAre vs ns) (hl : 0 ≤ l) (hlr : l < r) (hrn : r ≤ ns.length) (hn64 : ns.length ≤ 64) (hn0 : 0 < n) (hn : n ≤ 64) (hpos : ∀ d ∈ ns, 0 ≤ d) (hval : und n.toNat ((ns.drop l.toNat).take (r - l).toNat) < 2 ^ 64) (hsz : (r - l).toNat ≤ sz) (hret : ∀ t h' tk', Fr h₀ L h' m → News h₀ L h' news → Q (.int (und n.toNat ((ns.drop l.toNat).take (r - l).toNat)) t) { s with heap := h', toks := tk' }) :
  wpAny (model PySem.Challenge.rw_id0006_01.row.prog w) (ktrTop dp un gd cn cs L a ccd cl outer) (call (.ref f) [.int l tl, .int r tr]) Q E s := I _ _ _ _ _ _ _ _ _ _ _ _ _ _ _ _ _ _ _ _ _ _ _ _ _ _ _ _ _ _ _ _ _ _ _ _ _ _ _ _ _ _ _ B F X N T C hk hdp hun hf hD dD hI dI hN dN hc2 do2 dv2 hL hi hl hlr hrn hn64 hn0 hn hpos hval hsz hret
theorem sub6 {l : List (Addr × Obj)} {a b c d e f : Addr × Obj} (ha : a ∈ l) (hb : b ∈ l) (hc : c ∈ l) (hd : d ∈ l) (he : e ∈ l) (hf : f ∈ l) : ∀ p ∈ [a, b, c, d, e, f], p ∈ l := fun p hp => by
  simp only [List.mem_cons, List.not_mem_nil, or_false] at hp
  rcases hp with rfl | rfl | rfl | rfl | rfl | rfl <;> assumption
theorem split2 {l r n : Int} (hl : 0 ≤ l) (hlr : l < r) (hr : r ≤ 64) (hn0 : 0 < n) (hn : n ≤ 64) :
    ∃ k : Nat, (l + r).fdiv (2 ^ Int.toNat 1) = l + k ∧ (¬ l + 1 = r → 0 < k) ∧ l + k < r ∧ (((l + r).fdiv (2 ^ Int.toNat 1) - l) * n).toNat = n.toNat * k ∧ 0 ≤ ((l + r).fdiv (2 ^ Int.toNat 1) - l) * n ∧ ((l + r).fdiv (2 ^ Int.toNat 1) - l) * n ≤ 4096 :=
  let ⟨k, a, b, c, d, e, f, _⟩ := split_facts (x := 0) hl hlr hr hn0 hn (by decide) (by decide); ⟨k, a, b, c, d, e, f⟩
local macro_rules | `(tactic| walk_at "eval Name") => `(tactic| (k_here; kc_free; k_dflt (refine' nameX_F ?N ?c ?m ?d ?_ ?a ?b; (case a => rfl); (case b => rfl); (case N => k_asm); (case c => rfl); (case m => k_mem); (case d => k_asm); k_whole)))
set_option maxHeartbeats 4000000 in
theorem c_inner2 (w : World) (mean : ExcName → Option Value) (mg mb : Str → Option Value) (sz : Nat) (ih : ∀ k, k < sz → Inner2 w mean mg mb k) : Inner2 w mean mg mb sz := by
  unfold Inner2
  intro dp un gd cn cs a ccd cl outer A₀ base h₀ L m news s Q E l r n tl tr tn f c2 D kD kI kN oD oI oN oc2 q doc pm ctv vs2 t2 vs ns e B F X N T C hk hdp hun hf hD dD hI dI hN dN hc2 do2 dv2 hL hi hl hlr hrn hn64 hn0 hn hpos hval hsz hret
  unfold fn2 at hf
  generalize hB : in2B = ib at hf
  generalize hS : in2S = isc at hf
  generalize hP : in2P = ip at hf
  conv at hB => lhs; whnf
  conv at hS => lhs; whnf
  conv at hP => lhs; whnf
  subst hB hS hP
  revert X; k_fill; intro X
  refine wpAny_call ?_
  have hsub := sub6 hL hf hD hI hN hc2
  have N1 : News h₀ L s.heap _ := fun p hp => N p (hsub p hp)
  k_dflt (refine' enterFN (news := [(D, listOf vs.toArray e), (f, _), (kD, oD), (kI, oI), (kN, oN), (c2, oc2)]) ?k1 ?k2 ?k3 ?k4 ?k5 ?kA ?kF ?kK ?k6 ?k7 ?k8 ?k9 ?kB ?_ ?c2 ?c3 ?c4 ?c5; (case kA => exact rfl); (case kF => exact rfl); (case kK => assumption); (case k1 => k_asm); (case k2 => k_asm); (case k3 => k_asm); (case k4 => exact N1); (case k5 => k_asm); (case k6 => exact (N _ hf).1); (case k7 => exact codeRec_news N hc2 do2 dv2); (case k8 => ktr_room); (case k9 => exact BindsTo.of_eq rfl); (case c5 => decide); (case kB => exact locs rfl); (case c2 => exact rfl); (case c3 => exact rfl); (case c4 => exact rfl); k_whole; intro g' L' h' FG' F' N' B' X' T' l1 l2 st kp; (try dsimp only); (try k_lift B'); (try k_fold))
  have C' := C.keeps st
  obtain ⟨k, hk1, hk2, hk3, hk4, hk5, hk6⟩ := split2 hl hlr (by omega) hn0 hn
  have hpp : (0 : Int) < 2 ^ (n.toNat * k) := Int.pow_pos (by decide)
  have e5 : (l + (k : Int) - l).toNat = k := by omega
  have e6 : (l + (k : Int)).toNat = l.toNat + k := by omega
  obtain ⟨j, hj⟩ : ∃ j : Nat, r = l + k + j := ⟨(r - l - k).toNat, by omega⟩
  have e7 : (r - (l + (k : Int))).toNat = j := by omega
  have e8 : (r - l).toNat = k + j := by omega
  have e9 : r.toNat = l.toNat + k + j := by omega
  obtain ⟨u1, u2, u3, u4, u5⟩ := und_split n.toNat l.toNat k j (by omega) hpos
  k_steps
  · rename_i kF kN _ _ kpt
    have hlast : l + 1 = r := by assumption
    have hv : und n.toNat ((ns.drop l.toNat).take (r - l).toNat) = ns.getD l.toNat 0 := by
      rw [show (r - l).toNat = 1 by omega]; exact und_one _ _ (by omega)
    rw [hv] at hret
    exact hret _ _ _ kF (news_same N (kept_of kpt N1 kN))
  · have hlast : ¬ l + 1 = r := by assumption
    have hkp := hk2 hlast
    rw [hk1]
    rw [e8] at hval
    k_dflt (refine' inner2_use (ih j (by omega)) (by k_asm) (by k_asm) (by k_asm) (by k_asm) (by k_asm) C' rfl (by ktr_room) (by ktr_units) (by k_mem) (by k_mem) dD (by k_mem) dI (by k_mem) dN (by k_mem) do2 dv2 (by k_mem) hi (by omega) (by omega) hrn hn64 hn0 hn hpos (by rw [e7, e6]; omega) (by omega) ?_)
    intro t3 h3 tk3 F3 N3
    rw [e7, e6]
    have hab : (und n.toNat ((ns.drop (l.toNat + k)).take j)).natAbs < 2 ^ 64 := by omega
    k_steps
    rw [hk1]
    k_dflt (refine' inner2_use (ih k (by omega)) (by k_asm) (by k_asm) (by k_asm) (by k_asm) (by k_asm) C' rfl (by ktr_room) (by ktr_units) (by k_mem) (by k_mem) dD (by k_mem) dI (by k_mem) dN (by k_mem) do2 dv2 (by k_mem) hi (by omega) (by omega) (by omega) hn64 hn0 hn hpos (by rw [e5]; omega) (by omega) ?_)
    intro t4 h4 tk4 F4 N4
    rw [e5]
    k_steps
    rename_i kF kN _ _ kpt
    rw [e8, u1, ← hk4, hk1] at hret
    exact hret _ _ _ kF (news_same N (kept_of kpt N1 kN))
theorem inner2_all (w : World) (mean : ExcName → Option Value) (mg mb : Str → Option Value) (sz : Nat) : Inner2 w mean mg mb sz := by
  induction sz using Nat.strongRecOn with
  | _ sz ih => exact c_inner2 w mean mg mb sz ih
end Mine

namespace Mine
abbrev q2 : Str := Str.ofString "_digits2int" ++ Str.ofString ".<locals>." ++ Str.ofString "inner"
abbrev T37 (c2 : Addr) : Obj := tabObj #[rawInt 47, rawInt 4, .ref c2]
theorem sub3 {l : List (Addr × Obj)} {a b c : Addr × Obj} (ha : a ∈ l) (hb : b ∈ l) (hc : c ∈ l) : ∀ p ∈ [a, b, c], p ∈ l := fun p hp => by
  simp only [List.mem_cons, List.not_mem_nil, or_false] at hp
  rcases hp with rfl | rfl | rfl <;> assumption
set_option maxHeartbeats 8000000 in
theorem c_d2i (w : World) (mean : ExcName → Option Value) (mg mb : Str → Option Value)
  (dp un : Nat) (gd : Option (List Code)) (cn : Str) (cs : Scope) (a : Addr) (ccd : Value) (cl : List (Str × Addr)) (outer : List Env) (A₀ : Around) (base h₀ : Heap) (L : Addr) (m : Str → Option Value) (news : List (Addr × Obj)) (s : Shared)
  (Q E : Value → Shared → Prop) (n : Int) (tn : Tok) (D : Addr) (vs : List Value) (ns : List Int) (e : Nat) (c2 : Addr) (oc2 : Obj) (vs2 : Array Value) (t2 : Tok)
  (B : Below A₀ base outer h₀) (F : Fr h₀ L s.heap m) (X : (hd.heap_39 w.params).In h₀) (N : News h₀ L s.heap news)
  (T : Top topProg looseX mean mg mb h₀) (hk : cs.kind = .function) (hdp : dp + 80 < recursionLimit) (hun : un + 800 < cLine)
  (C41 : CodeHd h₀ 41 37) (h37 : (37, T37 c2) ∈ news) (hc2 : (c2, oc2) ∈ news) (ho2 : oc2.data = .fields vs2) (hv2 : vs2[1]? = some (.str q2 t2))
  (hL : (D, listOf vs.toArray e) ∈ news) (hi : IntsAre vs ns) (hn64 : ns.length ≤ 64) (hpos : ∀ d ∈ ns, 0 ≤ d) (hval : und n.toNat ns < 2 ^ 64)
  (hn : 0 < n) (hnb : n ≤ 64)
  (hret : ∀ t h' tk', Fr h₀ L h' m → News h₀ L h' news → Q (.int (und n.toNat ns) t) { s with heap := h', toks := tk' }) :
  wpAny (model PySem.Challenge.rw_id0006_01.row.prog w) (ktrTop dp un gd cn cs L a ccd cl outer) (call (.ref 42) [.ref D, .int n tn]) Q E s := by
  have hsub := sub3 hL h37 hc2
  have Ns : News h₀ L s.heap _ := fun p hp => N p (hsub p hp)
  have hlen : vs.length = ns.length := hi.length
  revert X; k_fill; intro X
  refine wpAny_call ?_
  k_dflt (refine' enterFC (news := [(D, listOf vs.toArray e), (37, T37 c2), (c2, oc2)]) ?k1 ?k2 ?k3 ?k4 ?k5 ?kA ?kF ?kK ?k6 ?k7 ?k8 ?k9 ?kB ?kD ?_ ?c2 ?c3 ?c4; (case kA => exact rfl); (case kF => exact rfl); (case kK => assumption); (case k1 => k_asm); (case k2 => k_asm); (case k3 => k_asm); (case k4 => exact Ns); (case k5 => k_asm); (case k6 => k_is); (case k7 => k_is); (case k8 => ktr_room); (case k9 => exact BindsTo.of_eq rfl); (case kB => exact rfl); (case kD => decide +kernel); (case c2 => exact rfl); (case c3 => exact rfl); (case c4 => exact rfl); k_whole; intro g' L' h' tk' cells' FG' F' N' Y' B' X' T' l1 l2 st kp; (try k_lt l1); k_cells Y'; (try simp only [List.cons_append, List.nil_append] at N'); (try dsimp only); (try k_lift B'); (try k_fold))
  have C41' := C41.keeps st
  k_steps
  · have hlp : 0 < ns.length := by assumption
    have e5 : (((ns.length : Nat) : Int) - 0).toNat = ns.length := by omega
    have e6 : (ns.drop (Int.toNat 0)).take (((ns.length : Nat) : Int) - 0).toNat = ns := by rw [e5]; exact List.take_length
    k_dflt (refine' inner2_use (inner2_all w mean mg mb ns.length) (by k_asm) (by k_asm) (by k_asm) (by k_asm) (by k_asm) C41' rfl (by ktr_room) (by ktr_units) (by k_mem) (by k_mem) (by k_asm) (by k_mem) (by k_asm) (by k_mem) (by k_asm) (by k_mem) ho2 hv2 (by k_mem) hi (by omega) (by omega) (by omega) hn64 hn hnb hpos ?hv ?hsz ?_)
    (case hv => exact (show und n.toNat ((ns.drop (Int.toNat 0)).take (((ns.length : Nat) : Int) - 0).toNat) < 2 ^ 64 by rw [e6]; exact hval))
    (case hsz => exact Nat.le_of_eq e5)
    intro t3 h3 tk3 F3 N3
    k_steps
    rename_i kF kN _ _ kpt
    rw [← e6] at hret
    exact hret _ _ _ kF (news_same N (kept_of kpt Ns (fun p hp => kN p (sub3 (by k_mem) (by k_mem) (by k_mem) p hp))))
  · rename_i kF kN _ _ kpt
    have hlp : ¬ 0 < ns.length := by assumption
    have hz : ns = [] := List.eq_nil_of_length_eq_zero (by omega)
    have hv : und n.toNat ns = 0 := by rw [hz]; rfl
    rw [hv] at hret
    exact hret _ _ _ kF (news_same N (kept_of kpt Ns (fun p hp => kN p (sub3 (by k_mem) (by k_mem) (by k_mem) p hp))))
end Mine

namespace Mine
/-- a goal that the walk leaves alone -/
def Hold (P : Prop) : Prop := P
theorem Hold.out {P : Prop} (h : Hold P) : P := h
theorem Hold.of {P : Prop} (h : P) : Hold P := h

section
variable {prog : Program} {w : World} {A : Around} {E : Value → Shared → Prop} {s : Shared} {env : Env} {h₀ : Heap} {x : Str} {body : List Stmt} {Q : Flow → Shared → Prop} {I : Addr}
theorem unr_mono {L : Addr} {s₁ s₂ : Shared} {it : Obj} {rest rest' : (Str → Option Value) → List (Addr × Obj) → Prop} {f : Flow} (h : UnrPost h₀ L s₁ I it rest Q f s₂) (k : ∀ m n, rest m n → rest' m n) : UnrPost h₀ L s₁ I it rest' Q f s₂ := by
  have z : UnrEnd h₀ L s₁ I it rest s₂ → UnrEnd h₀ L s₁ I it rest' s₂ := fun ⟨h', tk, m', n', e, F, N, o, r⟩ => ⟨h', tk, m', n', e, F, N, o, k _ _ r⟩
  cases f with
  | ret v => exact h
  | brk => exact h
  | next => exact z h
  | cont => exact z h

theorem range_inv {a : Int} {n : Nat} (Inv : Nat → (Str → Option Value) → List (Addr × Obj) → Prop)
    (step : ∀ i m news t h tk, i < n → Inv i m news → Fr h₀ env.locals h (fun y => if y = x then some (.int (a + (i : Int)) t) else m y) → News h₀ env.locals h ((I, itR (a + ((i + 1 : Nat) : Int)) ((n : Int) - ((i + 1 : Nat) : Int))) :: news) →
      wpAny (model prog w) A (execs body env) (UnrPost h₀ env.locals { s with heap := h, toks := tk } I (itR (a + ((i + 1 : Nat) : Int)) ((n : Int) - ((i + 1 : Nat) : Int))) (Inv (i + 1)) Q) E { s with heap := h, toks := tk })
    (done : ∀ m news h tk, Inv n m news → Fr h₀ env.locals h m → News h₀ env.locals h news → Q .next { s with heap := h, toks := tk }) :
    ∀ k i m news, i + k = n → Inv i m news → RangeRest prog w A E h₀ env x body Q s I a n k i m news
  | 0, i, m, news, e, hi => RangeRest.zero fun h tk F N => done m news h tk (by rw [← e]; exact hi) F N
  | k + 1, i, m, news, e, hi => RangeRest.succ fun t h tk F N => wpAny_mono (step i m news t h tk (by omega) hi F N)
      (fun f s₂ hf => unr_mono hf fun m' n' hj => range_inv Inv step done k (i + 1) m' n' (by omega) hj) fun _ _ e => e

theorem list_inv {lp : Addr × Obj} {vs : List Value} (Inv : Nat → (Str → Option Value) → List (Addr × Obj) → Prop)
    (step : ∀ i v m news it h tk, vs[i]? = some v → Inv i m news → it.cls = .type "list_iterator" → Fr h₀ env.locals h (fun y => if y = x then some v else m y) → News h₀ env.locals h ((I, it) :: news) →
      wpAny (model prog w) A (execs body env) (UnrPost h₀ env.locals { s with heap := h, toks := tk } I it (fun m' n' => lp ∈ n' ∧ Inv (i + 1) m' n') Q) E { s with heap := h, toks := tk })
    (done : ∀ m news h tk, Inv vs.length m news → Fr h₀ env.locals h m → News h₀ env.locals h news → Q .next { s with heap := h, toks := tk }) :
    ∀ (l : List Value) i m news, vs.drop i = l → i ≤ vs.length → Inv i m news → ListRest prog w A E h₀ env x body Q s I lp l m news
  | [], i, m, news, e, hle, hi => ListRest.zero fun h tk F N => done m news h tk (by
      have : vs.length ≤ i := List.drop_eq_nil_iff.mp e
      rw [show vs.length = i by omega]; exact hi) F N
  | v :: l, i, m, news, e, hle, hi => ListRest.succ fun it h tk hit F N => by
      have hlt : i < vs.length := by
        rcases Nat.lt_or_ge i vs.length with h | h
        · exact h
        · rw [List.drop_eq_nil_of_le h] at e; cases e
      have hv : vs[i]? = some v ∧ vs.drop (i + 1) = l := by
        rw [List.drop_eq_getElem_cons hlt] at e
        cases e
        exact ⟨List.getElem?_eq_getElem hlt, rfl⟩
      exact wpAny_mono (step i v m news it h tk hv.1 hi hit F N)
        (fun f s₂ hf => unr_mono hf fun m' n' hj => ⟨hj.1, list_inv Inv step done l (i + 1) m' n' hv.2 hlt hj.2⟩) fun _ _ e => e

theorem rev_inv {lp : Addr × Obj} {vs : List Value} (Inv : Nat → (Str → Option Value) → List (Addr × Obj) → Prop)
    (step : ∀ i v m news it h tk, vs.reverse[i]? = some v → Inv i m news → it.cls = .type "list_reverseiterator" → Fr h₀ env.locals h (fun y => if y = x then some v else m y) → News h₀ env.locals h ((I, it) :: news) →
      wpAny (model prog w) A (execs body env) (UnrPost h₀ env.locals { s with heap := h, toks := tk } I it (fun m' n' => lp ∈ n' ∧ Inv (i + 1) m' n') Q) E { s with heap := h, toks := tk })
    (done : ∀ m news h tk, Inv vs.length m news → Fr h₀ env.locals h m → News h₀ env.locals h news → Q .next { s with heap := h, toks := tk }) :
    ∀ (l : List Value) i m news, vs.reverse.drop i = l → i ≤ vs.length → Inv i m news → RevRest prog w A E h₀ env x body Q s I lp l m news
  | [], i, m, news, e, hle, hi => RevRest.zero fun h tk F N => done m news h tk (by
      have : vs.reverse.length ≤ i := List.drop_eq_nil_iff.mp e
      rw [List.length_reverse] at this
      rw [show vs.length = i by omega]; exact hi) F N
  | v :: l, i, m, news, e, hle, hi => RevRest.succ fun it h tk hit F N => by
      have hlt : i < vs.reverse.length := by
        rcases Nat.lt_or_ge i vs.reverse.length with h | h
        · exact h
        · rw [List.drop_eq_nil_of_le h] at e; cases e
      have hv : vs.reverse[i]? = some v ∧ vs.reverse.drop (i + 1) = l := by
        rw [List.drop_eq_getElem_cons hlt] at e
        cases e
        exact ⟨List.getElem?_eq_getElem hlt, rfl⟩
      exact wpAny_mono (step i v m news it h tk hv.1 hi hit F N)
        (fun f s₂ hf => unr_mono hf fun m' n' hj => ⟨hj.1, rev_inv Inv step done l (i + 1) m' n' hv.2 (by rw [List.length_reverse] at hlt; exact hlt) hj.2⟩) fun _ _ e => e
end
end Mine

namespace Mine
theorem und_dgs (n : Nat) : ∀ (k : Nat) (x : Int), und n (dgs n x k) = x % 2 ^ (n * k)
  | 0, x => by rw [dgs, und, Nat.mul_zero, Int.pow_zero, Int.emod_one]
  | k + 1, x => by
    have hpn : (0 : Int) < 2 ^ n := Int.pow_pos (by decide)
    have hp : (2 : Int) ^ (n * (k + 1)) = 2 ^ n * 2 ^ (n * k) := by rw [Nat.mul_succ, Nat.add_comm, Int.pow_add]
    have h1 := Int.emod_add_mul_ediv (x % (2 ^ n * 2 ^ (n * k))) (2 ^ n)
    rw [emod_mul_div x _ _ hpn, Int.emod_emod_of_dvd _ (Int.dvd_mul_right _ _)] at h1
    rw [dgs, und, und_dgs n k, hp]; exact h1
theorem dgs_mem (n : Nat) : ∀ (k : Nat) (x : Int), ∀ d ∈ dgs n x k, 0 ≤ d ∧ d < 2 ^ n
  | 0, _, _, h => by rw [dgs] at h; cases h
  | k + 1, x, d, h => by
    have hpn : (0 : Int) < 2 ^ n := Int.pow_pos (by decide)
    rw [dgs] at h
    rcases List.mem_cons.mp h with rfl | h
    · exact ⟨Int.emod_nonneg _ (by omega), Int.emod_lt_of_pos _ hpn⟩
    · exact dgs_mem n k _ d h
/-- the number of the top i digits -/
def topV (n : Nat) (ds : List Int) (i : Nat) : Int := und n (ds.drop (ds.length - i))
theorem topV_zero (n : Nat) (ds : List Int) : topV n ds 0 = 0 := by
  unfold topV; rw [Nat.sub_zero, List.drop_length, und]
theorem topV_all (n : Nat) (ds : List Int) : topV n ds ds.length = und n ds := by
  unfold topV; rw [Nat.sub_self, List.drop_zero]
theorem topV_succ {n : Nat} {ds : List Int} {i : Nat} {d : Int} (h : ds.reverse[i]? = some d) : topV n ds (i + 1) = d + 2 ^ n * topV n ds i := by
  have hlt : i < ds.length := by
    rcases Nat.lt_or_ge i ds.length with h' | h'
    · exact h'
    · rw [List.getElem?_eq_none (by rw [List.length_reverse]; exact h')] at h; cases h
  rw [List.getElem?_reverse hlt] at h
  have hj : ds.length - 1 - i < ds.length := by omega
  rw [List.getElem?_eq_getElem hj] at h
  unfold topV
  have e1 : ds.length - (i + 1) = ds.length - 1 - i := by omega
  have e2 : ds.length - 1 - i + 1 = ds.length - i := by omega
  rw [e1, List.drop_eq_getElem_cons hj, und, e2, Option.some.inj h]
theorem topV_nonneg (n : Nat) {ds : List Int} (h : ∀ d ∈ ds, 0 ≤ d) (i : Nat) : 0 ≤ topV n ds i := und_nonneg n _ fun d hd => h d (List.mem_of_mem_drop hd)
theorem dm_step {y V d : Int} (n : Nat) (hy : 0 < y) : (d + 2 ^ n * V) % y = (V % y * 2 ^ n + d) % y ∧ (d + 2 ^ n * V) / y = (V % y * 2 ^ n + d) / y + 2 ^ n * (V / y) := by
  have h1 := Int.emod_add_mul_ediv V y
  have h2 : d + 2 ^ n * V = (V % y * 2 ^ n + d) + y * (2 ^ n * (V / y)) := by
    have e : 2 ^ n * V = 2 ^ n * (V % y) + 2 ^ n * (y * (V / y)) := by rw [← Int.mul_add, h1]
    rw [e, Int.mul_comm (2 ^ n) (V % y), ← Int.mul_assoc, Int.mul_comm (2 ^ n) y, Int.mul_assoc]
    omega
  rw [h2]
  exact ⟨Int.add_mul_emod_self_left _ _ _, Int.add_mul_ediv_left _ _ (by omega)⟩
theorem dm_bound {y V d : Int} {n : Nat} (hy : 0 < y) (hyb : y < 2 ^ 64) (hn : n ≤ 64) (hd0 : 0 ≤ d) (hd : d < 2 ^ n) : 0 ≤ V % y * 2 ^ n + d ∧ V % y * 2 ^ n + d < 2 ^ 200 := by
  have h0 := Int.emod_nonneg V (show y ≠ 0 by omega)
  have h1 := Int.emod_lt_of_pos V hy
  have hp : (0 : Int) < 2 ^ n := Int.pow_pos (by decide)
  have hp2 : (2 : Int) ^ n ≤ 2 ^ 64 := by
    have := Nat.pow_le_pow_right (show 0 < 2 by decide) hn
    exact_mod_cast this
  have h3 : V % y * 2 ^ n ≤ 2 ^ 64 * 2 ^ 64 := Int.mul_le_mul (by omega) hp2 (by omega) (by decide)
  have h4 : 0 ≤ V % y * 2 ^ n := Int.mul_nonneg h0 (by omega)
  constructor
  · omega
  · have : (2 : Int) ^ 64 * 2 ^ 64 + 2 ^ 64 < 2 ^ 200 := by decide
    omega
end Mine

namespace Mine
local macro_rules | `(tactic| walk_at "pyIter ref") => `(tactic| ((with_reducible show wpAny _ _ (pyIter (Value.ref _)) (fun it s₂ => LoopAtV _ _ _ _ _ _ _ _ _ it s₂) _ _); refine Hold.out ?_))
local macro_rules | `(tactic| walk_at "UnrEnd") => `(tactic| (refine Hold.out ?_))
theorem sub4 {l : List (Addr × Obj)} {a b c d : Addr × Obj} (ha : a ∈ l) (hb : b ∈ l) (hc : c ∈ l) (hd : d ∈ l) : ∀ p ∈ [a, b, c, d], p ∈ l := fun p hp => by
  simp only [List.mem_cons, List.not_mem_nil, or_false] at hp
  rcases hp with rfl | rfl | rfl | rfl <;> assumption
def InvDM (n : Nat) (ds : List Int) (y : Int) (lq : Addr) (rest : List (Addr × Obj)) (m0 : Str → Option Value) (i : Nat) (m : Str → Option Value) (news : List (Addr × Obj)) : Prop :=
  ∃ (qs : List Int) (qvs : List Value) (tr : Tok) (e : Nat) (u1 u2 : Option Value),
    m = (fun z => if z = Str.ofString "r" then some (.int (topV n ds i % y) tr) else if z = Str.ofString "q_digit" then u2 else if z = Str.ofString "a_digit" then u1 else m0 z) ∧
    news = (lq, listOf qvs.toArray e) :: rest ∧ IntsAre qvs qs ∧ qs.length = i ∧ (∀ d ∈ qs, 0 ≤ d) ∧ und n qs.reverse = topV n ds i / y
theorem InvDM.start {n : Nat} {ds : List Int} {y : Int} {lq : Addr} {rest : List (Addr × Obj)} {m0 : Str → Option Value} {t0 : Tok} {e : Nat} (hy : 0 < y) (hr : m0 (Str.ofString "r") = some (.int 0 t0)) :
    InvDM n ds y lq rest m0 0 m0 ((lq, listOf #[] e) :: rest) := by
  refine ⟨[], [], t0, e, m0 (Str.ofString "a_digit"), m0 (Str.ofString "q_digit"), ?_, rfl, .nil, rfl, fun _ h => (nomatch h), ?_⟩
  · funext z
    rw [topV_zero, Int.zero_emod]
    (repeat' split) <;> first | rfl | simp_all
  · rw [topV_zero, Int.zero_ediv]; rfl
theorem small_size {vs : List Value} (h : vs.length ≤ 64) : vs.toArray.size ≤ sizeLine := by rw [List.size_toArray, sizeLine_eq]; omega
theorem ints_rev : ∀ {vs : List Value} {ns : List Int}, IntsAre vs ns → IntsAre vs.reverse ns.reverse
  | _, _, .nil => .nil
  | _, _, .cons x u h => by rw [List.reverse_cons, List.reverse_cons]; exact IntsAre.append (ints_rev h) (.cons x u .nil)
set_option maxHeartbeats 8000000 in
theorem c_dmpos (w : World) (mean : ExcName → Option Value) (mg mb : Str → Option Value)
  (dp un : Nat) (gd : Option (List Code)) (cn : Str) (cs : Scope) (a : Addr) (ccd : Value) (cl : List (Str × Addr)) (outer : List Env) (A₀ : Around) (base h₀ : Heap) (L : Addr) (m : Str → Option Value) (news : List (Addr × Obj)) (s : Shared)
  (Q E : Value → Shared → Prop) (x y : Int) (tx ty : Tok) (c1 : Addr) (oc1 : Obj) (vs1 : Array Value) (t1 : Tok) (c2 : Addr) (oc2 : Obj) (vs2 : Array Value) (t2 : Tok)
  (B : Below A₀ base outer h₀) (F : Fr h₀ L s.heap m) (X : (hd.heap_39 w.params).In h₀) (N : News h₀ L s.heap news)
  (T : Top topProg looseX mean mg mb h₀) (hk : cs.kind = .function) (hdp : dp + 100 < recursionLimit) (hun : un + 1000 < cLine)
  (C34 : CodeHd h₀ 34 30) (C41 : CodeHd h₀ 41 37) (h30 : (30, T30 c1) ∈ news) (hc1 : (c1, oc1) ∈ news) (ho1 : oc1.data = .fields vs1) (hv1 : vs1[1]? = some (.str q1 t1)) (h37 : (37, T37 c2) ∈ news) (hc2 : (c2, oc2) ∈ news) (ho2 : oc2.data = .fields vs2) (hv2 : vs2[1]? = some (.str q2 t2)) (hlt1 : @LT.lt Nat _ 30 c1) (hlt2 : @LT.lt Nat _ 37 c2)
  (hx : 0 ≤ x) (hxb : x < 2 ^ 64) (hy : 0 < y) (hyb : y < 2 ^ 64)
  (hret : ∀ q t1 t2 h' tk', Fr h₀ L h' m → News h₀ L h' ((q, tup2 (.int (x / y) t1) (.int (x % y) t2)) :: news) → (∀ p ∈ news, p.1 < q) → L < q → Q (.ref q) { s with heap := h', toks := tk' }) :
  wpAny (model PySem.Challenge.rw_id0006_01.row.prog w) (ktrTop dp un gd cn cs L a ccd cl outer) (call (.ref 49) [.int x tx, .int y ty]) Q E s := by
  have hsub := sub4 h30 hc1 h37 hc2
  have Ns : News h₀ L s.heap _ := fun p hp => N p (hsub p hp)
  have hnb := bits_le (Int.le_of_lt hy) hyb
  have hn0 : 0 < (Builtin.Int.intBits y : Int) := by have := bits_pos (show y ≠ 0 by omega); omega
  have hylt := lt_bits (Int.le_of_lt hy)
  obtain ⟨hq0, hq1, hq2, hq3, hq4⟩ := len_facts hx hxb hn0 hnb
  revert X; k_fill; intro X
  refine wpAny_call ?_
  k_dflt (refine' enterF (news := [(30, T30 c1), (c1, oc1), (37, T37 c2), (c2, oc2)]) ?k1 ?k2 ?k3 ?k4 ?k5 ?kA ?kF ?kK ?k6 ?k7 ?k8 ?k9 ?kB ?_ ?c2 ?c3 ?c4 ?c5; (case kA => exact rfl); (case kF => exact rfl); (case kK => assumption); (case k1 => k_asm); (case k2 => k_asm); (case k3 => k_asm); (case k4 => exact Ns); (case k5 => k_asm); (case k6 => k_is); (case k7 => k_is); (case k8 => ktr_room); (case k9 => exact BindsTo.of_eq rfl); (case c5 => decide); (case kB => exact locs rfl); (case c2 => exact rfl); (case c3 => exact rfl); (case c4 => exact rfl); k_whole; intro g' L' h' FG' F' N' B' X' T' l1 l2 st kp; (try dsimp only); (try k_lift B'); (try k_fold))
  have C34' := C34.keeps st
  have C41' := C41.keeps st
  k_steps
  k_dflt (refine' c_i2d _ _ _ _ _ _ _ _ _ _ _ _ _ _ _ _ _ _ _ _ _ _ _ _ _ _ _ _ _ _ (by k_asm) (by k_asm) (by k_asm) (by k_asm) (by k_asm) rfl (by ktr_room) (by ktr_units) C34' (by k_mem) (by k_mem) ho1 hv1 hlt1 hx hn0 hxb hnb ?_)
  intro qd vsd hd1 tkd hid Fd Nd ld1 ld2
  replace ld2 := ltN ld2
  rw [Int.toNat_natCast] at hid
  generalize hds : dgs (Builtin.Int.intBits y) x (dlen x (Builtin.Int.intBits y)) = ds at hid
  have hdl : ds.length = dlen x (Builtin.Int.intBits y) := by rw [← hds]; exact dgs_len _ _ _
  have hdm : ∀ d ∈ ds, 0 ≤ d ∧ d < 2 ^ (Builtin.Int.intBits y) := by rw [← hds]; exact dgs_mem _ _ _
  have hund : und (Builtin.Int.intBits y) ds = x := by
    rw [← hds, und_dgs, Int.emod_eq_of_lt hx]
    rw [Int.toNat_natCast] at hq4; exact hq4
  have hlen : vsd.length = ds.length := hid.length
  have hvs64 : vsd.length ≤ 64 := by rw [hlen, hdl]; unfold dlen; omega
  (try k_lt ld1)
  k_steps
  refine Hold.of ?_
  rename Fr _ _ _ _ => F1
  rename News _ _ _ _ => N1
  refine iter_revUnr (lo := listOf vsd.toArray 0) (vs := vsd) (n := 0) rfl F1 N1 (by k_dflt k_offL) (by k_mem) rfl rfl ?_
  refine' rev_inv (InvDM (Builtin.Int.intBits y) ds y _ _ ?m0) ?step ?done _ 0 _ _ rfl (Nat.zero_le _) ?init
  (case init => refine' InvDM.start (t0 := ?t0) hy ?hr; (case hr => exact rfl))
  case step =>
    intro i v m1 news1 it hh tk1 hv hI hit F2 N2
    obtain ⟨qs, qvs, tr, e, u1, u2, rfl, rfl, hqi, hql, hqp, hqu⟩ := hI
    obtain ⟨d, hdi, tv, rfl⟩ : ∃ d, ds.reverse[i]? = some d ∧ ∃ tv, v = .int d tv := by
      have hlt : i < vsd.length := by
        rcases Nat.lt_or_ge i vsd.reverse.length with h | h
        · rw [List.length_reverse] at h; exact h
        · rw [List.getElem?_eq_none h] at hv; cases hv
      have hlt2 : i < ds.reverse.length := by rw [List.length_reverse]; omega
      obtain ⟨t, ht⟩ := (ints_rev hid).get i ds.reverse[i] (List.getElem?_eq_getElem hlt2)
      exact ⟨_, List.getElem?_eq_getElem hlt2, t, Option.some.inj (hv.symm.trans ht)⟩
    have hdd := hdm d (List.mem_reverse.mp (List.mem_of_getElem? hdi))
    obtain ⟨b1, b2⟩ := dm_bound (V := topV (Builtin.Int.intBits y) ds i) hy hyb (show Builtin.Int.intBits y ≤ 64 by omega) hdd.1 hdd.2
    have b3 := Int.emod_nonneg (topV (Builtin.Int.intBits y) ds i) (show y ≠ 0 by omega)
    have b4 := Int.emod_lt_of_pos (topV (Builtin.Int.intBits y) ds i) hy
    obtain ⟨s1, s2⟩ := dm_step (V := topV (Builtin.Int.intBits y) ds i) (d := d) (Builtin.Int.intBits y) hy
    rw [← topV_succ hdi] at s1 s2
    have b5 : (topV (Builtin.Int.intBits y) ds i % y).natAbs < 2 ^ 64 := by omega
    k_steps
    rw [Int.toNat_natCast]
    k_dflt (refine' c_div2n1n _ _ _ _ _ _ _ _ _ _ _ _ _ _ _ _ _ _ _ _ _ _ _ _ _ _ _ _ (by k_asm) (by k_asm) (by k_asm) (by k_asm) (by k_asm) rfl (by ktr_room) (by ktr_units) b1 hy (by omega) b2 (by omega) ?_)
    intro q3 t3 t4 h3 tk3 F3 N3 l3 l4
    (try k_lt l3)
    k_steps
    have hql2 : qvs.length = i := hqi.length.trans hql
    have hiv : i < vsd.length := by
      rcases Nat.lt_or_ge i vsd.reverse.length with h | h
      · rw [List.length_reverse] at h; exact h
      · rw [List.getElem?_eq_none h] at hv; cases hv
    have e9 : ∀ v : Value, qvs.toArray.push v = (qvs ++ [v]).toArray := fun v => by simp
    k_dflt (refine' append_K ?F ?N ?U ?_ ?z; (case F => k_asm); (case N => k_asm); (case U => k_upd); (case z => exact small_size (by omega)))
    intro h5 F5 N5
    rw [e9] at N5
    k_steps
    refine Hold.of ?_
    refine' UnrEnd.intro (by k_asm) (by k_asm) _ (fun p hp => List.mem_cons_of_mem _ hp) ?off ⟨?mem, ⟨qs ++ [(topV (Builtin.Int.intBits y) ds i % y * 2 ^ Builtin.Int.intBits y + d) / y], qvs ++ [.int ((topV (Builtin.Int.intBits y) ds i % y * 2 ^ Builtin.Int.intBits y + d) / y) t3], t4, e + 1, some (.int d tv), some (.int ((topV (Builtin.Int.intBits y) ds i % y * 2 ^ Builtin.Int.intBits y + d) / y) t3), ?meq, rfl, ?hints, ?len, ?pos, ?und⟩⟩
    case off => k_dflt k_all
    case mem => k_mem
    case meq =>
      funext z
      rw [s1]
      (repeat' split) <;> first | rfl | simp_all
    case hints => exact IntsAre.append hqi (.cons _ _ .nil)
    case len => rw [List.length_append, hql]; rfl
    case pos =>
      intro d' hd'
      rcases List.mem_append.mp hd' with h | h
      · exact hqp d' h
      · rw [List.mem_singleton.mp h]; exact Int.ediv_nonneg b1 (by omega)
    case und => rw [List.reverse_append, List.reverse_singleton, List.singleton_append, und, hqu, s2]
  case done =>
    intro m1 news1 hh tk1 hI F2 N2
    obtain ⟨qs, qvs, tr, e, u1, u2, rfl, rfl, hqi, hql, hqp, hqu⟩ := hI
    have hV : topV (Builtin.Int.intBits y) ds vsd.length = x := by rw [hlen, topV_all, hund]
    rw [hV] at F2 hqu
    have hql2 : qvs.length = vsd.length := hqi.length.trans hql
    have hq64 : qs.reverse.length ≤ 64 := by rw [List.length_reverse, hql, hlen, hdl]; unfold dlen; omega
    have hdle : x / y ≤ x := Int.ediv_le_self _ hx
    k_steps
    dsimp only
    k_dflt (refine' kl_reverse (l := qvs.reverse) ?F ?N ?e ?U ?z ?_; (case F => k_asm); (case N => k_asm); (case U => k_upd); (case e => rfl); (case z => exact small_size (show qvs.length ≤ 64 by rw [List.length_reverse, hql, ← hql2] at hq64; exact hq64)))
    intro h5 F5 N5
    k_steps
    k_dflt (refine' c_d2i _ _ _ _ _ _ _ _ _ _ _ _ _ _ _ _ _ _ _ _ _ _ _ _ _ _ _ _ _ _ _ _ (by k_asm) (by k_asm) (by k_asm) (by k_asm) (by k_asm) rfl (by ktr_room) (by ktr_units) C41' (by k_mem) (by k_mem) ho2 hv2 (by k_mem) (ints_rev hqi) hq64 (fun d hd => hqp d (List.mem_reverse.mp hd)) ?hval hn0 hnb ?_)
    (case hval => rw [Int.toNat_natCast, hqu]; omega)
    intro t5 h6 tk6 F6 N6
    rw [Int.toNat_natCast, hqu]
    k_steps
    rename_i kF kN _ _ kpt
    have kk := kept_of kpt Ns (fun p hp => kN p (sub4 (by k_mem) (by k_mem) (by k_mem) (by k_mem) p hp))
    have z := news_ext F N kk (kN (_, tup2 (.int (x / y) t5) (.int (x % y) tr)) (by k_mem)).1 (by omega)
    exact hret _ _ _ _ _ kF z.1 z.2.1 z.2.2
end Mine

namespace Mine
set_option maxHeartbeats 8000000 in
theorem c_div (w : World) (mean : ExcName → Option Value) (mg mb : Str → Option Value)
  (dp un : Nat) (gd : Option (List Code)) (cn : Str) (cs : Scope) (a : Addr) (ccd : Value) (cl : List (Str × Addr)) (outer : List Env) (A₀ : Around) (base h₀ : Heap) (L : Addr) (m : Str → Option Value) (news : List (Addr × Obj)) (s : Shared)
  (Q E : Value → Shared → Prop) (x y : Int) (tx ty : Tok) (c1 : Addr) (oc1 : Obj) (vs1 : Array Value) (t1 : Tok) (c2 : Addr) (oc2 : Obj) (vs2 : Array Value) (t2 : Tok)
  (B : Below A₀ base outer h₀) (F : Fr h₀ L s.heap m) (X : (hd.heap_39 w.params).In h₀) (N : News h₀ L s.heap news)
  (T : Top topProg looseX mean mg mb h₀) (hk : cs.kind = .function) (hdp : dp + 101 < recursionLimit) (hun : un + 1010 < cLine)
  (C34 : CodeHd h₀ 34 30) (C41 : CodeHd h₀ 41 37) (h30 : (30, T30 c1) ∈ news) (hc1 : (c1, oc1) ∈ news) (ho1 : oc1.data = .fields vs1) (hv1 : vs1[1]? = some (.str q1 t1)) (h37 : (37, T37 c2) ∈ news) (hc2 : (c2, oc2) ∈ news) (ho2 : oc2.data = .fields vs2) (hv2 : vs2[1]? = some (.str q2 t2)) (hlt1 : @LT.lt Nat _ 30 c1) (hlt2 : @LT.lt Nat _ 37 c2)
  (hx : 0 ≤ x) (hxb : x < 2 ^ 64) (hy : 0 < y) (hyb : y < 2 ^ 64)
  (hret : ∀ q t1 t2 h' tk', Fr h₀ L h' m → News h₀ L h' ((q, tup2 (.int (x / y) t1) (.int (x % y) t2)) :: news) → (∀ p ∈ news, p.1 < q) → L < q → Q (.ref q) { s with heap := h', toks := tk' }) :
  wpAny (model PySem.Challenge.rw_id0006_01.row.prog w) (ktrTop dp un gd cn cs L a ccd cl outer) (call (.ref 56) [.int x tx, .int y ty]) Q E s := by
  have hsub := sub4 h30 hc1 h37 hc2
  have Ns : News h₀ L s.heap _ := fun p hp => N p (hsub p hp)
  have hz1 : ¬ y = 0 := by omega
  have hz2 : ¬ y < 0 := by omega
  have hz3 : ¬ x < 0 := by omega
  revert X; k_fill; intro X
  refine wpAny_call ?_
  k_dflt (refine' enterF (news := [(30, T30 c1), (c1, oc1), (37, T37 c2), (c2, oc2)]) ?k1 ?k2 ?k3 ?k4 ?k5 ?kA ?kF ?kK ?k6 ?k7 ?k8 ?k9 ?kB ?_ ?c2 ?c3 ?c4 ?c5; (case kA => exact rfl); (case kF => exact rfl); (case kK => assumption); (case k1 => k_asm); (case k2 => k_asm); (case k3 => k_asm); (case k4 => exact Ns); (case k5 => k_asm); (case k6 => k_is); (case k7 => k_is); (case k8 => ktr_room); (case k9 => exact BindsTo.of_eq rfl); (case c5 => decide); (case kB => exact locs rfl); (case c2 => exact rfl); (case c3 => exact rfl); (case c4 => exact rfl); k_whole; intro g' L' h' FG' F' N' B' X' T' l1 l2 st kp; (try dsimp only); (try k_lift B'); (try k_fold))
  have C34' := C34.keeps st
  have C41' := C41.keeps st
  k_steps
  all_goals (try (exfalso; omega))
  k_dflt (refine' c_dmpos _ _ _ _ _ _ _ _ _ _ _ _ _ _ _ _ _ _ _ _ _ _ _ _ _ _ _ _ _ _ _ _ _ _ (by k_asm) (by k_asm) (by k_asm) (by k_asm) (by k_asm) rfl (by ktr_room) (by ktr_units) C34' C41' (by k_mem) (by k_mem) ho1 hv1 (by k_mem) (by k_mem) ho2 hv2 hlt1 hlt2 hx hxb hy hyb ?_)
  intro q3 t3 t4 h3 tk3 F3 N3 l3 l4
  replace l4 := ltN l4
  (try k_lt l3)
  k_steps
  rename_i kF kN _ _ kpt
  have kk := kept_of kpt Ns (fun p hp => kN p (sub4 (by k_mem) (by k_mem) (by k_mem) (by k_mem) p hp))
  have z := news_ext F N kk (kN (_, tup2 (.int (x / y) t3) (.int (x % y) t4)) (by k_mem)).1 (by omega)
  exact hret _ _ _ _ _ kF z.1 z.2.1 z.2.2
end Mine

namespace Mine
local macro_rules | `(tactic| walk_at "pyIter ref") => `(tactic| ((with_reducible show wpAny _ _ (pyIter (Value.ref _)) (fun it s₂ => LoopAtV _ _ _ _ _ _ _ _ _ it s₂) _ _); refine Hold.out ?_))
local macro_rules | `(tactic| walk_at "UnrEnd") => `(tactic| (refine Hold.out ?_))
/-- Euclid's way comes to one within so many turns -/
def euc : Nat → Int → Int → Bool
  | 0, _, _ => false
  | f + 1, x, y => if y = 0 then x == 1 else euc f y (x % y)
def InvSh (m0 : Str → Option Value) (nw : List (Addr × Obj)) (i : Nat) (m : Str → Option Value) (news : List (Addr × Obj)) : Prop :=
  ∃ (a b : Int) (ta tb : Tok) (u1 u2 : Option Value),
    m = (fun z => if z = Str.ofString "one" then some (.int a ta) else if z = Str.ofString "other" then some (.int b tb) else if z = Str.ofString "rest" then u1 else if z = Str.ofString "turn" then u2 else m0 z) ∧
    news = nw ∧ euc (200 - i) a b = true ∧ 0 ≤ a ∧ a < 2 ^ 64 ∧ 0 ≤ b ∧ b < 2 ^ 64
theorem InvSh.start {m0 : Str → Option Value} {nw : List (Addr × Obj)} {a b : Int} {ta tb : Tok} (h1 : euc 200 a b = true) (h2 : 0 ≤ a) (h3 : a < 2 ^ 64) (h4 : 0 ≤ b) (h5 : b < 2 ^ 64) (ha : m0 (Str.ofString "one") = some (.int a ta)) (hb : m0 (Str.ofString "other") = some (.int b tb)) :
    InvSh m0 nw 0 m0 nw := by
  refine ⟨a, b, ta, tb, m0 (Str.ofString "rest"), m0 (Str.ofString "turn"), ?_, rfl, h1, h2, h3, h4, h5⟩
  funext z
  (repeat' split) <;> first | rfl | simp_all
set_option maxHeartbeats 8000000 in
theorem c_shared (w : World) (mean : ExcName → Option Value) (mg mb : Str → Option Value)
  (dp un : Nat) (gd : Option (List Code)) (cn : Str) (cs : Scope) (a : Addr) (ccd : Value) (cl : List (Str × Addr)) (outer : List Env) (A₀ : Around) (base h₀ : Heap) (L : Addr) (m : Str → Option Value) (news : List (Addr × Obj)) (s : Shared)
  (Q E : Value → Shared → Prop) (x y : Int) (tx ty : Tok) (c1 : Addr) (oc1 : Obj) (vs1 : Array Value) (t1 : Tok) (c2 : Addr) (oc2 : Obj) (vs2 : Array Value) (t2 : Tok)
  (B : Below A₀ base outer h₀) (F : Fr h₀ L s.heap m) (X : (hd.heap_39 w.params).In h₀) (N : News h₀ L s.heap news)
  (T : Top topProg looseX mean mg mb h₀) (hk : cs.kind = .function) (hdp : dp + 102 < recursionLimit) (hun : un + 1020 < cLine)
  (C34 : CodeHd h₀ 34 30) (C41 : CodeHd h₀ 41 37) (h30 : (30, T30 c1) ∈ news) (hc1 : (c1, oc1) ∈ news) (ho1 : oc1.data = .fields vs1) (hv1 : vs1[1]? = some (.str q1 t1)) (h37 : (37, T37 c2) ∈ news) (hc2 : (c2, oc2) ∈ news) (ho2 : oc2.data = .fields vs2) (hv2 : vs2[1]? = some (.str q2 t2)) (hlt1 : @LT.lt Nat _ 30 c1) (hlt2 : @LT.lt Nat _ 37 c2)
  (hx : 0 ≤ x) (hxb : x < 2 ^ 64) (hy : 0 ≤ y) (hyb : y < 2 ^ 64) (heuc : euc 200 x y = true)
  (hret : ∀ t h' tk', Fr h₀ L h' m → News h₀ L h' news → Q (.int 1 t) { s with heap := h', toks := tk' }) :
  wpAny (model PySem.Challenge.rw_id0006_01.row.prog w) (ktrTop dp un gd cn cs L a ccd cl outer) (call (.ref 84) [.int x tx, .int y ty]) Q E s := by
  have hsub := sub4 h30 hc1 h37 hc2
  have Ns : News h₀ L s.heap _ := fun p hp => N p (hsub p hp)
  revert X; k_fill; intro X
  refine wpAny_call ?_
  k_dflt (refine' enterF (news := [(30, T30 c1), (c1, oc1), (37, T37 c2), (c2, oc2)]) ?k1 ?k2 ?k3 ?k4 ?k5 ?kA ?kF ?kK ?k6 ?k7 ?k8 ?k9 ?kB ?_ ?c2 ?c3 ?c4 ?c5; (case kA => exact rfl); (case kF => exact rfl); (case kK => assumption); (case k1 => k_asm); (case k2 => k_asm); (case k3 => k_asm); (case k4 => exact Ns); (case k5 => k_asm); (case k6 => k_is); (case k7 => k_is); (case k8 => ktr_room); (case k9 => exact BindsTo.of_eq rfl); (case c5 => decide); (case kB => exact locs rfl); (case c2 => exact rfl); (case c3 => exact rfl); (case c4 => exact rfl); k_whole; intro g' L' h' FG' F' N' B' X' T' l1 l2 st kp; (try dsimp only); (try k_lift B'); (try k_fold))
  have C34' := C34.keeps st
  have C41' := C41.keeps st
  k_steps
  refine Hold.of ?_
  rename Fr _ _ _ _ => F1
  rename News _ _ _ _ => N1
  rename IsRange _ _ _ _ _ _ _ _ => R1
  refine iter_rangeUnr (n := 200) rfl R1 (by decide) (by decide) F1 N1 ?_
  intro I lI
  (try k_lt lI)
  refine' range_inv (InvSh ?m0 _) ?step ?done _ 0 _ _ rfl ?init
  (case init => refine' InvSh.start (ta := ?t0) (tb := ?t1) heuc hx hxb hy hyb ?ha ?hb; (case ha => exact rfl); (case hb => exact rfl))
  case step =>
    intro i m1 news1 ti hh tk1 hi hI F2 N2
    obtain ⟨a1, b1, ta1, tb1, u1, u2, rfl, rfl, he, ha0, ha1, hb0, hb1⟩ := hI
    have hi2 : 200 - i = (199 - i) + 1 := by omega
    rw [hi2, euc] at he
    k_steps
    · rename_i kF kN _ _ kpt
      have hz : b1 = 0 := by assumption
      rw [if_pos hz] at he
      have h1 : a1 = 1 := eq_of_beq he
      subst h1
      exact hret _ _ _ kF (news_same N (kept_of kpt Ns (fun p hp => kN p (sub4 (by k_mem) (by k_mem) (by k_mem) (by k_mem) p hp))))
    · have hz : ¬ b1 = 0 := by assumption
      rw [if_neg hz] at he
      have hb2 : 0 < b1 := by omega
      have r0 := Int.emod_nonneg a1 (show b1 ≠ 0 by omega)
      have r1 := Int.emod_lt_of_pos a1 hb2
      k_dflt (refine' c_div _ _ _ _ _ _ _ _ _ _ _ _ _ _ _ _ _ _ _ _ _ _ _ _ _ _ _ _ _ _ _ _ _ _ (by k_asm) (by k_asm) (by k_asm) (by k_asm) (by k_asm) rfl (by ktr_room) (by ktr_units) C34' C41' (by k_mem) (by k_mem) ho1 hv1 (by k_mem) (by k_mem) ho2 hv2 hlt1 hlt2 ha0 ha1 hb2 hb1 ?_)
      intro q3 t3 t4 h3 tk3 F3 N3 l3 l4
      replace l4 := ltN l4
      (try k_lt l3)
      k_steps
      refine Hold.of ?_
      refine' UnrEnd.intro (by k_asm) (by k_asm) _ (fun p hp => List.mem_cons_of_mem _ (List.mem_cons_of_mem _ hp)) ?off ⟨b1, a1 % b1, tb1, t4, some (.int (a1 % b1) t4), some (.int (0 + (i : Int)) ti), ?meq, rfl, ?eu, hb0, hb1, r0, by omega⟩
      case off => k_dflt k_all
      case meq =>
        funext z
        (repeat' split) <;> first | rfl | simp_all
      case eu => rw [show 200 - (i + 1) = 199 - i by omega]; exact he
  case done =>
    intro m1 news1 hh tk1 hI F2 N2
    obtain ⟨a1, b1, ta1, tb1, u1, u2, rfl, rfl, he, ha0, ha1, hb0, hb1⟩ := hI
    rw [Nat.sub_self, euc] at he
    cases he
end Mine

namespace Mine
local macro_rules | `(tactic| walk_at "WhlRest") => `(tactic| (refine Hold.out ?_))
section
variable {prog : Program} {w : World} {A : Around} {E : Value → Shared → Prop} {env : Env} {test : PySem.Expr} {body orelse : List Stmt} {Q : Flow → Shared → Prop} {g : Heap} {L : Addr}
theorem whl_ind (s : Shared) (n : Nat) (Inv : Nat → (Str → Option Value) → List (Addr × Obj) → Prop)
    (step : ∀ i, i ≤ n → (∀ m news h tk k, i < n → Inv (i + 1) m news → Fr g L h m → News g L h news → WhlRest prog w A E env test body orelse Q k { s with heap := h, toks := tk }) →
      ∀ m news h tk k, Inv i m news → Fr g L h m → News g L h news → WhlRest prog w A E env test body orelse Q k { s with heap := h, toks := tk }) :
    ∀ m news h tk k, Inv 0 m news → Fr g L h m → News g L h news → WhlRest prog w A E env test body orelse Q k { s with heap := h, toks := tk } := by
  have all : ∀ j i, i + j = n → ∀ m news h tk k, Inv i m news → Fr g L h m → News g L h news → WhlRest prog w A E env test body orelse Q k { s with heap := h, toks := tk } := by
    intro j
    induction j with
    | zero => intro i e; exact step i (by omega) fun _ _ _ _ _ h => absurd h (by omega)
    | succ j ih => intro i e; exact step i (by omega) fun m news h tk k _ hI F N => ih (i + 1) (by omega) m news h tk k hI F N
  exact all n 0 (by omega)
end
theorem news_tail {h₀ h : Heap} {L : Addr} {p : Addr × Obj} {l : List (Addr × Obj)} (N : News h₀ L h (p :: l)) : News h₀ L h l := fun q hq => N q (List.mem_cons_of_mem _ hq)
theorem newList_L {M : Model} {A : Around} {E : Value → Shared → Prop} {s : Shared} {h₀ : Heap} {L : Addr} {m : Str → Option Value} {news : List (Addr × Obj)} {vs : List Value} {Q : Value → Shared → Prop} (F : Fr h₀ L s.heap m) (N : News h₀ L s.heap news)
    (h : ∀ l h', Fr h₀ L h' m → News h₀ L h' ((l, listOf vs.toArray 0) :: news) → (∀ p ∈ news, p.1 < l) → @LT.lt Nat _ L l → Q (.ref l) { s with heap := h' }) (hsz : vs.length ≤ sizeLine := by size_fits) : wpAny M A (newList vs) Q E s :=
  newList_N F N (fun h' F' N' => h _ h' F' N' (fun p hp => Heap.lt_size (N p hp).1) F.ns.lt) hsz
theorem news_ext2 {h₀ h h' : Heap} {L q D : Addr} {m : Str → Option Value} {news : List (Addr × Obj)} {o o2 : Obj} (F : Fr h₀ L h m) (N : News h₀ L h news) (K : Kept [] h h') (hq : h'.get? q = some o) (hD : h'.get? D = some o2) (hs : h.objs.size ≤ D) (hDq : @LT.lt Nat _ D q) :
    News h₀ L h' ((q, o) :: (D, o2) :: news) ∧ (∀ p ∈ news, p.1 < D) ∧ @LT.lt Nat _ L D := by
  obtain ⟨a, b, c⟩ := news_ext F N K hD hs
  obtain ⟨a2, _, _⟩ := news_ext F N K hq (Nat.le_trans hs (Nat.le_of_lt hDq))
  refine ⟨fun p hp => ?_, b, c⟩
  rcases List.mem_cons.mp hp with rfl | hp
  · exact a2 _ (.head _)
  · exact a p hp
local macro_rules | `(tactic| walk_at "newList") => `(tactic| (k_here; k_dflt (refine' newList_L ?k1 ?k2 ?_; (case k1 => k_asm); (case k2 => k_asm); k_whole); intro l' h' F' N' l1 l2; (try k_lt l1); (try k_sweep)))
def pR (f g : Int) : Nat → Int
  | 0 => f
  | i + 1 => pR f g i * (pR f g i + g)
def sR (f g : Int) : Nat → Int
  | 0 => f
  | i + 1 => pR f g i + g
def rowR (f g : Int) (n : Nat) : List Int := (List.range n).map (sR f g)
theorem rowR_len (f g : Int) (n : Nat) : (rowR f g n).length = n := by unfold rowR; rw [List.length_map, List.length_range]
theorem rowR_succ (f g : Int) (n : Nat) : rowR f g (n + 1) = rowR f g n ++ [sR f g n] := by unfold rowR; rw [List.range_succ, List.map_append]; rfl
def InvRow (f g : Int) (l : Addr) (rest : List (Addr × Obj)) (m0 : Str → Option Value) (i : Nat) (m : Str → Option Value) (news : List (Addr × Obj)) : Prop :=
  ∃ (vs : List Value) (e : Nat) (tp : Tok), m = (fun z => if z = Str.ofString "product" then some (.int (pR f g i) tp) else m0 z) ∧ news = (l, listOf vs.toArray e) :: rest ∧ IntsAre vs (rowR f g (i + 1))
theorem InvRow.start {f g : Int} {l : Addr} {rest : List (Addr × Obj)} {m0 : Str → Option Value} {t1 tp : Tok} {e : Nat} (hp : m0 (Str.ofString "product") = some (.int f tp)) : InvRow f g l rest m0 0 m0 ((l, listOf #[.int f t1] e) :: rest) := by
  refine ⟨[.int f t1], e, tp, ?_, rfl, .cons _ _ .nil⟩
  funext z
  split <;> first | rfl | simp_all [pR]
theorem InvRow.mk {f g : Int} {l : Addr} {rest : List (Addr × Obj)} {m0 m : Str → Option Value} {i : Nat} {tp : Tok} {vs : List Value} {e : Nat} (h1 : m (Str.ofString "product") = some (.int (pR f g i) tp)) (h2 : ∀ z, z ≠ Str.ofString "product" → m z = m0 z)
    (hi : IntsAre vs (rowR f g (i + 1))) : InvRow f g l rest m0 i m ((l, listOf vs.toArray e) :: rest) := by
  refine ⟨vs, e, tp, ?_, rfl, hi⟩
  funext z
  by_cases h : z = Str.ofString "product"
  · rw [if_pos h, h, h1]
  · rw [if_neg h, h2 z h]
set_option maxHeartbeats 8000000 in
theorem c_row (w : World) (mean : ExcName → Option Value) (mg mb : Str → Option Value)
  (dp un : Nat) (gd : Option (List Code)) (cn : Str) (cs : Scope) (a : Addr) (ccd : Value) (cl : List (Str × Addr)) (outer : List Env) (A₀ : Around) (base h₀ : Heap) (L : Addr) (m : Str → Option Value) (news : List (Addr × Obj)) (s : Shared)
  (Q E : Value → Shared → Prop) (f g M : Int) (tf tg tM : Tok)
  (B : Below A₀ base outer h₀) (F : Fr h₀ L s.heap m) (X : (hd.heap_39 w.params).In h₀) (N : News h₀ L s.heap news)
  (T : Top topProg looseX mean mg mb h₀) (hk : cs.kind = .function) (hdp : dp + 2 < recursionLimit) (hun : un + 50 < cLine)
  (hM : 1 ≤ M) (hM2 : M ≤ 6) (hpb : ∀ i ≤ 5, 0 ≤ pR f g i ∧ pR f g i < 2 ^ 64) (hg : 0 ≤ g) (hg2 : g ≤ 2)
  (hret : ∀ q D vs e t h' tk', IntsAre vs (rowR f g M.toNat) → Fr h₀ L h' m → News h₀ L h' ((q, tup2 (.ref D) (.int (pR f g (M.toNat - 1)) t)) :: (D, listOf vs.toArray e) :: news) → (∀ p ∈ news, p.1 < D) → @LT.lt Nat _ D q → @LT.lt Nat _ L D → Q (.ref q) { s with heap := h', toks := tk' }) :
  wpAny (model PySem.Challenge.rw_id0006_01.row.prog w) (ktrTop dp un gd cn cs L a ccd cl outer) (call (.ref 77) [.int f tf, .int g tg, .int M tM]) Q E s := by
  obtain ⟨n, hn⟩ : ∃ n : Nat, M = n + 1 := ⟨(M - 1).toNat, by omega⟩
  revert X; k_fill; intro X
  refine wpAny_call ?_
  k_dflt (refine' enterF (news := []) ?k1 ?k2 ?k3 ?k4 ?k5 ?kA ?kF ?kK ?k6 ?k7 ?k8 ?k9 ?kB ?_ ?c2 ?c3 ?c4 ?c5; (case kA => exact rfl); (case kF => exact rfl); (case kK => assumption); (case k1 => k_asm); (case k2 => k_asm); (case k3 => k_asm); (case k4 => exact fun _ h => nomatch h); (case k5 => k_asm); (case k6 => k_is); (case k7 => k_is); (case k8 => ktr_room); (case k9 => exact BindsTo.of_eq rfl); (case c5 => decide); (case kB => exact locs rfl); (case c2 => exact rfl); (case c3 => exact rfl); (case c4 => exact rfl); k_whole; intro g' L' h' FG' F' N' B' X' T' l1 l2 st kp; (try dsimp only); (try k_lift B'); (try k_fold))
  k_steps
  refine Hold.of ?_
  rename Fr _ _ _ _ => F1
  rename News _ _ _ _ => N1
  replace N1 := news_tail N1
  refine' whl_ind s n (InvRow f g _ _ ?m0) ?step _ _ _ _ _ ?init F1 N1
  (case init => refine' InvRow.start (tp := ?t0) ?ha; (case ha => exact rfl))
  case step =>
    intro i hi IH m1 news1 hh tk1 k1 hI F2 N2
    obtain ⟨vs, e, tp, rfl, rfl, hiv⟩ := hI
    have hvl : vs.length = i + 1 := hiv.length.trans (rowR_len _ _ _)
    have hvs : vs.toArray.size = i + 1 := by rw [List.size_toArray]; exact hvl
    obtain ⟨p0, p1⟩ := hpb i (by omega)
    k_dflt (refine' whl_turn (k := 98) ?hE ?_; (case hE => first | passes_own | with_unfolding_all passes_own))
    k_steps
    by_cases hlt : i < n
    · refine WhlIf.yes (decide_eq_true (by omega)) ?_
      have hnl : ∀ v : Value, vs.toArray.push v = (vs ++ [v]).toArray := fun v => by simp
      have hi2 : ∀ t, IntsAre (vs ++ [.int (pR f g i + g) t]) (rowR f g (i + 1 + 1)) := fun t => by rw [rowR_succ]; exact IntsAre.append hiv (.cons _ _ .nil)
      k_steps
      refine Hold.of ?_
      refine' IH _ _ _ _ _ hlt (InvRow.mk (tp := ?tt) ?h1 ?h2 (hi2 _)) (by k_asm) (by k_asm)
      case h1 => exact rfl
      case h2 => intro z hz; simp [hz]
    · refine WhlIf.no (decide_eq_false (by omega)) ?_
      have hin : i = n := by omega
      subst hin
      k_steps
      rename_i kF kN _ _ kpt
      have e1 : M.toNat = i + 1 := by omega
      have e2 : M.toNat - 1 = i := by omega
      rw [e2, e1] at hret
      have z := news_ext2 F N kpt (kN (_, tup2 _ (.int (pR f g i) tp)) (.head _)).1 (kN (_, listOf vs.toArray e) (.tail _ (.head _))).1 (by omega) (by omega)
      exact hret _ _ _ _ _ _ _ hiv kF z.1 z.2.1 (by omega) z.2.2
end Mine

namespace Mine
local macro_rules | `(tactic| walk_at "UnrEnd") => `(tactic| (refine Hold.out ?_))
theorem newDict_L {prog : Program} {w : World} {A : Around} {E : Value → Shared → Prop} {s : Shared} {h₀ : Heap} {L : Addr} {m : Str → Option Value} {news : List (Addr × Obj)} {env : Env} {pos : Pos} {Q : Value → Shared → Prop} (F : Fr h₀ L s.heap m) (N : News h₀ L s.heap news) (hbig : h₀.NoLimit)
    (k : ∀ d h' o, Fr h₀ L h' m → News h₀ L h' ((d, o) :: news) → (∀ p ∈ news, p.1 < d) → @LT.lt Nat _ L d → (d == sysModules) = false → o.IsDictOf (PySem.strKind prog w) ([] : List (Str × Value)) → PyProof.V.FlatPairs PyData.str ([] : List (Str × Value)) [] →
      o.IsDictOf (intKind prog w) ([] : List (Int × Value)) → PyProof.V.FlatPairs PyData.int ([] : List (Int × Value)) [] → Q (.ref d) { s with heap := h' }) : wpAny (model prog w) A (eval (.Dict [] [] pos) env) Q E s :=
  Dict_empty_made2 F N (modules_low hbig) fun h' o F' N' lo a b c e _ => k _ h' o F' N' (fun p hp => Heap.lt_size (N p hp).1) F.ns.lt lo a b c e
local macro_rules | `(tactic| walk_at "eval Dict nil nil") => `(tactic| (k_here; k_dflt (refine' newDict_L ?k1 ?k2 (TopRead.nolimit (by k_asm)) ?_; (case k1 => k_asm); (case k2 => k_asm); k_whole); intro d' h' o' F' N' l1 l2 lo' hs' fs' hi' fi'; (try k_lt l1); (try k_sweep)))
abbrev EmptyD (w : World) (d : Addr) (o : Obj) : Prop := (d == sysModules) = false ∧ Obj.IsDictOf (PySem.strKind PySem.Challenge.rw_id0006_01.row.prog w) o ([] : List (Str × Value)) ∧ Obj.IsDictOf (intKind PySem.Challenge.rw_id0006_01.row.prog w) o ([] : List (Int × Value))
set_option maxHeartbeats 8000000 in
theorem c_callers (w : World) (mean : ExcName → Option Value) (mg mb : Str → Option Value)
  (dp un : Nat) (gd : Option (List Code)) (cn : Str) (cs : Scope) (a : Addr) (ccd : Value) (cl : List (Str × Addr)) (outer : List Env) (A₀ : Around) (base h₀ : Heap) (L : Addr) (m : Str → Option Value) (news : List (Addr × Obj)) (s : Shared)
  (Q E : Value → Shared → Prop) (d1 d2 : Addr) (o1 o2 : Obj)
  (B : Below A₀ base outer h₀) (F : Fr h₀ L s.heap m) (X : (hd.heap_39 w.params).In h₀) (N : News h₀ L s.heap news)
  (T : Top topProg looseX mean mg mb h₀) (hk : cs.kind = .function) (hdp : dp + 2 < recursionLimit) (hun : un + 50 < cLine)
  (hd1 : (d1, o1) ∈ news) (hd2 : (d2, o2) ∈ news) (hlt : @LT.lt Nat _ d1 d2) (he1 : EmptyD w d1 o1) (he2 : EmptyD w d2 o2)
  (hret : ∀ D o h' tk', EmptyD w D o → Fr h₀ L h' m → News h₀ L h' ((D, o) :: news) → (∀ p ∈ news, p.1 < D) → @LT.lt Nat _ L D → Q (.ref D) { s with heap := h', toks := tk' }) :
  wpAny (model PySem.Challenge.rw_id0006_01.row.prog w) (ktrTop dp un gd cn cs L a ccd cl outer) (call (.ref 70) [.ref d1, .ref d2]) Q E s := by
  have hsub := sub2 hd1 hd2
  have Ns : News h₀ L s.heap _ := fun p hp => N p (hsub p hp)
  obtain ⟨lo1, hs1, hi1⟩ := he1
  obtain ⟨lo2, hs2, hi2⟩ := he2
  revert X; k_fill; intro X
  refine wpAny_call ?_
  k_dflt (refine' enterF (news := [(d1, o1), (d2, o2)]) ?k1 ?k2 ?k3 ?k4 ?k5 ?kA ?kF ?kK ?k6 ?k7 ?k8 ?k9 ?kB ?_ ?c2 ?c3 ?c4 ?c5; (case kA => exact rfl); (case kF => exact rfl); (case kK => assumption); (case k1 => k_asm); (case k2 => k_asm); (case k3 => k_asm); (case k4 => exact Ns); (case k5 => k_asm); (case k6 => k_is); (case k7 => k_is); (case k8 => ktr_room); (case k9 => exact BindsTo.of_eq rfl); (case c5 => decide); (case kB => exact locs rfl); (case c2 => exact rfl); (case c3 => exact rfl); (case c4 => exact rfl); k_whole; intro g' L' h' FG' F' N' B' X' T' l1 l2 st kp; (try dsimp only); (try k_lift B'); (try k_fold))
  k_steps
  rename_i kF kN _ _ kpt
  have kk := kept_of kpt Ns (fun p hp => kN p (sub2 (by k_mem) (by k_mem) p hp))
  have hle : s.heap.objs.size ≤ L' := l2
  have z := news_ext F N kk (kN _ (.head _)).1 (by omega)
  exact hret _ _ _ _ ⟨by assumption, by assumption, by assumption⟩ kF z.1 z.2.1 z.2.2
end Mine

namespace Mine
local macro_rules | `(tactic| walk_at "eval Dict nil nil") => `(tactic| (k_here; k_dflt (refine' newDict_L ?k1 ?k2 (TopRead.nolimit (by k_asm)) ?_; (case k1 => k_asm); (case k2 => k_asm); k_whole); intro d' h' o' F' N' l1 l2 lo' hs' fs' hi' fi'; (try k_lt l1); (try k_sweep)))
abbrev tup5 (a b c d e : Value) : Obj := { cls := .type "tuple", data := .seq #[a, b, c, d, e] }
set_option maxHeartbeats 8000000 in
theorem c_stats (w : World) (mean : ExcName → Option Value) (mg mb : Str → Option Value)
  (dp un : Nat) (gd : Option (List Code)) (cn : Str) (cs : Scope) (a : Addr) (ccd : Value) (cl : List (Str × Addr)) (outer : List Env) (A₀ : Around) (base h₀ : Heap) (L : Addr) (m : Str → Option Value) (news : List (Addr × Obj)) (s : Shared)
  (Q E : Value → Shared → Prop) (p q D1 D2 : Addr) (o1 o2 : Obj) (x1 x2 x3 x4 y1 y2 y3 y4 : Int) (t1 t2 t3 t4 u1 u2 u3 u4 : Tok)
  (B : Below A₀ base outer h₀) (F : Fr h₀ L s.heap m) (X : (hd.heap_39 w.params).In h₀) (N : News h₀ L s.heap news)
  (T : Top topProg looseX mean mg mb h₀) (hk : cs.kind = .function) (hdp : dp + 4 < recursionLimit) (hun : un + 80 < cLine)
  (hp : (p, tup5 (.int x1 t1) (.int x2 t2) (.int x3 t3) (.int x4 t4) (.ref D1)) ∈ news) (hq : (q, tup5 (.int y1 u1) (.int y2 u2) (.int y3 u3) (.int y4 u4) (.ref D2)) ∈ news)
  (hd1 : (D1, o1) ∈ news) (hd2 : (D2, o2) ∈ news) (hlt : @LT.lt Nat _ D1 D2) (he1 : EmptyD w D1 o1) (he2 : EmptyD w D2 o2)
  (hret : ∀ r D o v1 v2 v3 v4 h' tk', EmptyD w D o → Fr h₀ L h' m → News h₀ L h' ((r, tup5 (.int (y1 + x1) v1) (.int (y2 + x2) v2) (.int (y3 + x3) v3) (.int (y4 + x4) v4) (.ref D)) :: (D, o) :: news) → (∀ p ∈ news, p.1 < D) → @LT.lt Nat _ D r → @LT.lt Nat _ L D → Q (.ref r) { s with heap := h', toks := tk' }) :
  wpAny (model PySem.Challenge.rw_id0006_01.row.prog w) (ktrTop dp un gd cn cs L a ccd cl outer) (call (.ref 63) [.ref p, .ref q]) Q E s := by
  have hsub := sub4 hp hq hd1 hd2
  have Ns : News h₀ L s.heap _ := fun p hp => N p (hsub p hp)
  revert X; k_fill; intro X
  refine wpAny_call ?_
  k_dflt (refine' enterF (news := _) ?k1 ?k2 ?k3 ?k4 ?k5 ?kA ?kF ?kK ?k6 ?k7 ?k8 ?k9 ?kB ?_ ?c2 ?c3 ?c4 ?c5; (case kA => exact rfl); (case kF => exact rfl); (case kK => assumption); (case k1 => k_asm); (case k2 => k_asm); (case k3 => k_asm); (case k4 => exact Ns); (case k5 => k_asm); (case k6 => k_is); (case k7 => k_is); (case k8 => ktr_room); (case k9 => exact BindsTo.of_eq rfl); (case c5 => decide); (case kB => exact locs rfl); (case c2 => exact rfl); (case c3 => exact rfl); (case c4 => exact rfl); k_whole; intro g' L' h' FG' F' N' B' X' T' l1 l2 st kp; (try dsimp only); (try k_lift B'); (try k_fold))
  k_steps
  k_dflt (refine' c_callers _ _ _ _ _ _ _ _ _ _ _ _ _ _ _ _ _ _ _ _ _ _ _ _ _ _ (by k_asm) (by k_asm) (by k_asm) (by k_asm) (by k_asm) rfl (by ktr_room) (by ktr_units) (by k_mem) (by k_mem) hlt he1 he2 ?_)
  intro D5 o5 h5 tk5 hE5 F5 N5 l5 l6
  (try k_lt l5)
  k_steps
  rename_i kF kN _ _ kpt
  have kk := kept_of kpt Ns (fun p hp => kN p (sub4 (by k_mem) (by k_mem) (by k_mem) (by k_mem) p hp))
  have z := news_ext2 F N kk (kN (_, tup5 _ _ _ _ (.ref D5)) (.head _)).1 (kN (D5, o5) (.tail _ (.head _))).1 (by omega) (by omega)
  exact hret _ _ _ _ _ _ _ _ _ hE5 kF z.1 z.2.1 (by omega) z.2.2
end Mine

namespace Mine
theorem news_fresh {h₀ h h' : Heap} {L q : Addr} {m : Str → Option Value} {l : List (Addr × Obj)} {o : Obj} (F : Fr h₀ L h m) (N : News h₀ L h' l) (hq : h'.get? q = some o) (hs : h.objs.size ≤ q) : News h₀ L h' ((q, o) :: l) := by
  have hL : L < q := Nat.lt_of_lt_of_le F.ns.lt hs
  intro p hp
  rcases List.mem_cons.mp hp with rfl | hp
  · exact ⟨hq, Nat.ne_of_gt hL, Heap.get?_none_of_le (Nat.le_trans F.above (Nat.le_of_lt hL))⟩
  · exact N p hp
set_option maxHeartbeats 8000000 in
theorem m_i2d (w : World) (mean : ExcName → Option Value) (mg mb : Str → Option Value)
  (dp un : Nat) (gd : Option (List Code)) (cn : Str) (cs : Scope) (a : Addr) (ccd : Value) (cl : List (Str × Addr)) (outer : List Env) (A₀ : Around) (base h₀ : Heap) (L : Addr) (m : Str → Option Value) (news : List (Addr × Obj)) (s : Shared)
  (Q E : Value → Shared → Prop) (x n : Int) (tx tn : Tok) (g : Obj → List (Addr × Obj))
  (B : Below A₀ base outer h₀) (F : Fr h₀ L s.heap m) (X : (hd.heap_39 w.params).In h₀) (N : News h₀ L s.heap news)
  (T : Top topProg looseX mean mg mb h₀) (hk : cs.kind = .function) (hdp : dp + 80 < recursionLimit) (hun : un + 800 < cLine)
  (C34 : CodeHd h₀ 34 30) (U : UpdF 30 (tabObj #[]) news g)
  (hx : 0 ≤ x) (hn : 0 < n) (hb : x < 2 ^ 64) (hnb : n ≤ 64) (hx0 : x ≠ 0)
  (hret : ∀ q vs' h' tk' c1 oc1 vs1 t1, IntsAre vs' (dgs n.toNat x (dlen x n)) → oc1.data = .fields vs1 → vs1[1]? = some (.str q1 t1) → Fr h₀ L h' m → News h₀ L h' ((q, listOf vs'.toArray 0) :: (c1, oc1) :: g (T30 c1)) → (∀ p ∈ news, p.1 < q) → @LT.lt Nat _ L q → @LT.lt Nat _ q c1 → @LT.lt Nat _ 30 c1 → Q (.ref q) { s with heap := h', toks := tk' }) :
  wpAny (model PySem.Challenge.rw_id0006_01.row.prog w) (ktrTop dp un gd cn cs L a ccd cl outer) (call (.ref 35) [.int x tx, .int n tn]) Q E s := by
  have hbits := bits_le hx hb
  obtain ⟨hq0, hq1, hq2, hq3, hq4⟩ := len_facts hx hb hn hnb
  have hdl : ((Builtin.Int.intBits x : Int) + n - 1).fdiv n = (dlen x n : Int) := (Int.toNat_of_nonneg hq0).symm
  have Ns : News h₀ L s.heap [(30, tabObj #[])] := fun p hp => N p (by rw [List.mem_singleton.mp hp]; exact upd_mem U)
  revert X; k_fill; intro X
  refine wpAny_call ?_
  k_dflt (refine' enterFC (news := [(30, tabObj #[])]) ?k1 ?k2 ?k3 ?k4 ?k5 ?kA ?kF ?kK ?k6 ?k7 ?k8 ?k9 ?kB ?kD ?_ ?c2 ?c3 ?c4; (case kA => exact rfl); (case kF => exact rfl); (case kK => assumption); (case k1 => k_asm); (case k2 => k_asm); (case k3 => k_asm); (case k4 => exact Ns); (case k5 => k_asm); (case k6 => k_is); (case k7 => k_is); (case k8 => ktr_room); (case k9 => exact BindsTo.of_eq rfl); (case kB => exact rfl); (case kD => decide +kernel); (case c2 => exact rfl); (case c3 => exact rfl); (case c4 => exact rfl); k_whole; intro g' L' h' tk' cells' FG' F' N' Y' B' X' T' l1 l2 st kp; (try k_lt l1); k_cells Y'; (try simp only [List.cons_append, List.nil_append] at N'); (try dsimp only); (try k_lift B'); (try k_fold))
  have C34' := C34.keeps st
  k_steps
  · rename (List.length _ = _) => e1
    rename IntsAre _ _ => i1
    have en := e1
    rw [flat_rep, List.length_replicate] at en
    subst en
    have i2 : IntsAre (List.replicate (((Builtin.Int.intBits x : Int) + n - 1).fdiv n).toNat [Value.int 0 tk']).flatten (List.replicate (dlen x n) (0 : Int)) := by rw [← flat_rep]; exact i1
    have hpos := hq2 hx0
    have e5 : (((dlen x n : Nat) : Int) - 0).toNat = dlen x n := by omega
    k_dflt (refine' inner1_use (inner1_all w mean mg mb (dlen x n)) (by k_asm) (by k_asm) (by k_asm) (by k_asm) (by k_asm) C34' rfl (by ktr_room) (by ktr_units) (by k_mem) (by k_mem) (by k_asm) (by k_mem) (by k_asm) (by k_mem) (by k_asm) (by k_mem) (by k_asm) (by k_asm) (by k_updF) i2 (by omega) (by omega) (by rw [List.length_replicate]; exact Int.le_refl _) (by rw [List.length_replicate]; omega) hn hnb hx hb ?hxb ?hsz ?_)
    (case hxb => exact (show x < 2 ^ (n.toNat * (((dlen x n : Nat) : Int) - 0).toNat) by rw [e5]; exact hq4))
    (case hsz => exact (show (((dlen x n : Nat) : Int) - 0).toNat ≤ dlen x n by omega))
    intro vs2 h2 tk2 hi2 F2 N2
    (try dsimp only at N2)
    have hi3 : IntsAre vs2 (dgs n.toNat x (dlen x n)) := by
      have e : IntsAre vs2 ((List.replicate (dlen x n) (0 : Int)).take (Int.toNat 0) ++ dgs n.toNat x (((dlen x n : Nat) : Int) - 0).toNat ++ (List.replicate (dlen x n) (0 : Int)).drop (((dlen x n : Nat) : Int)).toNat) := hi2
      simpa using e
    k_steps
    rename_i kF kN _ _ kpt
    have hle : s.heap.objs.size ≤ L' := l2
    have hN := N
    refine' hret _ _ _ _ _ _ _ _ hi3 ?d1 ?d2 kF (news_fresh F (news_fresh F (upd_back (o' := T30 _) (nwr := []) U N (fun _ h => nomatch h) ?g1 kpt) (kN _ (.tail _ (.head _))).1 ?h1) (kN (_, listOf vs2.toArray 0) (by k_mem)).1 ?h2) ?lt1 ?lt2 ?lt3 ?lt4
    case d1 => k_asm
    case d2 => k_asm
    case g1 =>
      intro p hp
      rw [List.mem_singleton.mp hp]
      exact kN (30, T30 _) (by k_mem)
    case h1 => omega
    case h2 => omega
    case lt1 => exact fun p hp => Nat.lt_of_lt_of_le (Heap.lt_size (hN p hp).1) (by omega)
    case lt2 =>
      have hLs : @LT.lt Nat _ L s.heap.objs.size := F.ns.lt
      omega
    case lt3 => omega
    case lt4 => omega
  · exact absurd (by assumption) hx0
end Mine

namespace Mine
set_option maxHeartbeats 8000000 in
theorem m_d2i (w : World) (mean : ExcName → Option Value) (mg mb : Str → Option Value)
  (dp un : Nat) (gd : Option (List Code)) (cn : Str) (cs : Scope) (a : Addr) (ccd : Value) (cl : List (Str × Addr)) (outer : List Env) (A₀ : Around) (base h₀ : Heap) (L : Addr) (m : Str → Option Value) (news : List (Addr × Obj)) (s : Shared)
  (Q E : Value → Shared → Prop) (n : Int) (tn : Tok) (D : Addr) (vs : List Value) (ns : List Int) (e : Nat) (g : Obj → List (Addr × Obj))
  (B : Below A₀ base outer h₀) (F : Fr h₀ L s.heap m) (X : (hd.heap_39 w.params).In h₀) (N : News h₀ L s.heap news)
  (T : Top topProg looseX mean mg mb h₀) (hk : cs.kind = .function) (hdp : dp + 80 < recursionLimit) (hun : un + 800 < cLine)
  (C41 : CodeHd h₀ 41 37) (U : UpdF 37 (tabObj #[]) news g)
  (hL : (D, listOf vs.toArray e) ∈ news) (hi : IntsAre vs ns) (hn64 : ns.length ≤ 64) (hpos : ∀ d ∈ ns, 0 ≤ d) (hval : und n.toNat ns < 2 ^ 64)
  (hn : 0 < n) (hnb : n ≤ 64) (hne : 0 < ns.length)
  (hret : ∀ t h' tk' c2 oc2 vs2 t2, oc2.data = .fields vs2 → vs2[1]? = some (.str q2 t2) → Fr h₀ L h' m → News h₀ L h' ((c2, oc2) :: g (T37 c2)) → (∀ p ∈ news, p.1 < c2) → @LT.lt Nat _ L c2 → @LT.lt Nat _ 37 c2 → Q (.int (und n.toNat ns) t) { s with heap := h', toks := tk' }) :
  wpAny (model PySem.Challenge.rw_id0006_01.row.prog w) (ktrTop dp un gd cn cs L a ccd cl outer) (call (.ref 42) [.ref D, .int n tn]) Q E s := by
  have hne7 : @Ne Nat D 37 := fun q => by have z := (N _ hL).1; rw [q, (N _ (upd_mem U)).1] at z; cases z
  have hsub := sub2 hL (upd_mem U)
  have Ns : News h₀ L s.heap _ := fun p hp => N p (hsub p hp)
  have hlen : vs.length = ns.length := hi.length
  revert X; k_fill; intro X
  refine wpAny_call ?_
  k_dflt (refine' enterFC (news := [(D, listOf vs.toArray e), (37, tabObj #[])]) ?k1 ?k2 ?k3 ?k4 ?k5 ?kA ?kF ?kK ?k6 ?k7 ?k8 ?k9 ?kB ?kD ?_ ?c2 ?c3 ?c4; (case kA => exact rfl); (case kF => exact rfl); (case kK => assumption); (case k1 => k_asm); (case k2 => k_asm); (case k3 => k_asm); (case k4 => exact Ns); (case k5 => k_asm); (case k6 => k_is); (case k7 => k_is); (case k8 => ktr_room); (case k9 => exact BindsTo.of_eq rfl); (case kB => exact rfl); (case kD => decide +kernel); (case c2 => exact rfl); (case c3 => exact rfl); (case c4 => exact rfl); k_whole; intro g' L' h' tk' cells' FG' F' N' Y' B' X' T' l1 l2 st kp; (try k_lt l1); k_cells Y'; (try simp only [List.cons_append, List.nil_append] at N'); (try dsimp only); (try k_lift B'); (try k_fold))
  have C41' := C41.keeps st
  k_steps
  · have hlp : 0 < ns.length := by assumption
    have e5 : (((ns.length : Nat) : Int) - 0).toNat = ns.length := by omega
    have e6 : (ns.drop (Int.toNat 0)).take (((ns.length : Nat) : Int) - 0).toNat = ns := by rw [e5]; exact List.take_length
    k_dflt (refine' inner2_use (inner2_all w mean mg mb ns.length) (by k_asm) (by k_asm) (by k_asm) (by k_asm) (by k_asm) C41' rfl (by ktr_room) (by ktr_units) (by k_mem) (by k_mem) (by k_asm) (by k_mem) (by k_asm) (by k_mem) (by k_asm) (by k_mem) (by k_asm) (by k_asm) (by k_mem) hi (by omega) (by omega) (by omega) hn64 hn hnb hpos ?hv ?hsz ?_)
    (case hv => exact (show und n.toNat ((ns.drop (Int.toNat 0)).take (((ns.length : Nat) : Int) - 0).toNat) < 2 ^ 64 by rw [e6]; exact hval))
    (case hsz => exact Nat.le_of_eq e5)
    intro t3 h3 tk3 F3 N3
    k_steps
    rename_i kF kN _ _ kpt
    rw [← e6] at hret
    have hle : s.heap.objs.size ≤ L' := l2
    have hN := N
    have hLs : @LT.lt Nat _ L s.heap.objs.size := F.ns.lt
    refine' hret _ _ _ _ _ _ _ ?d1 ?d2 kF (news_fresh F (upd_back (o' := T37 _) (nwr := [(D, listOf vs.toArray e)]) U N (fun p hp => by rw [List.mem_singleton.mp hp]; exact hL) ?g1 (fun b o hb eb => kpt b o (fun hm => hb (by simp only [List.map_cons, List.map_nil, List.mem_cons, List.not_mem_nil, or_false] at hm ⊢; exact hm.symm)) eb)) (kN _ (.tail _ (.head _))).1 ?h1) ?lt1 ?lt2 ?lt3
    case d1 => k_asm
    case d2 => k_asm
    case g1 =>
      intro p hp
      rcases List.mem_cons.mp hp with rfl | hp
      · exact kN (37, T37 _) (by k_mem)
      · rw [List.mem_singleton.mp hp]; exact kN (D, listOf vs.toArray e) (by k_mem)
    case h1 => omega
    case lt1 => exact fun p hp => Nat.lt_of_lt_of_le (Heap.lt_size (hN p hp).1) (by omega)
    case lt2 => omega
    case lt3 => omega
end Mine

namespace Mine
local macro_rules | `(tactic| walk_at "pyIter ref") => `(tactic| ((with_reducible show wpAny _ _ (pyIter (Value.ref _)) (fun it s₂ => LoopAtV _ _ _ _ _ _ _ _ _ it s₂) _ _); refine Hold.out ?_))
local macro_rules | `(tactic| walk_at "UnrEnd") => `(tactic| (refine Hold.out ?_))
theorem miss_back {h₀ h h' : Heap} {L : Addr} {rest : List (Addr × Obj)} {a b a' b' : Obj} (N : News h₀ L h ((37, a) :: (30, b) :: rest)) (K : Kept ([(37, a), (30, b)].map (·.1)) h h') (hap : ∀ p ∈ rest, p.1 ≠ 37 ∧ p.1 ≠ 30) (h37 : h'.get? 37 = some a') (h30 : h'.get? 30 = some b') :
    News h₀ L h' ((37, a') :: (30, b') :: rest) := by
  intro p hp
  rcases List.mem_cons.mp hp with rfl | hp
  · exact ⟨h37, (N (37, a) (.head _)).2⟩
  · rcases List.mem_cons.mp hp with rfl | hp
    · exact ⟨h30, (N (30, b) (.tail _ (.head _))).2⟩
    · have hm := N p (.tail _ (.tail _ hp))
      refine ⟨K _ _ (fun hb => ?_) hm.1, hm.2⟩
      simp only [List.map_cons, List.map_nil, List.mem_cons, List.not_mem_nil, or_false] at hb
      exact hb.elim (hap p hp).1 (hap p hp).2
set_option maxHeartbeats 8000000 in
theorem m_dmpos (w : World) (mean : ExcName → Option Value) (mg mb : Str → Option Value)
  (dp un : Nat) (gd : Option (List Code)) (cn : Str) (cs : Scope) (a : Addr) (ccd : Value) (cl : List (Str × Addr)) (outer : List Env) (A₀ : Around) (base h₀ : Heap) (L : Addr) (m : Str → Option Value) (news : List (Addr × Obj)) (s : Shared)
  (Q E : Value → Shared → Prop) (x y : Int) (tx ty : Tok) (rest : List (Addr × Obj))
  (B : Below A₀ base outer h₀) (F : Fr h₀ L s.heap m) (X : (hd.heap_39 w.params).In h₀) (N : News h₀ L s.heap ((37, tabObj #[]) :: (30, tabObj #[]) :: rest))
  (T : Top topProg looseX mean mg mb h₀) (hk : cs.kind = .function) (hdp : dp + 100 < recursionLimit) (hun : un + 1000 < cLine)
  (C34 : CodeHd h₀ 34 30) (C41 : CodeHd h₀ 41 37) (hap : ∀ p ∈ rest, p.1 ≠ 37 ∧ p.1 ≠ 30) (hx0 : x ≠ 0)
  (hx : 0 ≤ x) (hxb : x < 2 ^ 64) (hy : 0 < y) (hyb : y < 2 ^ 64)
  (hret : ∀ q t1 t2 h' tk' c1 oc1 vs1 u1 c2 oc2 vs2 u2, oc1.data = .fields vs1 → vs1[1]? = some (.str q1 u1) → oc2.data = .fields vs2 → vs2[1]? = some (.str q2 u2) → Fr h₀ L h' m →
    News h₀ L h' ((q, tup2 (.int (x / y) t1) (.int (x % y) t2)) :: (c2, oc2) :: (c1, oc1) :: (37, T37 c2) :: (30, T30 c1) :: rest) → (∀ p ∈ rest, p.1 < c1) → @LT.lt Nat _ L c1 → @LT.lt Nat _ 30 c1 → @LT.lt Nat _ 37 c1 → @LT.lt Nat _ c1 c2 → @LT.lt Nat _ c2 q → Q (.ref q) { s with heap := h', toks := tk' }) :
  wpAny (model PySem.Challenge.rw_id0006_01.row.prog w) (ktrTop dp un gd cn cs L a ccd cl outer) (call (.ref 49) [.int x tx, .int y ty]) Q E s := by
  have Ns : News h₀ L s.heap [(37, tabObj #[]), (30, tabObj #[])] := fun p hp => N p (sub2 (.head _) (.tail _ (.head _)) p hp)
  have hnb := bits_le (Int.le_of_lt hy) hyb
  have hn0 : 0 < (Builtin.Int.intBits y : Int) := by have := bits_pos (show y ≠ 0 by omega); omega
  have hylt := lt_bits (Int.le_of_lt hy)
  obtain ⟨hq0, hq1, hq2, hq3, hq4⟩ := len_facts hx hxb hn0 hnb
  revert X; k_fill; intro X
  refine wpAny_call ?_
  k_dflt (refine' enterF (news := [(37, tabObj #[]), (30, tabObj #[])]) ?k1 ?k2 ?k3 ?k4 ?k5 ?kA ?kF ?kK ?k6 ?k7 ?k8 ?k9 ?kB ?_ ?c2 ?c3 ?c4 ?c5; (case kA => exact rfl); (case kF => exact rfl); (case kK => assumption); (case k1 => k_asm); (case k2 => k_asm); (case k3 => k_asm); (case k4 => exact Ns); (case k5 => k_asm); (case k6 => k_is); (case k7 => k_is); (case k8 => ktr_room); (case k9 => exact BindsTo.of_eq rfl); (case c5 => decide); (case kB => exact locs rfl); (case c2 => exact rfl); (case c3 => exact rfl); (case c4 => exact rfl); k_whole; intro g' L' h' FG' F' N' B' X' T' l1 l2 st kp; (try dsimp only); (try k_lift B'); (try k_fold))
  have C34' := C34.keeps st
  have C41' := C41.keeps st
  k_steps
  k_dflt (refine' m_i2d _ _ _ _ _ _ _ _ _ _ _ _ _ _ _ _ _ _ _ _ _ _ _ _ _ _ _ (by k_asm) (by k_asm) (by k_asm) (by k_asm) (by k_asm) rfl (by ktr_room) (by ktr_units) C34' (by k_updF) hx hn0 hxb hnb hx0 ?_)
  intro qd vsd hd1 tkd c1 oc1 vs1 u1 hid ho1 hv1 Fd Nd ld1 ld2 ld3 ld4
  (try dsimp only at Nd)
  rw [Int.toNat_natCast] at hid
  generalize hds : dgs (Builtin.Int.intBits y) x (dlen x (Builtin.Int.intBits y)) = ds at hid
  have hdl : ds.length = dlen x (Builtin.Int.intBits y) := by rw [← hds]; exact dgs_len _ _ _
  have hdm : ∀ d ∈ ds, 0 ≤ d ∧ d < 2 ^ (Builtin.Int.intBits y) := by rw [← hds]; exact dgs_mem _ _ _
  have hund : und (Builtin.Int.intBits y) ds = x := by
    rw [← hds, und_dgs, Int.emod_eq_of_lt hx]
    rw [Int.toNat_natCast] at hq4; exact hq4
  have hlen : vsd.length = ds.length := hid.length
  have hvs64 : vsd.length ≤ 64 := by rw [hlen, hdl]; unfold dlen; omega
  (try k_lt ld1)
  k_steps
  refine Hold.of ?_
  rename Fr _ _ _ _ => F1
  rename News _ _ _ _ => N1
  refine iter_revUnr (lo := listOf vsd.toArray 0) (vs := vsd) (n := 0) rfl F1 N1 (by k_dflt k_offL) (by k_mem) rfl rfl ?_
  refine' rev_inv (InvDM (Builtin.Int.intBits y) ds y _ _ ?m0) ?step ?done _ 0 _ _ rfl (Nat.zero_le _) ?init
  (case init => refine' InvDM.start (t0 := ?t0) hy ?hr; (case hr => exact rfl))
  case step =>
    intro i v m1 news1 it hh tk1 hv hI hit F2 N2
    obtain ⟨qs, qvs, tr, e, u1, u2, rfl, rfl, hqi, hql, hqp, hqu⟩ := hI
    obtain ⟨d, hdi, tv, rfl⟩ : ∃ d, ds.reverse[i]? = some d ∧ ∃ tv, v = .int d tv := by
      have hlt : i < vsd.length := by
        rcases Nat.lt_or_ge i vsd.reverse.length with h | h
        · rw [List.length_reverse] at h; exact h
        · rw [List.getElem?_eq_none h] at hv; cases hv
      have hlt2 : i < ds.reverse.length := by rw [List.length_reverse]; omega
      obtain ⟨t, ht⟩ := (ints_rev hid).get i ds.reverse[i] (List.getElem?_eq_getElem hlt2)
      exact ⟨_, List.getElem?_eq_getElem hlt2, t, Option.some.inj (hv.symm.trans ht)⟩
    have hdd := hdm d (List.mem_reverse.mp (List.mem_of_getElem? hdi))
    obtain ⟨b1, b2⟩ := dm_bound (V := topV (Builtin.Int.intBits y) ds i) hy hyb (show Builtin.Int.intBits y ≤ 64 by omega) hdd.1 hdd.2
    have b3 := Int.emod_nonneg (topV (Builtin.Int.intBits y) ds i) (show y ≠ 0 by omega)
    have b4 := Int.emod_lt_of_pos (topV (Builtin.Int.intBits y) ds i) hy
    obtain ⟨s1, s2⟩ := dm_step (V := topV (Builtin.Int.intBits y) ds i) (d := d) (Builtin.Int.intBits y) hy
    rw [← topV_succ hdi] at s1 s2
    have b5 : (topV (Builtin.Int.intBits y) ds i % y).natAbs < 2 ^ 64 := by omega
    k_steps
    rw [Int.toNat_natCast]
    k_dflt (refine' c_div2n1n _ _ _ _ _ _ _ _ _ _ _ _ _ _ _ _ _ _ _ _ _ _ _ _ _ _ _ _ (by k_asm) (by k_asm) (by k_asm) (by k_asm) (by k_asm) rfl (by ktr_room) (by ktr_units) b1 hy (by omega) b2 (by omega) ?_)
    intro q3 t3 t4 h3 tk3 F3 N3 l3 l4
    (try k_lt l3)
    k_steps
    have hql2 : qvs.length = i := hqi.length.trans hql
    have hiv : i < vsd.length := by
      rcases Nat.lt_or_ge i vsd.reverse.length with h | h
      · rw [List.length_reverse] at h; exact h
      · rw [List.getElem?_eq_none h] at hv; cases hv
    have e9 : ∀ v : Value, qvs.toArray.push v = (qvs ++ [v]).toArray := fun v => by simp
    k_dflt (refine' append_K ?F ?N ?U ?_ ?z; (case F => k_asm); (case N => k_asm); (case U => k_upd); (case z => exact small_size (by omega)))
    intro h5 F5 N5
    rw [e9] at N5
    k_steps
    refine Hold.of ?_
    refine' UnrEnd.intro (by k_asm) (by k_asm) _ (fun p hp => List.mem_cons_of_mem _ hp) ?off ⟨?mem, ⟨qs ++ [(topV (Builtin.Int.intBits y) ds i % y * 2 ^ Builtin.Int.intBits y + d) / y], qvs ++ [.int ((topV (Builtin.Int.intBits y) ds i % y * 2 ^ Builtin.Int.intBits y + d) / y) t3], t4, e + 1, some (.int d tv), some (.int ((topV (Builtin.Int.intBits y) ds i % y * 2 ^ Builtin.Int.intBits y + d) / y) t3), ?meq, rfl, ?hints, ?len, ?pos, ?und⟩⟩
    case off => k_dflt k_all
    case mem => k_mem
    case meq =>
      funext z
      rw [s1]
      (repeat' split) <;> first | rfl | simp_all
    case hints => exact IntsAre.append hqi (.cons _ _ .nil)
    case len => rw [List.length_append, hql]; rfl
    case pos =>
      intro d' hd'
      rcases List.mem_append.mp hd' with h | h
      · exact hqp d' h
      · rw [List.mem_singleton.mp h]; exact Int.ediv_nonneg b1 (by omega)
    case und => rw [List.reverse_append, List.reverse_singleton, List.singleton_append, und, hqu, s2]
  case done =>
    intro m1 news1 hh tk1 hI F2 N2
    obtain ⟨qs, qvs, tr, e, u1, u2, rfl, rfl, hqi, hql, hqp, hqu⟩ := hI
    have hV : topV (Builtin.Int.intBits y) ds vsd.length = x := by rw [hlen, topV_all, hund]
    rw [hV] at F2 hqu
    have hql2 : qvs.length = vsd.length := hqi.length.trans hql
    have hq64 : qs.reverse.length ≤ 64 := by rw [List.length_reverse, hql, hlen, hdl]; unfold dlen; omega
    have hdle : x / y ≤ x := Int.ediv_le_self _ hx
    k_steps
    dsimp only
    k_dflt (refine' kl_reverse (l := qvs.reverse) ?F ?N ?e ?U ?z ?_; (case F => k_asm); (case N => k_asm); (case U => k_upd); (case e => rfl); (case z => exact small_size (show qvs.length ≤ 64 by rw [List.length_reverse, hql, ← hql2] at hq64; exact hq64)))
    intro h5 F5 N5
    k_steps
    have hnn : 0 < qs.reverse.length := by rw [List.length_reverse, hql, hlen, hdl]; exact hq2 hx0
    k_dflt (refine' m_d2i _ _ _ _ _ _ _ _ _ _ _ _ _ _ _ _ _ _ _ _ _ _ _ _ _ _ _ _ _ (by k_asm) (by k_asm) (by k_asm) (by k_asm) (by k_asm) rfl (by ktr_room) (by ktr_units) C41' (by k_updF) (by k_mem) (ints_rev hqi) hq64 (fun d hd => hqp d (List.mem_reverse.mp hd)) ?hval hn0 hnb hnn ?_)
    (case hval => rw [Int.toNat_natCast, hqu]; omega)
    intro t5 h6 tk6 c2 oc2 vs2 u2 ho2 hv2 F6 N6 lc1 lc2 lc3
    (try dsimp only at N6)
    (try k_lt lc1)
    rw [Int.toNat_natCast, hqu]
    k_steps
    rename_i kF kN _ _ kpt
    have hle : s.heap.objs.size ≤ L' := l2
    have hLs : @LT.lt Nat _ L s.heap.objs.size := F.ns.lt
    have g0 := miss_back N kpt hap (kN (37, T37 c2) (by k_mem)).1 (kN (30, T30 c1) (by k_mem)).1
    refine' hret _ _ _ _ _ _ _ _ _ _ _ _ _ ho1 hv1 ho2 hv2 kF (news_fresh F (news_fresh F (news_fresh F g0 (kN (c1, oc1) (by k_mem)).1 ?h1) (kN (c2, oc2) (by k_mem)).1 ?h2) (kN (_, tup2 (.int (x / y) t5) (.int (x % y) tr)) (by k_mem)).1 ?h3) ?lt1 ?lt2 ?lt3 ?lt4 ?lt5 ?lt6
    case h1 => omega
    case h2 => omega
    case h3 => omega
    case lt1 => exact fun p hp => Nat.lt_of_lt_of_le (Heap.lt_size (N p (.tail _ (.tail _ hp))).1) (by omega)
    case lt2 => omega
    case lt3 => omega
    case lt4 => omega
    case lt5 => omega
    case lt6 => omega
end Mine

namespace Mine
set_option maxHeartbeats 8000000 in
theorem m_div (w : World) (mean : ExcName → Option Value) (mg mb : Str → Option Value)
  (dp un : Nat) (gd : Option (List Code)) (cn : Str) (cs : Scope) (a : Addr) (ccd : Value) (cl : List (Str × Addr)) (outer : List Env) (A₀ : Around) (base h₀ : Heap) (L : Addr) (m : Str → Option Value) (news : List (Addr × Obj)) (s : Shared)
  (Q E : Value → Shared → Prop) (x y : Int) (tx ty : Tok) (rest : List (Addr × Obj))
  (B : Below A₀ base outer h₀) (F : Fr h₀ L s.heap m) (X : (hd.heap_39 w.params).In h₀) (N : News h₀ L s.heap ((37, tabObj #[]) :: (30, tabObj #[]) :: rest))
  (T : Top topProg looseX mean mg mb h₀) (hk : cs.kind = .function) (hdp : dp + 101 < recursionLimit) (hun : un + 1010 < cLine)
  (C34 : CodeHd h₀ 34 30) (C41 : CodeHd h₀ 41 37) (hap : ∀ p ∈ rest, p.1 ≠ 37 ∧ p.1 ≠ 30) (hx0 : x ≠ 0)
  (hx : 0 ≤ x) (hxb : x < 2 ^ 64) (hy : 0 < y) (hyb : y < 2 ^ 64)
  (hret : ∀ q t1 t2 h' tk' c1 oc1 vs1 u1 c2 oc2 vs2 u2, oc1.data = .fields vs1 → vs1[1]? = some (.str q1 u1) → oc2.data = .fields vs2 → vs2[1]? = some (.str q2 u2) → Fr h₀ L h' m →
    News h₀ L h' ((q, tup2 (.int (x / y) t1) (.int (x % y) t2)) :: (c2, oc2) :: (c1, oc1) :: (37, T37 c2) :: (30, T30 c1) :: rest) → (∀ p ∈ rest, p.1 < c1) → @LT.lt Nat _ L c1 → @LT.lt Nat _ 30 c1 → @LT.lt Nat _ 37 c1 → @LT.lt Nat _ c1 c2 → @LT.lt Nat _ c2 q → Q (.ref q) { s with heap := h', toks := tk' }) :
  wpAny (model PySem.Challenge.rw_id0006_01.row.prog w) (ktrTop dp un gd cn cs L a ccd cl outer) (call (.ref 56) [.int x tx, .int y ty]) Q E s := by
  have Ns : News h₀ L s.heap [(37, tabObj #[]), (30, tabObj #[])] := fun p hp => N p (sub2 (.head _) (.tail _ (.head _)) p hp)
  have hz1 : ¬ y = 0 := by omega
  have hz2 : ¬ y < 0 := by omega
  have hz3 : ¬ x < 0 := by omega
  revert X; k_fill; intro X
  refine wpAny_call ?_
  k_dflt (refine' enterF (news := [(37, tabObj #[]), (30, tabObj #[])]) ?k1 ?k2 ?k3 ?k4 ?k5 ?kA ?kF ?kK ?k6 ?k7 ?k8 ?k9 ?kB ?_ ?c2 ?c3 ?c4 ?c5; (case kA => exact rfl); (case kF => exact rfl); (case kK => assumption); (case k1 => k_asm); (case k2 => k_asm); (case k3 => k_asm); (case k4 => exact Ns); (case k5 => k_asm); (case k6 => k_is); (case k7 => k_is); (case k8 => ktr_room); (case k9 => exact BindsTo.of_eq rfl); (case c5 => decide); (case kB => exact locs rfl); (case c2 => exact rfl); (case c3 => exact rfl); (case c4 => exact rfl); k_whole; intro g' L' h' FG' F' N' B' X' T' l1 l2 st kp; (try dsimp only); (try k_lift B'); (try k_fold))
  have C34' := C34.keeps st
  have C41' := C41.keeps st
  k_steps
  all_goals (try (exfalso; omega))
  k_dflt (refine' m_dmpos _ _ _ _ _ _ _ _ _ _ _ _ _ _ _ _ _ _ [] _ _ _ _ _ _ _ [] (by k_asm) (by k_asm) (by k_asm) (by k_asm) (by k_asm) rfl (by ktr_room) (by ktr_units) C34' C41' (fun _ h => nomatch h) hx0 hx hxb hy hyb ?_)
  intro q3 t3 t4 h3 tk3 c1 oc1 vs1 u1 c2 oc2 vs2 u2 ho1 hv1 ho2 hv2 F3 N3 l3 l4 l5 l6 l7 l8
  k_steps
  rename_i kF kN _ _ kpt
  have hle : s.heap.objs.size ≤ L' := l2
  have hLs : @LT.lt Nat _ L s.heap.objs.size := F.ns.lt
  have g0 := miss_back N kpt hap (kN (37, T37 c2) (by k_mem)).1 (kN (30, T30 c1) (by k_mem)).1
  refine' hret _ _ _ _ _ _ _ _ _ _ _ _ _ ho1 hv1 ho2 hv2 kF (news_fresh F (news_fresh F (news_fresh F g0 (kN (c1, oc1) (by k_mem)).1 ?h1) (kN (c2, oc2) (by k_mem)).1 ?h2) (kN (_, tup2 (.int (x / y) t3) (.int (x % y) t4)) (by k_mem)).1 ?h3) ?lt1 ?lt2 ?lt3 ?lt4 ?lt5 ?lt6
  case h1 => omega
  case h2 => omega
  case h3 => omega
  case lt1 => exact fun p hp => Nat.lt_of_lt_of_le (Heap.lt_size (N p (.tail _ (.tail _ hp))).1) (by omega)
  case lt2 => omega
  case lt3 => omega
  case lt4 => omega
  case lt5 => omega
  case lt6 => omega
end Mine

namespace Mine
/-- the two code tables after the first run -/
structure Hit (c1 : Addr) (oc1 : Obj) (c2 : Addr) (oc2 : Obj) : Prop where
  a1 : ∃ vs1 t1, oc1.data = .fields vs1 ∧ vs1[1]? = some (.str q1 t1)
  a2 : ∃ vs2 t2, oc2.data = .fields vs2 ∧ vs2[1]? = some (.str q2 t2)
  l1 : @LT.lt Nat _ 30 c1
  l2 : @LT.lt Nat _ 37 c2
def TabSt (tb : List (Addr × Obj)) : Prop :=
  tb = [(37, tabObj #[]), (30, tabObj #[])] ∨ ∃ c1 oc1 c2 oc2, tb = [(c2, oc2), (c1, oc1), (37, T37 c2), (30, T30 c1)] ∧ Hit c1 oc1 c2 oc2
theorem Hit.st {c1 : Addr} {oc1 : Obj} {c2 : Addr} {oc2 : Obj} (h : Hit c1 oc1 c2 oc2) : TabSt [(c2, oc2), (c1, oc1), (37, T37 c2), (30, T30 c1)] := .inr ⟨c1, oc1, c2, oc2, rfl, h⟩
/-- a code object is no iterator over a range -/
theorem code_ne {h₀ h : Heap} {L c I : Addr} {oc : Obj} {news : List (Addr × Obj)} {a b : Int} {q : Str} (N : News h₀ L h news) (hc : (c, oc) ∈ news) (hI : (I, itR a b) ∈ news) (ho : ∃ vs t, oc.data = .fields vs ∧ vs[1]? = some (.str q t)) : @Ne Nat c I := fun e => by
  obtain ⟨vs, t, h1, h2⟩ := ho
  have z := Option.some.inj ((N _ hc).1.symm.trans ((congrArg h.get? e).trans (N _ hI).1))
  simp only at z
  rw [z] at h1
  cases h1
  cases h2
theorem d_div (w : World) (mean : ExcName → Option Value) (mg mb : Str → Option Value)
  (dp un : Nat) (gd : Option (List Code)) (cn : Str) (cs : Scope) (a : Addr) (ccd : Value) (cl : List (Str × Addr)) (outer : List Env) (A₀ : Around) (base h₀ : Heap) (L : Addr) (m : Str → Option Value) (news : List (Addr × Obj)) (s : Shared)
  (Q E : Value → Shared → Prop) (x y : Int) (tx ty : Tok) (tb rest : List (Addr × Obj)) (hT : TabSt tb)
  (B : Below A₀ base outer h₀) (F : Fr h₀ L s.heap m) (X : (hd.heap_39 w.params).In h₀) (N : News h₀ L s.heap news)
  (T : Top topProg looseX mean mg mb h₀) (hk : cs.kind = .function) (hdp : dp + 101 < recursionLimit) (hun : un + 1010 < cLine)
  (C34 : CodeHd h₀ 34 30) (C41 : CodeHd h₀ 41 37) (hsub : ∀ p ∈ tb, p ∈ news) (hrest : ∀ p ∈ rest, p ∈ news) (hap : ∀ p ∈ rest, p.2.cls ≠ .none) (hx0 : x ≠ 0)
  (hx : 0 ≤ x) (hxb : x < 2 ^ 64) (hy : 0 < y) (hyb : y < 2 ^ 64)
  (hret : ∀ q t1 t2 h' tk' c1 oc1 c2 oc2, Hit c1 oc1 c2 oc2 → (∀ p ∈ rest, (∀ r ∈ tb, @Ne Nat r.1 p.1) → @Ne Nat c1 p.1 ∧ @Ne Nat c2 p.1) → Fr h₀ L h' m →
    News h₀ L h' ((q, tup2 (.int (x / y) t1) (.int (x % y) t2)) :: (rest ++ [(c2, oc2), (c1, oc1), (37, T37 c2), (30, T30 c1)])) → Q (.ref q) { s with heap := h', toks := tk' }) :
  wpAny (model PySem.Challenge.rw_id0006_01.row.prog w) (ktrTop dp un gd cn cs L a ccd cl outer) (call (.ref 56) [.int x tx, .int y ty]) Q E s := by
  rcases hT with rfl | ⟨c1, oc1, c2, oc2, rfl, ⟨vs1, t1, ho1, hv1⟩, ⟨vs2, t2, ho2, hv2⟩, hlt1, hlt2⟩
  · have hap2 : ∀ p ∈ rest, p.1 ≠ 37 ∧ p.1 ≠ 30 := fun p hp => by
      have z := (N p (hrest p hp)).1
      refine ⟨fun e => ?_, fun e => ?_⟩
      · rw [e, (N _ (hsub _ (.head _))).1] at z
        exact hap p hp (by rw [← Option.some.inj z])
      · rw [e, (N _ (hsub _ (.tail _ (.head _)))).1] at z
        exact hap p hp (by rw [← Option.some.inj z])
    have N2 : News h₀ L s.heap ((37, tabObj #[]) :: (30, tabObj #[]) :: rest) := fun p hp => by
      rcases List.mem_cons.mp hp with rfl | hp
      · exact N _ (hsub _ (.head _))
      · rcases List.mem_cons.mp hp with rfl | hp
        · exact N _ (hsub _ (.tail _ (.head _)))
        · exact N _ (hrest p hp)
    refine m_div _ _ _ _ _ _ _ _ _ _ _ _ _ _ _ _ _ _ [] _ _ _ _ _ _ _ rest B F X N2 T hk hdp hun C34 C41 hap2 hx0 hx hxb hy hyb ?_
    intro q t1 t2 h' tk' c1 oc1 vs1 u1 c2 oc2 vs2 u2 a1 a2 a3 a4 F' N' a9 _ a5 a6 a7 a8
    refine hret q t1 t2 h' tk' c1 oc1 c2 oc2 ⟨⟨_, _, a1, a2⟩, ⟨_, _, a3, a4⟩, a5, by omega⟩ (fun p hp _ => by have := ltN (a9 p hp); omega) F' (fun p hp => ?_)
    refine N' p ?_
    rcases List.mem_cons.mp hp with rfl | hp
    · exact .head _
    · rcases List.mem_append.mp hp with hp | hp
      · exact .tail _ (.tail _ (.tail _ (.tail _ (.tail _ hp))))
      · simp only [List.mem_cons, List.not_mem_nil, or_false] at hp
        rcases hp with rfl | rfl | rfl | rfl
        · exact .tail _ (.head _)
        · exact .tail _ (.tail _ (.head _))
        · exact .tail _ (.tail _ (.tail _ (.head _)))
        · exact .tail _ (.tail _ (.tail _ (.tail _ (.head _))))
  · refine c_div _ _ _ _ _ _ _ _ _ _ _ _ _ _ _ _ _ _ _ _ _ _ _ _ _ _ _ _ _ _ _ _ _ _ B F X N T hk hdp hun C34 C41 (hsub _ (.tail _ (.tail _ (.tail _ (.head _))))) (hsub _ (.tail _ (.head _))) ho1 hv1 (hsub _ (.tail _ (.tail _ (.head _)))) (hsub _ (.head _)) ho2 hv2 hlt1 hlt2 hx hxb hy hyb ?_
    intro q t3 t4 h' tk' F' N' _ _
    refine hret q t3 t4 h' tk' c1 oc1 c2 oc2 ⟨⟨_, _, ho1, hv1⟩, ⟨_, _, ho2, hv2⟩, hlt1, hlt2⟩ (fun p hp h => ⟨h _ (.tail _ (.head _)), h _ (.head _)⟩) F' (fun p hp => ?_)
    refine N' p ?_
    rcases List.mem_cons.mp hp with rfl | hp
    · exact .head _
    · rcases List.mem_append.mp hp with hp | hp
      · exact .tail _ (hrest p hp)
      · exact .tail _ (hsub p hp)
theorem off_tb {h₀ h : Heap} {L c1 c2 I : Addr} {oc1 oc2 : Obj} {news : List (Addr × Obj)} {a b : Int} (N : News h₀ L h news) (hH : Hit c1 oc1 c2 oc2) (hI : (I, itR a b) ∈ news) (h1 : (c1, oc1) ∈ news) (h2 : (c2, oc2) ∈ news) (h3 : (37, T37 c2) ∈ news) (h4 : (30, T30 c1) ∈ news) :
    ∀ p ∈ [(c2, oc2), (c1, oc1), (37, T37 c2), (30, T30 c1)], p.1 ≠ I := fun p hp => by
  simp only [List.mem_cons, List.not_mem_nil, or_false] at hp
  rcases hp with rfl | rfl | rfl | rfl
  · exact code_ne N h2 hI hH.a2
  · exact code_ne N h1 hI hH.a1
  · intro e
    have z := Option.some.inj ((N _ h3).1.symm.trans ((congrArg h.get? e).trans (N _ hI).1))
    cases (congrArg Obj.cls z)
  · intro e
    have z := Option.some.inj ((N _ h4).1.symm.trans ((congrArg h.get? e).trans (N _ hI).1))
    cases (congrArg Obj.cls z)
/-- the same with the tables known -/
theorem e_div (w : World) (mean : ExcName → Option Value) (mg mb : Str → Option Value)
  (dp un : Nat) (gd : Option (List Code)) (cn : Str) (cs : Scope) (a : Addr) (ccd : Value) (cl : List (Str × Addr)) (outer : List Env) (A₀ : Around) (base h₀ : Heap) (L : Addr) (m : Str → Option Value) (news : List (Addr × Obj)) (s : Shared)
  (Q E : Value → Shared → Prop) (x y : Int) (tx ty : Tok) (c1 : Addr) (oc1 : Obj) (c2 : Addr) (oc2 : Obj) (hH : Hit c1 oc1 c2 oc2)
  (B : Below A₀ base outer h₀) (F : Fr h₀ L s.heap m) (X : (hd.heap_39 w.params).In h₀) (N : News h₀ L s.heap news)
  (T : Top topProg looseX mean mg mb h₀) (hk : cs.kind = .function) (hdp : dp + 101 < recursionLimit) (hun : un + 1010 < cLine)
  (C34 : CodeHd h₀ 34 30) (C41 : CodeHd h₀ 41 37) (h30 : (30, T30 c1) ∈ news) (hc1 : (c1, oc1) ∈ news) (h37 : (37, T37 c2) ∈ news) (hc2 : (c2, oc2) ∈ news)
  (hx : 0 ≤ x) (hxb : x < 2 ^ 64) (hy : 0 < y) (hyb : y < 2 ^ 64)
  (hret : ∀ q t1 t2 h' tk', Fr h₀ L h' m → News h₀ L h' ((q, tup2 (.int (x / y) t1) (.int (x % y) t2)) :: news) → AllLt q news → Q (.ref q) { s with heap := h', toks := tk' }) :
  wpAny (model PySem.Challenge.rw_id0006_01.row.prog w) (ktrTop dp un gd cn cs L a ccd cl outer) (call (.ref 56) [.int x tx, .int y ty]) Q E s := by
  obtain ⟨⟨vs1, t1, ho1, hv1⟩, ⟨vs2, t2, ho2, hv2⟩, hlt1, hlt2⟩ := hH
  refine c_div _ _ _ _ _ _ _ _ _ _ _ _ _ _ _ _ _ _ _ _ _ _ _ _ _ _ _ _ _ _ _ _ _ _ B F X N T hk hdp hun C34 C41 h30 hc1 ho1 hv1 h37 hc2 ho2 hv2 hlt1 hlt2 hx hxb hy hyb ?_
  intro q t3 t4 h' tk' F' N' a _
  exact hret _ _ _ _ _ F' N' (allLt_of a)
theorem e_shared (w : World) (mean : ExcName → Option Value) (mg mb : Str → Option Value)
  (dp un : Nat) (gd : Option (List Code)) (cn : Str) (cs : Scope) (a : Addr) (ccd : Value) (cl : List (Str × Addr)) (outer : List Env) (A₀ : Around) (base h₀ : Heap) (L : Addr) (m : Str → Option Value) (news : List (Addr × Obj)) (s : Shared)
  (Q E : Value → Shared → Prop) (x y : Int) (tx ty : Tok) (c1 : Addr) (oc1 : Obj) (c2 : Addr) (oc2 : Obj) (hH : Hit c1 oc1 c2 oc2)
  (B : Below A₀ base outer h₀) (F : Fr h₀ L s.heap m) (X : (hd.heap_39 w.params).In h₀) (N : News h₀ L s.heap news)
  (T : Top topProg looseX mean mg mb h₀) (hk : cs.kind = .function) (hdp : dp + 102 < recursionLimit) (hun : un + 1020 < cLine)
  (C34 : CodeHd h₀ 34 30) (C41 : CodeHd h₀ 41 37) (h30 : (30, T30 c1) ∈ news) (hc1 : (c1, oc1) ∈ news) (h37 : (37, T37 c2) ∈ news) (hc2 : (c2, oc2) ∈ news)
  (hx : 0 ≤ x) (hxb : x < 2 ^ 64) (hy : 0 ≤ y) (hyb : y < 2 ^ 64) (heuc : euc 200 x y = true)
  (hret : ∀ t h' tk', Fr h₀ L h' m → News h₀ L h' news → Q (.int 1 t) { s with heap := h', toks := tk' }) :
  wpAny (model PySem.Challenge.rw_id0006_01.row.prog w) (ktrTop dp un gd cn cs L a ccd cl outer) (call (.ref 84) [.int x tx, .int y ty]) Q E s := by
  obtain ⟨⟨vs1, t1, ho1, hv1⟩, ⟨vs2, t2, ho2, hv2⟩, hlt1, hlt2⟩ := hH
  exact c_shared _ _ _ _ _ _ _ _ _ _ _ _ _ _ _ _ _ _ _ _ _ _ _ _ _ _ _ _ _ _ _ _ _ _ B F X N T hk hdp hun C34 C41 h30 hc1 ho1 hv1 h37 hc2 ho2 hv2 hlt1 hlt2 hx hxb hy hyb heuc hret
theorem e_i2d (w : World) (mean : ExcName → Option Value) (mg mb : Str → Option Value)
  (dp un : Nat) (gd : Option (List Code)) (cn : Str) (cs : Scope) (a : Addr) (ccd : Value) (cl : List (Str × Addr)) (outer : List Env) (A₀ : Around) (base h₀ : Heap) (L : Addr) (m : Str → Option Value) (news : List (Addr × Obj)) (s : Shared)
  (Q E : Value → Shared → Prop) (x n : Int) (tx tn : Tok) (c1 : Addr) (oc1 : Obj) (c2 : Addr) (oc2 : Obj) (hH : Hit c1 oc1 c2 oc2)
  (B : Below A₀ base outer h₀) (F : Fr h₀ L s.heap m) (X : (hd.heap_39 w.params).In h₀) (N : News h₀ L s.heap news)
  (T : Top topProg looseX mean mg mb h₀) (hk : cs.kind = .function) (hdp : dp + 80 < recursionLimit) (hun : un + 800 < cLine)
  (C34 : CodeHd h₀ 34 30) (h30 : (30, T30 c1) ∈ news) (hc1 : (c1, oc1) ∈ news)
  (hx : 0 ≤ x) (hn : 0 < n) (hb : x < 2 ^ 64) (hnb : n ≤ 64)
  (hret : ∀ q vs' h' tk', IntsAre vs' (dgs n.toNat x (dlen x n)) → Fr h₀ L h' m → News h₀ L h' ((q, listOf vs'.toArray 0) :: news) → AllLt q news → Q (.ref q) { s with heap := h', toks := tk' }) :
  wpAny (model PySem.Challenge.rw_id0006_01.row.prog w) (ktrTop dp un gd cn cs L a ccd cl outer) (call (.ref 35) [.int x tx, .int n tn]) Q E s := by
  obtain ⟨⟨vs1, t1, ho1, hv1⟩, ⟨vs2, t2, ho2, hv2⟩, hlt1, hlt2⟩ := hH
  refine c_i2d _ _ _ _ _ _ _ _ _ _ _ _ _ _ _ _ _ _ _ _ _ _ _ _ _ _ _ _ _ _ B F X N T hk hdp hun C34 h30 hc1 ho1 hv1 hlt1 hx hn hb hnb ?_
  intro q vs' h' tk' hi F' N' a _
  exact hret _ _ _ _ hi F' N' (allLt_of a)
theorem ne_cls {h₀ h : Heap} {L a b : Addr} {o1 o2 : Obj} {news : List (Addr × Obj)} (N : News h₀ L h news) (h1 : (a, o1) ∈ news) (h2 : (b, o2) ∈ news) (hne : o1.cls ≠ o2.cls) : @Ne Nat a b := fun e =>
  hne (congrArg Obj.cls (Option.some.inj ((N _ h1).1.symm.trans ((congrArg h.get? e).trans (N _ h2).1))))
theorem norm4 {m : Str → Option Value} {n1 n2 n3 n4 : Str} {v1 v2 v3 v4 : Option Value} (h1 : m n1 = v1) (h2 : m n2 = v2) (h3 : m n3 = v3) (h4 : m n4 = v4) :
    m = fun z => if z = n1 then v1 else if z = n2 then v2 else if z = n3 then v3 else if z = n4 then v4 else m z := by
  funext z
  split
  · subst_vars; rfl
  · split
    · subst_vars; rfl
    · split
      · subst_vars; rfl
      · split
        · subst_vars; rfl
        · rfl
end Mine

namespace Mine
local macro_rules | `(tactic| walk_at "pyIter ref") => `(tactic| ((with_reducible show wpAny _ _ (pyIter (Value.ref _)) (fun it s₂ => LoopAtV _ _ _ _ _ _ _ _ _ it s₂) _ _); refine Hold.out ?_))
local macro_rules | `(tactic| walk_at "UnrEnd") => `(tactic| (refine Hold.out ?_))
local macro_rules | `(tactic| walk_at "call ref") => `(tactic| (refine Hold.out ?_))

def stFor : Stmt → List Stmt
  | .For _ _ b _ _ => b
  | _ => []
noncomputable def lawS : Scope := stScope (stOf 14)
noncomputable def lawSt (i : Nat) : Stmt := (stBody (stOf 14)).getD i (.Pass ⟨0, 0, 0, 0⟩)
noncomputable def pairsSt : Stmt := (stFor (lawSt 3)).getD 0 (.Pass ⟨0, 0, 0, 0⟩)
abbrev mP (M g : Int) (ln : Addr) (tM tg : Tok) (u : Str → Option Value) : Str → Option Value :=
  fun z => if z = Str.ofString "many" then some (.int M tM) else if z = Str.ofString "numbers" then some (.ref ln) else if z = Str.ofString "more" then some (.int g tg) else u z
def PairOk (a b g : Int) : Prop := 0 < a ∧ a < 2 ^ 64 ∧ 0 < b ∧ b < 2 ^ 64 ∧ a % b = g % b ∧ euc 200 a b = true
def InvK (M g : Int) (ln : Addr) (tM tg : Tok) (keep : List (Addr × Obj)) (_i : Nat) (m : Str → Option Value) (news : List (Addr × Obj)) : Prop :=
  ∃ u tb, m = mP M g ln tM tg u ∧ TabSt tb ∧ news = keep ++ tb
theorem norm3 {m : Str → Option Value} {n1 n2 n3 : Str} {v1 v2 v3 : Option Value} (h1 : m n1 = v1) (h2 : m n2 = v2) (h3 : m n3 = v3) :
    m = fun z => if z = n1 then v1 else if z = n2 then v2 else if z = n3 then v3 else m z := by
  funext z
  split
  · subst_vars; rfl
  · split
    · subst_vars; rfl
    · split
      · subst_vars; rfl
      · rfl
abbrev mK (M g : Int) (ln : Addr) (tM tg : Tok) (k : Int) (tk : Tok) (u : Str → Option Value) : Str → Option Value :=
  fun z => if z = Str.ofString "many" then some (.int M tM) else if z = Str.ofString "numbers" then some (.ref ln) else if z = Str.ofString "more" then some (.int g tg) else if z = Str.ofString "k" then some (.int k tk) else u z
def InvJ (M g : Int) (ln : Addr) (tM tg : Tok) (k : Int) (tk : Tok) (keep : List (Addr × Obj)) (_i : Nat) (m : Str → Option Value) (news : List (Addr × Obj)) : Prop :=
  ∃ u tb, m = mK M g ln tM tg k tk u ∧ TabSt tb ∧ news = keep ++ tb
theorem off_st {h₀ h : Heap} {L I : Addr} {tb news : List (Addr × Obj)} {a b : Int} (N : News h₀ L h news) (hT : TabSt tb) (hI : (I, itR a b) ∈ news) (hsub : ∀ p ∈ tb, p ∈ news) : ∀ p ∈ tb, p.1 ≠ I := by
  rcases hT with rfl | ⟨c1, oc1, c2, oc2, rfl, hH⟩
  · intro p hp e
    have z := Option.some.inj ((N _ (hsub p hp)).1.symm.trans ((congrArg h.get? e).trans (N _ hI).1))
    simp only [List.mem_cons, List.not_mem_nil, or_false] at hp
    rcases hp with rfl | rfl <;> cases (congrArg Obj.cls z)
  · exact off_tb N hH hI (hsub _ (.tail _ (.head _))) (hsub _ (.head _)) (hsub _ (.tail _ (.tail _ (.head _)))) (hsub _ (.tail _ (.tail _ (.tail _ (.head _)))))
theorem rsmall : ∀ n ≤ 6, Builtin.Range.small 0 (n : Nat) 1 = true := by decide
theorem rsize : ∀ n ≤ 6, Builtin.Range.rangeSize 0 (n : Nat) 1 = ((n : Nat) : Int) := by decide
end Mine

namespace Mine
local macro_rules | `(tactic| walk_at "pyIter ref") => `(tactic| ((with_reducible show wpAny _ _ (pyIter (Value.ref _)) (fun it s₂ => LoopAtV _ _ _ _ _ _ _ _ _ it s₂) _ _); refine Hold.out ?_))
local macro_rules | `(tactic| walk_at "UnrEnd") => `(tactic| (refine Hold.out ?_))
local macro_rules | `(tactic| walk_at "call ref") => `(tactic| (refine Hold.out ?_))

theorem norm5 {m : Str → Option Value} {n1 n2 n3 n4 n5 : Str} {v1 v2 v3 v4 v5 : Option Value} (h1 : m n1 = v1) (h2 : m n2 = v2) (h3 : m n3 = v3) (h4 : m n4 = v4) (h5 : m n5 = v5) :
    m = fun z => if z = n1 then v1 else if z = n2 then v2 else if z = n3 then v3 else if z = n4 then v4 else if z = n5 then v5 else m z := by
  funext z
  split
  · subst_vars; rfl
  · split
    · subst_vars; rfl
    · split
      · subst_vars; rfl
      · split
        · subst_vars; rfl
        · split
          · subst_vars; rfl
          · rfl
theorem emptyD_cls {w : World} {d : Addr} {o : Obj} (h : EmptyD w d o) : o.cls ≠ .none := by
  intro e
  obtain ⟨_, h1, _⟩ := h
  obtain ⟨_, _, h2, _⟩ := h1
  rw [h2.1] at e; cases e
def HitSt (tb : List (Addr × Obj)) : Prop := ∃ c1 oc1 c2 oc2, tb = [(c2, oc2), (c1, oc1), (37, T37 c2), (30, T30 c1)] ∧ Hit c1 oc1 c2 oc2
theorem HitSt.st {tb : List (Addr × Obj)} (h : HitSt tb) : TabSt tb := .inr h
def sumTo (f : Nat → Int) : Nat → Int
  | 0 => 0
  | i + 1 => f i + sumTo f i
/-- the law's names that last -/
abbrev mL (M P : Int) (lr lo : Addr) (tM tP : Tok) (v5 : Option Value) (u : Str → Option Value) : Str → Option Value :=
  fun z => if z = Str.ofString "many" then some (.int M tM) else if z = Str.ofString "row" then some (.ref lr) else if z = Str.ofString "product" then some (.int P tP) else if z = Str.ofString "other" then some (.ref lo) else if z = Str.ofString "told" then v5 else u z
def InvT (w : World) (M P : Int) (lr lo : Addr) (tM tP : Tok) (ns : List Int) (keep : List (Addr × Obj)) (Ik : Addr) (i : Nat) (m : Str → Option Value) (news : List (Addr × Obj)) : Prop :=
  ∃ u q D oD tb t1 t2 t3 t4, m = mL M P lr lo tM tP (some (.ref q)) u ∧ TabSt tb ∧ (∀ p ∈ tb, @Ne Nat p.1 Ik) ∧ (0 < i → HitSt tb) ∧ EmptyD w D oD ∧
    news = (q, tup5 (.int (sumTo (fun j => P / ns.getD j 0) i) t1) (.int (sumTo (fun _ => 1) i) t2) (.int (sumTo (fun j => ns.getD j 0) i) t3) (.int (sumTo (fun j => ns.getD j 0 * ns.getD j 0) i) t4) (.ref D)) :: (D, oD) :: (keep ++ tb)
set_option maxHeartbeats 8000000 in
theorem p_told (w : World) (mean : ExcName → Option Value) (mg mb : Str → Option Value)
  (dp un : Nat) (gd : Option (List Code)) (a : Addr) (ccd : Value) (outer : List Env) (A₀ : Around) (base h₀ : Heap) (L : Addr) (s : Shared)
  (Q : Flow → Shared → Prop) (n : Nat) (P : Int) (lr lo q0 D0 : Addr) (o0 : Obj) (tM tP t1 t2 t3 t4 : Tok) (u : Str → Option Value) (vr vo : List Value) (ns : List Int) (er eo : Nat) (tb : List (Addr × Obj)) (hT : TabSt tb)
  (B : Below A₀ base outer h₀) (F : Fr h₀ L s.heap (mL (n : Int) P lr lo tM tP (some (.ref q0)) u)) (X : (hd.heap_39 w.params).In h₀) (N : News h₀ L s.heap ((q0, tup5 (.int 0 t1) (.int 0 t2) (.int 0 t3) (.int 0 t4) (.ref D0)) :: (D0, o0) :: (lr, listOf vr.toArray er) :: (lo, listOf vo.toArray eo) :: tb))
  (T : Top topProg looseX mean mg mb h₀) (hdp : dp + 110 < recursionLimit) (hun : un + 1100 < cLine) (C34 : CodeHd h₀ 34 30) (C41 : CodeHd h₀ 41 37)
  (hi : IntsAre vr ns) (hns : ns.length = n) (hn6 : n ≤ 6) (hn1 : 0 < n) (he0 : EmptyD w D0 o0)
  (hP0 : 0 < P) (hP : P < 2 ^ 64) (hok : ∀ k, k < n → 0 < ns.getD k 0 ∧ ns.getD k 0 < 2 ^ 64 ∧ P % ns.getD k 0 = 0)
  (hret : ∀ u' q D oD tb' v1 v2 v3 v4 h' tk', HitSt tb' → Fr h₀ L h' (mL (n : Int) P lr lo tM tP (some (.ref q)) u') →
    News h₀ L h' ((q, tup5 (.int (sumTo (fun j => P / ns.getD j 0) n) v1) (.int (sumTo (fun _ => 1) n) v2) (.int (sumTo (fun j => ns.getD j 0) n) v3) (.int (sumTo (fun j => ns.getD j 0 * ns.getD j 0) n) v4) (.ref D)) :: (D, oD) :: (lr, listOf vr.toArray er) :: (lo, listOf vo.toArray eo) :: tb') → Q .next { s with heap := h', toks := tk' }) :
  wpAny (model PySem.Challenge.rw_id0006_01.row.prog w) (ktrTop dp un gd (Str.ofString "law") lawS L a ccd [] outer) (exec (lawSt 5) (envX (Str.ofString "law") lawS L a ccd [])) Q (fun _ _ => False) s := by
  generalize hLit0 : lawSt 5 = lit0
  conv at hLit0 => lhs; whnf
  subst hLit0
  generalize hLit1 : lawS = lit1
  conv at hLit1 => lhs; whnf
  subst hLit1
  revert X; k_fill; intro X
  have hvn : vr.length = n := hi.length.trans hns
  (with_unfolding_all refine' For_invVF F ?kx1 ?kx2 ?_; (case kx1 => exact rfl); (case kx2 => exact rfl))
  k_steps
  refine Hold.of ?_
  rename Fr _ _ _ _ => F1
  rename News _ _ _ _ => N1
  refine iter_listUnr (lo := listOf vr.toArray er) (vs := vr) (n := er) rfl F1 N1 (by k_mem) rfl rfl ?_
  intro Ik lIk
  have hoff0 : ∀ p ∈ tb, @Ne Nat p.1 Ik := fun p hp => Nat.ne_of_lt (lIk p (.tail _ (.tail _ (.tail _ (.tail _ hp)))))
  (try k_lt lIk)
  refine' list_inv (InvT w (n : Int) P lr lo tM tP ns [(lr, listOf vr.toArray er), (lo, listOf vo.toArray eo)] Ik) ?step ?done _ 0 _ _ rfl (Nat.zero_le _) ?init
  case init => exact ⟨_, q0, D0, o0, tb, t1, t2, t3, t4, norm5 rfl rfl rfl rfl rfl, hT, hoff0, fun h => absurd h (Nat.lt_irrefl 0), he0, rfl⟩
  case done =>
    intro m1 news1 hh tk1 hI F2 N2
    obtain ⟨u1, q1, D1, oD1, tb1, v1, v2, v3, v4, rfl, hT1, hoff1, hHit, hE, rfl⟩ := hI
    rw [hvn] at N2 hHit
    exact hret _ _ _ _ _ _ _ _ _ _ _ (hHit hn1) F2 N2
  case step =>
    intro i v m1 news1 it hh tk1 hv hI hit F2 N2
    obtain ⟨u1, qq, D1, oD1, tb1, v1, v2, v3, v4, rfl, hT1, hoff1, hHit, hE, rfl⟩ := hI
    simp only [List.cons_append, List.nil_append] at N2
    have hin : i < n := by
      rcases Nat.lt_or_ge i vr.length with h | h
      · omega
      · rw [List.getElem?_eq_none h] at hv; cases hv
    obtain ⟨x, hx, tx, rfl⟩ : ∃ x, ns.getD i 0 = x ∧ ∃ tx, v = .int x tx := by
      obtain ⟨t, ht⟩ := hi.get i ns[i] (List.getElem?_eq_getElem (by omega))
      refine ⟨_, rfl, t, ?_⟩
      rw [List.getD_eq_getElem?_getD, List.getElem?_eq_getElem (by omega)]
      exact Option.some.inj (hv.symm.trans ht)
    obtain ⟨a0, a1, a2⟩ := hok i hin
    rw [hx] at a0 a1 a2
    have hq0 : 0 ≤ P / x := Int.ediv_nonneg (by omega) (by omega)
    k_steps
    refine Hold.of ?_
    k_dflt (refine' d_div _ _ _ _ _ _ _ _ _ _ _ _ _ _ _ _ _ _ _ _ _ _ _ _ _ _ tb1 [(Ik, it), (qq, tup5 (.int (sumTo (fun j => P / ns.getD j 0) i) v1) (.int (sumTo (fun _ => 1) i) v2) (.int (sumTo (fun j => ns.getD j 0) i) v3) (.int (sumTo (fun j => ns.getD j 0 * ns.getD j 0) i) v4) (.ref D1)), (D1, oD1), (lr, listOf vr.toArray er), (lo, listOf vo.toArray eo)] hT1 (by k_asm) (by k_asm) (by k_asm) (by k_asm) (by k_asm) rfl (by ktr_room) (by ktr_units) C34 C41 (fun p hp => .tail _ (.tail _ (.tail _ (.tail _ (.tail _ hp))))) ?hrest ?hap (by omega) (by omega) hP a0 a1 ?_)
    case hrest =>
      intro p hp
      simp only [List.mem_cons, List.not_mem_nil, or_false] at hp
      rcases hp with rfl | rfl | rfl | rfl | rfl
      · exact .head _
      · exact .tail _ (.head _)
      · exact .tail _ (.tail _ (.head _))
      · exact .tail _ (.tail _ (.tail _ (.head _)))
      · exact .tail _ (.tail _ (.tail _ (.tail _ (.head _))))
    case hap =>
      intro p hp
      simp only [List.mem_cons, List.not_mem_nil, or_false] at hp
      rcases hp with rfl | rfl | rfl | rfl | rfl
      · intro e; rw [hit] at e; cases e
      · intro e; cases e
      · exact emptyD_cls hE
      · intro e; cases e
      · intro e; cases e
    intro q5 t5 t6 h5 tk5 c1 oc1 c2 oc2 hH hsep F5 N5
    simp only [List.cons_append, List.nil_append] at N5
    k_steps
    all_goals (try (exact absurd a2 (by assumption)))
    refine Hold.of ?_
    k_dflt (refine' c_stats _ _ _ _ _ _ _ _ _ _ _ _ _ _ _ _ _ _ _ _ _ _ _ _ _ _ _ _ _ _ _ _ _ _ _ _ _ _ _ _ _ _ _ _ (by k_asm) (by k_asm) (by k_asm) (by k_asm) (by k_asm) rfl (by ktr_room) (by ktr_units) (by k_mem) (by k_mem) (by k_mem) (by k_mem) (by omega) hE ⟨by assumption, by assumption, by assumption⟩ ?_)
    intro r6 D6 o6 w1 w2 w3 w4 h6 tk6 hE6 F6 N6 l6 l7 l8
    (try k_lt l6)
    have hsp := hsep (Ik, it) (.head _) hoff1
    have hoff3 : ∀ p ∈ [(c2, oc2), (c1, oc1), (37, T37 c2), (30, T30 c1)], @Ne Nat p.1 Ik := by
      intro p hp
      simp only [List.mem_cons, List.not_mem_nil, or_false] at hp
      rcases hp with rfl | rfl | rfl | rfl
      · exact hsp.2
      · exact hsp.1
      · exact ne_cls N6 (b := Ik) (o2 := it) (by k_mem) (by k_mem) (by rw [hit]; intro e; cases e)
      · exact ne_cls N6 (b := Ik) (o2 := it) (by k_mem) (by k_mem) (by rw [hit]; intro e; cases e)
    k_steps
    refine Hold.of ?_
    refine' UnrEnd.intro (by k_asm) (by k_asm) ((r6, tup5 (.int (P / x + sumTo (fun j => P / ns.getD j 0) i) w1) (.int (1 + sumTo (fun _ => 1) i) w2) (.int (x + sumTo (fun j => ns.getD j 0) i) w3) (.int (x * x + sumTo (fun j => ns.getD j 0 * ns.getD j 0) i) w4) (.ref D6)) :: (D6, o6) :: (lr, listOf vr.toArray er) :: (lo, listOf vo.toArray eo) :: [(c2, oc2), (c1, oc1), (37, T37 c2), (30, T30 c1)]) ?sub ?off ⟨?mem, ⟨_, r6, D6, o6, [(c2, oc2), (c1, oc1), (37, T37 c2), (30, T30 c1)], w1, w2, w3, w4, norm5 rfl rfl rfl rfl rfl, hH.st, ?hoff2, fun _ => ⟨_, _, _, _, rfl, hH⟩, hE6, ?news⟩⟩
    case hoff2 => exact hoff3
    case sub =>
      intro p hp
      simp only [List.mem_cons, List.not_mem_nil, or_false] at hp
      rcases hp with rfl | rfl | rfl | rfl | rfl | rfl | rfl | rfl | rfl <;> k_mem
    case mem => k_mem
    case news => rw [sumTo, sumTo, sumTo, sumTo, hx]; rfl
    case off =>
      intro p hp
      rcases List.mem_cons.mp hp with rfl | hp
      · exact Nat.ne_of_gt (by omega)
      · rcases List.mem_cons.mp hp with rfl | hp
        · exact Nat.ne_of_gt (by omega)
        · rcases List.mem_cons.mp hp with rfl | hp
          · exact Nat.ne_of_lt (by omega)
          · rcases List.mem_cons.mp hp with rfl | hp
            · exact Nat.ne_of_lt (by omega)
            · exact hoff3 p hp
end Mine

namespace Mine
local macro_rules | `(tactic| walk_at "pyIter ref") => `(tactic| ((with_reducible show wpAny _ _ (pyIter (Value.ref _)) (fun it s₂ => LoopAtV _ _ _ _ _ _ _ _ _ it s₂) _ _); refine Hold.out ?_))
local macro_rules | `(tactic| walk_at "UnrEnd") => `(tactic| (refine Hold.out ?_))
local macro_rules | `(tactic| walk_at "call ref") => `(tactic| (refine Hold.out ?_))

section
variable {prog : Program} {w : World} {A : Around} {E : Value → Shared → Prop} {s : Shared}
theorem slicePart_of {v : Value} {k : Option Int} {Q : Option Int → Shared → Prop} (p : IsPart v k) (h : Q k s) : wpAny (model prog w) A (Builtin.Slice.slicePartIndex v) Q E s := by
  cases p with
  | none => exact slicePart_none h
  | int i t => exact slicePart_int h
theorem sliceApplied_part {sl : Addr} {vl vu : Value} {lo hi : Option Int} {n k : Nat} {x y : Int} {Q : Int × Int × Nat → Shared → Prop} (hs : s.heap.IsSliceOf sl vl vu .none) (pl : IsPart vl lo) (pu : IsPart vu hi)
    (e1 : Builtin.Slice.sliceAdjust lo hi 1 (n : Int) = (x, y)) (e2 : Builtin.Slice.slicePlaces x y 1 = k) (h : Q (x, 1, k) s) :
    wpAny (model prog w) A (Builtin.Slice.sliceApplied (.ref sl) (pure (n : Int))) Q E s := by
  obtain ⟨os, hos, hcs, hds⟩ := id hs
  unfold Builtin.Slice.sliceApplied Builtin.Slice.sliceFields
  refine wpAny_bind (wpAny_bind (wpAny_field hos hds (x := vl) rfl (wpAny_bind (wpAny_field hos hds (x := vu) rfl (wpAny_bind (wpAny_field hos hds (x := .none) rfl (wpAny_pure ?_)))))))
  refine wpAny_bind (slicePart_none ?_)
  show wpAny _ _ (if ((1 : Int) == 0) = true then _ else _) _ _ s
  rw [if_neg (by decide)]
  refine wpAny_bind (slicePart_of pl (wpAny_bind (slicePart_of pu (wpAny_bind (wpAny_pure ?_)))))
  show wpAny _ _ (match Builtin.Slice.sliceAdjust lo hi 1 (n : Int) with | (lo, hi) => pure (lo, (1 : Int), Builtin.Slice.slicePlaces lo hi 1)) _ _ s
  rw [e1]
  show wpAny _ _ (pure (x, (1 : Int), Builtin.Slice.slicePlaces x y 1)) _ _ s
  rw [e2]
  exact wpAny_pure h
theorem getItem_tuple_part {t sl : Addr} {items zs : Array Value} {vl vu : Value} {lo hi : Option Int} {k : Nat} {x y : Int} {Q : Value → Shared → Prop} (ht : IsTup s.heap t items) (hs : s.heap.IsSliceOf sl vl vu .none) (pl : IsPart vl lo) (pu : IsPart vu hi)
    (e1 : Builtin.Slice.sliceAdjust lo hi 1 (items.size : Int) = (x, y)) (e2 : Builtin.Slice.slicePlaces x y 1 = k) (e3 : k < items.size)
    (e4 : ((List.range k).filterMap fun (k : Nat) => items[(x + (k : Int) * 1).toNat]?).toArray = zs) (hz : zs.size ≤ sizeLine)
    (h : Q (.ref s.heap.objs.size) { s with heap := s.heap.push { cls := .type "tuple", data := .seq zs } }) : wpAny (model prog w) A (getItem (.ref t) (.ref sl)) Q E s := by
  obtain ⟨os, hos, hcs, hds⟩ := id hs
  have hTs : s.TypeIs (.ref sl) "slice" := ⟨os, hos, hcs⟩
  have hdrop : sizeOk (.seq zs) := hz
  unfold getItem
  try with_reducible refine wpAny_holding ?_
  first | refine wpAny_bind (wpAny_pure ?_) | skip
  refine wpAny_bind (wpAny_sequenceKey ht.typeIs (by decide) ?_)
  refine wpAny_bind (wpAny_callSpecial?_slot (name := Str.ofString "__getitem__") ht.typeIs slot_tuple_getitem
    (wpAny_call_entry slot_tuple_getitem ht.typeIs entry_tuple_getitem ?_ (args_tuple_getitem _ _)))
  show wpAny _ _ (Builtin.Tuple.tupleItemsOf (.ref t) >>= _) _ _ s
  refine wpAny_bind (tupleItemsOf_ ht ?_)
  refine wpAny_bind (wpAny_typeOf hTs ?_)
  rw [if_pos (by decide)]
  refine wpAny_bind (sliceApplied_part hs pl pu e1 e2 ?_)
  have hno : ¬ ((x == 0 && (1 : Int) == 1 && k == items.size) = true) := by
    have : (k == items.size) = false := by rw [beq_eq_false_iff_ne]; omega
    rw [this]; simp
  show wpAny _ _ (if (x == 0 && (1 : Int) == 1 && k == items.size) = true then _ else _) _ _ s
  rw [if_neg hno, e4]
  first
    | exact wpAny_bind (m := Builtin.Tuple.tupleExact _) (wpAny_newObj_type (wpAny_pure ⟨_, rfl, wpAny_pure h⟩) hdrop)
    | exact wpAny_bind (m := Builtin.Tuple.tupleExact _) (wpAny_newObj_type (wpAny_bind (wpAny_pure (wpAny_pure ⟨_, rfl, wpAny_pure h⟩))) hdrop)
    | exact wpAny_bind (wpAny_bind (m := Builtin.Tuple.tupleExact _) (wpAny_newObj_type (wpAny_pure (wpAny_pure ⟨_, rfl, wpAny_pure h⟩)) hdrop))
    | exact wpAny_bind (wpAny_bind (m := Builtin.Tuple.tupleExact _) (wpAny_newObj_type (wpAny_pure ⟨_, rfl, wpAny_pure h⟩) hdrop))
end

section
variable {prog : Program} {w : World} {A : Around} {E : Value → Shared → Prop} {s : Shared} {h₀ : Heap} {L : Addr} {m : Str → Option Value} {news : List (Addr × Obj)}
theorem slice_tuple_part {value slice : PySem.Expr} {t : Addr} {items zs : Array Value} {vl vu : Value} {lo hi : Option Int} {k : Nat} {x y : Int} {Q : Value → Shared → Prop}
    (F : Fr h₀ L s.heap m) (N : News h₀ L s.heap news) (ht : IsTup s.heap t items) (pl : IsPart vl lo) (pu : IsPart vu hi)
    (e1 : Builtin.Slice.sliceAdjust lo hi 1 (items.size : Int) = (x, y)) (e2 : Builtin.Slice.slicePlaces x y 1 = k) (e3 : k < items.size)
    (e4 : ((List.range k).filterMap fun (k : Nat) => items[(x + (k : Int) * 1).toNat]?).toArray = zs) (hz : zs.size ≤ sizeLine)
    (hs : subscripted slice false (.ref t) (.ref s.heap.objs.size) = operate [.ref s.heap.objs.size, .ref t] (getItem (.ref t) (.ref s.heap.objs.size)))
    (hg : ∀ r, letTemporaryGo value (.ref t) r = pure ())
    (h : ∀ D h', Fr h₀ L h' m → News h₀ L h' ((D, { cls := .type "tuple", data := .seq zs }) :: news) → (∀ p ∈ news, p.1 < D) → L < D → Q (.ref D) { s with heap := h' }) :
    wpAny (model prog w) A (subscriptTail value slice (.ref t) (.ref s.heap.objs.size)) Q E { s with heap := s.heap.push { cls := .type "slice", data := .fields #[vl, vu, .none] } } := by
  have ht' : IsTup (s.heap.push { cls := .type "slice", data := .fields #[vl, vu, .none] }) t items := ht.keeps fun _ _ e => Heap.get?_push_of_some _ e
  refine subscriptTail_ops (s := { s with heap := s.heap.push { cls := .type "slice", data := .fields #[vl, vu, .none] } }) ht'.typeIs slot_tuple_getitem.lookup
    (getItem_tuple_part ht' (Heap.IsSliceOf.new ..) pl pu e1 e2 e3 e4 hz ?_) hs hg
  have N1 := News.push (F.push { cls := .type "slice", data := .fields #[vl, vu, .none] }) (N.grown fun _ _ e => Heap.get?_push_of_some _ e) { cls := .type "tuple", data := .seq zs }
  rw [Heap.size_push] at N1
  show Q (.ref (s.heap.push _).objs.size) _
  rw [Heap.size_push]
  exact h _ _ ((F.push _).push _) N1 (fun p hp => Nat.lt_succ_of_lt (Heap.lt_size (N p hp).1)) (Nat.lt_succ_of_lt F.ns.lt)
theorem isTup_news {h h₀ : Heap} {L t : Addr} {news : List (Addr × Obj)} {items : Array Value} {n : Nat} (N : News h₀ L h news) (hm : (t, ({ cls := .type "tuple", data := .seq items n } : Obj)) ∈ news) : IsTup h t items :=
  ⟨_, (N _ hm).1, rfl, _, rfl⟩
theorem slice_t5_lo {value slice : PySem.Expr} {t : Addr} {a b c d e : Value} {u1 : Tok} {Q : Value → Shared → Prop}
    (F : Fr h₀ L s.heap m) (N : News h₀ L s.heap news) (ht : (t, tup5 a b c d e) ∈ news)
    (hs : subscripted slice false (.ref t) (.ref s.heap.objs.size) = operate [.ref s.heap.objs.size, .ref t] (getItem (.ref t) (.ref s.heap.objs.size)))
    (hg : ∀ r, letTemporaryGo value (.ref t) r = pure ())
    (h : ∀ D h', Fr h₀ L h' m → News h₀ L h' ((D, tup2 a b) :: news) → (∀ p ∈ news, p.1 < D) → L < D → Q (.ref D) { s with heap := h' }) :
    wpAny (model prog w) A (subscriptTail value slice (.ref t) (.ref s.heap.objs.size)) Q E { s with heap := s.heap.push { cls := .type "slice", data := .fields #[.none, .int 2 u1, .none] } } :=
  slice_tuple_part (zs := #[a, b]) (k := 2) (x := 0) (y := 2) F N (isTup_news N ht) .none (.int _ _) rfl rfl (show 2 < 5 by decide) rfl (show 2 ≤ sizeLine from Nat.le_of_ble_eq_true rfl) hs hg h
theorem slice_t5_mid {value slice : PySem.Expr} {t : Addr} {a b c d e : Value} {u1 u2 : Tok} {Q : Value → Shared → Prop}
    (F : Fr h₀ L s.heap m) (N : News h₀ L s.heap news) (ht : (t, tup5 a b c d e) ∈ news)
    (hs : subscripted slice false (.ref t) (.ref s.heap.objs.size) = operate [.ref s.heap.objs.size, .ref t] (getItem (.ref t) (.ref s.heap.objs.size)))
    (hg : ∀ r, letTemporaryGo value (.ref t) r = pure ())
    (h : ∀ D h', Fr h₀ L h' m → News h₀ L h' ((D, tup2 c d) :: news) → (∀ p ∈ news, p.1 < D) → L < D → Q (.ref D) { s with heap := h' }) :
    wpAny (model prog w) A (subscriptTail value slice (.ref t) (.ref s.heap.objs.size)) Q E { s with heap := s.heap.push { cls := .type "slice", data := .fields #[.int 2 u1, .int 4 u2, .none] } } :=
  slice_tuple_part (zs := #[c, d]) (k := 2) (x := 2) (y := 4) F N (isTup_news N ht) (.int _ _) (.int _ _) rfl rfl (show 2 < 5 by decide) rfl (show 2 ≤ sizeLine from Nat.le_of_ble_eq_true rfl) hs hg h
end
local macro_rules | `(tactic| walk_at "subscriptTail Name Slice ref ref") => `(tactic| ((with_reducible show wpAny _ _ (subscriptTail _ (PySem.Expr.Slice _ _ none _) (Value.ref _) (Value.ref _)) _ _ _); k_dflt (first | refine' slice_t5_lo ?F ?N ?l ?s ?t ?_ | refine' slice_t5_mid ?F ?N ?l ?s ?t ?_); (case F => k_asm); (case N => k_asm); (case l => k_mem); (case s => with_unfolding_all rfl); (case t => kmk_pure); intro D' h' F' N' l1 l2; (try k_lt l1)))

theorem mul_hb {ns : List Int} {k : Int} (hb : ∀ x ∈ ns, 0 ≤ x ∧ x < 2 ^ 64) (hk : k ∈ ns) : IntMulOk k k := by
  obtain ⟨h0, h1⟩ := hb k hk
  mul_fits
local macro_rules | `(tactic| walk_at "binaryOp Mult int int") => `(tactic| (refine mul_int ?_ (mul_hb (by assumption) (by assumption))))

set_option maxHeartbeats 8000000 in
theorem p_check (w : World) (mean : ExcName → Option Value) (mg mb : Str → Option Value)
  (dp un : Nat) (gd : Option (List Code)) (a : Addr) (ccd : Value) (outer : List Env) (A₀ : Around) (base h₀ : Heap) (L : Addr) (s : Shared)
  (Q : Flow → Shared → Prop) (n : Nat) (P x1 x2 x3 x4 : Int) (lr lo q0 D0 : Addr) (tM tP t1 t2 t3 t4 : Tok) (u : Str → Option Value) (vr vo : List Value) (ns : List Int) (er eo : Nat) (c1 : Addr) (oc1 : Obj) (c2 : Addr) (oc2 : Obj)
  (B : Below A₀ base outer h₀) (F : Fr h₀ L s.heap (mL (n : Int) P lr lo tM tP (some (.ref q0)) u)) (X : (hd.heap_39 w.params).In h₀) (N : News h₀ L s.heap [(q0, tup5 (.int x1 t1) (.int x2 t2) (.int x3 t3) (.int x4 t4) (.ref D0)), (lr, listOf vr.toArray er), (lo, listOf vo.toArray eo), (c2, oc2), (c1, oc1), (37, T37 c2), (30, T30 c1)])
  (T : Top topProg looseX mean mg mb h₀) (hdp : dp + 110 < recursionLimit) (hun : un + 1100 < cLine) (C34 : CodeHd h₀ 34 30) (C41 : CodeHd h₀ 41 37)
  (hi : IntsAre vr ns) (hns : ns.length = n) (hn6 : n ≤ 6) (hn1 : 0 < n)
  (hb : ∀ x ∈ ns, 0 ≤ x ∧ x < 2 ^ 64) (e1 : x1 = P - 1) (e2 : x2 = (n : Int)) (e3 : x3 = ns.sum) (e4 : x4 = (ns.map fun x => x * x).sum)
  (hret : ∀ u' h' tk', Fr h₀ L h' (mL (n : Int) P lr lo tM tP (some (.ref q0)) u') →
    News h₀ L h' [(lr, listOf vr.toArray er), (lo, listOf vo.toArray eo), (c2, oc2), (c1, oc1), (37, T37 c2), (30, T30 c1)] → Q .next { s with heap := h', toks := tk' }) :
  wpAny (model PySem.Challenge.rw_id0006_01.row.prog w) (ktrTop dp un gd (Str.ofString "law") lawS L a ccd [] outer) (exec (lawSt 6) (envX (Str.ofString "law") lawS L a ccd [])) Q (fun _ _ => False) s := by
  generalize hLit0 : lawSt 6 = lit0
  conv at hLit0 => lhs; whnf
  subst hLit0
  generalize hLit1 : lawS = lit1
  conv at hLit1 => lhs; whnf
  subst hLit1
  revert X; k_fill; intro X
  have hvn : vr.length = n := hi.length.trans hns
  subst e1 e2 e3 e4
  k_steps
  exact hret _ _ _ (by assumption) (fun p hp => (by assumption : News _ _ _ _) p (.tail _ (.tail _ (.tail _ (.tail _ (.tail _ (.tail _ hp)))))))
end Mine

namespace Mine
local macro_rules | `(tactic| walk_at "pyIter ref") => `(tactic| ((with_reducible show wpAny _ _ (pyIter (Value.ref _)) (fun it s₂ => LoopAtV _ _ _ _ _ _ _ _ _ it s₂) _ _); refine Hold.out ?_))
local macro_rules | `(tactic| walk_at "UnrEnd") => `(tactic| (refine Hold.out ?_))
local macro_rules | `(tactic| walk_at "call ref") => `(tactic| (refine Hold.out ?_))

abbrev mR (M P : Int) (lr lo : Addr) (tM tP : Tok) (u : Str → Option Value) : Str → Option Value :=
  fun z => if z = Str.ofString "many" then some (.int M tM) else if z = Str.ofString "row" then some (.ref lr) else if z = Str.ofString "product" then some (.int P tP) else if z = Str.ofString "other" then some (.ref lo) else u z
abbrev tbH (c1 : Addr) (oc1 : Obj) (c2 : Addr) (oc2 : Obj) : List (Addr × Obj) := [(c2, oc2), (c1, oc1), (37, T37 c2), (30, T30 c1)]
def InvR (M P : Int) (lr lo : Addr) (tM tP : Tok) (keep : List (Addr × Obj)) (_i : Nat) (m : Str → Option Value) (news : List (Addr × Obj)) : Prop :=
  ∃ u, m = mR M P lr lo tM tP u ∧ news = keep
def Six (n : Nat) : Prop := n ≤ 6 ∧ 0 < n
def SqEq (a b : Int) : Prop := a = b * b - b + 1 ∧ a / b = b - 1 ∧ a % b = 1
def SqOk (a b : Int) : Prop := 0 < a ∧ a < 2 ^ 64 ∧ 1 < b ∧ b < 2 ^ 64 ∧ SqEq a b
theorem ne_sq {a b : Int} (h : SqEq a b) : ¬ ((a != b * b - b + 1) = true) := by
  rw [← h.1, bne_self_eq_false]; exact Bool.false_ne_true
local macro_rules | `(tactic| walk_at "ite") => `(tactic| (rw [if_neg (ne_sq (by assumption))]))
theorem rsmall1 : ∀ n ≤ 6, Builtin.Range.small 1 (n : Nat) 1 = true := by decide
theorem rsize1 : ∀ n ≤ 6, 0 < n → Builtin.Range.rangeSize 1 (n : Nat) 1 = ((n - 1 : Nat) : Int) := by decide
set_option maxHeartbeats 8000000 in
theorem p_sq (w : World) (mean : ExcName → Option Value) (mg mb : Str → Option Value)
  (dp un : Nat) (gd : Option (List Code)) (a : Addr) (ccd : Value) (outer : List Env) (A₀ : Around) (base h₀ : Heap) (L : Addr) (s : Shared)
  (Q : Flow → Shared → Prop) (n : Nat) (P : Int) (lr lo : Addr) (tM tP : Tok) (u : Str → Option Value) (vr vo : List Value) (ns : List Int) (er eo : Nat) (c1 : Addr) (oc1 : Obj) (c2 : Addr) (oc2 : Obj) (hH : Hit c1 oc1 c2 oc2)
  (B : Below A₀ base outer h₀) (F : Fr h₀ L s.heap (mR (n : Int) P lr lo tM tP u)) (X : (hd.heap_39 w.params).In h₀) (N : News h₀ L s.heap [(lr, listOf vr.toArray er), (lo, listOf vo.toArray eo), (c2, oc2), (c1, oc1), (37, T37 c2), (30, T30 c1)])
  (T : Top topProg looseX mean mg mb h₀) (hdp : dp + 110 < recursionLimit) (hun : un + 1100 < cLine) (C34 : CodeHd h₀ 34 30) (C41 : CodeHd h₀ 41 37)
  (hi : IntsAre vr ns) (hns : ns.length = n) (hn6 : n ≤ 6) (hn1 : 0 < n) (hok : ∀ k, 0 < k → k < n → SqOk (ns.getD k 0) (ns.getD (k - 1) 0))
  (hret : ∀ u' h' tk', Fr h₀ L h' (mR (n : Int) P lr lo tM tP u') →
    News h₀ L h' [(lr, listOf vr.toArray er), (lo, listOf vo.toArray eo), (c2, oc2), (c1, oc1), (37, T37 c2), (30, T30 c1)] → Q .next { s with heap := h', toks := tk' }) :
  wpAny (model PySem.Challenge.rw_id0006_01.row.prog w) (ktrTop dp un gd (Str.ofString "law") lawS L a ccd [] outer) (exec (lawSt 7) (envX (Str.ofString "law") lawS L a ccd [])) Q (fun _ _ => False) s := by
  generalize hLit0 : lawSt 7 = lit0
  conv at hLit0 => lhs; whnf
  subst hLit0
  generalize hLit1 : lawS = lit1
  conv at hLit1 => lhs; whnf
  subst hLit1
  revert X; k_fill; intro X
  have hvn : vr.length = n := hi.length.trans hns
  have h6 : Six n := ⟨hn6, hn1⟩
  clear hn6 hn1
  k_steps
  refine Hold.of ?_
  obtain ⟨hn6, hn1⟩ := h6
  rename Fr _ _ _ _ => F1
  rename News _ _ _ _ => N1
  rename IsRange _ _ _ _ _ _ _ _ => R1
  refine iter_rangeUnr (n := n - 1) rfl R1 (rsmall1 n hn6) (rsize1 n hn6 hn1) F1 N1 ?_
  intro Ik lIk
  have hoff0 : ∀ p ∈ [(lr, listOf vr.toArray er), (lo, listOf vo.toArray eo), (c2, oc2), (c1, oc1), (37, T37 c2), (30, T30 c1)], @Ne Nat p.1 Ik := fun p hp => Nat.ne_of_lt (lIk p hp)
  (try k_lt lIk)
  refine' range_inv (InvR (n : Int) P lr lo tM tP [(lr, listOf vr.toArray er), (lo, listOf vo.toArray eo), (c2, oc2), (c1, oc1), (37, T37 c2), (30, T30 c1)]) ?step ?done _ 0 _ _ (Nat.zero_add _) ?init
  case init => exact ⟨_, norm4 rfl rfl rfl rfl, rfl⟩
  case done =>
    intro m1 news1 hh tk1 hI F2 N2
    obtain ⟨u1, rfl, rfl⟩ := hI
    exact hret _ _ _ F2 N2
  case step =>
    intro i m1 news1 ti hh tk1 hin hI F2 N2
    obtain ⟨u1, rfl, rfl⟩ := hI
    obtain ⟨a0, a1, b0, b1, hsq⟩ := hok (1 + (i : Int)).toNat (by omega) (by omega)
    rw [show (1 + (i : Int)).toNat - 1 = (1 + (i : Int) - 1).toNat by omega] at b0 b1 hsq
    k_steps
    refine Hold.of ?_
    k_dflt (refine' e_div _ _ _ _ _ _ _ _ _ _ _ _ _ _ _ _ _ _ _ _ _ _ _ _ _ _ _ _ _ _ hH (by k_asm) (by k_asm) (by k_asm) (by k_asm) (by k_asm) rfl (by ktr_room) (by ktr_units) C34 C41 (by k_mem) (by k_mem) (by k_mem) (by k_mem) (by omega) a1 (by omega) b1 ?_)
    intro q5 t5 t6 h5 tk5 F5 N5 l5
    (try k_lt l5)
    rw [hsq.2.1, hsq.2.2] at N5
    k_steps
    refine Hold.of ?_
    exact UnrEnd.intro (by k_asm) (by k_asm) _ (fun p hp => .tail _ (.tail _ hp)) hoff0 ⟨_, norm4 rfl rfl rfl rfl, rfl⟩
end Mine

namespace Mine
local macro_rules | `(tactic| walk_at "pyIter ref") => `(tactic| ((with_reducible show wpAny _ _ (pyIter (Value.ref _)) (fun it s₂ => LoopAtV _ _ _ _ _ _ _ _ _ it s₂) _ _); refine Hold.out ?_))
local macro_rules | `(tactic| walk_at "UnrEnd") => `(tactic| (refine Hold.out ?_))
local macro_rules | `(tactic| walk_at "call ref") => `(tactic| (refine Hold.out ?_))

def Same (a b : Int) : Prop := a = b
theorem ne_same {a b : Int} (h : Same a b) : ¬ ((a != b) = true) := by
  rw [show a = b from h, bne_self_eq_false]; exact Bool.false_ne_true
local macro_rules | `(tactic| walk_at "ite") => `(tactic| (rw [if_neg (ne_same (by assumption))]))
def Le6 (n : Nat) : Prop := n ≤ 6
set_option maxHeartbeats 8000000 in
theorem p_bits (w : World) (mean : ExcName → Option Value) (mg mb : Str → Option Value)
  (dp un : Nat) (gd : Option (List Code)) (a : Addr) (ccd : Value) (outer : List Env) (A₀ : Around) (base h₀ : Heap) (L : Addr) (s : Shared)
  (Q : Flow → Shared → Prop) (n : Nat) (P : Int) (lr lo : Addr) (tM tP : Tok) (u : Str → Option Value) (vr vo : List Value) (ns : List Int) (er eo : Nat) (c1 : Addr) (oc1 : Obj) (c2 : Addr) (oc2 : Obj) (hH : Hit c1 oc1 c2 oc2)
  (B : Below A₀ base outer h₀) (F : Fr h₀ L s.heap (mR (n : Int) P lr lo tM tP u)) (X : (hd.heap_39 w.params).In h₀) (N : News h₀ L s.heap [(lr, listOf vr.toArray er), (lo, listOf vo.toArray eo), (c2, oc2), (c1, oc1), (37, T37 c2), (30, T30 c1)])
  (T : Top topProg looseX mean mg mb h₀) (hdp : dp + 110 < recursionLimit) (hun : un + 1100 < cLine) (C34 : CodeHd h₀ 34 30) (C41 : CodeHd h₀ 41 37)
  (hi : IntsAre vo ns) (hns : ns.length = n) (hn6 : n ≤ 6) (hok : ∀ k, k < n → ns.getD k 0 = 2 ^ 2 ^ k + 1)
  (hret : ∀ u' h' tk', Fr h₀ L h' (mR (n : Int) P lr lo tM tP u') →
    News h₀ L h' [(lr, listOf vr.toArray er), (lo, listOf vo.toArray eo), (c2, oc2), (c1, oc1), (37, T37 c2), (30, T30 c1)] → Q .next { s with heap := h', toks := tk' }) :
  wpAny (model PySem.Challenge.rw_id0006_01.row.prog w) (ktrTop dp un gd (Str.ofString "law") lawS L a ccd [] outer) (exec (lawSt 8) (envX (Str.ofString "law") lawS L a ccd [])) Q (fun _ _ => False) s := by
  generalize hLit0 : lawSt 8 = lit0
  conv at hLit0 => lhs; whnf
  subst hLit0
  generalize hLit1 : lawS = lit1
  conv at hLit1 => lhs; whnf
  subst hLit1
  revert X; k_fill; intro X
  have hvn : vo.length = n := hi.length.trans hns
  have h6 : Le6 n := hn6
  clear hn6
  k_steps
  refine Hold.of ?_
  have hn6 : n ≤ 6 := h6
  rename Fr _ _ _ _ => F1
  rename News _ _ _ _ => N1
  rename IsRange _ _ _ _ _ _ _ _ => R1
  refine iter_rangeUnr (n := n) rfl R1 (rsmall n hn6) (rsize n hn6) F1 N1 ?_
  intro Ik lIk
  have hoff0 : ∀ p ∈ [(lr, listOf vr.toArray er), (lo, listOf vo.toArray eo), (c2, oc2), (c1, oc1), (37, T37 c2), (30, T30 c1)], @Ne Nat p.1 Ik := fun p hp => Nat.ne_of_lt (lIk p hp)
  (try k_lt lIk)
  refine' range_inv (InvR (n : Int) P lr lo tM tP [(lr, listOf vr.toArray er), (lo, listOf vo.toArray eo), (c2, oc2), (c1, oc1), (37, T37 c2), (30, T30 c1)]) ?step ?done _ 0 _ _ (Nat.zero_add _) ?init
  case init => exact ⟨_, norm4 rfl rfl rfl rfl, rfl⟩
  case done =>
    intro m1 news1 hh tk1 hI F2 N2
    obtain ⟨u1, rfl, rfl⟩ := hI
    exact hret _ _ _ F2 N2
  case step =>
    intro i m1 news1 ti hh tk1 hin hI F2 N2
    obtain ⟨u1, rfl, rfl⟩ := hI
    have hv := hok i hin
    generalize hk : (0 + (i : Int)) = k at F2
    have hi6 : i = 0 ∨ i = 1 ∨ i = 2 ∨ i = 3 ∨ i = 4 ∨ i = 5 := by omega
    rcases hi6 with rfl | rfl | rfl | rfl | rfl | rfl
    case inl =>
      obtain rfl : k = 0 := by omega
      replace hv : ns.getD (0 : Int).toNat 0 = 3 := hv
      have hsm : Same (ns.getD (0 : Int).toNat 0) ((2 : Int) ^ Int.toNat ((2 : Int) ^ Int.toNat 0) + 1) := hv
      k_steps
      refine Hold.of ?_
      rw [hv]
      k_dflt (refine' e_i2d _ _ _ _ _ _ _ _ _ _ _ _ _ _ _ _ _ _ _ _ _ _ _ _ _ _ _ _ _ _ hH (by k_asm) (by k_asm) (by k_asm) (by k_asm) (by k_asm) rfl (by ktr_room) (by ktr_units) C34 (by k_mem) (by k_mem) (by decide) (by decide) (by decide) (by decide) ?_)
      intro q5 vs5 h5 tk5 hi5 F5 N5 l5
      (try k_lt l5)
      replace hi5 : IntsAre vs5 [1, 1] := hi5
      k_steps
      rw [show ((2 : Int) ^ Int.toNat 0 - 1) = 0 from rfl]
      k_steps
      all_goals (try (exact absurd (show _ = _ from hsm) (by assumption)))
      refine Hold.of ?_
      exact UnrEnd.intro (by k_asm) (by k_asm) _ (fun p hp => .tail _ (.tail _ (.tail _ (.tail _ (.tail _ (.tail _ (.tail _ hp))))))) hoff0 ⟨_, norm4 rfl rfl rfl rfl, rfl⟩
    case inr.inl =>
      obtain rfl : k = 1 := by omega
      replace hv : ns.getD (1 : Int).toNat 0 = 5 := hv
      have hsm : Same (ns.getD (1 : Int).toNat 0) ((2 : Int) ^ Int.toNat ((2 : Int) ^ Int.toNat 1) + 1) := hv
      k_steps
      refine Hold.of ?_
      rw [hv]
      k_dflt (refine' e_i2d _ _ _ _ _ _ _ _ _ _ _ _ _ _ _ _ _ _ _ _ _ _ _ _ _ _ _ _ _ _ hH (by k_asm) (by k_asm) (by k_asm) (by k_asm) (by k_asm) rfl (by ktr_room) (by ktr_units) C34 (by k_mem) (by k_mem) (by decide) (by decide) (by decide) (by decide) ?_)
      intro q5 vs5 h5 tk5 hi5 F5 N5 l5
      (try k_lt l5)
      replace hi5 : IntsAre vs5 [1, 0, 1] := hi5
      k_steps
      rw [show ((2 : Int) ^ Int.toNat 1 - 1) = 1 from rfl]
      k_steps
      all_goals (try (exact absurd (show _ = _ from hsm) (by assumption)))
      refine Hold.of ?_
      exact UnrEnd.intro (by k_asm) (by k_asm) _ (fun p hp => .tail _ (.tail _ (.tail _ (.tail _ (.tail _ (.tail _ (.tail _ hp))))))) hoff0 ⟨_, norm4 rfl rfl rfl rfl, rfl⟩
    case inr.inr.inl =>
      obtain rfl : k = 2 := by omega
      replace hv : ns.getD (2 : Int).toNat 0 = 17 := hv
      have hsm : Same (ns.getD (2 : Int).toNat 0) ((2 : Int) ^ Int.toNat ((2 : Int) ^ Int.toNat 2) + 1) := hv
      k_steps
      refine Hold.of ?_
      rw [hv]
      k_dflt (refine' e_i2d _ _ _ _ _ _ _ _ _ _ _ _ _ _ _ _ _ _ _ _ _ _ _ _ _ _ _ _ _ _ hH (by k_asm) (by k_asm) (by k_asm) (by k_asm) (by k_asm) rfl (by ktr_room) (by ktr_units) C34 (by k_mem) (by k_mem) (by decide) (by decide) (by decide) (by decide) ?_)
      intro q5 vs5 h5 tk5 hi5 F5 N5 l5
      (try k_lt l5)
      replace hi5 : IntsAre vs5 [1, 0, 0, 0, 1] := hi5
      k_steps
      rw [show ((2 : Int) ^ Int.toNat 2 - 1) = 3 from rfl]
      k_steps
      all_goals (try (exact absurd (show _ = _ from hsm) (by assumption)))
      refine Hold.of ?_
      exact UnrEnd.intro (by k_asm) (by k_asm) _ (fun p hp => .tail _ (.tail _ (.tail _ (.tail _ (.tail _ (.tail _ (.tail _ hp))))))) hoff0 ⟨_, norm4 rfl rfl rfl rfl, rfl⟩
    case inr.inr.inr.inl =>
      obtain rfl : k = 3 := by omega
      replace hv : ns.getD (3 : Int).toNat 0 = 257 := hv
      have hsm : Same (ns.getD (3 : Int).toNat 0) ((2 : Int) ^ Int.toNat ((2 : Int) ^ Int.toNat 3) + 1) := hv
      k_steps
      refine Hold.of ?_
      rw [hv]
      k_dflt (refine' e_i2d _ _ _ _ _ _ _ _ _ _ _ _ _ _ _ _ _ _ _ _ _ _ _ _ _ _ _ _ _ _ hH (by k_asm) (by k_asm) (by k_asm) (by k_asm) (by k_asm) rfl (by ktr_room) (by ktr_units) C34 (by k_mem) (by k_mem) (by decide) (by decide) (by decide) (by decide) ?_)
      intro q5 vs5 h5 tk5 hi5 F5 N5 l5
      (try k_lt l5)
      replace hi5 : IntsAre vs5 [1, 0, 0, 0, 0, 0, 0, 0, 1] := hi5
      k_steps
      rw [show ((2 : Int) ^ Int.toNat 3 - 1) = 7 from rfl]
      k_steps
      all_goals (try (exact absurd (show _ = _ from hsm) (by assumption)))
      refine Hold.of ?_
      exact UnrEnd.intro (by k_asm) (by k_asm) _ (fun p hp => .tail _ (.tail _ (.tail _ (.tail _ (.tail _ (.tail _ (.tail _ hp))))))) hoff0 ⟨_, norm4 rfl rfl rfl rfl, rfl⟩
    case inr.inr.inr.inr.inl =>
      obtain rfl : k = 4 := by omega
      replace hv : ns.getD (4 : Int).toNat 0 = 65537 := hv
      have hsm : Same (ns.getD (4 : Int).toNat 0) ((2 : Int) ^ Int.toNat ((2 : Int) ^ Int.toNat 4) + 1) := hv
      k_steps
      refine Hold.of ?_
      rw [hv]
      k_dflt (refine' e_i2d _ _ _ _ _ _ _ _ _ _ _ _ _ _ _ _ _ _ _ _ _ _ _ _ _ _ _ _ _ _ hH (by k_asm) (by k_asm) (by k_asm) (by k_asm) (by k_asm) rfl (by ktr_room) (by ktr_units) C34 (by k_mem) (by k_mem) (by decide) (by decide) (by decide) (by decide) ?_)
      intro q5 vs5 h5 tk5 hi5 F5 N5 l5
      (try k_lt l5)
      replace hi5 : IntsAre vs5 [1, 0, 0, 0, 0, 0, 0, 0, 0, 0, 0, 0, 0, 0, 0, 0, 1] := hi5
      k_steps
      rw [show ((2 : Int) ^ Int.toNat 4 - 1) = 15 from rfl]
      k_steps
      all_goals (try (exact absurd (show _ = _ from hsm) (by assumption)))
      refine Hold.of ?_
      exact UnrEnd.intro (by k_asm) (by k_asm) _ (fun p hp => .tail _ (.tail _ (.tail _ (.tail _ (.tail _ (.tail _ (.tail _ hp))))))) hoff0 ⟨_, norm4 rfl rfl rfl rfl, rfl⟩
    case inr.inr.inr.inr.inr =>
      obtain rfl : k = 5 := by omega
      replace hv : ns.getD (5 : Int).toNat 0 = 4294967297 := hv
      have hsm : Same (ns.getD (5 : Int).toNat 0) ((2 : Int) ^ Int.toNat ((2 : Int) ^ Int.toNat 5) + 1) := hv
      k_steps
      refine Hold.of ?_
      rw [hv]
      k_dflt (refine' e_i2d _ _ _ _ _ _ _ _ _ _ _ _ _ _ _ _ _ _ _ _ _ _ _ _ _ _ _ _ _ _ hH (by k_asm) (by k_asm) (by k_asm) (by k_asm) (by k_asm) rfl (by ktr_room) (by ktr_units) C34 (by k_mem) (by k_mem) (by decide) (by decide) (by decide) (by decide) ?_)
      intro q5 vs5 h5 tk5 hi5 F5 N5 l5
      (try k_lt l5)
      replace hi5 : IntsAre vs5 [1, 0, 0, 0, 0, 0, 0, 0, 0, 0, 0, 0, 0, 0, 0, 0, 0, 0, 0, 0, 0, 0, 0, 0, 0, 0, 0, 0, 0, 0, 0, 0, 1] := hi5
      k_steps
      rw [show ((2 : Int) ^ Int.toNat 5 - 1) = 31 from rfl]
      k_steps
      all_goals (try (exact absurd (show _ = _ from hsm) (by assumption)))
      refine Hold.of ?_
      exact UnrEnd.intro (by k_asm) (by k_asm) _ (fun p hp => .tail _ (.tail _ (.tail _ (.tail _ (.tail _ (.tail _ (.tail _ hp))))))) hoff0 ⟨_, norm4 rfl rfl rfl rfl, rfl⟩
end Mine

namespace Mine
local macro_rules | `(tactic| walk_at "pyIter ref") => `(tactic| ((with_reducible show wpAny _ _ (pyIter (Value.ref _)) (fun it s₂ => LoopAtV _ _ _ _ _ _ _ _ _ it s₂) _ _); refine Hold.out ?_))
local macro_rules | `(tactic| walk_at "UnrEnd") => `(tactic| (refine Hold.out ?_))
local macro_rules | `(tactic| walk_at "call ref") => `(tactic| (refine Hold.out ?_))

theorem norm2 {m : Str → Option Value} {n1 n2 : Str} {v1 v2 : Option Value} (h1 : m n1 = v1) (h2 : m n2 = v2) :
    m = fun z => if z = n1 then v1 else if z = n2 then v2 else m z := by
  funext z
  split
  · subst_vars; rfl
  · split
    · subst_vars; rfl
    · rfl
def lowN (ns : List Int) : Nat → Int
  | 0 => 1
  | i + 1 => lowN ns i * ns.getD i 0
abbrev mT (tp lw : Int) (t1 t2 : Tok) (lr : Addr) (u : Str → Option Value) : Str → Option Value :=
  fun z => if z = Str.ofString "top" then some (.int tp t1) else if z = Str.ofString "low" then some (.int lw t2) else if z = Str.ofString "row" then some (.ref lr) else u z
def InvL (ns : List Int) (lr : Addr) (keep : List (Addr × Obj)) (i : Nat) (m : Str → Option Value) (news : List (Addr × Obj)) : Prop :=
  ∃ u t1 t2, m = mT 1 (lowN ns i) t1 t2 lr u ∧ news = keep
set_option maxHeartbeats 8000000 in
theorem p_low (w : World) (mean : ExcName → Option Value) (mg mb : Str → Option Value)
  (dp un : Nat) (gd : Option (List Code)) (a : Addr) (ccd : Value) (outer : List Env) (A₀ : Around) (base h₀ : Heap) (L : Addr) (s : Shared)
  (Q : Flow → Shared → Prop) (n : Nat) (lr lo : Addr) (t1 t2 : Tok) (u : Str → Option Value) (vr vo : List Value) (ns : List Int) (er eo : Nat) (c1 : Addr) (oc1 : Obj) (c2 : Addr) (oc2 : Obj) (hH : Hit c1 oc1 c2 oc2)
  (B : Below A₀ base outer h₀) (F : Fr h₀ L s.heap (mT 1 1 t1 t2 lr u)) (X : (hd.heap_39 w.params).In h₀) (N : News h₀ L s.heap [(lr, listOf vr.toArray er), (lo, listOf vo.toArray eo), (c2, oc2), (c1, oc1), (37, T37 c2), (30, T30 c1)])
  (T : Top topProg looseX mean mg mb h₀) (hdp : dp + 110 < recursionLimit) (hun : un + 1100 < cLine) (C34 : CodeHd h₀ 34 30) (C41 : CodeHd h₀ 41 37)
  (hi : IntsAre vr ns) (hns : ns.length = n) (hok : ∀ i, i < n → 0 < lowN ns i ∧ lowN ns i < 2 ^ 63 ∧ lowN ns i + 1 = ns.getD i 0)
  (hret : ∀ u' h' tk', Fr h₀ L h' u' →
    News h₀ L h' [(lr, listOf vr.toArray er), (lo, listOf vo.toArray eo), (c2, oc2), (c1, oc1), (37, T37 c2), (30, T30 c1)] → Q .next { s with heap := h', toks := tk' }) :
  wpAny (model PySem.Challenge.rw_id0006_01.row.prog w) (ktrTop dp un gd (Str.ofString "law") lawS L a ccd [] outer) (exec (lawSt 10) (envX (Str.ofString "law") lawS L a ccd [])) Q (fun _ _ => False) s := by
  generalize hLit0 : lawSt 10 = lit0
  conv at hLit0 => lhs; whnf
  subst hLit0
  generalize hLit1 : lawS = lit1
  conv at hLit1 => lhs; whnf
  subst hLit1
  revert X; k_fill; intro X
  have hvn : vr.length = n := hi.length.trans hns
  (with_unfolding_all refine' For_invVF F ?kx1 ?kx2 ?_; (case kx1 => exact rfl); (case kx2 => exact rfl))
  k_steps
  refine Hold.of ?_
  rename Fr _ _ _ _ => F1
  rename News _ _ _ _ => N1
  refine iter_listUnr (lo := listOf vr.toArray er) (vs := vr) (n := er) rfl F1 N1 (by k_mem) rfl rfl ?_
  intro Ik lIk
  have hoff0 : ∀ p ∈ [(lr, listOf vr.toArray er), (lo, listOf vo.toArray eo), (c2, oc2), (c1, oc1), (37, T37 c2), (30, T30 c1)], @Ne Nat p.1 Ik := fun p hp => Nat.ne_of_lt (lIk p hp)
  (try k_lt lIk)
  refine' list_inv (InvL ns lr [(lr, listOf vr.toArray er), (lo, listOf vo.toArray eo), (c2, oc2), (c1, oc1), (37, T37 c2), (30, T30 c1)]) ?step ?done _ 0 _ _ rfl (Nat.zero_le _) ?init
  case init => exact ⟨_, _, _, norm3 rfl rfl rfl, rfl⟩
  case done =>
    intro m1 news1 hh tk1 hI F2 N2
    obtain ⟨u1, w1, w2, rfl, rfl⟩ := hI
    exact hret _ _ _ F2 N2
  case step =>
    intro i v m1 news1 it hh tk1 hv hI hit F2 N2
    obtain ⟨u1, w1, w2, rfl, rfl⟩ := hI
    have hin : i < n := by
      rcases Nat.lt_or_ge i vr.length with h | h
      · omega
      · rw [List.getElem?_eq_none h] at hv; cases hv
    obtain ⟨x, hx, tx, rfl⟩ : ∃ x, ns.getD i 0 = x ∧ ∃ tx, v = .int x tx := by
      obtain ⟨t, ht⟩ := hi.get i ns[i] (List.getElem?_eq_getElem (by omega))
      refine ⟨_, rfl, t, ?_⟩
      rw [List.getD_eq_getElem?_getD, List.getElem?_eq_getElem (by omega)]
      exact Option.some.inj (hv.symm.trans ht)
    obtain ⟨a0, a1, a2⟩ := hok i hin
    rw [hx] at a2
    have hsuc : lowN ns (i + 1) = lowN ns i * x := by rw [lowN, hx]
    generalize hl : lowN ns i = l at F2 a0 a1 a2 hsuc
    have hsm : Same (l + 1) x := a2
    have htop : (1 : Int) * x - l = 1 := by omega
    k_steps
    refine Hold.of ?_
    k_dflt (refine' e_div _ _ _ _ _ _ _ _ _ _ _ _ _ _ _ _ _ _ _ _ _ _ _ _ _ _ _ _ _ _ hH (by k_asm) (by k_asm) (by k_asm) (by k_asm) (by k_asm) rfl (by ktr_room) (by ktr_units) C34 C41 (by k_mem) (by k_mem) (by k_mem) (by k_mem) (by omega) (by omega) (by decide) (by decide) ?_)
    intro q5 t5 t6 h5 tk5 F5 N5 l5
    (try k_lt l5)
    rw [Int.ediv_one, Int.emod_one] at N5
    k_steps
    all_goals (try (exact absurd a2 (by assumption)))
    refine Hold.of ?_
    rename Fr _ _ _ _ => F6
    rw [htop, ← hsuc] at F6
    exact UnrEnd.intro F6 (by k_asm) _ (fun p hp => .tail _ (.tail _ hp)) hoff0 ⟨.head _, _, _, _, norm3 rfl rfl rfl, rfl⟩
end Mine

namespace Mine
section
variable {prog : Program} {w : World} {A : Around} {E : Value → Shared → Prop} {R : Result → Shared → Prop} {s : Shared}
abbrev two (elt t1 i1 t2 i2 c : PySem.Expr) (scope : Scope) (pos : Pos) : PySem.Expr := .ListComp elt [⟨t1, i1, [], 0⟩, ⟨t2, i2, [c], 0⟩] scope pos
theorem turn2_0 (elt t1 i1 t2 i2 c : PySem.Expr) (scope : Scope) (pos : Pos) (it acc : Value) (env : Env) :
    compTurn (two elt t1 i1 t2 i2 c scope pos) 0 it acc env = (do
      standAt i1.pos
      match ← pyNext it with
      | none => pure (.done .next)
      | some v =>
        letOwnedTupleGo t1 it v
        assign t1 env v
        let x ← eval i2 env
        standAt i2.pos
        let x ← foldedSetIterable i2 env x
        let _ ← runOwn (.compStart (two elt t1 i1 t2 i2 c scope pos) 1 (← holding [x] (pyIter x)) acc env) env
        again (.compLoop (two elt t1 i1 t2 i2 c scope pos) 0 it acc env)) := by rfl
theorem turn2_1 (elt t1 i1 t2 i2 c : PySem.Expr) (scope : Scope) (pos : Pos) (it acc : Value) (env : Env) :
    compTurn (two elt t1 i1 t2 i2 c scope pos) 1 it acc env = (do
      standAt i2.pos
      match ← pyNext it with
      | none => pure (.done .next)
      | some v =>
        letOwnedTupleGo t2 it v
        assign t2 env v
        let mut ok := true
        for c in [c] do
          if ok then ok ← isTrue c env (eval c env)
        if ok then
          (do let _ ← call (.builtin "list.append") [acc, ← eval elt env])
        again (.compLoop (two elt t1 i1 t2 i2 c scope pos) 1 it acc env)) := by rfl
theorem loop2_0 {elt t1 i1 t2 i2 c : PySem.Expr} {scope : Scope} {pos : Pos} {it acc : Value} {env : Env} (I : Nat → Shared → Prop)
    (turn : ∀ n s, I n s → wpAny (model prog w) A (pyNext it) (fun r s₁ => match r with
      | none => R (.ok .next) s₁
      | some v => wpAny (model prog w) A (assign t1 env v) (fun _ s₂ => wpAny (model prog w) A (eval i2 env) (fun x s₃ => wpAny (model prog w) A (pyIter x) (fun y s₄ =>
          codeAny (model prog w) A (.compStart (two elt t1 i1 t2 i2 c scope pos) 1 y acc env) (fun r s₅ => match r with | .ok _ => ∃ m, m < n ∧ I m s₅ | .error _ => False) s₄)
          (notedBy (model prog w) A env fun e s' => R (.error e) s') s₃) (notedBy (model prog w) A env fun e s' => R (.error e) s') s₂) (notedBy (model prog w) A env fun e s' => R (.error e) s') s₁) (notedBy (model prog w) A env fun e s' => R (.error e) s') s)
    (n : Nat) (h : I n s) (ht : ∀ v, letOwnedTupleGo t1 it v = pure ()) (hs : ∀ x, foldedSetIterable i2 env x = pure x) :
    codeAny (model prog w) A (.compLoop (two elt t1 i1 t2 i2 c scope pos) 0 it acc env) R s := by
  refine codeAny_loop rfl I (fun n s hI => ?_) n h
  show wpAny _ A ((compTurn (two elt t1 i1 t2 i2 c scope pos) 0 it acc env).onRaise (fun x => do noteFrame x env; theTreesLotGoes x)) _ _ s
  refine wpAny_noted ?_
  rw [turn2_0]
  refine wpAny_bind (wpAny_standAt (wpAny_bind (wpAny_mono (turn n s hI) (fun r s₁ h₁ => ?_) fun _ _ h' => h')))
  cases r with
  | none => exact wpAny_pure h₁
  | some v =>
    refine wpAny_bind (wpAny_of_eq (ht v) ?_)
    refine wpAny_bind (wpAny_mono h₁ (fun _ s₂ h₂ => wpAny_bind (wpAny_mono h₂ (fun x s₃ h₃ => ?_) fun _ _ h' => h')) fun _ _ h' => h')
    refine wpAny_bind (wpAny_standAt (wpAny_bind (wpAny_of_eq (hs x) (wpAny_bind (wpAny_holding (wpAny_mono h₃ (fun y s₄ h₄ => ?_) fun _ _ h' => h'))))))
    refine wpAny_bind (wpAny_runOwn (codeAny_mono h₄ (fun r s₅ h₅ => ?_)))
    cases r with
    | ok f => exact wpAny_pure ⟨rfl, h₅⟩
    | error e => exact h₅.elim
theorem loop2_1 {elt t1 i1 t2 i2 c : PySem.Expr} {scope : Scope} {pos : Pos} {it acc : Value} {env : Env} (I : Nat → Shared → Prop)
    (turn : ∀ n s, I n s → wpAny (model prog w) A (pyNext it) (fun r s₁ => match r with
      | none => R (.ok .next) s₁
      | some v => wpAny (model prog w) A (assign t2 env v) (fun _ s₂ =>
          wpAny (model prog w) A (isTrue c env (eval c env)) (fun ok s₃ =>
            if ok = true then wpAny (model prog w) A (eval elt env) (fun x s₄ =>
              wpAny (model prog w) A (call (.builtin "list.append") [acc, x]) (fun _ s₅ => ∃ m, m < n ∧ I m s₅) (notedBy (model prog w) A env fun e s' => R (.error e) s') s₄) (notedBy (model prog w) A env fun e s' => R (.error e) s') s₃
            else ∃ m, m < n ∧ I m s₃) (notedBy (model prog w) A env fun e s' => R (.error e) s') s₂) (notedBy (model prog w) A env fun e s' => R (.error e) s') s₁) (notedBy (model prog w) A env fun e s' => R (.error e) s') s)
    (n : Nat) (h : I n s) (ht : ∀ v, letOwnedTupleGo t2 it v = pure ()) :
    codeAny (model prog w) A (.compLoop (two elt t1 i1 t2 i2 c scope pos) 1 it acc env) R s := by
  refine codeAny_loop rfl I (fun n s hI => ?_) n h
  show wpAny _ A ((compTurn (two elt t1 i1 t2 i2 c scope pos) 1 it acc env).onRaise (fun x => do noteFrame x env; theTreesLotGoes x)) _ _ s
  refine wpAny_noted ?_
  rw [turn2_1]
  refine wpAny_bind (wpAny_standAt (wpAny_bind (wpAny_mono (turn n s hI) (fun r s₁ h₁ => ?_) fun _ _ h' => h')))
  cases r with
  | none => exact wpAny_pure h₁
  | some v =>
    refine wpAny_bind (wpAny_of_eq (ht v) ?_)
    refine wpAny_bind (wpAny_mono h₁ (fun _ s₂ h₂ => wpAny_bind (wpAny_mono (wpAny_tests_one h₂) (fun ok s₃ h₃ => ?_) fun _ _ h' => h')) fun _ _ h' => h')
    cases ok with
    | false => exact wpAny_pure ⟨rfl, h₃⟩
    | true =>
      exact wpAny_bind (wpAny_bind (wpAny_mono h₃ (fun x s₄ h₄ => wpAny_bind (wpAny_mono h₄ (fun _ s₅ h₅ => wpAny_pure (wpAny_pure ⟨rfl, h₅⟩)) fun _ _ h' => h')) fun _ _ h' => h'))
theorem start2_1 {elt t1 i1 t2 i2 c : PySem.Expr} {scope : Scope} {pos : Pos} {it acc : Value} {env : Env}
    (h0 : codeAny (model prog w) A (.compLoop (two elt t1 i1 t2 i2 c scope pos) 1 it acc env) R s)
    (h : wpAny (model prog w) A (pyIter it) (fun it' s' => codeAny (model prog w) A (.compLoop (two elt t1 i1 t2 i2 c scope pos) 1 it' acc env) R s')
      (notedBy (model prog w) A env fun x s' => R (.error x) s') s) :
    codeAny (model prog w) A (.compStart (two elt t1 i1 t2 i2 c scope pos) 1 it acc env) R s := by
  refine codeAny_of_tree ?_
  show wpAny _ _ ((compStart (two elt t1 i1 t2 i2 c scope pos) 1 it acc env).onRaise (fun x => do noteFrame x env; standAt theWindowsPlace)) _ _ s
  refine wpAny_notedAt ?_
  unfold compStart
  show wpAny _ _ (ask >>= _) _ _ s
  refine wpAny_bind (wpAny_askSetting (wpAny_ite ?_))
  split
  · first
      | exact wpAny_bind (wpAny_pure (wpAny_pure (And.intro rfl h0)))
      | exact wpAny_pure (And.intro rfl h0)
  · first
      | exact wpAny_bind (wpAny_rule (wpAny_bind (wpAny_standAt (wpAny_bind (wpAny_mono h (fun it' s' h' => wpAny_pure (And.intro rfl h')) fun _ _ x => x)))))
      | (refine wpAny_bind (wpAny_rule ?_); show wpAny _ _ (standAt i2.pos >>= _) _ _ s; exact wpAny_bind (wpAny_standAt (wpAny_bind (wpAny_mono h (fun it' s' h' => wpAny_pure (And.intro rfl h')) fun _ _ x => x))))
end
end Mine

namespace Mine
section
open PyProof.Rows.LCg
variable {prog : Program} {w : World} {A : Around} {E : Value → Shared → Prop} {R : Result → Shared → Prop}
variable {h₀ : Heap} {L C D : Addr} {m : Str → Option Value} {env : Env} {elt i1 i2 c : PySem.Expr} {xa xb : Str} {pa pb : Pos} {scope : Scope} {cl : List (Str × Addr)} {pos : Pos}
def rowF (f : Int → Int → Int) (a : Int) : Nat → List Int
  | 0 => []
  | j + 1 => rowF f a j ++ if a + (a + (j : Int)) < a * (a + (j : Int)) then [f a (a + (j : Int))] else []
theorem rowF_len (f : Int → Int → Int) (a : Int) : ∀ j, (rowF f a j).length ≤ j
  | 0 => Nat.le_refl _
  | j + 1 => by
    rw [rowF, List.length_append]
    have := rowF_len f a j
    split <;> simp <;> omega
def allF (f : Int → Int → Int) : Nat → List Int
  | 0 => []
  | i + 1 => allF f i ++ rowF f (2 + (i : Int)) (41 - i)
theorem allF_len (f : Int → Int → Int) : ∀ i, (allF f i).length ≤ 41 * i
  | 0 => Nat.le_refl _
  | i + 1 => by
    rw [allF, List.length_append]
    have := allF_len f i
    have := rowF_len f (2 + (i : Int)) (41 - i)
    omega
theorem news_same2 {h h' : Heap} {d : Addr} {news : List (Addr × Obj)} (N : News h₀ L h news) (hs : Heap.SameBut d h h') (off : ∀ p ∈ news, p.1 ≠ d) : News h₀ L h' news :=
  fun p hp => ⟨hs.extBut _ _ (off p hp) (N p hp).1, (N p hp).2⟩
theorem inner2 (hh : A.handled = none) (f : Int → Int → Int) (a : Int) (ta : Tok) (n : Nat) (I2 : Addr) (ys0 : List Value) (ns0 : List Int) (hys : IntsAre ys0 ns0) (news : List (Addr × Obj)) (mC : Str → Option Value) (s₁ : Shared)
    (hxb : scope.names.lookup xb = some .local) (hkind : scope.kind = .function) (hab : xa ≠ xb)
    (F : Fr h₀ L s₁.heap m) (N : News h₀ L s₁.heap ((D, lst ys0) :: news)) (hC : s₁.heap.Ns C mC) (hCa : mC xa = some (.int a ta))
    (hI : IsRangeIter s₁.heap I2 (a + ((0 : Nat) : Int)) ((n : Int) - ((0 : Nat) : Int)) 1)
    (hCL : C ≠ L) (hDL : D ≠ L) (hCD : C ≠ D) (hIC : I2 ≠ C) (hID : I2 ≠ D) (hIL : I2 ≠ L) (hC₀ : h₀.get? C = none) (hD₀ : h₀.get? D = none) (hI₀ : h₀.get? I2 = none)
    (offC : ∀ p ∈ news, p.1 ≠ C) (offD : ∀ p ∈ news, p.1 ≠ D) (offI : ∀ p ∈ news, p.1 ≠ I2) (hsz : ns0.length + n ≤ sizeLine)
    (hT : ∀ (b : Int) (tb : Tok) (oC : Obj) (m₂ : Str → Option Value) (s' : Shared) (E' : Value → Shared → Prop), a ≤ b → b < a + (n : Int) → NsObj oC m₂ → m₂ xa = some (.int a ta) → m₂ xb = some (.int b tb) → Fr h₀ L s'.heap m → News h₀ L s'.heap [(C, oC)] →
      wpAny (model prog w) A (isTrue c (compEnvC scope cl C env) (eval c (compEnvC scope cl C env))) (fun ok s'' => ok = decide (a + b < a * b) ∧ ∃ tk', s'' = { s' with toks := tk' }) E' s')
    (hE : ∀ (b : Int) (tb : Tok) (oC : Obj) (m₂ : Str → Option Value) (s' : Shared) (E' : Value → Shared → Prop), a ≤ b → b < a + (n : Int) → NsObj oC m₂ → m₂ xa = some (.int a ta) → m₂ xb = some (.int b tb) → Fr h₀ L s'.heap m → News h₀ L s'.heap [(C, oC)] →
      wpAny (model prog w) A (eval elt (compEnvC scope cl C env)) (fun y s'' => (∃ t, y = .int (f a b) t) ∧ ∃ tk', s'' = { s' with toks := tk' }) E' s')
    (hR : ∀ h tk ys m', Fr h₀ L h m → News h₀ L h ((D, lst ys) :: news) → h.Ns C m' → IntsAre ys (ns0 ++ rowF f a n) → R (.ok .next) { s₁ with heap := h, toks := tk }) :
    codeAny (model prog w) A (.compLoop (two elt (.Name xa pa) i1 (.Name xb pb) i2 c scope pos) 1 (.ref I2) (.ref D) (compEnvC scope cl C env)) R s₁ := by
  refine loop2_1 (fun k s' => ∃ h' tk j ys m', s' = { s₁ with heap := h', toks := tk } ∧ j ≤ n ∧ k = n + 1 - j ∧ IntsAre ys (ns0 ++ rowF f a j) ∧ IsRangeIter h' I2 (a + ((j : Nat) : Int)) ((n : Int) - ((j : Nat) : Int)) 1 ∧ Fr h₀ L h' m ∧ h'.Ns C m' ∧ m' xa = some (.int a ta) ∧
      News h₀ L h' ((D, lst ys) :: news)) ?_ (n + 1) ⟨s₁.heap, s₁.toks, 0, ys0, mC, rfl, Nat.zero_le _, rfl, by rw [rowF, List.append_nil]; exact hys, hI, F, hC, hCa, N⟩ (fun _ => rfl)
  rintro k s' ⟨h', tk, j, ys, m', rfl, hj, rfl, hy, hit, F', hn', hma, N'⟩
  have offI' : ∀ p ∈ (D, lst ys) :: news, p.1 ≠ I2 := fun p hp => by
    rcases List.mem_cons.mp hp with rfl | hp
    · exact Ne.symm hID
    · exact offI p hp
  by_cases hlt : j < n
  · refine wpAny_pyNext_range_item hit (by omega) fun h₂ hit₂ hs₂ => ?_
    refine wpAny_assign_Name (wpAny_storeName_local (lookup_relabel_local hxb) (hn'.sameBut hs₂ (Ne.symm hIC)) (fun h₃ hn₃ hs₃ => ?_) (by simp [compEnvC, relabel, hkind]))
    have F₃ : Fr h₀ L h₃ m := (F'.change hs₂ hIL hI₀).change hs₃ hCL hC₀
    have N₃ : News h₀ L h₃ ((D, lst ys) :: news) := news_same2 (news_same2 N' hs₂ offI') hs₃ fun p hp => by
      rcases List.mem_cons.mp hp with rfl | hp
      · exact Ne.symm hCD
      · exact offC p hp
    have hit₃ : IsRangeIter h₃ I2 (a + ((j + 1 : Nat) : Int)) ((n : Int) - ((j + 1 : Nat) : Int)) 1 := by
      have e1 : a + ((j + 1 : Nat) : Int) = a + (j : Int) + 1 := by omega
      have e2 : (n : Int) - ((j + 1 : Nat) : Int) = (n : Int) - (j : Int) - 1 := by omega
      rw [e1, e2]
      exact hs₃.extBut _ _ hIC hit₂
    have hn₃' : h₃.Ns C _ := hn₃
    obtain ⟨oC, heC, hoC⟩ := ns_obj hn₃'
    have NC : News h₀ L h₃ [(C, oC)] := fun p hp => by rw [List.mem_singleton.mp hp]; exact ⟨heC, hCL, hC₀⟩
    refine wpAny_mono (hT (a + (j : Int)) _ oC _ _ _ (by omega) (by omega) hoC (by simp [hab, hma]) (by simp; rfl) F₃ NC) (fun ok s₄ h₄ => ?_) fun _ _ e => e
    obtain ⟨rfl, tk₄, rfl⟩ := h₄
    by_cases hc : a + (a + (j : Int)) < a * (a + (j : Int))
    · rw [if_pos (decide_eq_true hc)]
      refine wpAny_mono (hE (a + (j : Int)) _ oC _ _ _ (by omega) (by omega) hoC (by simp [hab, hma]) (by simp; rfl) F₃ NC) (fun y s₅ h₅ => ?_) fun _ _ e => e
      obtain ⟨⟨t, rfl⟩, tk₅, rfl⟩ := h₅
      have zD := (N₃ (D, lst ys) List.mem_cons_self).1
      have hlen : ys.length ≤ sizeLine := by
        rw [hy.length, List.length_append]
        have := rowF_len f a j
        omega
      refine append_at (hsz := by rw [List.size_toArray]; exact hlen) zD fun h₅ hs₅ hD₅ => ?_
      refine ⟨n + 1 - (j + 1), by omega, h₅, tk₅, j + 1, ys ++ [.int (f a (a + (j : Int))) t], _, rfl, hlt, rfl, ?_, hs₅.extBut _ _ hID hit₃, F₃.change hs₅ hDL hD₀, hn₃'.sameBut hs₅ hCD, by simp [hab, hma], fun p hp => ?_⟩
      · rw [rowF, if_pos hc, ← List.append_assoc]
        exact hy.append (.cons _ _ .nil)
      · rcases List.mem_cons.mp hp with rfl | hp
        · exact ⟨hD₅.trans (congrArg some (lst_snoc ys _)), hDL, hD₀⟩
        · exact ⟨hs₅.extBut _ _ (offD p hp) (N₃ p (.tail _ hp)).1, (N₃ p (.tail _ hp)).2⟩
    · rw [if_neg (by rw [decide_eq_false hc]; exact Bool.false_ne_true)]
      refine ⟨n + 1 - (j + 1), by omega, h₃, tk₄, j + 1, ys, _, rfl, hlt, rfl, ?_, hit₃, F₃, hn₃', by simp [hab, hma], N₃⟩
      rw [rowF, if_neg hc, List.append_nil]
      exact hy
  · obtain rfl : j = n := Nat.le_antisymm hj (Nat.not_lt.mp hlt)
    refine wpAny_pyNext_range_end hh hit (by omega) fun h₂ he₂ => ?_
    have hk : ∀ b o, b ∉ [I2] → h'.get? b = some o → h₂.get? b = some o := fun b o hb e => he₂ b o (fun q => hb (List.mem_singleton.mpr q)) e
    exact hR h₂ tk ys m' (fr_but F' hk (Ne.symm hIL) hI₀) (news_but N' hk offI') (hn'.at' fun o e => hk _ o (by simpa using Ne.symm hIC) e) hy
end
end Mine

namespace Mine
section
open PyProof.Rows.LCg
variable {prog : Program} {w : World} {A : Around} {E : Value → Shared → Prop} {R : Result → Shared → Prop}
variable {h₀ : Heap} {L C D : Addr} {m : Str → Option Value} {env : Env} {elt i1 i2 c : PySem.Expr} {xa xb : Str} {pa pb : Pos} {scope : Scope} {cl : List (Str × Addr)} {pos : Pos}
/-- what is asked of the test, of the element and of the inner clause's iterable -/
structure Two (prog : Program) (w : World) (A : Around) (h₀ : Heap) (L : Addr) (m : Str → Option Value) (env : Env) (elt i2 c : PySem.Expr) (xa xb : Str) (scope : Scope) (cl : List (Str × Addr)) (f : Int → Int → Int) : Prop where
  test : ∀ (C : Addr) (a b : Int) (ta tb : Tok) (oC : Obj) (m₂ : Str → Option Value) (s' : Shared) (E' : Value → Shared → Prop), 2 ≤ a → a < 12 → a ≤ b → b < 43 → NsObj oC m₂ → m₂ xa = some (.int a ta) → m₂ xb = some (.int b tb) → Fr h₀ L s'.heap m → News h₀ L s'.heap [(C, oC)] →
      wpAny (model prog w) A (isTrue c (compEnvC scope cl C env) (eval c (compEnvC scope cl C env))) (fun ok s'' => ok = decide (a + b < a * b) ∧ ∃ tk', s'' = { s' with toks := tk' }) E' s'
  elt : ∀ (C : Addr) (a b : Int) (ta tb : Tok) (oC : Obj) (m₂ : Str → Option Value) (s' : Shared) (E' : Value → Shared → Prop), 2 ≤ a → a < 12 → a ≤ b → b < 43 → NsObj oC m₂ → m₂ xa = some (.int a ta) → m₂ xb = some (.int b tb) → Fr h₀ L s'.heap m → News h₀ L s'.heap [(C, oC)] →
      wpAny (model prog w) A (eval elt (compEnvC scope cl C env)) (fun y s'' => (∃ t, y = .int (f a b) t) ∧ ∃ tk', s'' = { s' with toks := tk' }) E' s'
  iter : ∀ (C : Addr) (a : Int) (ta : Tok) (oC : Obj) (m₂ : Str → Option Value) (s' : Shared) (E' : Value → Shared → Prop), 2 ≤ a → a < 12 → NsObj oC m₂ → m₂ xa = some (.int a ta) → Fr h₀ L s'.heap m → News h₀ L s'.heap [(C, oC)] →
      wpAny (model prog w) A (eval i2 (compEnvC scope cl C env)) (fun y s'' => ∃ r h' tk' t u v, y = .ref r ∧ s'' = { s' with heap := h', toks := tk' } ∧ IsRange h' r a 43 1 t u v ∧ ∀ b o, s'.heap.get? b = some o → h'.get? b = some o) E' s'
theorem small43 (a : Int) (h1 : 2 ≤ a) (h2 : a < 12) : Builtin.Range.small a 43 1 = true ∧ Builtin.Range.rangeSize a 43 1 = 43 - a := by
  have : a = 2 ∨ a = 3 ∨ a = 4 ∨ a = 5 ∨ a = 6 ∨ a = 7 ∨ a = 8 ∨ a = 9 ∨ a = 10 ∨ a = 11 := by omega
  rcases this with rfl | rfl | rfl | rfl | rfl | rfl | rfl | rfl | rfl | rfl <;> decide
theorem outer2 (hh : A.handled = none) (f : Int → Int → Int) (I1 : Addr) (news : List (Addr × Obj)) (mC : Str → Option Value) (s₁ : Shared)
    (hxa : scope.names.lookup xa = some .local) (hxb : scope.names.lookup xb = some .local) (hkind : scope.kind = .function) (hab : xa ≠ xb)
    (F : Fr h₀ L s₁.heap m) (N : News h₀ L s₁.heap ((D, lst []) :: news)) (hC : s₁.heap.Ns C mC)
    (hI : IsRangeIter s₁.heap I1 (2 + ((0 : Nat) : Int)) (10 - ((0 : Nat) : Int)) 1)
    (hCL : C ≠ L) (hDL : D ≠ L) (hCD : C ≠ D) (hIC : I1 ≠ C) (hID : I1 ≠ D) (hIL : I1 ≠ L) (hC₀ : h₀.get? C = none) (hD₀ : h₀.get? D = none) (hI₀ : h₀.get? I1 = none)
    (offC : ∀ p ∈ news, p.1 ≠ C) (offD : ∀ p ∈ news, p.1 ≠ D) (offI : ∀ p ∈ news, p.1 ≠ I1)
    (W : Two prog w A h₀ L m env elt i2 c xa xb scope cl f)
    (hs : ∀ x, foldedSetIterable i2 (compEnvC scope cl C env) x = pure x)
    (hR : ∀ h tk ys m', Fr h₀ L h m → News h₀ L h ((D, lst ys) :: news) → h.Ns C m' → IntsAre ys (allF f 10) → R (.ok .next) { s₁ with heap := h, toks := tk }) :
    codeAny (model prog w) A (.compLoop (two elt (.Name xa pa) i1 (.Name xb pb) i2 c scope pos) 0 (.ref I1) (.ref D) (compEnvC scope cl C env)) R s₁ := by
  refine loop2_0 (fun k s' => ∃ h' tk i ys m', s' = { s₁ with heap := h', toks := tk } ∧ i ≤ 10 ∧ k = 11 - i ∧ IntsAre ys (allF f i) ∧ IsRangeIter h' I1 (2 + ((i : Nat) : Int)) (10 - ((i : Nat) : Int)) 1 ∧ Fr h₀ L h' m ∧ h'.Ns C m' ∧
      News h₀ L h' ((D, lst ys) :: news)) ?_ 11 ⟨s₁.heap, s₁.toks, 0, [], mC, rfl, Nat.zero_le _, rfl, .nil, hI, F, hC, N⟩ (fun _ => rfl) hs
  rintro k s' ⟨h', tk, i, ys, m', rfl, hi, rfl, hy, hit, F', hn', N'⟩
  have offI' : ∀ p ∈ (D, lst ys) :: news, p.1 ≠ I1 := fun p hp => by
    rcases List.mem_cons.mp hp with rfl | hp
    · exact Ne.symm hID
    · exact offI p hp
  by_cases hlt : i < 10
  · refine wpAny_pyNext_range_item hit (by omega) fun h₂ hit₂ hs₂ => ?_
    refine wpAny_assign_Name (wpAny_storeName_local (lookup_relabel_local hxa) (hn'.sameBut hs₂ (Ne.symm hIC)) (fun h₃ hn₃ hs₃ => ?_) (by simp [compEnvC, relabel, hkind]))
    have F₃ : Fr h₀ L h₃ m := (F'.change hs₂ hIL hI₀).change hs₃ hCL hC₀
    have N₃ : News h₀ L h₃ ((D, lst ys) :: news) := news_same2 (news_same2 N' hs₂ offI') hs₃ fun p hp => by
      rcases List.mem_cons.mp hp with rfl | hp
      · exact Ne.symm hCD
      · exact offC p hp
    have hit₃ : IsRangeIter h₃ I1 (2 + ((i + 1 : Nat) : Int)) (10 - ((i + 1 : Nat) : Int)) 1 := by
      have e1 : 2 + ((i + 1 : Nat) : Int) = 2 + (i : Int) + 1 := by omega
      have e2 : 10 - ((i + 1 : Nat) : Int) = 10 - (i : Int) - 1 := by omega
      rw [e1, e2]
      exact hs₃.extBut _ _ hIC hit₂
    have hn₃' : h₃.Ns C _ := hn₃
    obtain ⟨oC, heC, hoC⟩ := ns_obj hn₃'
    have NC : News h₀ L h₃ [(C, oC)] := fun p hp => by rw [List.mem_singleton.mp hp]; exact ⟨heC, hCL, hC₀⟩
    refine wpAny_mono (W.iter C (2 + (i : Int)) _ oC _ _ _ (by omega) (by omega) hoC (by simp; rfl) F₃ NC) (fun y s₄ h₄ => ?_) fun _ _ e => e
    obtain ⟨r, h₄, tk₄, t, u, v, rfl, rfl, hr, hk₄⟩ := h₄
    have sm := small43 (2 + (i : Int)) (by omega) (by omega)
    refine wpAny_pyIter_range hr sm.1 ?_
    rw [sm.2]
    dsimp only
    generalize hg : h₄.push { cls := .type "range_iterator", data := .fields #[rawInt (2 + (i : Int)), rawInt (43 - (2 + (i : Int))), rawInt 1] } = g
    have up : ∀ b o, h₃.get? b = some o → g.get? b = some o := fun b o e => by rw [← hg]; exact Heap.get?_push_of_some _ (hk₄ b o e)
    have F₄ : Fr h₀ L h₄ m := F₃.keeps hk₄
    have Fg : Fr h₀ L g m := F₃.keeps up
    have Ng : News h₀ L g ((D, lst ys) :: (I1, _) :: news) := fun p hp => by
      rcases List.mem_cons.mp hp with rfl | hp
      · exact N₃.grown up _ (.head _)
      · rcases List.mem_cons.mp hp with rfl | hp
        · exact ⟨up _ _ hit₃, hIL, hI₀⟩
        · exact N₃.grown up _ (.tail _ hp)
    have lt4 : ∀ b o, h₃.get? b = some o → h₄.objs.size ≠ b := fun b o e => Ne.symm (Nat.ne_of_lt (Heap.lt_size (hk₄ b o e)))
    have hIt2 : IsRangeIter g h₄.objs.size (2 + (i : Int) + ((0 : Nat) : Int)) (((41 - i : Nat) : Int) - ((0 : Nat) : Int)) 1 := by
      have e1 : 2 + (i : Int) + ((0 : Nat) : Int) = 2 + (i : Int) := by omega
      have e2 : ((41 - i : Nat) : Int) - ((0 : Nat) : Int) = 43 - (2 + (i : Int)) := by omega
      rw [e1, e2, ← hg]
      exact Heap.get?_push_size _ rfl
    have core : codeAny (model prog w) A (.compLoop (two elt (.Name xa pa) i1 (.Name xb pb) i2 c scope pos) 1 (.ref h₄.objs.size) (.ref D) (compEnvC scope cl C env))
        (fun r s₅ => match r with | .ok _ => ∃ m_1, m_1 < 11 - i ∧ ∃ h' tk i ys m', s₅ = { s₁ with heap := h', toks := tk } ∧ i ≤ 10 ∧ m_1 = 11 - i ∧ IntsAre ys (allF f i) ∧ IsRangeIter h' I1 (2 + ((i : Nat) : Int)) (10 - ((i : Nat) : Int)) 1 ∧ Fr h₀ L h' m ∧ h'.Ns C m' ∧ News h₀ L h' ((D, lst ys) :: news) | .error _ => False)
        { s₁ with heap := g, toks := tk₄ } := by
      refine inner2 (m := m) hh f (2 + (i : Int)) _ (41 - i) h₄.objs.size ys (allF f i) hy _ _ _ hxb hkind hab Fg Ng (hn₃'.keeps up) (by simp; rfl) hIt2 hCL hDL hCD
        (lt4 _ _ heC) (lt4 _ _ (N₃ _ (.head _)).1) (by have := F₄.ns.lt; exact Ne.symm (Nat.ne_of_lt this)) hC₀ hD₀ (next_is_new F₄) ?_ ?_ ?_ ?_ ?_ ?_ ?_
      · intro p hp
        rcases List.mem_cons.mp hp with rfl | hp
        · exact hIC
        · exact offC p hp
      · intro p hp
        rcases List.mem_cons.mp hp with rfl | hp
        · exact hID
        · exact offD p hp
      · intro p hp
        rcases List.mem_cons.mp hp with rfl | hp
        · exact Ne.symm (lt4 _ _ hit₃)
        · exact Ne.symm (lt4 _ _ (N₃ p (.tail _ hp)).1)
      · have := allF_len f i
        rw [PySem.sizeLine_eq]
        omega
      · intro b tb oC' m₂ s' E' hb1 hb2 x1 x2 x3 x4 x5
        exact W.test C (2 + (i : Int)) b _ tb oC' m₂ s' E' (by omega) (by omega) hb1 (by omega) x1 x2 x3 x4 x5
      · intro b tb oC' m₂ s' E' hb1 hb2 x1 x2 x3 x4 x5
        exact W.elt C (2 + (i : Int)) b _ tb oC' m₂ s' E' (by omega) (by omega) hb1 (by omega) x1 x2 x3 x4 x5
      · intro h5 tk5 ys5 m5 F5 N5 hn5 hy5
        refine ⟨11 - (i + 1), by omega, h5, tk5, i + 1, ys5, m5, rfl, by omega, rfl, hy5, ?_, F5, hn5, fun p hp => ?_⟩
        · exact (N5 _ (.tail _ (.head _))).1
        · rcases List.mem_cons.mp hp with rfl | hp
          · exact N5 _ (.head _)
          · exact N5 _ (.tail _ (.tail _ hp))
    exact start2_1 core (wpAny_pyIter_rangeiter hIt2 core)
  · obtain rfl : i = 10 := Nat.le_antisymm hi (Nat.not_lt.mp hlt)
    refine wpAny_pyNext_range_end hh hit (by omega) fun h₂ he₂ => ?_
    have hk : ∀ b o, b ∉ [I1] → h'.get? b = some o → h₂.get? b = some o := fun b o hb e => he₂ b o (fun q => hb (List.mem_singleton.mpr q)) e
    exact hR h₂ tk ys m' (fr_but F' hk (Ne.symm hIL) hI₀) (news_but N' hk offI') (hn'.at' fun o e => hk _ o (by simpa using Ne.symm hIC) e) hy
def SrcTwo (prog : Program) (w : World) (A : Around) (h₀ : Heap) (L : Addr) (m : Str → Option Value) (env : Env) (elt i2 c : PySem.Expr) (xa xb : Str) (scope : Scope) (cl : List (Str × Addr)) (f : Int → Int → Int) (Q : Value → Shared → Prop) (x : Value) (s₁ : Shared) : Prop :=
  ∃ r news t u v, x = .ref r ∧ IsRange s₁.heap r 2 12 1 t u v ∧ Fr h₀ L s₁.heap m ∧ News h₀ L s₁.heap news ∧ Two prog w A h₀ L m env elt i2 c xa xb scope cl f ∧
      ∀ D h tk ys, Fr h₀ L h m → News h₀ L h ((D, lst ys) :: news) → IntsAre ys (allF f 10) → (∀ p ∈ news, p.1 ≠ D) → Q (.ref D) { s₁ with heap := h, toks := tk }
/-- a list comprehension of two clauses, `for xa in range(2, 12) for xb in range(xa, 43) if xa + xb < xa * xb` -/
theorem comp2 {s : Shared} {Q : Value → Shared → Prop} (f : Int → Int → Int) (hh : A.handled = none)
    (hclos : closureFor scope env = pure cl) (hcell : ∀ y ∈ scope.names, y.2 ≠ .cell) (hkind : scope.kind = .function)
    (hnames : ∀ y ∈ scope.names, y.2 = .local → scope.names.lookup y.1 = some .local) (hxa : scope.names.lookup xa = some .local) (hxb : scope.names.lookup xb = some .local) (hab : xa ≠ xb)
    (hs1 : ∀ x, foldedSetIterable i1 env x = pure x) (hs2 : ∀ C x, foldedSetIterable i2 (compEnvC scope cl C env) x = pure x)
    (h : wpAny (model prog w) A (eval i1 env) (SrcTwo prog w A h₀ L m env elt i2 c xa xb scope cl f Q) E s) :
    wpAny (model prog w) A (eval (two elt (.Name xa pa) i1 (.Name xb pb) i2 c scope pos) env) Q E s := by
  rw [eval_ListComp]
  refine wpAny_comprehension_free (use := none) rfl hs1 hclos hkind hnames (wpAny_mono h (fun xv s₁ h₁ => ?_) fun _ _ e => e)
  obtain ⟨r, news, t, u, v, rfl, hr, F, N, W, hQ⟩ := h₁
  refine wpAny_pyIter_range hr (by decide) ?_
  have e10 : Builtin.Range.rangeSize 2 12 1 = 10 := by decide
  rw [e10]
  generalize hH1 : s₁.heap.push { cls := .type "range_iterator", data := .fields #[rawInt 2, rawInt 10, rawInt 1] } = H1
  have hH1s : H1.objs.size = s₁.heap.objs.size + 1 := by rw [← hH1, Heap.size_push]
  have hIt : IsRangeIter H1 s₁.heap.objs.size (2 + ((0 : Nat) : Int)) (10 - ((0 : Nat) : Int)) 1 := by rw [← hH1]; exact Heap.get?_push_size _ rfl
  have up1 : ∀ b o, s₁.heap.get? b = some o → H1.get? b = some o := fun b o e => by rw [← hH1]; exact Heap.get?_push_of_some _ e
  have F1 : Fr h₀ L H1 m := F.keeps up1
  have N1 : News h₀ L H1 news := N.grown up1
  refine wpAny_newObj_type (wpAny_newFunctionEnv hcell (by intro y hy; simp at hy) (fun h₁ hns₁ hsb₁ => ?_) hkind)
  dsimp only at hns₁ hsb₁ ⊢
  generalize hH2 : H1.push { cls := .type "list", dict := none, data := .seq ([] : List Value).toArray } = H2 at hns₁ hsb₁ ⊢
  have hC : H2.objs.size = H1.objs.size + 1 := by rw [← hH2, Heap.size_push]
  have below : ∀ b o, H1.get? b = some o → b ≠ H2.objs.size ∧ b ≠ H1.objs.size := fun b o e => by
    have hb := Heap.lt_size e
    exact ⟨by rw [hC]; exact Nat.ne_of_lt (Nat.lt_succ_of_lt hb), Nat.ne_of_lt hb⟩
  have hDC : H1.objs.size ≠ H2.objs.size := by rw [hC]; exact Nat.ne_of_lt (Nat.lt_succ_self _)
  have old : ∀ b o, H1.get? b = some o → h₁.get? b = some o := fun b o e => hsb₁.extBut b o (below b o e).1 (Heap.get?_push_of_some _ (hH2 ▸ Heap.get?_push_of_some _ e))
  have hacc : h₁.get? H1.objs.size = some (lst []) := hsb₁.extBut _ _ hDC (Heap.get?_push_of_some _ (hH2 ▸ Heap.get?_push_size _ rfl))
  have fresh₀ : ∀ a, H1.objs.size ≤ a → h₀.get? a = none := fun a ha => Heap.get?_none_of_le (Nat.le_trans (Nat.le_of_lt (Nat.lt_of_le_of_lt F1.above F1.ns.lt)) ha)
  have hD₀ : h₀.get? H1.objs.size = none := fresh₀ _ (Nat.le_refl _)
  have hC₀ : h₀.get? H2.objs.size = none := fresh₀ _ (by rw [hC]; exact Nat.le_succ _)
  have hLlt : L < H1.objs.size := F1.ns.lt
  have hDL : H1.objs.size ≠ L := Ne.symm (Nat.ne_of_lt hLlt)
  have hCL : H2.objs.size ≠ L := Ne.symm (by rw [hC]; exact Nat.ne_of_lt (Nat.lt_succ_of_lt hLlt))
  have hIL : s₁.heap.objs.size ≠ L := Ne.symm (Nat.ne_of_lt F.ns.lt)
  have core : codeAny (model prog w) A (.compLoop (two elt (.Name xa pa) i1 (.Name xb pb) i2 c scope pos) 0 (.ref s₁.heap.objs.size) (.ref H1.objs.size) (compEnvC scope cl H2.objs.size env))
      (compPost (model prog w) A E none Q (.ref H1.objs.size) H2.objs.size) { s₁ with heap := h₁, toks := s₁.toks + ([] : List (Str × Value)).length } := by
    refine outer2 (m := m) hh f s₁.heap.objs.size news _ _ hxa hxb hkind hab (F1.keeps old) (fun p hp => ?_) hns₁ (old _ _ hIt) hCL hDL (Ne.symm hDC) (below _ _ hIt).1 (below _ _ hIt).2 hIL hC₀ hD₀ (next_is_new F)
      (fun p hp => (below _ _ (N1 p hp).1).1) (fun p hp => (below _ _ (N1 p hp).1).2) (fun p hp => Nat.ne_of_lt (Heap.lt_size (N p hp).1)) W (hs2 _) ?_
    · rcases List.mem_cons.mp hp with rfl | hp
      · exact ⟨hacc, hDL, hD₀⟩
      · exact N1.grown old p hp
    · intro h5 tk5 ys5 m5 F5 N5 hn5 hy5
      refine ⟨m5, hn5, fun h'' hs'' => hQ _ h'' tk5 ys5 (F5.change hs'' hCL hC₀) (news_same2 N5 hs'' fun p hp => ?_) hy5 fun p hp => (below _ _ (N1 p hp).1).2⟩
      rcases List.mem_cons.mp hp with rfl | hp
      · exact hDC
      · exact (below _ _ (N1 p hp).1).1
  exact codeAny_compStart_list core (wpAny_pyIter_rangeiter (old _ _ hIt) core)
end
end Mine

namespace Mine
local macro_rules | `(tactic| walk_at "pyIter ref") => `(tactic| ((with_reducible show wpAny _ _ (pyIter (Value.ref _)) (fun it s₂ => LoopAtV _ _ _ _ _ _ _ _ _ it s₂) _ _); refine Hold.out ?_))
local macro_rules | `(tactic| walk_at "UnrEnd") => `(tactic| (refine Hold.out ?_))
local macro_rules | `(tactic| walk_at "call ref") => `(tactic| (refine Hold.out ?_))

def fEl (a b : Int) : Int := ((a + b) * 1764).fdiv (a * b)
theorem allF_max : 1470 ∈ allF fEl 10 ∧ ∀ x ∈ allF fEl 10, x ≤ 1470 := by decide +kernel
theorem allF_ne : (allF fEl 10).length = 364 := by decide +kernel
set_option maxHeartbeats 8000000 in
theorem p_best (w : World) (mean : ExcName → Option Value) (mg mb : Str → Option Value)
  (dp un : Nat) (gd : Option (List Code)) (a : Addr) (ccd : Value) (outer : List Env) (A₀ : Around) (base h₀ : Heap) (L : Addr) (s : Shared)
  (Q : Flow → Shared → Prop) (u : Str → Option Value) (news : List (Addr × Obj))
  (B : Below A₀ base outer h₀) (F : Fr h₀ L s.heap u) (X : (hd.heap_39 w.params).In h₀) (N : News h₀ L s.heap news)
  (T : Top topProg looseX mean mg mb h₀) (hdp : dp + 110 < recursionLimit) (hun : un + 1100 < cLine) (C34 : CodeHd h₀ 34 30) (C41 : CodeHd h₀ 41 37)
  (hret : ∀ (t : Tok) (u' : Str → Option Value) (h' : Heap) (tk' : Nat), Fr h₀ L h' (fun y => if y = Str.ofString "best" then some (.int 1470 t) else u' y) → News h₀ L h' news → Q .next { s with heap := h', toks := tk' }) :
  wpAny (model PySem.Challenge.rw_id0006_01.row.prog w) (ktrTop dp un gd (Str.ofString "law") lawS L a ccd [] outer) (exec (lawSt 11) (envX (Str.ofString "law") lawS L a ccd [])) Q (fun _ _ => False) s := by
  generalize hLit0 : lawSt 11 = lit0
  conv at hLit0 => lhs; whnf
  subst hLit0
  generalize hLit1 : lawS = lit1
  conv at hLit1 => lhs; whnf
  subst hLit1
  revert X; k_fill; intro X
  k_steps
  k_dflt (refine comp2 (h₀ := h₀) (L := L) (m := u) fEl rfl (by with_unfolding_all rfl) (by decide) (by rfl) (by decide) (by rfl) (by rfl) (by decide) (by intro _; rfl) (by intro _ _; rfl) ?_)
  k_steps
  refine ⟨_, news, _, _, _, rfl, by assumption, by assumption, by assumption, ⟨?t, ?e, ?i⟩, ?fin⟩
  case t =>
    intro C a1 b1 ta tb oC m₂ s' E' ha1 ha2 hb1 hb2 hN hma hmb F9 N9
    k_steps
  case e =>
    intro C a1 b1 ta tb oC m₂ s' E' ha1 ha2 hb1 hb2 hN hma hmb F9 N9
    have hpos : 0 < a1 * b1 := Int.mul_pos (by omega) (by omega)
    have hlt : a1 * b1 ≤ 11 * 42 := Int.mul_le_mul (by omega) (by omega) (by omega) (by omega)
    k_steps
  case i =>
    intro C a1 ta oC m₂ s' E' ha1 ha2 hN hma F9 N9
    k_steps
    rename_i kp bb oo he
    exact kp bb oo he
  case fin =>
    intro D h9 tk9 ys9 F9 N9 hy9 off9
    k_steps
    refine kso_max F9 N9 (News.isList N9 (.head _)) hy9 (by rw [allF_ne]; decide) rfl ?_
    intro h10 M t10 tk10 F10 N10 hM hle
    obtain rfl : M = 1470 := Int.le_antisymm (allF_max.2 M hM) (hle 1470 allF_max.1)
    k_steps
    exact hret _ u _ _ (by assumption) (fun p hp => (by assumption : News _ _ _ ((D, _) :: _)) p (.tail _ hp))
end Mine

namespace Mine
local macro_rules | `(tactic| walk_at "pyIter ref") => `(tactic| ((with_reducible show wpAny _ _ (pyIter (Value.ref _)) (fun it s₂ => LoopAtV _ _ _ _ _ _ _ _ _ it s₂) _ _); refine Hold.out ?_))
local macro_rules | `(tactic| walk_at "UnrEnd") => `(tactic| (refine Hold.out ?_))
local macro_rules | `(tactic| walk_at "call ref") => `(tactic| (refine Hold.out ?_))

theorem norm6 {m : Str → Option Value} {n1 n2 n3 n4 n5 n6 : Str} {v1 v2 v3 v4 v5 v6 : Option Value} (h1 : m n1 = v1) (h2 : m n2 = v2) (h3 : m n3 = v3) (h4 : m n4 = v4) (h5 : m n5 = v5) (h6 : m n6 = v6) :
    m = fun z => if z = n1 then v1 else if z = n2 then v2 else if z = n3 then v3 else if z = n4 then v4 else if z = n5 then v5 else if z = n6 then v6 else m z := by
  funext z
  repeat (first | (split; · subst_vars; rfl))
  rfl
theorem norm7 {m : Str → Option Value} {n1 n2 n3 n4 n5 n6 n7 : Str} {v1 v2 v3 v4 v5 v6 v7 : Option Value} (h1 : m n1 = v1) (h2 : m n2 = v2) (h3 : m n3 = v3) (h4 : m n4 = v4) (h5 : m n5 = v5) (h6 : m n6 = v6) (h7 : m n7 = v7) :
    m = fun z => if z = n1 then v1 else if z = n2 then v2 else if z = n3 then v3 else if z = n4 then v4 else if z = n5 then v5 else if z = n6 then v6 else if z = n7 then v7 else m z := by
  funext z
  repeat (first | (split; · subst_vars; rfl))
  rfl
abbrev mP6 (M g : Int) (ln : Addr) (tM tg : Tok) (e1 e2 e3 : Option Value) (u : Str → Option Value) : Str → Option Value :=
  fun z => if z = Str.ofString "many" then some (.int M tM) else if z = Str.ofString "numbers" then some (.ref ln) else if z = Str.ofString "more" then some (.int g tg) else if z = Str.ofString "row" then e1 else if z = Str.ofString "product" then e2 else if z = Str.ofString "other" then e3 else u z
abbrev mK7 (M g : Int) (ln : Addr) (tM tg : Tok) (e1 e2 e3 : Option Value) (k : Int) (tk : Tok) (u : Str → Option Value) : Str → Option Value :=
  fun z => if z = Str.ofString "many" then some (.int M tM) else if z = Str.ofString "numbers" then some (.ref ln) else if z = Str.ofString "more" then some (.int g tg) else if z = Str.ofString "row" then e1 else if z = Str.ofString "product" then e2 else if z = Str.ofString "other" then e3 else if z = Str.ofString "k" then some (.int k tk) else u z
def Sep (keep tb0 tb : List (Addr × Obj)) : Prop := ∀ p ∈ keep, (∀ r ∈ tb0, @Ne Nat r.1 p.1) → ∀ r ∈ tb, @Ne Nat r.1 p.1
def InvK2 (M g : Int) (ln : Addr) (tM tg : Tok) (e1 e2 e3 : Option Value) (keep keep2 tb0 : List (Addr × Obj)) (_i : Nat) (m : Str → Option Value) (news : List (Addr × Obj)) : Prop :=
  ∃ u tb, m = mP6 M g ln tM tg e1 e2 e3 u ∧ TabSt tb ∧ Sep keep2 tb0 tb ∧ news = keep ++ (tb ++ keep2)
def InvJ2 (M g : Int) (ln : Addr) (tM tg : Tok) (e1 e2 e3 : Option Value) (k : Int) (tk : Tok) (keep keep2 tb0 : List (Addr × Obj)) (_i : Nat) (m : Str → Option Value) (news : List (Addr × Obj)) : Prop :=
  ∃ u tb, m = mK7 M g ln tM tg e1 e2 e3 k tk u ∧ TabSt tb ∧ Sep keep2 tb0 tb ∧ news = keep ++ (tb ++ keep2)
set_option maxHeartbeats 8000000 in
theorem p_pairs2 (w : World) (mean : ExcName → Option Value) (mg mb : Str → Option Value)
  (dp un : Nat) (gd : Option (List Code)) (a : Addr) (ccd : Value) (outer : List Env) (A₀ : Around) (base h₀ : Heap) (L : Addr) (s : Shared)
  (Q : Flow → Shared → Prop) (n : Nat) (g : Int) (ln : Addr) (tM tg : Tok) (e1 e2 e3 : Option Value) (u : Str → Option Value) (vn : List Value) (ns : List Int) (en : Nat) (tb : List (Addr × Obj)) (hT : TabSt tb) (keep : List (Addr × Obj)) (hkc : ∀ p ∈ keep, p.2.cls ≠ .none)
  (B : Below A₀ base outer h₀) (F : Fr h₀ L s.heap (mP6 (n : Int) g ln tM tg e1 e2 e3 u)) (X : (hd.heap_39 w.params).In h₀) (N : News h₀ L s.heap ((ln, listOf vn.toArray en) :: (tb ++ keep)))
  (T : Top topProg looseX mean mg mb h₀) (hdp : dp + 110 < recursionLimit) (hun : un + 1100 < cLine) (C34 : CodeHd h₀ 34 30) (C41 : CodeHd h₀ 41 37)
  (hi : IntsAre vn ns) (hns : ns.length = n) (hn6 : n ≤ 6) (hok : ∀ k j, j < k → k < n → PairOk (ns.getD k 0) (ns.getD j 0) g)
  (hret : ∀ u' tb' h' tk', TabSt tb' → Sep keep tb tb' → Fr h₀ L h' (mP6 (n : Int) g ln tM tg e1 e2 e3 u') → News h₀ L h' ((ln, listOf vn.toArray en) :: (tb' ++ keep)) → Q .next { s with heap := h', toks := tk' }) :
  wpAny (model PySem.Challenge.rw_id0006_01.row.prog w) (ktrTop dp un gd (Str.ofString "law") lawS L a ccd [] outer) (exec pairsSt (envX (Str.ofString "law") lawS L a ccd [])) Q (fun _ _ => False) s := by
  generalize hLit0 : pairsSt = lit0
  conv at hLit0 => lhs; whnf
  subst hLit0
  generalize hLit1 : lawS = lit1
  conv at hLit1 => lhs; whnf
  subst hLit1
  revert X; k_fill; intro X
  have hvn : vn.length = n := hi.length.trans hns
  generalize htl : tb ++ keep = tl at N
  k_steps
  refine Hold.of ?_
  subst htl
  rename Fr _ _ _ _ => F1
  rename News _ _ _ _ => N1
  rename IsRange _ _ _ _ _ _ _ _ => R1
  refine iter_rangeUnr (n := n) rfl R1 (rsmall n hn6) (rsize n hn6) F1 N1 ?_
  intro Ik lIk
  have hoffK : ∀ p ∈ keep, @Ne Nat p.1 Ik := fun p hp => Nat.ne_of_lt (lIk p (.tail _ (List.mem_append_right _ hp)))
  have lIkn : @LT.lt Nat _ ln Ik := lIk _ (.head _)
  clear lIk
  refine' range_inv (InvK2 (n : Int) g ln tM tg e1 e2 e3 [(ln, listOf vn.toArray en)] keep tb) ?step ?done _ 0 _ _ (Nat.zero_add n) ?init
  case init => exact ⟨_, tb, norm6 rfl rfl rfl rfl rfl rfl, hT, fun _ _ h => h, rfl⟩
  case done =>
    intro m1 news1 hh tk1 hI F2 N2
    obtain ⟨u1, tb1, rfl, hT1, hS1, rfl⟩ := hI
    exact hret _ _ _ _ hT1 hS1 F2 N2
  case step =>
    intro i m1 news1 ti hh tk1 hin hI F2 N2
    obtain ⟨u1, tb1, rfl, hT1, hS1, rfl⟩ := hI
    simp only [List.cons_append, List.nil_append] at N2
    generalize htl1 : tb1 ++ keep = tl1 at N2
    k_steps
    refine Hold.of ?_
    subst htl1
    rename Fr _ _ _ _ => F3
    rename News _ _ _ _ => N3
    rename IsRange _ _ _ _ _ _ _ _ => R3
    refine iter_rangeUnr (n := i) rfl R3 (by rw [Int.zero_add]; exact rsmall i (by omega)) (by rw [Int.zero_add]; exact rsize i (by omega)) F3 N3 ?_
    intro Ij lIj
    have hoffJ : ∀ p ∈ keep, @Ne Nat p.1 Ij := fun p hp => Nat.ne_of_lt (lIj p (.tail _ (.tail _ (List.mem_append_right _ hp))))
    have lIjk : @LT.lt Nat _ Ik Ij := lIj _ (.head _)
    have lIjn : @LT.lt Nat _ ln Ij := lIj _ (.tail _ (.head _))
    clear lIj
    refine' range_inv (InvJ2 (n : Int) g ln tM tg e1 e2 e3 (0 + (i : Int)) ti [(Ik, itR (0 + ((i + 1 : Nat) : Int)) ((n : Int) - ((i + 1 : Nat) : Int))), (ln, listOf vn.toArray en)] keep tb) ?step2 ?done2 _ 0 _ _ (Nat.zero_add i) ?init2
    case init2 => exact ⟨_, tb1, norm7 rfl rfl rfl rfl rfl rfl rfl, hT1, hS1, rfl⟩
    case done2 =>
      intro m2 news2 h2 tk2 hJ F4 N4
      obtain ⟨u2, tb2, rfl, hT2, hS2, rfl⟩ := hJ
      simp only [List.cons_append, List.nil_append] at N4
      have N4' := N4
      generalize htl2 : tb2 ++ keep = tl2 at N4
      k_steps
      refine Hold.of ?_
      subst htl2
      refine' UnrEnd.intro (by k_asm) N4' _ (fun p hp => hp) ?off ⟨_, tb2, norm6 rfl rfl rfl rfl rfl rfl, hT2, hS2, rfl⟩
      case off =>
        intro p hp
        rcases List.mem_cons.mp hp with rfl | hp
        · exact Nat.ne_of_lt lIkn
        · rcases List.mem_append.mp hp with hp | hp
          · exact off_st N4' hT2 (.head _) (fun p hp => .tail _ (.tail _ (List.mem_append_left _ hp))) p hp
          · exact hoffK p hp
    case step2 =>
      intro j m2 news2 tj h2 tk2 hji hJ F4 N4
      obtain ⟨u2, tb2, rfl, hT2, hS2, rfl⟩ := hJ
      simp only [List.cons_append, List.nil_append] at N4
      have N4' := N4
      generalize htl2 : tb2 ++ keep = tl2 at N4
      have ek : (0 + (i : Int)).toNat = i := by omega
      have ej : (0 + (j : Int)).toNat = j := by omega
      obtain ⟨a0, a1, b0, b1, hmod, heu⟩ := hok (0 + (i : Int)).toNat (0 + (j : Int)).toNat (by omega) (by omega)
      have hx0 : 0 ≤ ns.getD (0 + (i : Int)).toNat 0 / ns.getD (0 + (j : Int)).toNat 0 := Int.ediv_nonneg (by omega) (by omega)
      have hx1 : ns.getD (0 + (i : Int)).toNat 0 / ns.getD (0 + (j : Int)).toNat 0 ≤ ns.getD (0 + (i : Int)).toNat 0 := Int.ediv_le_self _ (by omega)
      have hx2 : ns.getD (0 + (i : Int)).toNat 0 % ns.getD (0 + (j : Int)).toNat 0 = g.fmod (ns.getD (0 + (j : Int)).toNat 0) := by rw [hmod, Int.fmod_eq_emod_of_nonneg _ (by omega)]
      have hx3 : ns.getD (0 + (i : Int)).toNat 0 / ns.getD (0 + (j : Int)).toNat 0 * ns.getD (0 + (j : Int)).toNat 0 + ns.getD (0 + (i : Int)).toNat 0 % ns.getD (0 + (j : Int)).toNat 0 = ns.getD (0 + (i : Int)).toNat 0 := by rw [Int.mul_comm]; exact Int.mul_ediv_add_emod _ _
      k_steps
      refine Hold.of ?_
      subst htl2
      k_dflt (refine' d_div _ _ _ _ _ _ _ _ _ _ _ _ _ _ _ _ _ _ _ _ _ _ _ _ _ _ tb2 ((Ij, itR (0 + ((j + 1 : Nat) : Int)) ((i : Int) - ((j + 1 : Nat) : Int))) :: (Ik, itR (0 + ((i + 1 : Nat) : Int)) ((n : Int) - ((i + 1 : Nat) : Int))) :: (ln, listOf vn.toArray en) :: keep) hT2 (by k_asm) (by k_asm) (by k_asm) N4' (by k_asm) rfl (by ktr_room) (by ktr_units) C34 C41 (fun p hp => .tail _ (.tail _ (.tail _ (List.mem_append_left _ hp)))) ?hrest ?hap (by omega) (by omega) a1 b0 b1 ?_)
      case hrest =>
        intro p hp
        rcases List.mem_cons.mp hp with rfl | hp
        · exact .head _
        · rcases List.mem_cons.mp hp with rfl | hp
          · exact .tail _ (.head _)
          · rcases List.mem_cons.mp hp with rfl | hp
            · exact .tail _ (.tail _ (.head _))
            · exact .tail _ (.tail _ (.tail _ (List.mem_append_right _ hp)))
      case hap =>
        intro p hp
        rcases List.mem_cons.mp hp with rfl | hp
        · intro e; cases e
        · rcases List.mem_cons.mp hp with rfl | hp
          · intro e; cases e
          · rcases List.mem_cons.mp hp with rfl | hp
            · intro e; cases e
            · exact hkc p hp
      intro q5 t5 t6 h5 tk5 c1 oc1 c2 oc2 hH hsep F5 N5'
      have N5 : News h₀ L h5 ((q5, tup2 (.int (ns.getD (0 + (i : Int)).toNat 0 / ns.getD (0 + (j : Int)).toNat 0) t5) (.int (ns.getD (0 + (i : Int)).toNat 0 % ns.getD (0 + (j : Int)).toNat 0) t6)) :: (Ij, itR (0 + ((j + 1 : Nat) : Int)) ((i : Int) - ((j + 1 : Nat) : Int))) :: (Ik, itR (0 + ((i + 1 : Nat) : Int)) ((n : Int) - ((i + 1 : Nat) : Int))) :: (ln, listOf vn.toArray en) :: (c2, oc2) :: (c1, oc1) :: (37, T37 c2) :: (30, T30 c1) :: keep) := by
        intro p hp
        refine N5' p ?_
        rcases List.mem_cons.mp hp with rfl | hp
        · exact .head _
        · refine .tail _ ?_
          rcases List.mem_cons.mp hp with rfl | hp
          · exact .head _
          · rcases List.mem_cons.mp hp with rfl | hp
            · exact .tail _ (.head _)
            · rcases List.mem_cons.mp hp with rfl | hp
              · exact .tail _ (.tail _ (.head _))
              · refine .tail _ (.tail _ (.tail _ ?_))
                rcases List.mem_append.mp (show p ∈ [(c2, oc2), (c1, oc1), (37, T37 c2), (30, T30 c1)] ++ keep from hp) with hp | hp
                · exact List.mem_append_right _ hp
                · exact List.mem_append_left _ hp
      clear N5' N4'
      have hS3 : Sep keep tb [(c2, oc2), (c1, oc1), (37, T37 c2), (30, T30 c1)] := by
        intro p hp h0 r hr
        have hc := hsep p (.tail _ (.tail _ (.tail _ hp))) (hS2 p hp h0)
        have hm := (List.Mem.tail _ (.tail _ (.tail _ (.tail _ (.tail _ (.tail _ (.tail _ (.tail _ hp))))))) : p ∈ (q5, tup2 (.int (ns.getD (0 + (i : Int)).toNat 0 / ns.getD (0 + (j : Int)).toNat 0) t5) (.int (ns.getD (0 + (i : Int)).toNat 0 % ns.getD (0 + (j : Int)).toNat 0) t6)) :: (Ij, itR (0 + ((j + 1 : Nat) : Int)) ((i : Int) - ((j + 1 : Nat) : Int))) :: (Ik, itR (0 + ((i + 1 : Nat) : Int)) ((n : Int) - ((i + 1 : Nat) : Int))) :: (ln, listOf vn.toArray en) :: (c2, oc2) :: (c1, oc1) :: (37, T37 c2) :: (30, T30 c1) :: keep)
        simp only [List.mem_cons, List.not_mem_nil, or_false] at hr
        rcases hr with rfl | rfl | rfl | rfl
        · exact hc.2
        · exact hc.1
        · exact ne_cls N5 (b := p.1) (o2 := p.2) (by k_mem) hm fun e => hkc p hp e.symm
        · exact ne_cls N5 (b := p.1) (o2 := p.2) (by k_mem) hm fun e => hkc p hp e.symm
      k_steps
      all_goals (try (exact absurd hx2 (by assumption)))
      all_goals (try (exact absurd hx3 (by assumption)))
      refine Hold.of ?_
      k_dflt (refine' e_shared _ _ _ _ _ _ _ _ _ _ _ _ _ _ _ _ _ _ _ _ _ _ _ _ _ _ _ _ _ _ hH (by k_asm) (by k_asm) (by k_asm) (by k_asm) (by k_asm) rfl (by ktr_room) (by ktr_units) C34 C41 (by k_mem) (by k_mem) (by k_mem) (by k_mem) (by omega) a1 (by omega) b1 heu ?_)
      intro t7 h7 tk7 F7 N7
      k_steps
      refine Hold.of ?_
      refine' UnrEnd.intro (by k_asm) (by k_asm) _ (fun p hp => .tail _ hp) ?off2 ⟨_, [(c2, oc2), (c1, oc1), (37, T37 c2), (30, T30 c1)], norm7 rfl rfl rfl rfl rfl rfl rfl, hH.st, hS3, rfl⟩
      case off2 =>
        intro p hp
        rcases List.mem_cons.mp hp with rfl | hp
        · exact Nat.ne_of_lt (by omega)
        · rcases List.mem_cons.mp hp with rfl | hp
          · exact Nat.ne_of_lt (by omega)
          · rcases List.mem_append.mp (show p ∈ [(c2, oc2), (c1, oc1), (37, T37 c2), (30, T30 c1)] ++ keep from hp) with hp | hp
            · exact off_tb N7 hH (.tail _ (.head _)) (by k_mem) (by k_mem) (by k_mem) (by k_mem) p hp
            · exact hoffJ p hp
end Mine

namespace Mine
theorem fr6 {h₀ h : Heap} {L : Addr} {m : Str → Option Value} {M g : Int} {ln : Addr} {tM tg : Tok} {e1 e2 e3 : Option Value} (F : Fr h₀ L h m) (h1 : m (Str.ofString "many") = some (.int M tM)) (h2 : m (Str.ofString "numbers") = some (.ref ln)) (h3 : m (Str.ofString "more") = some (.int g tg))
    (h4 : m (Str.ofString "row") = e1) (h5 : m (Str.ofString "product") = e2) (h6 : m (Str.ofString "other") = e3) : Fr h₀ L h (mP6 M g ln tM tg e1 e2 e3 m) := Eq.mp (congrArg (Fr h₀ L h) (norm6 h1 h2 h3 h4 h5 h6)) F
theorem frR {h₀ h : Heap} {L : Addr} {m : Str → Option Value} {M P : Int} {lr lo : Addr} {tM tP : Tok} (F : Fr h₀ L h m) (h1 : m (Str.ofString "many") = some (.int M tM)) (h4 : m (Str.ofString "row") = some (.ref lr)) (h5 : m (Str.ofString "product") = some (.int P tP)) (h6 : m (Str.ofString "other") = some (.ref lo)) :
    Fr h₀ L h (mR M P lr lo tM tP m) := Eq.mp (congrArg (Fr h₀ L h) (norm4 h1 h4 h5 h6)) F
local macro_rules | `(tactic| walk_at "exec For Name Call cons nil") => `(tactic| (refine Hold.out ?_))
set_option maxHeartbeats 8000000 in
theorem p_st3 (w : World) (mean : ExcName → Option Value) (mg mb : Str → Option Value)
  (dp un : Nat) (gd : Option (List Code)) (a : Addr) (ccd : Value) (outer : List Env) (A₀ : Around) (base h₀ : Heap) (L : Addr) (s : Shared)
  (Q : Flow → Shared → Prop) (n : Nat) (P : Int) (lr lo : Addr) (tM tP : Tok) (u : Str → Option Value) (vr vo : List Value) (nr no : List Int) (er eo : Nat)
  (B : Below A₀ base outer h₀) (F : Fr h₀ L s.heap (mR (n : Int) P lr lo tM tP u)) (X : (hd.heap_39 w.params).In h₀) (N : News h₀ L s.heap [(lr, listOf vr.toArray er), (lo, listOf vo.toArray eo), (37, tabObj #[]), (30, tabObj #[])])
  (T : Top topProg looseX mean mg mb h₀) (hdp : dp + 110 < recursionLimit) (hun : un + 1100 < cLine) (C34 : CodeHd h₀ 34 30) (C41 : CodeHd h₀ 41 37)
  (hir : IntsAre vr nr) (hnr : nr.length = n) (hio : IntsAre vo no) (hno : no.length = n) (h6 : Le6 n)
  (hok1 : ∀ k j, j < k → k < n → PairOk (nr.getD k 0) (nr.getD j 0) 1) (hok2 : ∀ k j, j < k → k < n → PairOk (no.getD k 0) (no.getD j 0) 2)
  (hret : ∀ u' tb' h' tk', TabSt tb' → Fr h₀ L h' (mR (n : Int) P lr lo tM tP u') → News h₀ L h' ((lr, listOf vr.toArray er) :: (lo, listOf vo.toArray eo) :: tb') → Q .next { s with heap := h', toks := tk' }) :
  wpAny (model PySem.Challenge.rw_id0006_01.row.prog w) (ktrTop dp un gd (Str.ofString "law") lawS L a ccd [] outer) (exec (lawSt 3) (envX (Str.ofString "law") lawS L a ccd [])) Q (fun _ _ => False) s := by
  generalize hLit0 : lawSt 3 = lit0
  conv at hLit0 => lhs; whnf
  subst hLit0
  generalize hLit1 : lawS = lit1
  conv at hLit1 => lhs; whnf
  subst hLit1
  revert X; k_fill; intro X
  k_steps
  refine Hold.of ?_
  rename Fr _ _ _ _ => F1
  rename News _ _ _ _ => N1
  rename_i D1 x1 y1 D2 x2 y2 LL x3 y3 i1 y4 x4 x5 o1 hc1 x6 F0 N0 x7 x8
  have e6 := fr6 (M := (n : Int)) (g := 1) (ln := lr) (tM := tM) (tg := s.toks) (e1 := some (.ref lr)) (e2 := some (.int P tP)) (e3 := some (.ref lo)) F1 rfl rfl rfl rfl rfl rfl
  (with_unfolding_all refine wpAny_mono (p_pairs2 _ _ _ _ _ _ _ _ _ _ _ _ _ _ _ _ n 1 lr tM _ (some (.ref lr)) (some (.int P tP)) (some (.ref lo)) _ vr nr er [(37, tabObj #[]), (30, tabObj #[])] (.inl rfl) [(i1, o1), (LL, listOf #[.ref D1, .ref D2] 0), (D2, tup2 (.ref lo) (.int 2 (s.toks + 1))), (D1, tup2 (.ref lr) (.int 1 s.toks)), (lo, listOf vo.toArray eo)] ?hkc B e6 X ?hN T hdp hun C34 C41 hir hnr h6 hok1 ?hret) (fun _ _ h => h) (fun _ _ h => h.elim))
  case hkc =>
    intro p hp
    simp only [List.mem_cons, List.not_mem_nil, or_false] at hp
    rcases hp with rfl | rfl | rfl | rfl | rfl
    · intro e; rw [hc1] at e; cases e
    all_goals (intro e; cases e)
  case hN =>
    intro p hp
    refine N1 p ?_
    simp only [List.cons_append, List.nil_append, List.mem_cons, List.not_mem_nil, or_false] at hp
    rcases hp with rfl | rfl | rfl | rfl | rfl | rfl | rfl | rfl <;> k_mem
  intro u2 tb2 h2 tk2 hT2 hS2 F2 N2
  have hs := hS2 (i1, o1) (.head _) (by
    intro r hr
    simp only [List.mem_cons, List.not_mem_nil, or_false] at hr
    rcases hr with rfl | rfl
    · exact Nat.ne_of_lt (by omega)
    · exact Nat.ne_of_lt (by omega))
  rcases hT2 with rfl | ⟨c1, oc1, c2, oc2, rfl, hH⟩
  all_goals simp only [List.cons_append, List.nil_append] at N2
  case inl =>
    clear hs hS2
    k_steps
    refine Hold.of ?_
    rename Fr _ _ _ _ => F3
    rename News _ _ _ _ => N3
    rename_i z1 z2 o2 hc2 z3 Fz Nz z4 z5
    have e7 := fr6 (M := (n : Int)) (g := 2) (ln := lo) (tM := tM) (tg := s.toks + 1) (e1 := some (.ref lr)) (e2 := some (.int P tP)) (e3 := some (.ref lo)) F3 rfl rfl rfl rfl rfl rfl
    (with_unfolding_all refine wpAny_mono (p_pairs2 _ _ _ _ _ _ _ _ _ _ _ _ _ _ _ _ n 2 lo tM _ (some (.ref lr)) (some (.int P tP)) (some (.ref lo)) _ vo no eo [(37, tabObj #[]), (30, tabObj #[])] (.inl rfl) [(i1, o2), (LL, listOf #[.ref D1, .ref D2] 0), (D2, tup2 (.ref lo) (.int 2 (s.toks + 1))), (D1, tup2 (.ref lr) (.int 1 s.toks)), (lr, listOf vr.toArray er)] ?hkc2 B e7 X ?hN2 T hdp hun C34 C41 hio hno h6 hok2 ?hret2) (fun _ _ h => h) (fun _ _ h => h.elim))
    case hkc2 =>
      intro p hp
      simp only [List.mem_cons, List.not_mem_nil, or_false] at hp
      rcases hp with rfl | rfl | rfl | rfl | rfl
      · intro e; rw [hc2] at e; cases e
      all_goals (intro e; cases e)
    case hN2 =>
      intro p hp
      refine N3 p ?_
      simp only [List.cons_append, List.nil_append, List.mem_cons, List.not_mem_nil, or_false] at hp
      rcases hp with rfl | rfl | rfl | rfl | rfl | rfl | rfl | rfl <;> k_mem
    intro u4 tb4 h4 tk4 hT4 hS4 F4 N4
    have hs4 := hS4 (i1, o2) (.head _) (by
      intro r hr
      simp only [List.mem_cons, List.not_mem_nil, or_false] at hr
      rcases hr with rfl | rfl
      all_goals (first | exact Nat.ne_of_lt (by omega) | assumption))
    clear hS4
    have hT5 := hT4
    rcases hT4 with rfl | ⟨c3, oc3, c4, oc4, rfl, hH4⟩
    · simp only [List.cons_append, List.nil_append] at N4
      clear hs4
      k_steps
      refine hret _ _ _ _ hT5 (frR (by assumption) rfl rfl rfl rfl) ?_
      intro p hp
      simp only [List.cons_append, List.nil_append, List.mem_cons, List.not_mem_nil, or_false] at hp
      rcases hp with rfl | rfl | rfl | rfl <;> exact (by assumption : News _ _ _ _) _ (by k_mem)
    · simp only [List.cons_append, List.nil_append] at N4
      have s3 : @Ne Nat c4 i1 := hs4 _ (.head _)
      have s4 : @Ne Nat c3 i1 := hs4 _ (.tail _ (.head _))
      clear hs4
      k_steps
      refine hret _ _ _ _ hT5 (frR (by assumption) rfl rfl rfl rfl) ?_
      intro p hp
      simp only [List.cons_append, List.nil_append, List.mem_cons, List.not_mem_nil, or_false] at hp
      rcases hp with rfl | rfl | rfl | rfl | rfl | rfl <;> exact (by assumption : News _ _ _ _) _ (by k_mem)
  case inr =>
    have s1 : @Ne Nat c2 i1 := hs _ (.head _)
    have s2 : @Ne Nat c1 i1 := hs _ (.tail _ (.head _))
    clear hs hS2
    k_steps
    refine Hold.of ?_
    rename Fr _ _ _ _ => F3
    rename News _ _ _ _ => N3
    rename_i z1 z2 o2 hc2 z3 Fz Nz z4 z5
    have e7 := fr6 (M := (n : Int)) (g := 2) (ln := lo) (tM := tM) (tg := s.toks + 1) (e1 := some (.ref lr)) (e2 := some (.int P tP)) (e3 := some (.ref lo)) F3 rfl rfl rfl rfl rfl rfl
    (with_unfolding_all refine wpAny_mono (p_pairs2 _ _ _ _ _ _ _ _ _ _ _ _ _ _ _ _ n 2 lo tM _ (some (.ref lr)) (some (.int P tP)) (some (.ref lo)) _ vo no eo [(c2, oc2), (c1, oc1), (37, T37 c2), (30, T30 c1)] hH.st [(i1, o2), (LL, listOf #[.ref D1, .ref D2] 0), (D2, tup2 (.ref lo) (.int 2 (s.toks + 1))), (D1, tup2 (.ref lr) (.int 1 s.toks)), (lr, listOf vr.toArray er)] ?hkc3 B e7 X ?hN3 T hdp hun C34 C41 hio hno h6 hok2 ?hret3) (fun _ _ h => h) (fun _ _ h => h.elim))
    case hkc3 =>
      intro p hp
      simp only [List.mem_cons, List.not_mem_nil, or_false] at hp
      rcases hp with rfl | rfl | rfl | rfl | rfl
      · intro e; rw [hc2] at e; cases e
      all_goals (intro e; cases e)
    case hN3 =>
      intro p hp
      refine N3 p ?_
      simp only [List.cons_append, List.nil_append, List.mem_cons, List.not_mem_nil, or_false] at hp
      rcases hp with rfl | rfl | rfl | rfl | rfl | rfl | rfl | rfl | rfl | rfl <;> k_mem
    intro u4 tb4 h4 tk4 hT4 hS4 F4 N4
    have hs4 := hS4 (i1, o2) (.head _) (by
      intro r hr
      simp only [List.mem_cons, List.not_mem_nil, or_false] at hr
      rcases hr with rfl | rfl | rfl | rfl
      all_goals (first | exact Nat.ne_of_lt (by omega) | assumption))
    clear hS4
    have hT5 := hT4
    rcases hT4 with rfl | ⟨c3, oc3, c4, oc4, rfl, hH4⟩
    · simp only [List.cons_append, List.nil_append] at N4
      clear hs4
      k_steps
      refine hret _ _ _ _ hT5 (frR (by assumption) rfl rfl rfl rfl) ?_
      intro p hp
      simp only [List.cons_append, List.nil_append, List.mem_cons, List.not_mem_nil, or_false] at hp
      rcases hp with rfl | rfl | rfl | rfl <;> exact (by assumption : News _ _ _ _) _ (by k_mem)
    · simp only [List.cons_append, List.nil_append] at N4
      have s3 : @Ne Nat c4 i1 := hs4 _ (.head _)
      have s4 : @Ne Nat c3 i1 := hs4 _ (.tail _ (.head _))
      clear hs4
      k_steps
      refine hret _ _ _ _ hT5 (frR (by assumption) rfl rfl rfl rfl) ?_
      intro p hp
      simp only [List.cons_append, List.nil_append, List.mem_cons, List.not_mem_nil, or_false] at hp
      rcases hp with rfl | rfl | rfl | rfl | rfl | rfl <;> exact (by assumption : News _ _ _ _) _ (by k_mem)
end Mine

namespace Mine
def chkPair (f g : Int) (n : Nat) : Bool := (List.range n).all fun k => (List.range k).all fun j =>
  decide (0 < (rowR f g n).getD k 0) && decide ((rowR f g n).getD k 0 < 2 ^ 64) && decide (0 < (rowR f g n).getD j 0) && decide ((rowR f g n).getD j 0 < 2 ^ 64) && decide ((rowR f g n).getD k 0 % (rowR f g n).getD j 0 = g % (rowR f g n).getD j 0) && euc 200 ((rowR f g n).getD k 0) ((rowR f g n).getD j 0)
theorem chkPair.ok {f g : Int} {n : Nat} (h : chkPair f g n = true) : ∀ k j, j < k → k < n → PairOk ((rowR f g n).getD k 0) ((rowR f g n).getD j 0) g := by
  intro k j hj hk
  have h1 := List.all_eq_true.mp (List.all_eq_true.mp h k (List.mem_range.mpr hk)) j (List.mem_range.mpr hj)
  simp only [Bool.and_eq_true, decide_eq_true_eq] at h1
  exact ⟨h1.1.1.1.1.1, h1.1.1.1.1.2, h1.1.1.1.2, h1.1.1.2, h1.1.2, h1.2⟩
theorem pairs1 : ∀ n, n < 7 → chkPair 2 1 n = true := by decide +kernel
theorem pairs2 : ∀ n, n < 7 → chkPair 3 2 n = true := by decide +kernel
theorem told1 : ∀ n, n < 7 → ∀ k, k < n → 0 < (rowR 2 1 n).getD k 0 ∧ (rowR 2 1 n).getD k 0 < 2 ^ 64 ∧ pR 2 1 (n - 1) % (rowR 2 1 n).getD k 0 = 0 := by decide +kernel
theorem sq1 : ∀ n, n < 7 → ∀ k, k < n → 0 < k → 0 < (rowR 2 1 n).getD k 0 ∧ (rowR 2 1 n).getD k 0 < 2 ^ 64 ∧ 1 < (rowR 2 1 n).getD (k-1) 0 ∧ (rowR 2 1 n).getD (k-1) 0 < 2 ^ 64 ∧ (rowR 2 1 n).getD k 0 = (rowR 2 1 n).getD (k-1) 0 * (rowR 2 1 n).getD (k-1) 0 - (rowR 2 1 n).getD (k-1) 0 + 1 ∧ (rowR 2 1 n).getD k 0 / (rowR 2 1 n).getD (k-1) 0 = (rowR 2 1 n).getD (k-1) 0 - 1 ∧ (rowR 2 1 n).getD k 0 % (rowR 2 1 n).getD (k-1) 0 = 1 := by decide +kernel
theorem bits1 : ∀ n, n < 7 → ∀ k, k < n → (rowR 3 2 n).getD k 0 = 2 ^ 2 ^ k + 1 := by decide +kernel
theorem low1 : ∀ n, n < 7 → ∀ i, i < n → 0 < lowN (rowR 2 1 n) i ∧ lowN (rowR 2 1 n) i < 2 ^ 63 ∧ lowN (rowR 2 1 n) i + 1 = (rowR 2 1 n).getD i 0 := by decide +kernel
theorem prod1 : ∀ n, n < 7 → 0 < pR 2 1 (n - 1) ∧ pR 2 1 (n - 1) < 2 ^ 64 := by decide +kernel
theorem sum1 : ∀ n, n < 7 → 0 < n → sumTo (fun j => pR 2 1 (n - 1) / (rowR 2 1 n).getD j 0) n = pR 2 1 (n - 1) - 1 ∧ sumTo (fun _ => 1) n = (n : Int) ∧ sumTo (fun j => (rowR 2 1 n).getD j 0) n = (rowR 2 1 n).sum ∧
  sumTo (fun j => (rowR 2 1 n).getD j 0 * (rowR 2 1 n).getD j 0) n = ((rowR 2 1 n).map fun x => x * x).sum := by decide +kernel
theorem bnd1 : ∀ n, n < 7 → ∀ x ∈ rowR 2 1 n, 0 ≤ x ∧ x < 2 ^ 64 := by decide +kernel
theorem prow1 : ∀ i ≤ 5, 0 ≤ pR 2 1 i ∧ pR 2 1 i < 2 ^ 64 := by decide +kernel
theorem prow2 : ∀ i ≤ 5, 0 ≤ pR 3 2 i ∧ pR 3 2 i < 2 ^ 64 := by decide +kernel

theorem frL {h₀ h : Heap} {L : Addr} {m : Str → Option Value} {M P : Int} {lr lo : Addr} {tM tP : Tok} {v5 : Option Value} (F : Fr h₀ L h m) (h1 : m (Str.ofString "many") = some (.int M tM)) (h4 : m (Str.ofString "row") = some (.ref lr)) (h5 : m (Str.ofString "product") = some (.int P tP)) (h6 : m (Str.ofString "other") = some (.ref lo)) (h7 : m (Str.ofString "told") = v5) :
    Fr h₀ L h (mL M P lr lo tM tP v5 m) := Eq.mp (congrArg (Fr h₀ L h) (norm5 h1 h4 h5 h6 h7)) F
theorem frT {h₀ h : Heap} {L : Addr} {m : Str → Option Value} {tp lw : Int} {lr : Addr} {t1 t2 : Tok} (F : Fr h₀ L h m) (h1 : m (Str.ofString "top") = some (.int tp t1)) (h2 : m (Str.ofString "low") = some (.int lw t2)) (h3 : m (Str.ofString "row") = some (.ref lr)) :
    Fr h₀ L h (mT tp lw t1 t2 lr m) := Eq.mp (congrArg (Fr h₀ L h) (norm3 h1 h2 h3)) F
local macro_rules | `(tactic| walk_at "eval Dict nil nil") => `(tactic| (k_here; k_dflt (refine' newDict_L ?k1 ?k2 (TopRead.nolimit (by k_asm)) ?_; (case k1 => k_asm); (case k2 => k_asm); k_whole); intro d' h' o' F' N' l1 l2 lo' hs' fs' hi' fi'; (try k_lt l1); (try k_sweep)))
set_option maxHeartbeats 8000000 in
theorem p_st4 (w : World) (mean : ExcName → Option Value) (mg mb : Str → Option Value)
  (dp un : Nat) (gd : Option (List Code)) (a : Addr) (ccd : Value) (outer : List Env) (A₀ : Around) (base h₀ : Heap) (L : Addr) (s : Shared)
  (Q : Flow → Shared → Prop) (n : Nat) (P : Int) (lr lo : Addr) (tM tP : Tok) (u : Str → Option Value) (vr vo : List Value) (er eo : Nat) (tb : List (Addr × Obj))
  (B : Below A₀ base outer h₀) (F : Fr h₀ L s.heap (mR (n : Int) P lr lo tM tP u)) (X : (hd.heap_39 w.params).In h₀) (N : News h₀ L s.heap ((lr, listOf vr.toArray er) :: (lo, listOf vo.toArray eo) :: tb))
  (T : Top topProg looseX mean mg mb h₀) (hdp : dp + 110 < recursionLimit) (hun : un + 1100 < cLine) (C34 : CodeHd h₀ 34 30) (C41 : CodeHd h₀ 41 37)
  (hret : ∀ q0 D0 o0 t1 t2 t3 t4 u' h' tk', EmptyD w D0 o0 → Fr h₀ L h' (mL (n : Int) P lr lo tM tP (some (.ref q0)) u') →
    News h₀ L h' ((q0, tup5 (.int 0 t1) (.int 0 t2) (.int 0 t3) (.int 0 t4) (.ref D0)) :: (D0, o0) :: (lr, listOf vr.toArray er) :: (lo, listOf vo.toArray eo) :: tb) → Q .next { s with heap := h', toks := tk' }) :
  wpAny (model PySem.Challenge.rw_id0006_01.row.prog w) (ktrTop dp un gd (Str.ofString "law") lawS L a ccd [] outer) (exec (lawSt 4) (envX (Str.ofString "law") lawS L a ccd [])) Q (fun _ _ => False) s := by
  generalize hLit0 : lawSt 4 = lit0
  conv at hLit0 => lhs; whnf
  subst hLit0
  generalize hLit1 : lawS = lit1
  conv at hLit1 => lhs; whnf
  subst hLit1
  revert X; k_fill; intro X
  k_steps
  exact hret _ _ _ _ _ _ _ _ _ _ ⟨by assumption, by assumption, by assumption⟩ (frL (by assumption) rfl rfl rfl rfl rfl) (by assumption)
set_option maxHeartbeats 8000000 in
theorem p_st9 (w : World) (mean : ExcName → Option Value) (mg mb : Str → Option Value)
  (dp un : Nat) (gd : Option (List Code)) (a : Addr) (ccd : Value) (outer : List Env) (A₀ : Around) (base h₀ : Heap) (L : Addr) (s : Shared)
  (Q : Flow → Shared → Prop) (n : Nat) (P : Int) (lr lo : Addr) (tM tP : Tok) (u : Str → Option Value) (vr vo : List Value) (er eo : Nat) (c1 : Addr) (oc1 : Obj) (c2 : Addr) (oc2 : Obj)
  (B : Below A₀ base outer h₀) (F : Fr h₀ L s.heap (mR (n : Int) P lr lo tM tP u)) (X : (hd.heap_39 w.params).In h₀) (N : News h₀ L s.heap [(lr, listOf vr.toArray er), (lo, listOf vo.toArray eo), (c2, oc2), (c1, oc1), (37, T37 c2), (30, T30 c1)])
  (T : Top topProg looseX mean mg mb h₀) (hdp : dp + 110 < recursionLimit) (hun : un + 1100 < cLine) (C34 : CodeHd h₀ 34 30) (C41 : CodeHd h₀ 41 37)
  (hret : ∀ t1 t2 u' h' tk', Fr h₀ L h' (mT 1 1 t1 t2 lr u') → News h₀ L h' [(lr, listOf vr.toArray er), (lo, listOf vo.toArray eo), (c2, oc2), (c1, oc1), (37, T37 c2), (30, T30 c1)] → Q .next { s with heap := h', toks := tk' }) :
  wpAny (model PySem.Challenge.rw_id0006_01.row.prog w) (ktrTop dp un gd (Str.ofString "law") lawS L a ccd [] outer) (exec (lawSt 9) (envX (Str.ofString "law") lawS L a ccd [])) Q (fun _ _ => False) s := by
  generalize hLit0 : lawSt 9 = lit0
  conv at hLit0 => lhs; whnf
  subst hLit0
  generalize hLit1 : lawS = lit1
  conv at hLit1 => lhs; whnf
  subst hLit1
  revert X; k_fill; intro X
  k_steps
  exact hret _ _ _ _ _ (frT (by assumption) rfl rfl rfl) (fun p hp => (by assumption : News _ _ _ _) p (.tail _ hp))
set_option maxHeartbeats 8000000 in
theorem p_st12 (w : World) (mean : ExcName → Option Value) (mg mb : Str → Option Value)
  (dp un : Nat) (gd : Option (List Code)) (a : Addr) (ccd : Value) (outer : List Env) (A₀ : Around) (base h₀ : Heap) (L : Addr) (s : Shared)
  (Q : Flow → Shared → Prop) (t : Tok) (u : Str → Option Value) (news : List (Addr × Obj))
  (B : Below A₀ base outer h₀) (F : Fr h₀ L s.heap (fun y => if y = Str.ofString "best" then some (.int 1470 t) else u y)) (X : (hd.heap_39 w.params).In h₀) (N : News h₀ L s.heap news)
  (T : Top topProg looseX mean mg mb h₀) (hdp : dp + 110 < recursionLimit) (hun : un + 1100 < cLine) (C34 : CodeHd h₀ 34 30) (C41 : CodeHd h₀ 41 37)
  (hret : ∀ (h' : Heap) (u' : Str → Option Value) (tk' : Nat), Fr h₀ L h' u' → News h₀ L h' news → Q (.ret (.bool true)) { s with heap := h', toks := tk' }) :
  wpAny (model PySem.Challenge.rw_id0006_01.row.prog w) (ktrTop dp un gd (Str.ofString "law") lawS L a ccd [] outer) (exec (lawSt 12) (envX (Str.ofString "law") lawS L a ccd [])) Q (fun _ _ => False) s := by
  generalize hLit0 : lawSt 12 = lit0
  conv at hLit0 => lhs; whnf
  subst hLit0
  generalize hLit1 : lawS = lit1
  conv at hLit1 => lhs; whnf
  subst hLit1
  revert X; k_fill; intro X
  k_steps
  exact hret _ _ _ (by assumption) (by assumption)
end Mine

namespace Mine
theorem p_tail (w : World) (mean : ExcName → Option Value) (mg mb : Str → Option Value)
  (dp un : Nat) (gd : Option (List Code)) (a : Addr) (ccd : Value) (outer : List Env) (A₀ : Around) (base h₀ : Heap) (L : Addr) (s : Shared)
  (Q : Flow → Shared → Prop) (n : Nat) (P : Int) (lr lo : Addr) (tM tP : Tok) (u : Str → Option Value) (vr vo : List Value) (er eo : Nat)
  (B : Below A₀ base outer h₀) (F : Fr h₀ L s.heap (mR (n : Int) P lr lo tM tP u)) (X : (hd.heap_39 w.params).In h₀) (N : News h₀ L s.heap [(lr, listOf vr.toArray er), (lo, listOf vo.toArray eo), (37, tabObj #[]), (30, tabObj #[])])
  (T : Top topProg looseX mean mg mb h₀) (hdp : dp + 110 < recursionLimit) (hun : un + 1100 < cLine) (C34 : CodeHd h₀ 34 30) (C41 : CodeHd h₀ 41 37)
  (hir : IntsAre vr (rowR 2 1 n)) (hio : IntsAre vo (rowR 3 2 n)) (hn2 : 2 ≤ n) (hn6 : n ≤ 6) (hP : P = pR 2 1 (n - 1))
  (hret : ∀ u' h' tk' c1 oc1 c2 oc2, Hit c1 oc1 c2 oc2 → Fr h₀ L h' u' → News h₀ L h' [(lr, listOf vr.toArray er), (lo, listOf vo.toArray eo), (c2, oc2), (c1, oc1), (37, T37 c2), (30, T30 c1)] → Q (.ret (.bool true)) { s with heap := h', toks := tk' }) :
  wpAny (model PySem.Challenge.rw_id0006_01.row.prog w) (ktrTop dp un gd (Str.ofString "law") lawS L a ccd [] outer) (execs [lawSt 3, lawSt 4, lawSt 5, lawSt 6, lawSt 7, lawSt 8, lawSt 9, lawSt 10, lawSt 11, lawSt 12] (envX (Str.ofString "law") lawS L a ccd [])) Q (fun _ _ => False) s := by
  have hn7 : n < 7 := by omega
  have hn0 : 0 < n := by omega
  have lr1 := rowR_len 2 1 n
  have lr2 := rowR_len 3 2 n
  obtain ⟨hp0, hp1⟩ := prod1 n hn7
  obtain ⟨hs1, hs2, hs3, hs4⟩ := sum1 n hn7 hn0
  subst hP
  refine wpAny_execs_cons ?_
  refine p_st3 _ _ _ _ _ _ _ _ _ _ _ _ _ _ _ _ n _ lr lo tM tP _ vr vo _ _ er eo B F X N T hdp hun C34 C41 hir lr1 hio lr2 hn6 (chkPair.ok (pairs1 n hn7)) (chkPair.ok (pairs2 n hn7)) ?_
  intro u1 tb1 h1 tk1 hT1 F1 N1
  refine wpAny_execs_cons ?_
  refine p_st4 _ _ _ _ _ _ _ _ _ _ _ _ _ _ _ _ n _ lr lo tM tP _ vr vo er eo tb1 B F1 X N1 T hdp hun C34 C41 ?_
  intro q0 D0 o0 t1 t2 t3 t4 u2 h2 tk2 hE F2 N2
  refine wpAny_execs_cons ?_
  refine p_told _ _ _ _ _ _ _ _ _ _ _ _ _ _ _ _ n _ lr lo q0 D0 o0 tM tP t1 t2 t3 t4 _ vr vo _ er eo tb1 hT1 B F2 X N2 T hdp hun C34 C41 hir lr1 hn6 hn0 hE hp0 hp1 (fun k hk => told1 n hn7 k hk) ?_
  intro u3 q3 D3 o3 tb3 v1 v2 v3 v4 h3 tk3 hT3 F3 N3
  obtain ⟨c1, oc1, c2, oc2, rfl, hH⟩ := hT3
  refine wpAny_execs_cons ?_
  refine p_check _ _ _ _ _ _ _ _ _ _ _ _ _ _ _ _ n _ _ _ _ _ lr lo q3 D3 tM tP v1 v2 v3 v4 _ vr vo _ er eo c1 oc1 c2 oc2 B F3 X (fun p hp => N3 p ?_) T hdp hun C34 C41 hir lr1 hn6 hn0 (bnd1 n hn7) hs1 hs2 hs3 hs4 ?_
  · rcases List.mem_cons.mp hp with rfl | hp
    · exact .head _
    · exact .tail _ (.tail _ hp)
  intro u4 h4 tk4 F4 N4
  refine wpAny_execs_cons ?_
  refine p_sq _ _ _ _ _ _ _ _ _ _ _ _ _ _ _ _ n _ lr lo tM tP _ vr vo _ er eo c1 oc1 c2 oc2 hH B F4 X N4 T hdp hun C34 C41 hir lr1 hn6 hn0 (fun k h0 hk => ?_) ?_
  · obtain ⟨a1, a2, a3, a4, a5, a6, a7⟩ := sq1 n hn7 k hk h0
    exact ⟨a1, a2, a3, a4, a5, a6, a7⟩
  intro u5 h5 tk5 F5 N5
  refine wpAny_execs_cons ?_
  refine p_bits _ _ _ _ _ _ _ _ _ _ _ _ _ _ _ _ n _ lr lo tM tP _ vr vo _ er eo c1 oc1 c2 oc2 hH B F5 X N5 T hdp hun C34 C41 hio lr2 hn6 (bits1 n hn7) ?_
  intro u6 h6 tk6 F6 N6
  refine wpAny_execs_cons ?_
  refine p_st9 _ _ _ _ _ _ _ _ _ _ _ _ _ _ _ _ n _ lr lo tM tP _ vr vo er eo c1 oc1 c2 oc2 B F6 X N6 T hdp hun C34 C41 ?_
  intro w1 w2 u7 h7 tk7 F7 N7
  refine wpAny_execs_cons ?_
  refine p_low _ _ _ _ _ _ _ _ _ _ _ _ _ _ _ _ n lr lo w1 w2 _ vr vo _ er eo c1 oc1 c2 oc2 hH B F7 X N7 T hdp hun C34 C41 hir lr1 (low1 n hn7) ?_
  intro u8 h8 tk8 F8 N8
  refine wpAny_execs_cons ?_
  refine p_best _ _ _ _ _ _ _ _ _ _ _ _ _ _ _ _ _ _ B F8 X N8 T hdp hun C34 C41 ?_
  intro t9 u9 h9 tk9 F9 N9
  refine wpAny_execs_cons ?_
  refine p_st12 _ _ _ _ _ _ _ _ _ _ _ _ _ _ _ _ t9 _ _ B F9 X N9 T hdp hun C34 C41 ?_
  intro h10 u10 tk10 F10 N10
  exact hret _ _ _ _ _ _ _ hH F10 N10
end Mine

namespace Mine
local macro_rules | `(tactic| walk_at "call ref") => `(tactic| (refine Hold.out ?_))
local macro_rules | `(tactic| walk_at "execs cons") => `(tactic| (refine Hold.out ?_))
set_option maxHeartbeats 8000000 in
theorem fin : PySem.Challenge.rw_id0006_01.Holds := hd (by
  w_strict (
    k_go0
    (all_goals try k_fold)
    k_steps
    refine Hold.of ?_
    refine wpAny_execs_cons ?_
    k_steps
    refine Hold.of ?_
    rename Fr _ _ _ _ => F1
    rename List Int => ws
    obtain ⟨n, hn, hn2, hn6⟩ : ∃ n : Nat, 2 + ws.sum.fmod 5 = (n : Int) ∧ 2 ≤ n ∧ n ≤ 6 := by
      have h1 := Int.fmod_nonneg_of_pos ws.sum (b := 5) (by decide)
      have h2 := Int.fmod_lt_of_pos ws.sum (b := 5) (by decide)
      exact ⟨(2 + ws.sum.fmod 5).toNat, by omega, by omega, by omega⟩
    rw [hn] at F1
    refine wpAny_execs_cons ?_
    k_steps
    refine Hold.of ?_
    k_dflt (refine' c_row _ _ _ _ _ _ _ _ _ _ _ _ _ _ _ _ _ _ _ _ _ _ 2 1 (n : Int) _ _ _ (by k_asm) (by k_asm) (by k_asm) (by k_asm) (by k_asm) rfl (by ktr_room) (by ktr_units) (by omega) (by omega) prow1 (by decide) (by decide) ?_)
    intro qa lr vr er ta ha tka hir Fa Na la lb lc
    rw [Int.toNat_natCast] at hir Na
    k_steps
    refine Hold.of ?_
    refine wpAny_execs_cons ?_
    k_steps
    refine Hold.of ?_
    k_dflt (refine' c_row _ _ _ _ _ _ _ _ _ _ _ _ _ _ _ _ _ _ _ _ _ _ 3 2 (n : Int) _ _ _ (by k_asm) (by k_asm) (by k_asm) (by k_asm) (by k_asm) rfl (by ktr_room) (by ktr_units) (by omega) (by omega) prow2 (by decide) (by decide) ?_)
    intro qb lo vo eo tc hb tkb hio Fb Nb ld le lf
    rw [Int.toNat_natCast] at hio Nb
    k_steps
    refine Hold.of ?_
    rename Fr _ _ _ _ => Fc
    rename News _ _ _ _ => Nc
    have Fd := frR (M := (n : Int)) (P := pR 2 1 (n - 1)) (lr := lr) (lo := lo) Fc rfl rfl rfl rfl
    (with_unfolding_all refine wpAny_mono (p_tail _ _ _ _ _ _ _ _ _ _ _ _ _ _ _ _ n (pR 2 1 (n - 1)) lr lo _ _ _ vr vo er eo (by assumption) Fd (by assumption) ?nn (by assumption) ?dd ?uu (by assumption) (by assumption) hir hio hn2 hn6 rfl ?hret) (fun _ _ h => h) (fun _ _ h => h.elim))
    case nn =>
      intro p hp
      refine Nc p ?_
      simp only [List.mem_cons, List.not_mem_nil, or_false] at hp
      rcases hp with rfl | rfl | rfl | rfl <;> k_mem
    case dd => ktr_room
    case uu => ktr_units
    case hret =>
      intro u9 h9 tk9 c1 oc1 c2 oc2 hH F9 N9
      clear Fd
      k_steps))
end Mine

set_option maxRecDepth 100000 in
set_option maxHeartbeats 8000000 in
theorem PySem.Challenge.cw_id0006_01_holds : PySem.Challenge.rw_id0006_01.Holds := by
  exact Mine.fin
