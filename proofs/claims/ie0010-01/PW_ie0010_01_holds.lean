import PyProof.Rows.All
import Wide.All
import OpenK.AllK
import Wide.FinOn
import PySem.Challenge.RW_ie0010_01
open PySem PySem.W PyProof.Rows PySem.Calls PySem.Spec
set_option Elab.async false
set_option maxRecDepth 100000
set_option linter.unusedVariables false
set_option maxHeartbeats 1000000
set_option compiler.extract_closed false
namespace Mine
set_option maxRecDepth 100000 in
set_option maxHeartbeats 8000000 in
open_top hd for PySem.Challenge.rw_ie0010_01
end Mine
namespace Mine

/-! ## entering a def: what the ledger does not name is kept to the call's end -/

section
variable {prog : Program} {w : World} {A₀ A : Around} {s : Shared} {base h₀ : Heap} {outer : List Env} {L : Addr} {m : Str → Option Value} {env : Env} {news : List (Addr × Obj)}
  {R : Result → Shared → Prop} {name qual : Str} {params : Arguments} {body : List Stmt} {scope : Scope} {cl : List (Str × Addr)} {dV kV doc pm cdv ct : Value} {an : Option Addr} {fo : Obj} {f : Addr} {args : Args} {binds : List (Str × Value)}

/-- what the call leaves: the answer, told only where the objects beside the ledger stand -/
noncomputable def KeepsThen (h : Heap) (news : List (Addr × Obj)) (R : Result → Shared → Prop) (r : Result) (s' : Shared) : Prop :=
  (∀ b o, h.get? b = some o → b ∉ news.map (·.1) → s'.heap.get? b = some o) → R r s'

theorem enter_plain (B : Below A₀ base outer h₀) (F : Fr h₀ L s.heap m) (N : News h₀ L s.heap news) (hlim : h₀.NoLimit) (hA : A.frames = some (env :: outer)) (hf : env.frame = some L) (hke : env.scope.kind = .function)
    (ho : s.heap.get? f = some fo) (hd : fo.data = .func (fnX name qual params body scope cl dV kV doc pm an cdv ct)) (hcd : s.heap.CodeRec cdv qual) (hroom : A.depth < recursionLimit)
    (hbind : BindsTo s (fnX name qual params body scope cl dV kV doc pm an cdv ct) args binds) (hloc : ∀ y ∈ binds, scope.names.lookup y.1 = some .local)
    (h : ∀ g L' h₁, Fr h₀ L g m → Fr g L' h₁ (fun y => binds.reverse.lookup y) → News g L' h₁ news → Below A base (env :: outer) g → h₀.StaysIn g → (∀ p ∈ news, p.1 < L') → s.heap.objs.size ≤ L' →
      wpAny (model prog w) (A.deeper (envX qual scope L' f cdv cl)) (execs body (envX qual scope L' f cdv cl))
        (fun fl s' => LeaveK h₀ L m g (KeepsThen s.heap news R) (match fl with | .ret v => v | _ => .none) s')
        (fun e s' => wpAny (model prog w) (A.deeper (envX qual scope L' f cdv cl)) (leaving (envX qual scope L' f cdv cl) e) (fun _ s'' => R (.error e) s'') (fun e' s'' => R (.error e') s'') s')
        { s with heap := h₁, toks := s.toks + binds.length })
    (hcell : ∀ x ∈ scope.names, x.2 ≠ .cell) (hco : scope.isCoroutine = false := by rfl) (hgen : scope.isGenerator = false := by rfl) (hk : scope.kind = .function := by rfl) : codeAny (model prog w) A (.call (.ref f) args) R s := by
  obtain ⟨FG, BG, st, lv⟩ := groundX (R := KeepsThen s.heap news R) B F N hA hf hke
  refine codeAny_call_def (fd := fnX name qual params body scope cl dV kV doc pm an cdv ct) (body := body) (binds := binds) hroom ho hd (hlim.keeps F.keep) hcd rfl hbind hcell hloc (fun h₁ hns hk₁ => ?_) hco hgen hk
  refine wpAny_mono (h _ s.heap.objs.size h₁ FG ⟨hns, fun b o e => hk₁ b o (of_hideAll _ e), Nat.le_of_eq (hideAll_size _ _)⟩
    (fun p hp => ⟨hk₁ _ _ (N p hp).1, Nat.ne_of_lt (Heap.lt_size (N p hp).1), hideAll_none _ (List.mem_map_of_mem hp)⟩) BG st (fun p hp => Heap.lt_size (N p hp).1) (Nat.le_refl _)) (fun fl s' hl => ?_) fun _ _ y => y
  obtain ⟨_, _, _, F', _, _⟩ := id hl
  exact lv _ _ hl fun b o e hb => F'.keep b o (hideAll_get _ e hb)

theorem enter_cells (B : Below A₀ base outer h₀) (F : Fr h₀ L s.heap m) (N : News h₀ L s.heap news) (hlim : h₀.NoLimit) (hA : A.frames = some (env :: outer)) (hf : env.frame = some L) (hke : env.scope.kind = .function)
    (ho : s.heap.get? f = some fo) (hd : fo.data = .func (fnX name qual params body scope [] dV kV doc pm an cdv ct)) (hcd : s.heap.CodeRec cdv qual) (hroom : A.depth < recursionLimit)
    (hbind : BindsTo s (fnX name qual params body scope [] dV kV doc pm an cdv ct) args binds)
    (hkind : ∀ n, ∀ x ∈ binds, scope.names.lookup x.1 = some .local ∨ (scope.names.lookup x.1 = some .cell ∧ ((cellsFrom n scope.names []).lookup x.1).isSome = true))
    (hnd : ((cellsFrom 0 scope.names []).map (·.1)).Nodup)
    (h : ∀ g L' h₁ tk cells, Fr h₀ L g m → Fr g L' h₁ (bindL (envOfC qual scope L' f cdv).kindOf binds fun _ => none) → News g L' h₁ (cells ++ news) →
      CellsAre (bindC (envOfC qual scope L' f cdv).kindOf binds fun _ => none) (cellsFrom (L' + 1) scope.names []) cells → Below A base (env :: outer) g → h₀.StaysIn g → (∀ p ∈ news, p.1 < L') → s.heap.objs.size ≤ L' →
      wpAny (model prog w) (A.deeper (envOfC qual scope L' f cdv)) (execs body (envOfC qual scope L' f cdv))
        (fun fl s' => LeaveK h₀ L m g (KeepsThen s.heap news R) (match fl with | .ret v => v | _ => .none) s')
        (fun e s' => wpAny (model prog w) (A.deeper (envOfC qual scope L' f cdv)) (leaving (envOfC qual scope L' f cdv) e) (fun _ s'' => R (.error e) s'') (fun e' s'' => R (.error e') s'') s')
        { s with heap := h₁, toks := tk })
    (hco : scope.isCoroutine = false := by rfl) (hgen : scope.isGenerator = false := by rfl) (hk : scope.kind = .function := by rfl) : codeAny (model prog w) A (.call (.ref f) args) R s := by
  obtain ⟨FG, BG, st, lv⟩ := groundX (R := KeepsThen s.heap news R) B F N hA hf hke
  refine codeAny_call_function hroom ho hd hco hgen rfl hcd (hbind _ _ _ _ ?_)
  refine wpAny_newFunctionEnv_cells hk (hkind _) fun env' he s' x => ?_
  subst he
  refine ⟨(hlim.keeps F.keep).keeps x.toInCall.keep, codeAny_func ?_⟩
  obtain ⟨h₁, tk, rfl, _⟩ := x.done
  have hk₁ := x.toInCall.keep
  obtain ⟨cells, NC, Y⟩ := Cl.news (h₀ := s.heap) (Nat.le_refl _) fun n c hm => ⟨x.cell n c (lookup_of_mem_nodup (cellsFrom_names scope.names 0 (s.heap.objs.size + 1) [] [] rfl ▸ hnd) hm), x.above n c hm⟩
  refine wpAny_mono (h _ s.heap.objs.size h₁ tk cells FG ⟨x.toInCall.ns, fun b o e => hk₁ b o (of_hideAll _ e), Nat.le_of_eq (hideAll_size _ _)⟩ (fun p hp => ?_) Y BG st (fun p hp => Heap.lt_size (N p hp).1) (Nat.le_refl _)) (fun fl s' hl => ?_) fun _ _ y => y
  · rcases List.mem_append.mp hp with hp | hp
    · refine ⟨(NC p hp).1, (NC p hp).2.1, ?_⟩
      cases q : (hideAll s.heap (news.map (·.1))).get? p.1 with
      | none => rfl
      | some o => have := of_hideAll _ q; rw [(NC p hp).2.2] at this; cases this
    · exact ⟨hk₁ _ _ (N p hp).1, Nat.ne_of_lt (Heap.lt_size (N p hp).1), hideAll_none _ (List.mem_map_of_mem hp)⟩
  · obtain ⟨_, _, _, F', _, _⟩ := id hl
    exact lv _ _ hl fun b o e hb => F'.keep b o (hideAll_get _ e hb)
end

/-- the objects beside `wr` stand as they stood -/
theorem keep_of {h h' : Heap} {h₀ h₀' : Heap} {L L' : Addr} {news news' : List (Addr × Obj)} {wr : List Addr} (N : News h₀ L h news)
    (st : ∀ b o, h.get? b = some o → b ∉ news.map (·.1) → h'.get? b = some o) (N' : News h₀' L' h' news') (hs : ∀ p ∈ news, p.1 ∈ wr ∨ p ∈ news') :
    ∀ b o, h.get? b = some o → b ∉ wr → h'.get? b = some o := fun b o e hb => by
  by_cases hm : b ∈ news.map (·.1)
  · obtain ⟨p, hp, rfl⟩ := List.mem_map.mp hm
    rcases hs p hp with q | q
    · exact absurd q hb
    · rw [(N p hp).1] at e
      cases e
      exact (N' p q).1
  · exact st b o e hm

section
variable {prog : Program} {w : World} {A A₀ : Around} {s : Shared} {K : Frag} {L : Addr} {h₀ base : Heap} {m mg mb : Str → Option Value} {news : List (Addr × Obj)} {p : Program} {loose : List Str} {mean : ExcName → Option Value}

theorem enter_def {env : Env} {outer : List Env} {R : Result → Shared → Prop} {name qual : Str} {params : Arguments} {body : List Stmt} {scope : Scope} {dV kV doc pm cdv ct oc : Value} {an od : Option Addr} {osl : Array (Option Value)} {f : Addr} {args : Args} {binds : List (Str × Value)}
    (B : Below A₀ base outer h₀) (F : Fr h₀ L s.heap m) (X₀ : K.In h₀) (N : News h₀ L s.heap news) (T : Top p loose mean mg mb h₀) (hA : A.frames = some (env :: outer)) (hf : env.frame = some L) (hke : env.scope.kind = .function)
    (ho : K.lookup f = some ⟨oc, od, .func (fnOf name qual params body scope dV kV doc pm an cdv ct), osl⟩) (hcd : codeIn K cdv qual = true) (hroom : A.depth < recursionLimit)
    (hbind : BindsTo s (fnOf name qual params body scope dV kV doc pm an cdv ct) args binds) (hloc : ∀ y ∈ binds, scope.names.lookup y.1 = some .local)
    (h : ∀ g L' h₁, Fr h₀ L g m → Fr g L' h₁ (fun y => binds.reverse.lookup y) → News g L' h₁ news → Below A base (env :: outer) g → K.In g → Top p loose mean mg mb g → (∀ p ∈ news, p.1 < L') → s.heap.objs.size ≤ L' →
      wpAny (model prog w) (A.deeper (envOf qual scope L' f cdv)) (execs body (envOf qual scope L' f cdv))
        (fun fl s' => LeaveK h₀ L m g (KeepsThen s.heap news R) (match fl with | .ret v => v | _ => .none) s')
        (fun e s' => wpAny (model prog w) (A.deeper (envOf qual scope L' f cdv)) (leaving (envOf qual scope L' f cdv) e) (fun _ s'' => R (.error e) s'') (fun e' s'' => R (.error e') s'') s')
        { s with heap := h₁, toks := s.toks + binds.length })
    (hco : scope.isCoroutine = false) (hgen : scope.isGenerator = false) (hk : scope.kind = .function)
    (hcell : ∀ x ∈ scope.names, x.2 ≠ .cell) : codeAny (model prog w) A (.call (.ref f) args) R s :=
  enter_plain (cl := []) B F N T.nolimit hA hf hke ((X₀.keeps F.keep) _ _ ho) rfl (codeRec_of (X₀.keeps F.keep) hcd) hroom hbind hloc (fun g L' h₁ FG F' N' B' st l z => h g L' h₁ FG F' N' B' (X₀.keeps st) (T.keeps st) l z) hcell hco hgen hk

theorem enter_defC {env : Env} {outer : List Env} {R : Result → Shared → Prop} {name qual : Str} {params : Arguments} {body : List Stmt} {scope : Scope} {dV kV doc pm cdv ct oc : Value} {an od : Option Addr} {osl : Array (Option Value)} {f : Addr} {args : Args} {binds : List (Str × Value)}
    (B : Below A₀ base outer h₀) (F : Fr h₀ L s.heap m) (X₀ : K.In h₀) (N : News h₀ L s.heap news) (T : Top p loose mean mg mb h₀) (hA : A.frames = some (env :: outer)) (hf : env.frame = some L) (hke : env.scope.kind = .function)
    (ho : K.lookup f = some ⟨oc, od, .func (fnOf name qual params body scope dV kV doc pm an cdv ct), osl⟩) (hcd : codeIn K cdv qual = true) (hroom : A.depth < recursionLimit)
    (hbind : BindsTo s (fnOf name qual params body scope dV kV doc pm an cdv ct) args binds) (hkind : (binds.all fun y => scope.names.lookup y.1 == some .local || scope.names.lookup y.1 == some .cell) = true)
    (hnd : ((cellsFrom 0 scope.names []).map (·.1)).Nodup)
    (h : ∀ g L' h₁ tk cells, Fr h₀ L g m → Fr g L' h₁ (bindL (envOfC qual scope L' f cdv).kindOf binds fun _ => none) → News g L' h₁ (cells ++ news) →
      CellsAre (bindC (envOfC qual scope L' f cdv).kindOf binds fun _ => none) (cellsFrom (L' + 1) scope.names []) cells → Below A base (env :: outer) g → K.In g → Top p loose mean mg mb g → (∀ p ∈ news, p.1 < L') → s.heap.objs.size ≤ L' →
      wpAny (model prog w) (A.deeper (envOfC qual scope L' f cdv)) (execs body (envOfC qual scope L' f cdv))
        (fun fl s' => LeaveK h₀ L m g (KeepsThen s.heap news R) (match fl with | .ret v => v | _ => .none) s')
        (fun e s' => wpAny (model prog w) (A.deeper (envOfC qual scope L' f cdv)) (leaving (envOfC qual scope L' f cdv) e) (fun _ s'' => R (.error e) s'') (fun e' s'' => R (.error e') s'') s')
        { s with heap := h₁, toks := tk })
    (hco : scope.isCoroutine = false) (hgen : scope.isGenerator = false) (hk : scope.kind = .function) : codeAny (model prog w) A (.call (.ref f) args) R s :=
  enter_cells B F N T.nolimit hA hf hke ((X₀.keeps F.keep) _ _ ho) rfl (codeRec_of (X₀.keeps F.keep) hcd) hroom hbind (kindsX hkind) hnd (fun g L' h₁ tk cells FG F' N' Y B' st l z => h g L' h₁ tk cells FG F' N' Y B' (X₀.keeps st) (T.keeps st) l z) hco hgen hk

theorem enter_nest {env : Env} {outer : List Env} {R : Result → Shared → Prop} {name qual : Str} {params : Arguments} {body : List Stmt} {scope : Scope} {cl : List (Str × Addr)} {doc pm ctv : Value} {c' : Addr} {f : Addr} {args : Args} {binds : List (Str × Value)}
    (B : Below A₀ base outer h₀) (F : Fr h₀ L s.heap m) (X₀ : K.In h₀) (N : News h₀ L s.heap news) (T : Top p loose mean mg mb h₀) (hA : A.frames = some (env :: outer)) (hf : env.frame = some L) (hke : env.scope.kind = .function)
    (ho : (f, fnMade name qual params body scope cl doc pm c' ctv) ∈ news) (hcd : s.heap.CodeRec (.ref c') qual) (hroom : A.depth < recursionLimit)
    (hbind : BindsTo s (fnX name qual params body scope cl .none .none doc pm none (.ref c') ctv) args binds) (hloc : ∀ y ∈ binds, scope.names.lookup y.1 = some .local)
    (h : ∀ g L' h₁, Fr h₀ L g m → Fr g L' h₁ (fun y => binds.reverse.lookup y) → News g L' h₁ news → Below A base (env :: outer) g → K.In g → Top p loose mean mg mb g → (∀ p ∈ news, p.1 < L') → s.heap.objs.size ≤ L' →
      wpAny (model prog w) (A.deeper (envX qual scope L' f (.ref c') cl)) (execs body (envX qual scope L' f (.ref c') cl))
        (fun fl s' => LeaveK h₀ L m g (KeepsThen s.heap news R) (match fl with | .ret v => v | _ => .none) s')
        (fun e s' => wpAny (model prog w) (A.deeper (envX qual scope L' f (.ref c') cl)) (leaving (envX qual scope L' f (.ref c') cl) e) (fun _ s'' => R (.error e) s'') (fun e' s'' => R (.error e') s'') s')
        { s with heap := h₁, toks := s.toks + binds.length })
    (hco : scope.isCoroutine = false) (hgen : scope.isGenerator = false) (hk : scope.kind = .function)
    (hcell : ∀ x ∈ scope.names, x.2 ≠ .cell) : codeAny (model prog w) A (.call (.ref f) args) R s :=
  enter_plain (cl := cl) B F N T.nolimit hA hf hke (N _ ho).1 rfl hcd hroom hbind hloc (fun g L' h₁ FG F' N' B' st l z => h g L' h₁ FG F' N' B' (X₀.keeps st) (T.keeps st) l z) hcell hco hgen hk
end

end Mine
namespace Mine
/-! ## plain arithmetic of the digits -/
theorem nat_and_high (x j : Nat) : x &&& (x / 2 ^ j * 2 ^ j) = x / 2 ^ j * 2 ^ j := by
  apply Nat.eq_of_testBit_eq
  intro i
  rw [Nat.testBit_and, Nat.testBit_mul_two_pow, Nat.testBit_div_two_pow]
  by_cases h : j ≤ i
  · have e : i - j + j = i := by omega
    simp [h, e]
  · simp [h]
theorem xor_low {x : Int} {j : Nat} (hx : 0 ≤ x) : Builtin.bitXor x (x.fdiv (2 ^ j) * 2 ^ j) = x.fmod (2 ^ j) := by
  obtain ⟨n, rfl⟩ : ∃ n : Nat, x = n := ⟨x.toNat, (Int.toNat_of_nonneg hx).symm⟩
  have hp : (0 : Int) < 2 ^ j := kbt_pos j
  have e1 : ((n : Int).fdiv (2 ^ j) * 2 ^ j) = ((n / 2 ^ j * 2 ^ j : Nat) : Int) := by
    rw [Int.fdiv_eq_ediv_of_nonneg _ (Int.le_of_lt hp), ← kbt_cast, Int.natCast_mul, Int.natCast_ediv]
  rw [bitXor_and, e1, bitAnd_pp hx (Int.natCast_nonneg _), Int.toNat_natCast, Int.toNat_natCast, nat_and_high, ← e1]
  have h := Int.mul_fdiv_add_fmod (n : Int) (2 ^ j)
  rw [Int.mul_comm] at h
  generalize (n : Int).fdiv (2 ^ j) * 2 ^ j = y at h ⊢
  omega

/-- the digits that the recursion lays: k of them, of x, in base 2 ^ n -/
noncomputable def dig : Nat → Int → Int → Nat → List Int
  | 0, _, _, _ => []
  | f + 1, x, n, k => if k = 1 then [x] else
      dig f (x.fmod (2 ^ (((k / 2 : Nat) : Int) * n).toNat)) n (k / 2) ++ dig f (x.fdiv (2 ^ (((k / 2 : Nat) : Int) * n).toNat)) n (k - k / 2)
theorem dig_len : ∀ (f : Nat) (x n : Int) (k : Nat), 1 ≤ k → k ≤ f → (dig f x n k).length = k
  | 0, _, _, _, h1, h2 => by omega
  | f + 1, x, n, k, h1, h2 => by
    unfold dig
    split
    · rename_i e; rw [e]; rfl
    · rw [List.length_append, dig_len f _ n (k / 2) (by omega) (by omega), dig_len f _ n (k - k / 2) (by omega) (by omega)]
      omega
theorem splice_len {ns d : List Int} {a m : Nat} (h1 : a ≤ m) (h2 : m ≤ ns.length) (hd : d.length = m - a) : (ns.take a ++ d ++ ns.drop m).length = ns.length := by
  simp only [List.length_append, List.length_take, List.length_drop, hd]
  rw [Nat.min_eq_left (Nat.le_trans h1 h2), Nat.add_sub_of_le h1, Nat.add_sub_of_le h2]
theorem splice_two {ns d1 d2 : List Int} {a m b : Nat} (h1 : a ≤ m) (h2 : m ≤ b) (h3 : b ≤ ns.length) (hd : d1.length = m - a) :
    (ns.take a ++ d1 ++ ns.drop m).take m ++ d2 ++ (ns.take a ++ d1 ++ ns.drop m).drop b = ns.take a ++ (d1 ++ d2) ++ ns.drop b := by
  have e1 : (ns.take a ++ d1).length = m := by
    simp only [List.length_append, List.length_take, hd]
    rw [Nat.min_eq_left (Nat.le_trans h1 (Nat.le_trans h2 h3)), Nat.add_sub_of_le h1]
  have e2 : ∀ (X Y : List Int), X.length = m → (X ++ Y).drop b = Y.drop (b - m) := fun X Y hX => by
    rw [List.drop_append, hX, List.drop_eq_nil_of_le (by omega), List.nil_append]
  rw [List.take_left' e1, e2 _ _ e1, List.drop_drop, show m + (b - m) = b by omega, List.append_assoc (ns.take a) d1 d2]
theorem set_splice {ns : List Int} {a : Nat} {x : Int} (h : a < ns.length) : ns.set a x = ns.take a ++ [x] ++ ns.drop (a + 1) := by
  rw [List.set_eq_take_append_cons_drop, if_pos h, List.append_assoc]; rfl
theorem succ_toNat {a b j : Int} {n : Nat} (e : n = (a - b - j).toNat) (h : b + j < a) : ∃ n', n = n' + 1 := ⟨n - 1, by omega⟩
theorem pred_toNat {a b j : Int} {n : Nat} (e : n + 1 = (a - b - j).toNat) : n = (a - b - (j + 1)).toNat := by omega
theorem mid_nat1 {l h m r : Nat} (h1 : l < h) (h2 : l + 1 ≠ h) (e : l + h = 2 * m + r) (hr : r < 2) : l < m ∧ m < h := by omega
theorem mid_nat2 {l h m r k q : Nat} (h1 : l < m) (h2 : m < h) (e : l + h = 2 * m + r) (hr : r < 2) (e2 : h - l = 2 * k + q) (hq : q < 2) : k = m - l := by omega
theorem mid_nat3 {l h m k : Nat} (h1 : l < m) (h2 : m < h) (e : k = m - l) : h - m = (h - l) - k := by rw [e, Nat.sub_sub_sub_cancel_right (Nat.le_of_lt h1)]
theorem mid_nat {l h : Nat} (h1 : l < h) (h2 : l + 1 ≠ h) : l < (l + h) / 2 ∧ (l + h) / 2 < h ∧ (h - l) / 2 = (l + h) / 2 - l ∧ h - (l + h) / 2 = (h - l) - (h - l) / 2 := by
  have e := (Nat.div_add_mod (l + h) 2).symm
  have e2 := (Nat.div_add_mod (h - l) 2).symm
  obtain ⟨a, b⟩ := mid_nat1 h1 h2 e (Nat.mod_lt _ (by decide))
  have c := mid_nat2 a b e (Nat.mod_lt _ (by decide)) e2 (Nat.mod_lt _ (by decide))
  exact ⟨a, b, c, mid_nat3 a b c⟩
theorem mid_int {lo hi : Int} (h0 : 0 ≤ lo) (h1 : lo < hi) (h2 : lo + 1 ≠ hi) : ∃ l m h : Nat, lo = l ∧ hi = h ∧ (lo + hi).fdiv (2 ^ (1 : Int).toNat) = m ∧ (lo + hi) / 2 = m ∧ l < m ∧ m < h ∧ (h - l) / 2 = m - l ∧ h - m = (h - l) - (h - l) / 2 ∧ h - l ≠ 1 := by
  obtain ⟨l, rfl⟩ := Int.eq_ofNat_of_zero_le h0
  obtain ⟨h, rfl⟩ := Int.eq_ofNat_of_zero_le (Int.le_trans h0 (Int.le_of_lt h1))
  have a1 : l < h := Int.ofNat_lt.1 h1
  have a2 : l + 1 ≠ h := fun e => h2 (by rw [← e]; rfl)
  obtain ⟨b1, b2, b3, b4⟩ := mid_nat a1 a2
  have e1 : ((l : Int) + (h : Int)) / 2 = (((l + h) / 2 : Nat) : Int) := by omega
  refine ⟨l, (l + h) / 2, h, rfl, rfl, ?_, e1, b1, b2, b3, b4, fun e => a2 ?_⟩
  · rw [show ((2 : Int) ^ (1 : Int).toNat) = 2 from rfl, Int.fdiv_eq_ediv_of_nonneg _ (by decide)]; exact e1
  · clear e1 b1 b2 b3 b4 h0 h1 h2; omega
theorem mid_bits {lo mid hi : Int} {len fuel : Nat} (h0 : 0 ≤ lo) (lm : lo < mid) (mh : mid < hi) (hh : hi ≤ len) (hf : hi - lo ≤ ((fuel + 1 : Nat) : Int)) :
    lo.toNat ≤ mid.toNat ∧ mid.toNat ≤ hi.toNat ∧ mid.toNat ≤ len ∧ hi.toNat ≤ len ∧ (mid - lo).toNat = mid.toNat - lo.toNat ∧ 1 ≤ (mid - lo).toNat ∧ (mid - lo).toNat ≤ fuel := by
  have g1 := Int.le_trans h0 (Int.le_of_lt lm)
  obtain ⟨l, rfl⟩ := Int.eq_ofNat_of_zero_le h0
  obtain ⟨m, rfl⟩ := Int.eq_ofNat_of_zero_le g1
  obtain ⟨h, rfl⟩ := Int.eq_ofNat_of_zero_le (Int.le_trans g1 (Int.le_of_lt mh))
  have a1 : l < m := Int.ofNat_lt.1 lm
  have a2 : m < h := Int.ofNat_lt.1 mh
  have a3 : h ≤ len := Int.ofNat_le.1 hh
  clear h0 g1 lm mh hh
  have a5 : h ≤ fuel + 1 + l := by clear a1 a2 a3; omega
  clear hf
  simp only [Int.toNat_natCast, Int.toNat_sub]
  exact ⟨Nat.le_of_lt a1, Nat.le_of_lt a2, Nat.le_trans (Nat.le_of_lt a2) a3, a3, trivial, Nat.le_sub_of_add_le (by rw [Nat.add_comm]; exact a1), Nat.sub_le_of_le_add (Nat.le_of_lt_succ (Nat.lt_of_lt_of_le a2 (by rw [show (fuel + l).succ = fuel + 1 + l by rw [Nat.succ_eq_add_one, Nat.add_right_comm]]; exact a5)))⟩
/-- the middle and the shift of one turn -/
theorem mid_facts {lo hi n x : Int} (h0 : 0 ≤ lo) (h1 : lo < hi) (h2 : lo + 1 ≠ hi) (hn : 1 ≤ n) (hn8 : n ≤ 8) (hx : 0 ≤ x) (hx2 : x < 2 ^ 32) (hr : hi - lo ≤ 64) :
    ∃ mid sh up us low : Int, (lo + hi).fdiv (2 ^ (1 : Int).toNat) = mid ∧ (mid - lo) * n = sh ∧ x.fdiv (2 ^ sh.toNat) = up ∧ up * 2 ^ sh.toNat = us ∧ Builtin.bitXor x us = low ∧
      0 ≤ sh ∧ sh ≤ 1000000 ∧ 0 ≤ up ∧ up < 2 ^ 32 ∧ 0 ≤ low ∧ low < 2 ^ 32 ∧ lo < mid ∧ mid < hi ∧ (mid - lo).toNat = (hi - lo).toNat / 2 ∧ (hi - mid).toNat = (hi - lo).toNat - (hi - lo).toNat / 2 ∧
      (∀ f, dig (f + 1) x n (hi - lo).toNat = dig f low n (mid - lo).toNat ++ dig f up n (hi - mid).toNat) := by
  obtain ⟨l, m, h, rfl, rfl, e0, _, b1, b2, b3, b4, b5⟩ := mid_int h0 h1 h2
  clear h0 h1 h2
  have t1 : ((h : Int) - (l : Int)).toNat = h - l := Int.toNat_sub h l
  have t2 : ((m : Int) - (l : Int)).toNat = m - l := Int.toNat_sub m l
  have t3 : ((h : Int) - (m : Int)).toNat = h - m := Int.toNat_sub h m
  have c1 : (l : Int) < m := Int.ofNat_lt.2 b1
  have c2 : (m : Int) < h := Int.ofNat_lt.2 b2
  have hm : (m : Int) - (l : Int) = (((h - l) / 2 : Nat) : Int) := by rw [b3, Int.ofNat_sub (Nat.le_of_lt b1)]
  have hs0 : 0 ≤ ((m : Int) - l) * n := Int.mul_nonneg (Int.sub_nonneg_of_le (Int.le_of_lt c1)) (Int.le_trans (by decide) hn)
  have hs1 : ((m : Int) - l) * n ≤ 64 * 8 := Int.mul_le_mul (by clear b3 b4 b5 t1 t2 t3 hm hs0; omega) hn8 (Int.le_trans (by decide) hn) (by decide)
  generalize hsh : ((m : Int) - l) * n = sh at hs0 hs1
  have hp : (0 : Int) < 2 ^ sh.toNat := kbt_pos _
  have hlow := xor_low (x := x) (j := sh.toNat) hx
  have hup : x.fdiv (2 ^ sh.toNat) = x / 2 ^ sh.toNat := Int.fdiv_eq_ediv_of_nonneg _ (Int.le_of_lt hp)
  have hmo : x.fmod (2 ^ sh.toNat) = x % 2 ^ sh.toNat := Int.fmod_eq_emod_of_nonneg _ (Int.le_of_lt hp)
  have u0 : 0 ≤ x / 2 ^ sh.toNat := Int.ediv_nonneg hx (Int.le_of_lt hp)
  have u1 : x / 2 ^ sh.toNat ≤ x := Int.ediv_le_self _ hx
  have l0 : 0 ≤ x % 2 ^ sh.toNat := Int.emod_nonneg _ (Int.ne_of_gt hp)
  have l1 : x % 2 ^ sh.toNat ≤ x := by
    have e1 := Int.emod_add_mul_ediv x (2 ^ sh.toNat)
    have e2 := Int.mul_nonneg (Int.le_of_lt hp) u0
    clear hs0 hs1 hlow hup hmo u0 u1 l0 hp hm hsh e0 b1 b2 b3 b4 b5 t1 t2 t3 c1 c2 hx hx2 hn hn8
    omega
  have l2 : x % 2 ^ sh.toNat < 2 ^ 32 := Int.lt_of_le_of_lt l1 hx2
  have u2 : x / 2 ^ sh.toNat < 2 ^ 32 := Int.lt_of_le_of_lt u1 hx2
  refine ⟨_, sh, _, _, _, e0, hsh, rfl, rfl, rfl, hs0, Int.le_trans hs1 (by decide), by rw [hup]; exact u0, by rw [hup]; exact u2, by rw [hlow, hmo]; exact l0, by rw [hlow, hmo]; exact l2, c1, c2, by rw [t2, t1]; exact b3.symm, by rw [t3, t1]; exact b4, fun f => ?_⟩
  rw [hlow]
  conv => lhs; unfold dig
  rw [t1, if_neg b5, ← hm, hsh, t2, t3, b3, b4, b3]

section
variable {prog : Program} {w : World} {A : Around} {E : Value → Shared → Prop} {s : Shared} {a b r : Int} {t u : Tok} {Q : Value → Shared → Prop}
theorem rsh_to (e : a.fdiv (2 ^ b.toNat) = r) (hb : 0 ≤ b) (h : Q (.int r s.toks) { s with toks := s.toks + 1 }) : wpAny (model prog w) A (binaryOp .RShift (.int a t) (.int b u)) Q E s := by
  subst e; exact rshift_int hb h
theorem lsh_to (e : a * 2 ^ b.toNat = r) (hb : 0 ≤ b) (hb2 : b ≤ 1000000) (ha0 : 0 ≤ a) (ha : a < 2 ^ 32) (h : Q (.int r s.toks) { s with toks := s.toks + 1 }) : wpAny (model prog w) A (binaryOp .LShift (.int a t) (.int b u)) Q E s := by
  subst e; exact lshift_int_small hb hb2 (by omega) h
theorem xor_to (e : Builtin.bitXor a b = r) (h : Q (.int r s.toks) { s with toks := s.toks + 1 }) : wpAny (model prog w) A (binaryOp .BitXor (.int a t) (.int b u)) Q E s := by
  subst e; exact xor_int h
end
end Mine
namespace Mine
theorem off_C1 : True := by
  w_top off
  trivial

theorem fill : PySem.Challenge.rw_ie0010_01 = PySem.Challenge.rw_ie0010_01 ∧ hd.heap_39 = hd.heap_39 := by
  k_fill
  exact ⟨rfl, rfl⟩

/-! ## the two recursions over the digits -/

noncomputable def stBody : Stmt → List Stmt
  | .FunctionDef _ _ b _ _ _ _ _ _ _ => b
  | _ => []
noncomputable def stScope : Stmt → Scope
  | .FunctionDef _ _ _ _ _ _ sc _ _ _ => sc
  | _ => default
noncomputable def stArgs : Stmt → Arguments
  | .FunctionDef _ ps _ _ _ _ _ _ _ _ => ps
  | _ => default
noncomputable def inner1 : Stmt := (stBody (PySem.Challenge.pw_ie0010_01.main.body.tail.tail.tail.tail.headD default)).tail.headD default
noncomputable def inner2 : Stmt := (stBody (PySem.Challenge.pw_ie0010_01.main.body.tail.tail.tail.tail.tail.headD default)).headD default

noncomputable abbrev q1 : Str := "_int2digits.<locals>.inner"
noncomputable abbrev fn1 (ca ci cn : Addr) (doc pm : Value) (c' : Addr) (ctv : Value) : Obj :=
  fnMade "inner" q1 (stArgs inner1) (stBody inner1) (stScope inner1) [("n", cn), ("inner", ci), ("a_digits", ca)] doc pm c' ctv

noncomputable abbrev led1 (l : Addr) (its : List Value) (k : Nat) (f c' ca ci cn : Addr) (fo oc oa oi on : Obj) : List (Addr × Obj) :=
  [(l, listOf its.toArray k), (f, fo), (c', oc), (ca, oa), (ci, oi), (cn, on)]

local macro_rules | `(tactic| walk_at "binaryOp RShift int int") => `(tactic| (k_here; refine' rsh_to ?e ?b ?_; (case e => assumption); (case b => first | assumption | decide)))
local macro_rules | `(tactic| walk_at "binaryOp LShift int int") => `(tactic| (k_here; refine' lsh_to ?e ?b ?c ?d ?f ?_; (case e => assumption); (case b => assumption); (case c => assumption); (case d => assumption); (case f => assumption)))
local macro_rules | `(tactic| walk_at "binaryOp BitXor int int") => `(tactic| (k_here; refine' xor_to ?e ?_; (case e => assumption)))

local macro_rules | `(tactic| walk_at "ite") => `(tactic| (k_here; first
  | (refine ite_pos (by simp only [beq_iff_eq, bne_iff_ne, ne_eq, decide_eq_true_eq]; first | assumption | omega) ?_; walk_say "MINE")
  | (refine ite_neg (by simp only [beq_iff_eq, bne_iff_ne, ne_eq, decide_eq_true_eq]; first | assumption | omega) ?_; walk_say "MINE")))

theorem inner1_spec {w : World} {p : Program} {loose : List Str} {mean : ExcName → Option Value} {mg mb : Str → Option Value} : ∀ (fuel : Nat)
    (dp un : Nat) (gd : Option (List Code)) (cn : Str) (cs : Scope) (a : Addr) (ccd : Value) (cl : List (Str × Addr)) (outer : List Env) (A₀ : Around) (base h₀ : Heap) (L : Addr) (m : Str → Option Value) (s : Shared) (Q E : Value → Shared → Prop)
    (l f c' ca ci cnn : Addr) (its : List Value) (k : Nat) (oc oa oi on : Obj) (doc pm ctv : Value) (vs : Array Value) (tq : Tok) (ns : List Int) (x lo hi n : Int) (tx tl th tn : Tok),
    Below A₀ base outer h₀ → Fr h₀ L s.heap m → (hd.heap_39 w.params).In h₀ → CodeHd base 34 30 → Top p loose mean mg mb h₀ → cs.kind = .function →
    News h₀ L s.heap (led1 l its k f c' ca ci cnn (fn1 ca ci cnn doc pm c' ctv) oc oa oi on) →
    oc.data = .fields vs → vs[1]? = some (.str q1 tq) → oa.data = .cell (some (.ref l)) → oi.data = .cell (some (.ref f)) → on.data = .cell (some (.int n tn)) →
    f ≠ l → c' ≠ l → ca ≠ l → ci ≠ l → cnn ≠ l →
    IntsAre its ns → ns.length ≤ 64 → 0 ≤ lo → lo < hi → hi ≤ ns.length → hi - lo ≤ fuel → 1 ≤ n → n ≤ 8 → 0 ≤ x → x < 2 ^ 32 →
    dp + fuel < recursionLimit → un + 8 * fuel < cLine →
    (∀ its' k' h' tk', Fr h₀ L h' m → News h₀ L h' (led1 l its' k' f c' ca ci cnn (fn1 ca ci cnn doc pm c' ctv) oc oa oi on) → (∀ b o, s.heap.get? b = some o → b ∉ [l] → h'.get? b = some o) →
      IntsAre its' (ns.take lo.toNat ++ dig fuel x n (hi - lo).toNat ++ ns.drop hi.toNat) → Q .none { s with heap := h', toks := tk' }) →
    wpAny (model PySem.Challenge.rw_ie0010_01.row.prog w) (ktrTop dp un gd cn cs L a ccd cl outer) (call (.ref f) [.int x tx, .int lo tl, .int hi th]) Q E s := by
  intro fuel
  induction fuel with
  | zero => intros; omega
  | succ fuel IH =>
    intro dp un gd cn cs a ccd cl outer A₀ base h₀ L m s Q E l f c' ca ci cnn its k oc oa oi on doc pm ctv vs tq ns x lo hi n tx tl th tn B F X C T hk N d1 d2 d3 d4 d5 e1 e2 e3 e4 e5 hi' hlen h0 h1 h2 h3 h4 h5 h6 h7 hdp hun hret
    refine wpAny_call ?_
    k_dflt (refine' enter_nest ?k1 ?k2 ?k3 ?k4 ?k5 ?kA ?kF ?kK ?k6 ?k7 ?k8 ?k9 ?kB ?_ ?c2 ?c3 ?c4 ?c5)
    case kA => exact rfl
    case kF => exact rfl
    case kK => assumption
    case k1 => k_asm
    case k2 => k_asm
    case k3 => k_asm
    case k4 => k_asm
    case k5 => k_asm
    case k6 => k_mem
    case k7 => exact codeRec_news (by k_asm) (by k_mem) (by assumption) (by assumption)
    case k8 => ktr_room
    case k9 => exact BindsTo.of_eq rfl
    case c5 => decide
    case kB => exact locs rfl
    case c2 => exact rfl
    case c3 => exact rfl
    case c4 => exact rfl
    intro g' L' h' FG' F' N' B' X' T' hL' hsz'
    dsimp only [inner1, stBody, stScope, stArgs, PySem.Challenge.pw_ie0010_01, List.tail_cons, List.headD_cons] at *
    k_fold
    by_cases hk1 : lo + 1 = hi
    · k_steps
      intro keep
      refine hret _ _ _ _ (by k_asm) (by k_asm) (keep_of N keep (by assumption) ?_) ?_
      · simp
      · have ek : (hi - lo).toNat = 1 := by omega
        rw [ek, show dig (fuel + 1) x n 1 = [x] by unfold dig; rfl, show hi.toNat = lo.toNat + 1 by omega, ← set_splice (by omega)]
        assumption
    · obtain ⟨mid, sh, up, us, low, m1, m2, m3, m4, m5, s0, s1, u0, u1, l0, l1, lm, mh, k1, k2, hdig⟩ := mid_facts (x := x) h0 h1 hk1 h4 h5 h6 h7 (by omega)
      obtain ⟨q1, q2, q3, q4, q5, q6, q7⟩ := mid_bits h0 lm mh h2 h3
      subst m2
      k_steps
      k_dflt (refine' IH _ _ _ _ _ _ _ _ _ _ _ _ _ _ _ _ _ l f c' ca ci cnn _ _ oc oa oi on doc pm ctv vs tq _ low lo mid n _ _ _ tn ?b1 ?b2 ?b3 ?b4 ?b5 ?b6 ?b7 d1 d2 d3 d4 d5 e1 e2 e3 e4 e5 ?b8 ?b9 ?b10 ?b11 ?b12 ?b13 h4 h5 l0 l1 ?b14 ?b15 ?b16)
      case b1 => k_asm
      case b2 => k_asm
      case b3 => k_asm
      case b4 => assumption
      case b5 => k_asm
      case b6 => exact rfl
      case b7 => k_asm
      case b8 => assumption
      case b9 => assumption
      case b10 => assumption
      case b11 => assumption
      case b12 => omega
      case b13 => omega
      case b14 => ktr_room
      case b15 => ktr_units
      case b16 =>
        intro its1 k1' h1' tk1 F1 N1 keep1 hi1
        have hlen1 := splice_len (ns := ns) (d := dig fuel low n (mid - lo).toNat) (a := lo.toNat) (m := mid.toNat) q1 q3 (by rw [dig_len _ _ _ _ q6 q7]; exact q5)
        k_steps
        k_dflt (refine' IH _ _ _ _ _ _ _ _ _ _ _ _ _ _ _ _ _ l f c' ca ci cnn _ _ oc oa oi on doc pm ctv vs tq _ up mid hi n _ _ _ tn ?b1 ?b2 ?b3 ?b4 ?b5 ?b6 ?b7 d1 d2 d3 d4 d5 e1 e2 e3 e4 e5 hi1 ?b9 ?b10 ?b11 ?b12 ?b13 h4 h5 u0 u1 ?b14 ?b15 ?b16)
        case b1 => k_asm
        case b2 => k_asm
        case b3 => k_asm
        case b4 => assumption
        case b5 => k_asm
        case b6 => exact rfl
        case b7 => k_asm
        case b9 => omega
        case b10 => omega
        case b11 => assumption
        case b12 => omega
        case b13 => omega
        case b14 => ktr_room
        case b15 => ktr_units
        case b16 =>
          intro its2 k2' h2' tk2 F2 N2 keep2 hi2
          k_steps
          intro keep
          refine hret _ _ _ _ (by k_asm) (by k_asm) (keep_of N keep (by assumption) (by simp)) ?_
          rw [hdig, ← splice_two (m := mid.toNat) q1 q2 q4 (by rw [dig_len _ _ _ _ q6 q7]; exact q5)]
          assumption
end Mine
namespace Mine
theorem off_C2 : True := by
  w_top off
  trivial
/-! ## the two code tables that a first call fills, and what a contract says -/
noncomputable abbrev q2 : Str := "_digits2int.<locals>.inner"
noncomputable def S1 (o : Obj) (c : Addr) (x : Obj) : Prop := c ∉ [30, 37] ∧ (∀ its n, x.data ≠ .seq its n) ∧ (o = tabObj #[] ∨ ∃ vs t, o = tabObj #[rawInt 32, rawInt 4, .ref c] ∧ x.data = .fields vs ∧ vs[1]? = some (.str q1 t))
noncomputable def S2 (o : Obj) (c : Addr) (x : Obj) : Prop := c ∉ [30, 37] ∧ (∀ its n, x.data ≠ .seq its n) ∧ (o = tabObj #[] ∨ ∃ vs t, o = tabObj #[rawInt 47, rawInt 4, .ref c] ∧ x.data = .fields vs ∧ vs[1]? = some (.str q2 t))
theorem off_ne {c : Addr} (h : c ∉ [30, 37]) : @Ne Nat c 30 ∧ @Ne Nat c 37 := by
  simp only [List.mem_cons, List.not_mem_nil, or_false, not_or] at h
  exact h
theorem ne_off {c : Addr} (h1 : @Ne Nat c 30) (h2 : @Ne Nat c 37) : c ∉ [30, 37] := by
  simp only [List.mem_cons, List.not_mem_nil, or_false, not_or]
  exact ⟨h1, h2⟩
theorem S1.ne {o : Obj} {c : Addr} {x : Obj} (h : S1 o c x) : @Ne Nat c 30 ∧ @Ne Nat c 37 := off_ne h.1
theorem S2.ne {o : Obj} {c : Addr} {x : Obj} (h : S2 o c x) : @Ne Nat c 30 ∧ @Ne Nat c 37 := off_ne h.1
theorem S1.apart {o : Obj} {c : Addr} {x : Obj} (h : S1 o c x) {h₀ hh : Heap} {L l : Addr} {its : Array Value} {n : Nat} {news : List (Addr × Obj)} (N : News h₀ L hh news) (hl : (l, listOf its n) ∈ news) (hc : (c, x) ∈ news) : @Ne Nat l c := fun e => by
  have a := (N _ hl).1
  have b := (N _ hc).1
  dsimp only at a b
  rw [show l = c from e, b] at a
  cases a
  exact h.2.1 _ _ rfl
theorem S2.apart {o : Obj} {c : Addr} {x : Obj} (h : S2 o c x) {h₀ hh : Heap} {L l : Addr} {its : Array Value} {n : Nat} {news : List (Addr × Obj)} (N : News h₀ L hh news) (hl : (l, listOf its n) ∈ news) (hc : (c, x) ∈ news) : @Ne Nat l c := fun e => by
  have a := (N _ hl).1
  have b := (N _ hc).1
  dsimp only at a b
  rw [show l = c from e, b] at a
  cases a
  exact h.2.1 _ _ rfl
noncomputable abbrev tbl (o1 : Obj) (c1 : Addr) (x1 o2 : Obj) (c2 : Addr) (x2 : Obj) : List (Addr × Obj) := [(30, o1), (c1, x1), (37, o2), (c2, x2)]

/-- where a table's code object lies after a call: where it lay, or above all that stood -/
noncomputable def Kept (z c c' : Nat) : Prop := c' = c ∨ z ≤ c'
noncomputable def Moved (c c' L : Nat) (news : List (Addr × Obj)) : Prop := c' = c ∨ ((∀ p ∈ news, @LT.lt Nat _ p.1 c') ∧ L < c')
theorem Kept.refl (z c : Nat) : Kept z c c := .inl rfl
theorem Moved.kept {z c c0 c' L : Nat} {news : List (Addr × Obj)} (h : Moved c c' L news) (hz : z ≤ L) (k : Kept z c0 c) : Kept z c0 c' := by
  rcases h with rfl | ⟨_, h⟩
  · exact k
  · exact .inr (Nat.le_of_lt (Nat.lt_of_le_of_lt hz h))
theorem Moved.ne {c c' L : Nat} {news : List (Addr × Obj)} {I : Addr} {o : Obj} (h : Moved c c' L news) (hm : (I, o) ∈ news) (hc : @Ne Nat c I) : @Ne Nat c' I := by
  rcases h with rfl | ⟨h, _⟩
  · exact hc
  · exact Nat.ne_of_gt (h _ hm)

/-- a call of the def at f: what it gives back, and which objects -/
noncomputable def Spec (w : World) (f : Addr) (vs : List Value) (args : List (Addr × Obj)) (d : Nat) (post : Value → List (Addr × Obj) → Prop) : Prop :=
  ∀ {p : Program} {loose : List Str} {mean : ExcName → Option Value} {mg mb : Str → Option Value} (dp un : Nat) (gd : Option (List Code)) (cn : Str) (cs : Scope) (a : Addr) (ccd : Value) (cl : List (Str × Addr)) (outer : List Env) (A₀ : Around) (base h₀ : Heap) (L : Addr) (m : Str → Option Value) (s : Shared) (Q E : Value → Shared → Prop)
    (o1 : Obj) (c1 : Addr) (x1 o2 : Obj) (c2 : Addr) (x2 : Obj),
    Below A₀ base outer h₀ → Fr h₀ L s.heap m → (hd.heap_39 w.params).In h₀ → CodeHd base 34 30 → CodeHd base 41 37 → Top p loose mean mg mb h₀ → cs.kind = .function →
    News h₀ L s.heap (args ++ tbl o1 c1 x1 o2 c2 x2) → S1 o1 c1 x1 → S2 o2 c2 x2 → dp + d < recursionLimit → un + 8 * d < cLine →
    (∀ r new h' tk' o1' c1' x1' o2' c2' x2', Fr h₀ L h' m → News h₀ L h' (new ++ tbl o1' c1' x1' o2' c2' x2') → S1 o1' c1' x1' → S2 o2' c2' x2' → Kept s.heap.objs.size c1 c1' → Kept s.heap.objs.size c2 c2' → (∀ b o, s.heap.get? b = some o → b ∉ [30, 37] → h'.get? b = some o) → (∀ q ∈ new, q.1 ∉ [30, 37] ∧ s.heap.objs.size ≤ q.1) → post r new →
      Q r { s with heap := h', toks := tk' }) →
    wpAny (model PySem.Challenge.rw_ie0010_01.row.prog w) (ktrTop dp un gd cn cs L a ccd cl outer) (call (.ref f) vs) Q E s

/-- the ledger without what a call may turn -/
inductive RestOf (wr : List Addr) : List (Addr × Obj) → List (Addr × Obj) → Prop
  | nil : RestOf wr [] []
  | drop {p r r'} : RestOf wr r r' → RestOf wr (p :: r) r'
  | keep {p r r'} : p.1 ∉ wr → RestOf wr r r' → RestOf wr (p :: r) (p :: r')
theorem RestOf.drop30 {o : Obj} {r r' : List (Addr × Obj)} {wr : List Addr} (h : RestOf wr r r') : RestOf wr ((30, o) :: r) r' := .drop h
theorem RestOf.drop37 {o : Obj} {r r' : List (Addr × Obj)} {wr : List Addr} (h : RestOf wr r r') : RestOf wr ((37, o) :: r) r' := .drop h
/-- an older code object is not kept in the ledger -/
theorem RestOf.dropS1 {c : Addr} {o x : Obj} {r r' : List (Addr × Obj)} {wr : List Addr} (s : S1 o c x) (h : RestOf wr r r') : RestOf wr ((c, x) :: r) r' := .drop h
theorem RestOf.dropS2 {c : Addr} {o x : Obj} {r r' : List (Addr × Obj)} {wr : List Addr} (s : S2 o c x) (h : RestOf wr r r') : RestOf wr ((c, x) :: r) r' := .drop h
theorem RestOf.mem {wr : List Addr} : ∀ {l r : List (Addr × Obj)}, RestOf wr l r → ∀ p ∈ r, p ∈ l ∧ p.1 ∉ wr
  | _, _, .nil, _, h => nomatch h
  | _, _, .drop x, p, h => ⟨.tail _ (x.mem p h).1, (x.mem p h).2⟩
  | _, _, .keep k x, p, h => by
    rcases List.mem_cons.mp h with rfl | h
    · exact ⟨.head _, k⟩
    · exact ⟨.tail _ (x.mem p h).1, (x.mem p h).2⟩

theorem Spec.use {w : World} {f : Addr} {vs : List Value} {args : List (Addr × Obj)} {d : Nat} {post : Value → List (Addr × Obj) → Prop} (C : Spec w f vs args d post)
    {p : Program} {loose : List Str} {mean : ExcName → Option Value} {mg mb : Str → Option Value} {dp un : Nat} {gd : Option (List Code)} {cn : Str} {cs : Scope} {a : Addr} {ccd : Value} {cl : List (Str × Addr)} {outer : List Env} {A₀ : Around} {base h₀ : Heap} {L : Addr} {m : Str → Option Value} {s : Shared} {Q E : Value → Shared → Prop}
    {o1 : Obj} {c1 : Addr} {x1 o2 : Obj} {c2 : Addr} {x2 : Obj} {news rest : List (Addr × Obj)}
    (B : Below A₀ base outer h₀) (F : Fr h₀ L s.heap m) (X : (hd.heap_39 w.params).In h₀) (C1 : CodeHd base 34 30) (C2 : CodeHd base 41 37) (T : Top p loose mean mg mb h₀) (hk : cs.kind = .function)
    (N : News h₀ L s.heap news) (s1 : S1 o1 c1 x1) (s2 : S2 o2 c2 x2) (hsub : ∀ p ∈ args ++ tbl o1 c1 x1 o2 c2 x2, p ∈ news) (hd : dp + d < recursionLimit) (hu : un + 8 * d < cLine) (hr : RestOf [30, 37] news rest)
    (ret : ∀ r new h' tk' o1' c1' x1' o2' c2' x2', Fr h₀ L h' m → News h₀ L h' (new ++ (tbl o1' c1' x1' o2' c2' x2' ++ rest)) → S1 o1' c1' x1' → S2 o2' c2' x2' → Moved c1 c1' L news → Moved c2 c2' L news → (∀ q ∈ new, q.1 ∉ [30, 37] ∧ (∀ p ∈ news, p.1 < q.1) ∧ @LT.lt Nat _ L q.1) → post r new → Q r { s with heap := h', toks := tk' }) :
    wpAny (model PySem.Challenge.rw_ie0010_01.row.prog w) (ktrTop dp un gd cn cs L a ccd cl outer) (call (.ref f) vs) Q E s := by
  refine C dp un gd cn cs a ccd cl outer A₀ base h₀ L m s Q E o1 c1 x1 o2 c2 x2 B F X C1 C2 T hk (fun p hp => N p (hsub p hp)) s1 s2 hd hu ?_
  intro r new h' tk' o1' c1' x1' o2' c2' x2' F' N' s1' s2' kc1 kc2 keep hq hp
  refine ret r new h' tk' o1' c1' x1' o2' c2' x2' F' (fun p hp => ?_) s1' s2' (kc1.imp id fun h => ⟨fun p hp => Nat.lt_of_lt_of_le (Heap.lt_size (N p hp).1) h, Nat.lt_of_lt_of_le F.ns.lt h⟩) (kc2.imp id fun h => ⟨fun p hp => Nat.lt_of_lt_of_le (Heap.lt_size (N p hp).1) h, Nat.lt_of_lt_of_le F.ns.lt h⟩) (fun q hm => ⟨(hq q hm).1, fun p hp => Nat.lt_of_lt_of_le (Heap.lt_size (N p hp).1) (hq q hm).2, Nat.lt_of_lt_of_le F.ns.lt (hq q hm).2⟩) hp
  rw [← List.append_assoc] at hp
  rcases List.mem_append.mp hp with hp | hp
  · exact N' p hp
  · obtain ⟨h1, h2⟩ := hr.mem p hp
    exact ⟨keep _ _ (N p h1).1 h2, (N p h1).2⟩

/-! ## _int2digits -/
noncomputable def i2d (a n : Int) : List Int := if a = 0 then [] else dig 33 a n ((((Builtin.Int.intBits a : Nat) : Int) + n - 1).fdiv n).toNat

theorem i2d_facts {a n : Int} (h0 : 0 ≤ a) (h1 : a < 2 ^ 32) (h2 : 1 ≤ n) (h3 : n ≤ 8) : 0 ≤ (((Builtin.Int.intBits a : Nat) : Int) + n - 1).fdiv n ∧ (((Builtin.Int.intBits a : Nat) : Int) + n - 1).fdiv n ≤ 32 ∧
    (a ≠ 0 → 1 ≤ (((Builtin.Int.intBits a : Nat) : Int) + n - 1).fdiv n) ∧ (a = 0 → (((Builtin.Int.intBits a : Nat) : Int) + n - 1).fdiv n = 0) := by
  have hb : Builtin.Int.intBits a ≤ 32 := intBits_le_iff.mpr (by omega)
  rw [Int.fdiv_eq_ediv_of_nonneg _ (by omega)]
  have hle : (((Builtin.Int.intBits a : Nat) : Int) + n - 1) / n ≤ Builtin.Int.intBits a := by
    have hmul : ((Builtin.Int.intBits a : Nat) : Int) ≤ (Builtin.Int.intBits a : Int) * n := by
      have := Int.mul_le_mul_of_nonneg_left h2 (Int.natCast_nonneg (Builtin.Int.intBits a)); omega
    have : (((Builtin.Int.intBits a : Nat) : Int) + n - 1) / n < (Builtin.Int.intBits a : Int) + 1 := by
      refine Int.ediv_lt_of_lt_mul (by omega) ?_
      rw [Int.add_mul]; omega
    omega
  refine ⟨Int.ediv_nonneg (by omega) (by omega), by omega, fun hne => ?_, fun e => ?_⟩
  · have hb1 : 1 ≤ Builtin.Int.intBits a := by
      rcases Nat.eq_zero_or_pos (Builtin.Int.intBits a) with e | e
      · have := (intBits_le_iff (m := 0) (x := a)).mp (by omega); simp at this; exact absurd this hne
      · exact e
    exact (Int.le_ediv_iff_mul_le (by omega)).mpr (by omega)
  · subst e
    have e0 : Builtin.Int.intBits 0 = 0 := by decide
    rw [e0]
    exact Int.ediv_eq_zero_of_lt (by omega) (by omega)

theorem i2d_end {a n : Int} {its : List Value} {X : List Int} {N : Nat} (hi : IntsAre its (X.take (0 : Int).toNat ++ dig 33 a n ((N : Int) - 0).toNat ++ X.drop (N : Int).toNat)) (hX : X.length = N)
    (h0 : 0 ≤ (((Builtin.Int.intBits a : Nat) : Int) + n - 1).fdiv n) (e : 0 ≤ (((Builtin.Int.intBits a : Nat) : Int) + n - 1).fdiv n → (N : Int) = ((0 + 1 : Nat) : Int) * (((Builtin.Int.intBits a : Nat) : Int) + n - 1).fdiv n) (ha : a ≠ 0) : IntsAre its (i2d a n) := by
  have e' := e h0
  unfold i2d
  rw [if_neg ha]
  rw [show (N : Int).toNat = N from rfl, List.drop_eq_nil_of_le (by omega), List.append_nil, show (0 : Int).toNat = 0 from rfl, List.take_zero, List.nil_append] at hi
  rw [show (((Builtin.Int.intBits a : Nat) : Int) + n - 1).fdiv n = (N : Int) - 0 by omega]
  exact hi
theorem i2d_end0 {a n : Int} {vs : List Value} {X : List Int} {N : Nat} (hi : IntsAre vs X) (hX : X.length = N) (f3 : a = 0 → (((Builtin.Int.intBits a : Nat) : Int) + n - 1).fdiv n = 0)
    (e : 0 ≤ (((Builtin.Int.intBits a : Nat) : Int) + n - 1).fdiv n → (N : Int) = ((0 + 1 : Nat) : Int) * (((Builtin.Int.intBits a : Nat) : Int) + n - 1).fdiv n) (ha : a = 0) : IntsAre vs (i2d a n) := by
  have e' := e (by rw [f3 ha]; exact Int.le_refl _)
  have h0 : X = [] := List.eq_nil_of_length_eq_zero (by rw [hX]; have := f3 ha; omega)
  unfold i2d
  rw [if_pos ha, ← h0]
  exact hi
theorem news_more {h₀ h h' : Heap} {L b : Addr} {o : Obj} {wr : List Addr} {news : List (Addr × Obj)} (N : News h₀ L h' news) (keep : ∀ b o, h.get? b = some o → b ∉ wr → h'.get? b = some o) (n : h.get? b = some o ∧ b ≠ L ∧ h₀.get? b = none) (hb : b ∉ wr) : News h₀ L h' ((b, o) :: news) := fun p hp => by
  rcases List.mem_cons.mp hp with rfl | hp
  · exact ⟨keep _ _ n.1 hb, n.2⟩
  · exact N p hp

noncomputable def i2dPost (a n : Int) (r : Value) (new : List (Addr × Obj)) : Prop := ∃ l its k, r = .ref l ∧ new = [(l, listOf its.toArray k)] ∧ IntsAre its (i2d a n)

theorem i2d_fin {h₀ h' : Heap} {L l c' c1 : Addr} {oc o2 x2 : Obj} {c2 : Addr} {m : Str → Option Value} {s : Shared} {Q : Value → Shared → Prop} {vs : Array Value} {t : Tok} {its : List Value} {k : Nat} {a n : Int} {news' news0 : List (Addr × Obj)} {tk : Nat}
    (hret : ∀ r new h' tk' o1' c1' x1' o2' c2' x2', Fr h₀ L h' m → News h₀ L h' (new ++ tbl o1' c1' x1' o2' c2' x2') → S1 o1' c1' x1' → S2 o2' c2' x2' → Kept s.heap.objs.size c1 c1' → Kept s.heap.objs.size c2 c2' → (∀ b o, s.heap.get? b = some o → b ∉ [30, 37] → h'.get? b = some o) → (∀ q ∈ new, q.1 ∉ [30, 37] ∧ s.heap.objs.size ≤ q.1) → i2dPost a n r new →
      Q r { s with heap := h', toks := tk' })
    (F : Fr h₀ L h' m) (N0 : News h₀ L s.heap news0) (st : ∀ b o, s.heap.get? b = some o → b ∉ news0.map (·.1) → h'.get? b = some o) (N : News h₀ L h' news') (hs : ∀ p ∈ news0, p.1 ∈ [30] ∨ p ∈ news')
    (n37 : s.heap.get? 37 = some o2 ∧ 37 ≠ L ∧ h₀.get? 37 = none) (nc2 : s.heap.get? c2 = some x2 ∧ c2 ≠ L ∧ h₀.get? c2 = none) (s2 : S2 o2 c2 x2)
    (h30 : (30, tabObj #[rawInt 32, rawInt 4, .ref c']) ∈ news') (hc : (c', oc) ∈ news') (d1 : oc.data = .fields vs) (d2 : vs[1]? = some (.str q1 t)) (hl : (l, listOf its.toArray k) ∈ news') (l1 : @LT.lt Nat _ 30 l) (l2 : @LT.lt Nat _ 37 l) (l3 : @Ne Nat c' 30) (l4 : @Ne Nat c' 37) (l5 : s.heap.objs.size ≤ l) (hi : IntsAre its (i2d a n)) (hk1 : Kept s.heap.objs.size c1 c') :
    Q (.ref l) { s with heap := h', toks := tk } := by
  have kp := keep_of (wr := [30]) N0 st N hs
  have NM := news_more (news_more N kp nc2 (by simpa using s2.ne.1)) kp n37 (by simp)
  refine hret _ [(l, listOf its.toArray k)] h' _ _ c' oc o2 c2 x2 F (fun p hp => NM p ?_) ⟨ne_off l3 l4, fun its n q => (by rw [d1] at q; cases q), .inr ⟨vs, t, rfl, d1, d2⟩⟩ s2 hk1 (.inl rfl) (fun b o e q => kp b o e (fun z => q (by simp only [List.mem_singleton] at z; simp [z]))) ?_ ⟨l, its, k, rfl, rfl, hi⟩
  · simp only [List.cons_append, List.nil_append, List.mem_cons, List.not_mem_nil, or_false] at hp
    rcases hp with rfl | rfl | rfl | rfl | rfl
    · exact .tail _ (.tail _ hl)
    · exact .tail _ (.tail _ h30)
    · exact .tail _ (.tail _ hc)
    · exact .head _
    · exact .tail _ (.head _)
  · intro q hq
    simp only [List.mem_singleton] at hq
    subst hq
    simp only [List.mem_cons, List.not_mem_nil, or_false, not_or]
    exact ⟨⟨by k_ne, by k_ne⟩, l5⟩

local macro_rules | `(tactic| walk_at "ite") => `(tactic| (k_here; first
  | (refine ite_pos (by simp only [beq_iff_eq, bne_iff_ne, ne_eq, decide_eq_true_eq]; first | assumption | omega) ?_; walk_say "MINE")
  | (refine ite_neg (by simp only [beq_iff_eq, bne_iff_ne, ne_eq, decide_eq_true_eq]; first | assumption | omega) ?_; walk_say "MINE")))

set_option maxHeartbeats 8000000 in
theorem int2digits_spec {w : World} {a n : Int} {ta tn : Tok} (ha0 : 0 ≤ a) (ha1 : a < 2 ^ 32) (hn1 : 1 ≤ n) (hn8 : n ≤ 8) : Spec w 35 [.int a ta, .int n tn] [] 40 (i2dPost a n) := by
  obtain ⟨f0, f1, f2, f3⟩ := i2d_facts ha0 ha1 hn1 hn8
  intro p loose mean mg mb dp un gd cn cs aa ccd cl outer A₀ base h₀ L m s Q E o1 c1 x1 o2 c2 x2 B F X C1 C2 T hk N s1 s2 hdp hun hret
  simp only [List.nil_append] at N
  have n37 := N (37, o2) (by simp)
  have nc2 := N (c2, x2) (by simp)
  have hne1 := s1.ne
  have hlc1 := N (c1, x1) (by simp)
  rcases s1 with ⟨hc, hx, rfl | ⟨vs, t, rfl, hv1, hv2⟩⟩
  · have N0 : News h₀ L s.heap [(30, tabObj #[])] := cb_drop N (by simp)
    clear N
    refine wpAny_call ?_
    k_dflt (refine' enter_defC ?k1 ?k2 ?k3 ?k4 ?k5 ?kA ?kF ?kK ?k6 ?k7 ?k8 ?k9 ?kB ?kD ?_ ?c2 ?c3 ?c4)
    case kA => exact rfl
    case kF => exact rfl
    case kK => assumption
    case k1 => k_asm
    case k2 => k_asm
    case k3 => k_asm
    case k4 => k_asm
    case k5 => k_asm
    case k6 => k_is
    case k7 => k_is
    case k8 => ktr_room
    case k9 => exact BindsTo.of_eq rfl
    case kB => exact rfl
    case kD => decide +kernel
    case c2 => exact rfl
    case c3 => exact rfl
    case c4 => exact rfl
    intro g' L' h' tk' cells' FG' F' N' Y' B' X' T' l1 hsz'
    have h37 : @LT.lt Nat _ 37 L' := Nat.lt_of_lt_of_le (Heap.lt_size n37.1) hsz'
    k_lt l1
    k_cells Y'
    simp only [List.cons_append, List.nil_append] at N'
    with_reducible show wpAny _ _ _ _ _ _
    k_fold
    k_steps
    · k_dflt (refine' inner1_spec 33 _ _ _ _ _ _ _ _ _ _ _ _ _ _ _ _ _ _ _ _ _ _ _ _ _ _ _ _ _ _ _ _ _ _ _ _ _ _ n _ _ _ _ ?b1 ?b2 ?b3 ?b4 ?b5 ?b6 ?b7 ?d1 ?d2 ?d3 ?d4 ?d5 ?e1 ?e2 ?e3 ?e4 ?e5 ?b8 ?b9 ?b10 ?b11 ?b12 ?b13 hn1 hn8 ha0 ha1 ?b14 ?b15 ?b16)
      case b1 => k_asm
      case b2 => k_asm
      case b3 => k_asm
      case b4 => assumption
      case b5 => k_asm
      case b6 => exact rfl
      case b7 => exact cb_drop (by k_asm) (by repeat (first | exact List.forall_mem_nil _ | refine List.forall_mem_cons.mpr ⟨by k_mem, ?_⟩))
      case d1 => assumption
      case d2 => assumption
      case d3 => assumption
      case d4 => assumption
      case d5 => assumption
      case e1 => k_ne
      case e2 => k_ne
      case e3 => k_ne
      case e4 => k_ne
      case e5 => k_ne
      case b8 => l_ints
      case b9 => omega
      case b10 => omega
      case b11 => omega
      case b12 => omega
      case b13 => omega
      case b14 => ktr_room
      case b15 => ktr_units
      case b16 =>
        rename News _ _ _ _ => NB
        have N30 := NB (30, _) (by k_mem)
        intro its1 k1' h1' tk1 F1 N1 keep1 hi1
        have N1b := news_more N1 keep1 N30 (by simp only [List.mem_singleton]; k_ne)
        clear NB N30
        k_steps
        intro keep
        rename News h₀ L _ _ => kN
        (try simp only [Array.empty_append] at kN)
        refine' i2d_fin hret ?fr N0 keep kN ?hs n37 nc2 s2 ?h30 ?hc ?d1 ?d2 ?hl ?l1 ?l2 ?l3 ?l4 ?l5 ?hi ?hk1
        case fr => k_asm
        case h30 => k_mem
        case hc => k_mem
        case hl => k_mem
        case d1 => assumption
        case d2 => assumption
        case hs => (repeat (first | exact List.forall_mem_nil _ | refine List.forall_mem_cons.mpr ⟨by first | exact .inl (.head _) | exact .inr (by k_mem), ?_⟩))
        case l1 => omega
        case l2 => omega
        case l3 => omega
        case l4 => omega
        case l5 => exact Nat.le_trans hsz' (Nat.le_of_lt (by omega))
        case hi => exact i2d_end hi1 (by assumption) f0 (by assumption) (by assumption)
        case hk1 => first | exact .inl rfl | exact .inr (Nat.le_trans hsz' (Nat.le_of_lt (by omega)))
    · intro keep
      rename News h₀ L _ _ => kN
      (try simp only [Array.empty_append] at kN)
      refine' i2d_fin hret ?fr N0 keep kN ?hs n37 nc2 s2 ?h30 ?hc ?d1 ?d2 ?hl ?l1 ?l2 ?l3 ?l4 ?l5 ?hi ?hk1
      case fr => k_asm
      case h30 => k_mem
      case hc => k_mem
      case hl => k_mem
      case d1 => assumption
      case d2 => assumption
      case hs => (repeat (first | exact List.forall_mem_nil _ | refine List.forall_mem_cons.mpr ⟨by first | exact .inl (.head _) | exact .inr (by k_mem), ?_⟩))
      case l1 => omega
      case l2 => omega
      case l3 => omega
      case l4 => omega
      case l5 => exact Nat.le_trans hsz' (Nat.le_of_lt (by omega))
      case hi => exact i2d_end0 (by assumption) (by assumption) f3 (by assumption) (by omega)
      case hk1 => first | exact .inl rfl | exact .inr (Nat.le_trans hsz' (Nat.le_of_lt (by omega)))
  · have N0 : News h₀ L s.heap [(30, tabObj #[rawInt 32, rawInt 4, .ref c1]), (c1, x1)] := cb_drop N (by simp)
    clear N
    refine wpAny_call ?_
    k_dflt (refine' enter_defC ?k1 ?k2 ?k3 ?k4 ?k5 ?kA ?kF ?kK ?k6 ?k7 ?k8 ?k9 ?kB ?kD ?_ ?c2 ?c3 ?c4)
    case kA => exact rfl
    case kF => exact rfl
    case kK => assumption
    case k1 => k_asm
    case k2 => k_asm
    case k3 => k_asm
    case k4 => k_asm
    case k5 => k_asm
    case k6 => k_is
    case k7 => k_is
    case k8 => ktr_room
    case k9 => exact BindsTo.of_eq rfl
    case kB => exact rfl
    case kD => decide +kernel
    case c2 => exact rfl
    case c3 => exact rfl
    case c4 => exact rfl
    intro g' L' h' tk' cells' FG' F' N' Y' B' X' T' l1 hsz'
    have h37 : @LT.lt Nat _ 37 L' := Nat.lt_of_lt_of_le (Heap.lt_size n37.1) hsz'
    k_lt l1
    k_cells Y'
    simp only [List.cons_append, List.nil_append] at N'
    with_reducible show wpAny _ _ _ _ _ _
    k_fold
    k_steps
    · k_dflt (refine' inner1_spec 33 _ _ _ _ _ _ _ _ _ _ _ _ _ _ _ _ _ _ _ _ _ _ _ _ _ _ _ _ _ _ _ _ _ _ _ _ _ _ n _ _ _ _ ?b1 ?b2 ?b3 ?b4 ?b5 ?b6 ?b7 ?d1 ?d2 ?d3 ?d4 ?d5 ?e1 ?e2 ?e3 ?e4 ?e5 ?b8 ?b9 ?b10 ?b11 ?b12 ?b13 hn1 hn8 ha0 ha1 ?b14 ?b15 ?b16)
      case b1 => k_asm
      case b2 => k_asm
      case b3 => k_asm
      case b4 => assumption
      case b5 => k_asm
      case b6 => exact rfl
      case b7 => exact cb_drop (by k_asm) (by repeat (first | exact List.forall_mem_nil _ | refine List.forall_mem_cons.mpr ⟨by k_mem, ?_⟩))
      case d1 => assumption
      case d2 => assumption
      case d3 => assumption
      case d4 => assumption
      case d5 => assumption
      case e1 => k_ne
      case e2 => k_ne
      case e3 => k_ne
      case e4 => k_ne
      case e5 => k_ne
      case b8 => l_ints
      case b9 => omega
      case b10 => omega
      case b11 => omega
      case b12 => omega
      case b13 => omega
      case b14 => ktr_room
      case b15 => ktr_units
      case b16 =>
        rename News _ _ _ _ => NB
        have N30 := NB (30, _) (by k_mem)
        intro its1 k1' h1' tk1 F1 N1 keep1 hi1
        have N1b := news_more N1 keep1 N30 (by simp only [List.mem_singleton]; k_ne)
        clear NB N30
        k_steps
        intro keep
        rename News h₀ L _ _ => kN
        (try simp only [Array.empty_append] at kN)
        refine' i2d_fin hret ?fr N0 keep kN ?hs n37 nc2 s2 ?h30 ?hc ?d1 ?d2 ?hl ?l1 ?l2 ?l3 ?l4 ?l5 ?hi ?hk1
        case fr => k_asm
        case h30 => k_mem
        case hc => k_mem
        case hl => k_mem
        case d1 => assumption
        case d2 => assumption
        case hs => (repeat (first | exact List.forall_mem_nil _ | refine List.forall_mem_cons.mpr ⟨by first | exact .inl (.head _) | exact .inr (by k_mem), ?_⟩))
        case l1 => omega
        case l2 => omega
        case l3 => omega
        case l4 => omega
        case l5 => exact Nat.le_trans hsz' (Nat.le_of_lt (by omega))
        case hi => exact i2d_end hi1 (by assumption) f0 (by assumption) (by assumption)
        case hk1 => first | exact .inl rfl | exact .inr (Nat.le_trans hsz' (Nat.le_of_lt (by omega)))
    · intro keep
      rename News h₀ L _ _ => kN
      (try simp only [Array.empty_append] at kN)
      refine' i2d_fin hret ?fr N0 keep kN ?hs n37 nc2 s2 ?h30 ?hc ?d1 ?d2 ?hl ?l1 ?l2 ?l3 ?l4 ?l5 ?hi ?hk1
      case fr => k_asm
      case h30 => k_mem
      case hc => k_mem
      case hl => k_mem
      case d1 => assumption
      case d2 => assumption
      case hs => (repeat (first | exact List.forall_mem_nil _ | refine List.forall_mem_cons.mpr ⟨by first | exact .inl (.head _) | exact .inr (by k_mem), ?_⟩))
      case l1 => omega
      case l2 => omega
      case l3 => omega
      case l4 => omega
      case l5 => exact Nat.le_trans hsz' (Nat.le_of_lt (by omega))
      case hi => exact i2d_end0 (by assumption) (by assumption) f3 (by assumption) (by omega)
      case hk1 => first | exact .inl rfl | exact .inr (Nat.le_trans hsz' (Nat.le_of_lt (by omega)))

end Mine
namespace Mine
theorem off_C3 : True := by
  w_top off
  trivial
/-! ## _digits2int -/
noncomputable def undig : Nat → List Int → Int → Int
  | 0, _, _ => 0
  | f + 1, ns, n => if ns.length = 1 then ns.headD 0 else undig f (ns.drop (ns.length / 2)) n * 2 ^ (((ns.length / 2 : Nat) : Int) * n).toNat + undig f (ns.take (ns.length / 2)) n

theorem undig_range : ∀ (f : Nat) (ns : List Int) (n : Int), 1 ≤ n → n ≤ 8 → (∀ d ∈ ns, 0 ≤ d ∧ d < 256) → 1 ≤ ns.length → ns.length ≤ f → 0 ≤ undig f ns n ∧ undig f ns n < 2 ^ (8 * ns.length)
  | 0, ns, n, h1, h2, hd, hl, hf => by omega
  | f + 1, ns, n, h1, h2, hd, hl, hf => by
    unfold undig
    by_cases h : ns.length = 1
    · rw [if_pos h]
      match ns, h with
      | [d], _ => have := hd d (by simp); simpa using this
    · rw [if_neg h]
      have i1 := undig_range f (ns.drop (ns.length / 2)) n h1 h2 (fun d hm => hd d (List.mem_of_mem_drop hm)) (by rw [List.length_drop]; omega) (by rw [List.length_drop]; omega)
      have i2 := undig_range f (ns.take (ns.length / 2)) n h1 h2 (fun d hm => hd d (List.mem_of_mem_take hm)) (by rw [List.length_take]; omega) (by rw [List.length_take]; omega)
      rw [List.length_drop] at i1
      rw [List.length_take, Nat.min_eq_left (by omega)] at i2
      generalize undig f (ns.drop (ns.length / 2)) n = u at i1
      generalize undig f (ns.take (ns.length / 2)) n = v at i2
      have hsh : (((ns.length / 2 : Nat) : Int) * n).toNat ≤ 8 * (ns.length / 2) := by
        have : ((ns.length / 2 : Nat) : Int) * n ≤ ((ns.length / 2 : Nat) : Int) * 8 := Int.mul_le_mul_of_nonneg_left h2 (Int.natCast_nonneg _)
        omega
      have hp : (2 : Int) ^ (((ns.length / 2 : Nat) : Int) * n).toNat ≤ 2 ^ (8 * (ns.length / 2)) := by
        rw [← kbt_cast, ← kbt_cast]
        exact Int.ofNat_le.mpr (Nat.pow_le_pow_right (by decide) hsh)
      have hp0 := kbt_pos (((ns.length / 2 : Nat) : Int) * n).toNat
      have hq : (2 : Int) ^ (8 * ns.length) = 2 ^ (8 * (ns.length - ns.length / 2)) * 2 ^ (8 * (ns.length / 2)) := by
        rw [← Int.pow_add]; congr 1; omega
      generalize (2 : Int) ^ (((ns.length / 2 : Nat) : Int) * n).toNat = P at hp hp0 ⊢
      rw [hq]
      generalize (2 : Int) ^ (8 * (ns.length - ns.length / 2)) = A at i1 ⊢
      generalize (2 : Int) ^ (8 * (ns.length / 2)) = B at hp i2 ⊢
      have m1 : u * P ≤ (A - 1) * B := Int.mul_le_mul (by omega) hp (by omega) (by omega)
      have m0 : 0 ≤ u * P := Int.mul_nonneg i1.1 (by omega)
      rw [Int.sub_mul] at m1
      omega

noncomputable abbrev seg (ns : List Int) (lo hi : Nat) : List Int := (ns.drop lo).take (hi - lo)
theorem seg_len {ns : List Int} {lo hi : Nat} (h : lo ≤ hi) (h2 : hi ≤ ns.length) : (seg ns lo hi).length = hi - lo := by
  simp only [seg, List.length_take, List.length_drop]
  exact Nat.min_eq_left (Nat.sub_le_sub_right h2 lo)
theorem seg_one {ns : List Int} {lo hi : Nat} (h : hi = lo + 1) (h2 : hi ≤ ns.length) : seg ns lo hi = [ns.getD lo 0] := by
  subst h
  have hl : lo < ns.length := by omega
  simp only [seg, show lo + 1 - lo = 1 by omega]
  rw [List.drop_eq_getElem_cons hl, List.take_succ_cons, List.take_zero, List.getD_eq_getElem?_getD, List.getElem?_eq_getElem hl]
  rfl
theorem seg_mem {ns : List Int} {lo hi : Nat} {P : Int → Prop} (h : ∀ d ∈ ns, P d) : ∀ d ∈ seg ns lo hi, P d := fun d hm => h d (List.mem_of_mem_drop (List.mem_of_mem_take hm))
theorem seg_drop {ns : List Int} {lo hi mid : Nat} (h1 : lo ≤ mid) (h2 : mid ≤ hi) : (seg ns lo hi).drop (mid - lo) = seg ns mid hi := by
  simp only [seg, List.drop_take, List.drop_drop]
  rw [Nat.sub_sub_sub_cancel_right h1, Nat.add_sub_of_le h1]
theorem seg_take {ns : List Int} {lo hi mid : Nat} (h1 : lo ≤ mid) (h2 : mid ≤ hi) : (seg ns lo hi).take (mid - lo) = seg ns lo mid := by
  simp only [seg, List.take_take]
  rw [Nat.min_eq_left (Nat.sub_le_sub_right h2 lo)]

theorem mid_facts2 {lo hi n : Int} {ns : List Int} (h0 : 0 ≤ lo) (h1 : lo < hi) (h2 : lo + 1 ≠ hi) (hh : hi ≤ ns.length) (hn : 1 ≤ n) (hn8 : n ≤ 8) (hr : hi - lo ≤ 8) (hd : ∀ d ∈ ns, 0 ≤ d ∧ d < 256) {f : Nat} (hf : hi - lo ≤ ((f + 1 : Nat) : Int)) :
    ∃ mid us vs : Int, (lo + hi).fdiv (2 ^ (1 : Int).toNat) = mid ∧ lo < mid ∧ mid < hi ∧ 0 ≤ (mid - lo) * n ∧ (mid - lo) * n ≤ 1000000 ∧ undig f (seg ns mid.toNat hi.toNat) n = us ∧ undig f (seg ns lo.toNat mid.toNat) n = vs ∧ 0 ≤ us ∧ us < 2 ^ 64 ∧
      undig (f + 1) (seg ns lo.toNat hi.toNat) n = us * 2 ^ ((mid - lo) * n).toNat + vs := by
  obtain ⟨l, m, h, rfl, rfl, e0, _, b1, b2, b3, b4, b5⟩ := mid_int h0 h1 h2
  clear h0 h1 h2
  have c1 : (l : Int) < m := Int.ofNat_lt.2 b1
  have c2 : (m : Int) < h := Int.ofNat_lt.2 b2
  have hh' : h ≤ ns.length := Int.ofNat_le.1 hh
  have hlh : l ≤ h := Nat.le_of_lt (Nat.lt_trans b1 b2)
  have hr' : h - l ≤ 8 := by clear hf hd hh b3 b4 b5; omega
  have hf' : h - l ≤ f + 1 := by clear hr hd hh b3 b4 b5; omega
  clear hr hh hf
  simp only [Int.toNat_natCast]
  have hm2 : ((m - l : Nat) : Int) = (m : Int) - l := Int.ofNat_sub (Nat.le_of_lt b1)
  have hm8 : h - m ≤ 8 := by clear hf' hd b3 b4 b5 hm2 c1 c2 e0; omega
  have hmf : h - m ≤ f := by clear hr' hm8 hd b3 b4 b5 hm2 c1 c2 e0; omega
  have hm1 : 1 ≤ h - m := by clear hr' hm8 hmf hf' hd b3 b4 b5 hm2 c1 c2 e0; omega
  have hs0 : 0 ≤ ((m : Int) - l) * n := Int.mul_nonneg (Int.sub_nonneg_of_le (Int.le_of_lt c1)) (Int.le_trans (by decide) hn)
  have hs1 : ((m : Int) - l) * n ≤ 64 * 8 := Int.mul_le_mul (by clear hs0 hf' hm8 hmf hm1 hd b3 b4 b5 hm2 e0; omega) hn8 (Int.le_trans (by decide) hn) (by decide)
  have hl := seg_len (ns := ns) (lo := l) (hi := h) hlh hh'
  have hl2 := seg_len (ns := ns) (lo := m) (hi := h) (Nat.le_of_lt b2) hh'
  have hr := undig_range f (seg ns m h) n hn hn8 (seg_mem hd) (by rw [hl2]; exact hm1) (by rw [hl2]; exact hmf)
  refine ⟨m, _, _, e0, c1, c2, hs0, Int.le_trans hs1 (by decide), rfl, rfl, hr.1, ?_, ?_⟩
  · refine Int.lt_of_lt_of_le hr.2 ?_
    rw [← kbt_cast, show (2 : Int) ^ 64 = ((2 ^ 64 : Nat) : Int) from rfl]
    exact Int.ofNat_le.mpr (Nat.pow_le_pow_right (by decide) (by rw [hl2]; clear hr hl hl2 hs0 hs1; omega))
  · conv => lhs; unfold undig
    rw [if_neg (by rw [hl]; exact b5), hl, b3, hm2, seg_drop (Nat.le_of_lt b1) (Nat.le_of_lt b2), seg_take (Nat.le_of_lt b1) (Nat.le_of_lt b2)]
    rfl

section
variable {prog : Program} {w : World} {A : Around} {E : Value → Shared → Prop} {s : Shared} {a b r : Int} {t u : Tok} {Q : Value → Shared → Prop}
theorem lsh_64 (hb : 0 ≤ b) (hb2 : b ≤ 1000000) (ha0 : 0 ≤ a) (ha : a < 2 ^ 64) (h : Q (.int (a * 2 ^ b.toNat) s.toks) { s with toks := s.toks + 1 }) : wpAny (model prog w) A (binaryOp .LShift (.int a t) (.int b u)) Q E s :=
  lshift_int_small hb hb2 (by omega) h
end

noncomputable abbrev fn2 (cd cn ci : Addr) (doc pm : Value) (c' : Addr) (ctv : Value) : Obj :=
  fnMade "inner" q2 (stArgs inner2) (stBody inner2) (stScope inner2) [("n", cn), ("inner", ci), ("digits", cd)] doc pm c' ctv
noncomputable abbrev led2 (l : Addr) (its : List Value) (k : Nat) (f c' cd ci cn : Addr) (fo oc od oi on : Obj) : List (Addr × Obj) :=
  [(l, listOf its.toArray k), (f, fo), (c', oc), (cd, od), (ci, oi), (cn, on)]

local macro_rules | `(tactic| walk_at "binaryOp RShift int int") => `(tactic| (k_here; refine' rsh_to ?e ?b ?_; (case e => assumption); (case b => first | assumption | decide)))
local macro_rules | `(tactic| walk_at "binaryOp LShift int int") => `(tactic| (k_here; refine' lsh_64 ?b ?c ?d ?f ?_; (case b => assumption); (case c => assumption); (case d => assumption); (case f => assumption)))
local macro_rules | `(tactic| walk_at "ite") => `(tactic| (k_here; first
  | (refine ite_pos (by simp only [beq_iff_eq, bne_iff_ne, ne_eq, decide_eq_true_eq]; first | assumption | omega) ?_; walk_say "MINE")
  | (refine ite_neg (by simp only [beq_iff_eq, bne_iff_ne, ne_eq, decide_eq_true_eq]; first | assumption | omega) ?_; walk_say "MINE")))

set_option maxHeartbeats 8000000 in
theorem inner2_spec {w : World} {p : Program} {loose : List Str} {mean : ExcName → Option Value} {mg mb : Str → Option Value} : ∀ (fuel : Nat)
    (dp un : Nat) (gd : Option (List Code)) (cn : Str) (cs : Scope) (a : Addr) (ccd : Value) (cl : List (Str × Addr)) (outer : List Env) (A₀ : Around) (base h₀ : Heap) (L : Addr) (m : Str → Option Value) (s : Shared) (Q E : Value → Shared → Prop)
    (l f c' cd ci cnn : Addr) (its : List Value) (k : Nat) (oc od oi on : Obj) (doc pm ctv : Value) (vs : Array Value) (tq : Tok) (ns : List Int) (lo hi n : Int) (tl th tn : Tok),
    Below A₀ base outer h₀ → Fr h₀ L s.heap m → (hd.heap_39 w.params).In h₀ → CodeHd base 41 37 → Top p loose mean mg mb h₀ → cs.kind = .function →
    News h₀ L s.heap (led2 l its k f c' cd ci cnn (fn2 cd cnn ci doc pm c' ctv) oc od oi on) →
    oc.data = .fields vs → vs[1]? = some (.str q2 tq) → od.data = .cell (some (.ref l)) → oi.data = .cell (some (.ref f)) → on.data = .cell (some (.int n tn)) →
    IntsAre its ns → (∀ d ∈ ns, 0 ≤ d ∧ d < 256) → ns.length ≤ 8 → 0 ≤ lo → lo < hi → hi ≤ ns.length → hi - lo ≤ fuel → 1 ≤ n → n ≤ 8 →
    dp + fuel < recursionLimit → un + 8 * fuel < cLine →
    (∀ t h' tk', Fr h₀ L h' m → News h₀ L h' (led2 l its k f c' cd ci cnn (fn2 cd cnn ci doc pm c' ctv) oc od oi on) → (∀ b o, s.heap.get? b = some o → b ∉ [] → h'.get? b = some o) →
      Q (.int (undig fuel (seg ns lo.toNat hi.toNat) n) t) { s with heap := h', toks := tk' }) →
    wpAny (model PySem.Challenge.rw_ie0010_01.row.prog w) (ktrTop dp un gd cn cs L a ccd cl outer) (call (.ref f) [.int lo tl, .int hi th]) Q E s := by
  intro fuel
  induction fuel with
  | zero => intros; omega
  | succ fuel IH =>
    intro dp un gd cn cs a ccd cl outer A₀ base h₀ L m s Q E l f c' cd ci cnn its k oc od oi on doc pm ctv vs tq ns lo hi n tl th tn B F X C T hk N d1 d2 d3 d4 d5 hi' hdd hlen h0 h1 h2 h3 h4 h5 hdp hun hret
    refine wpAny_call ?_
    k_dflt (refine' enter_nest ?k1 ?k2 ?k3 ?k4 ?k5 ?kA ?kF ?kK ?k6 ?k7 ?k8 ?k9 ?kB ?_ ?c2 ?c3 ?c4 ?c5)
    case kA => exact rfl
    case kF => exact rfl
    case kK => assumption
    case k1 => k_asm
    case k2 => k_asm
    case k3 => k_asm
    case k4 => k_asm
    case k5 => k_asm
    case k6 => k_mem
    case k7 => exact codeRec_news (by k_asm) (by k_mem) (by assumption) (by assumption)
    case k8 => ktr_room
    case k9 => exact BindsTo.of_eq rfl
    case c5 => decide
    case kB => exact locs rfl
    case c2 => exact rfl
    case c3 => exact rfl
    case c4 => exact rfl
    intro g' L' h' FG' F' N' B' X' T' hL' hsz'
    dsimp only [inner2, stBody, stScope, stArgs, PySem.Challenge.pw_ie0010_01, List.tail_cons, List.headD_cons] at *
    with_reducible show wpAny _ _ _ _ _ _
    k_fold
    by_cases hk1 : lo + 1 = hi
    · k_steps
      intro keep
      have e1 : undig (fuel + 1) (seg ns lo.toNat hi.toNat) n = ns.getD lo.toNat 0 := by rw [seg_one (by omega) (by omega)]; rfl
      rw [← e1]
      exact hret _ _ _ (by k_asm) (by k_asm) (keep_of N keep (by assumption) (by simp))
    · obtain ⟨mid, us, vv, m1, lm, mh, s0, s1, eu, ev, u0, u1, hdig⟩ := mid_facts2 (n := n) (ns := ns) (f := fuel) h0 h1 hk1 h2 h4 h5 (by omega) hdd (by omega)
      k_steps
      k_dflt (refine' IH _ _ _ _ _ _ _ _ _ _ _ _ _ _ _ _ _ l f c' cd ci cnn _ _ oc od oi on doc pm ctv vs tq ns mid hi n _ _ tn ?b1 ?b2 ?b3 ?b4 ?b5 ?b6 ?b7 d1 d2 d3 d4 d5 hi' hdd hlen ?b10 ?b11 ?b12 ?b13 h4 h5 ?b14 ?b15 ?b16)
      case b1 => k_asm
      case b2 => k_asm
      case b3 => k_asm
      case b4 => assumption
      case b5 => k_asm
      case b6 => exact rfl
      case b7 => k_asm
      case b10 => omega
      case b11 => omega
      case b12 => omega
      case b13 => omega
      case b14 => ktr_room
      case b15 => ktr_units
      case b16 =>
        intro t1 h1' tk1 F1 N1 keep1
        rw [eu]
        k_steps
        k_dflt (refine' IH _ _ _ _ _ _ _ _ _ _ _ _ _ _ _ _ _ l f c' cd ci cnn _ _ oc od oi on doc pm ctv vs tq ns lo mid n _ _ tn ?b1 ?b2 ?b3 ?b4 ?b5 ?b6 ?b7 d1 d2 d3 d4 d5 hi' hdd hlen ?b10 ?b11 ?b12 ?b13 h4 h5 ?b14 ?b15 ?b16)
        case b1 => k_asm
        case b2 => k_asm
        case b3 => k_asm
        case b4 => assumption
        case b5 => k_asm
        case b6 => exact rfl
        case b7 => k_asm
        case b10 => omega
        case b11 => omega
        case b12 => omega
        case b13 => omega
        case b14 => ktr_room
        case b15 => ktr_units
        case b16 =>
          intro t2 h2' tk2 F2 N2 keep2
          rw [ev]
          k_steps
          intro keep
          rw [← hdig]
          exact hret _ _ _ (by k_asm) (by k_asm) (keep_of N keep (by assumption) (by simp))
noncomputable def d2i (ns : List Int) (n : Int) : Int := if ns = [] then 0 else undig 9 ns n
noncomputable def d2iPost (ns : List Int) (n : Int) (r : Value) (new : List (Addr × Obj)) : Prop := ∃ t, r = .int (d2i ns n) t ∧ new = []
theorem d2i_end {ns : List Int} {n : Int} {N : Nat} (h : ns.length = N) (h0 : N ≠ 0) : undig 9 (seg ns (0 : Int).toNat (N : Int).toNat) n = d2i ns n := by
  have e : ns ≠ [] := fun q => by rw [q] at h; exact h0 h.symm
  unfold d2i
  rw [if_neg e]
  congr 1
  simp only [seg, show (0 : Int).toNat = 0 from rfl, List.drop_zero, show (N : Int).toNat = N from rfl, Nat.sub_zero]
  exact List.take_of_length_le (by omega)
theorem d2i_nil {ns : List Int} {n : Int} (h : ns.length = 0) : (0 : Int) = d2i ns n := by
  unfold d2i
  rw [if_pos (List.eq_nil_of_length_eq_zero h)]

theorem d2i_fin {h₀ h' : Heap} {L c' c2 : Addr} {oc o1 x1 : Obj} {c1 : Addr} {m : Str → Option Value} {s : Shared} {Q : Value → Shared → Prop} {vs : Array Value} {t : Tok} {ns : List Int} {n v : Int} {tv : Tok} {news' news0 : List (Addr × Obj)} {tk : Nat}
    (hret : ∀ r new h' tk' o1' c1' x1' o2' c2' x2', Fr h₀ L h' m → News h₀ L h' (new ++ tbl o1' c1' x1' o2' c2' x2') → S1 o1' c1' x1' → S2 o2' c2' x2' → Kept s.heap.objs.size c1 c1' → Kept s.heap.objs.size c2 c2' → (∀ b o, s.heap.get? b = some o → b ∉ [30, 37] → h'.get? b = some o) → (∀ q ∈ new, q.1 ∉ [30, 37] ∧ s.heap.objs.size ≤ q.1) → d2iPost ns n r new →
      Q r { s with heap := h', toks := tk' })
    (F : Fr h₀ L h' m) (N0 : News h₀ L s.heap news0) (st : ∀ b o, s.heap.get? b = some o → b ∉ news0.map (·.1) → h'.get? b = some o) (N : News h₀ L h' news') (hs : ∀ p ∈ news0, p.1 ∈ [37] ∨ p ∈ news')
    (n30 : s.heap.get? 30 = some o1 ∧ 30 ≠ L ∧ h₀.get? 30 = none) (nc1 : s.heap.get? c1 = some x1 ∧ c1 ≠ L ∧ h₀.get? c1 = none) (s1 : S1 o1 c1 x1)
    (h37 : (37, tabObj #[rawInt 47, rawInt 4, .ref c']) ∈ news') (hc : (c', oc) ∈ news') (d1 : oc.data = .fields vs) (d2 : vs[1]? = some (.str q2 t)) (l3 : @Ne Nat c' 30) (l4 : @Ne Nat c' 37) (hv : v = d2i ns n) (hk2 : Kept s.heap.objs.size c2 c') :
    Q (.int v tv) { s with heap := h', toks := tk } := by
  have kp := keep_of (wr := [37]) N0 st N hs
  have NM := news_more (news_more N kp nc1 (by simpa using s1.ne.2)) kp n30 (by simp)
  refine hret _ [] h' _ o1 c1 x1 _ c' oc F (fun p hp => NM p ?_) s1 ⟨ne_off l3 l4, fun its n q => (by rw [d1] at q; cases q), .inr ⟨vs, t, rfl, d1, d2⟩⟩ (.inl rfl) hk2 (fun b o e q => kp b o e (fun z => q (by simp only [List.mem_singleton] at z; simp [z]))) (fun _ h => nomatch h) ⟨tv, by rw [hv], rfl⟩
  simp only [List.nil_append, List.mem_cons, List.not_mem_nil, or_false] at hp
  rcases hp with rfl | rfl | rfl | rfl
  · exact .head _
  · exact .tail _ (.head _)
  · exact .tail _ (.tail _ h37)
  · exact .tail _ (.tail _ hc)

set_option maxHeartbeats 8000000 in
theorem digits2int_spec {w : World} {l : Addr} {its : List Value} {k : Nat} {ns : List Int} {n : Int} {tn : Tok} (hi0 : IntsAre its ns) (hdd : ∀ d ∈ ns, 0 ≤ d ∧ d < 256) (hlen : ns.length ≤ 8) (hn1 : 1 ≤ n) (hn8 : n ≤ 8) (hl30 : l ∉ [30, 37]) : Spec w 42 [.ref l, .int n tn] [(l, listOf its.toArray k)] 20 (d2iPost ns n) := by
  intro p loose mean mg mb dp un gd cn cs aa ccd cl outer A₀ base h₀ L m s Q E o1 c1 x1 o2 c2 x2 B F X C1 C2 T hk N s1 s2 hdp hun hret
  simp only [List.cons_append, List.nil_append] at N
  have hl37 : l ≠ 37 := fun e => hl30 (by simp [e])
  have n30 := N (30, o1) (by simp)
  have nc1 := N (c1, x1) (by simp)
  have hne2 := s2.ne
  rcases s2 with ⟨hc, hx, rfl | ⟨vs, t, rfl, hv1, hv2⟩⟩
  · have N0 : News h₀ L s.heap [(l, listOf its.toArray k), (37, tabObj #[])] := cb_drop N (by simp)
    clear N
    refine wpAny_call ?_
    k_dflt (refine' enter_defC ?k1 ?k2 ?k3 ?k4 ?k5 ?kA ?kF ?kK ?k6 ?k7 ?k8 ?k9 ?kB ?kD ?_ ?c2 ?c3 ?c4)
    case kA => exact rfl
    case kF => exact rfl
    case kK => assumption
    case k1 => k_asm
    case k2 => k_asm
    case k3 => k_asm
    case k4 => k_asm
    case k5 => k_asm
    case k6 => k_is
    case k7 => k_is
    case k8 => ktr_room
    case k9 => exact BindsTo.of_eq rfl
    case kB => exact rfl
    case kD => decide +kernel
    case c2 => exact rfl
    case c3 => exact rfl
    case c4 => exact rfl
    intro g' L' h' tk' cells' FG' F' N' Y' B' X' T' l1 hsz'
    have h30 : @LT.lt Nat _ 30 L' := Nat.lt_of_lt_of_le (Heap.lt_size n30.1) hsz'
    k_lt l1
    k_cells Y'
    simp only [List.cons_append, List.nil_append] at N'
    with_reducible show wpAny _ _ _ _ _ _
    k_fold
    k_steps
    · k_dflt (refine' inner2_spec 9 _ _ _ _ _ _ _ _ _ _ _ _ _ _ _ _ _ _ _ _ _ _ _ _ _ _ _ _ _ _ _ _ _ _ _ _ _ n _ _ _ ?b1 ?b2 ?b3 ?b4 ?b5 ?b6 ?b7 ?d1 ?d2 ?d3 ?d4 ?d5 ?b8 ?b9 ?b9b ?b10 ?b11 ?b12 ?b13 hn1 hn8 ?b14 ?b15 ?b16)
      case b1 => k_asm
      case b2 => k_asm
      case b3 => k_asm
      case b4 => assumption
      case b5 => k_asm
      case b6 => exact rfl
      case b7 => exact cb_drop (by k_asm) (by repeat (first | exact List.forall_mem_nil _ | refine List.forall_mem_cons.mpr ⟨by k_mem, ?_⟩))
      case d1 => assumption
      case d2 => assumption
      case d3 => assumption
      case d4 => assumption
      case d5 => assumption
      case b8 => l_ints
      case b9 => exact hdd
      case b9b => exact hlen
      case b10 => omega
      case b11 => omega
      case b12 => omega
      case b13 => omega
      case b14 => ktr_room
      case b15 => ktr_units
      case b16 =>
        rename News _ _ _ _ => NB
        have N37 := NB (37, _) (by k_mem)
        intro t1 h1' tk1 F1 N1 keep1
        have N1b := news_more N1 keep1 N37 (by simp)
        clear NB N37
        k_steps
        intro keep
        rename News h₀ L _ _ => kN
        (try simp only [Array.empty_append] at kN)
        refine' d2i_fin hret ?fr N0 keep kN ?hs n30 nc1 s1 ?h37 ?hc ?d1 ?d2 ?l3 ?l4 ?hv ?hk2
        case fr => k_asm
        case h37 => k_mem
        case hc => k_mem
        case d1 => assumption
        case d2 => assumption
        case hs => (repeat (first | exact List.forall_mem_nil _ | refine List.forall_mem_cons.mpr ⟨by first | exact .inr (by k_mem) | exact .inl (.head _), ?_⟩))
        case l3 => omega
        case l4 => omega
        case hv => exact d2i_end rfl (by omega)
        case hk2 => first | exact .inl rfl | exact .inr (Nat.le_trans hsz' (Nat.le_of_lt (by omega)))
    · intro keep
      rename News h₀ L _ _ => kN
      (try simp only [Array.empty_append] at kN)
      refine' d2i_fin hret ?fr N0 keep kN ?hs n30 nc1 s1 ?h37 ?hc ?d1 ?d2 ?l3 ?l4 ?hv ?hk2
      case fr => k_asm
      case h37 => k_mem
      case hc => k_mem
      case d1 => assumption
      case d2 => assumption
      case hs => (repeat (first | exact List.forall_mem_nil _ | refine List.forall_mem_cons.mpr ⟨by first | exact .inr (by k_mem) | exact .inl (.head _), ?_⟩))
      case l3 => omega
      case l4 => omega
      case hv => exact d2i_nil (by omega)
      case hk2 => first | exact .inl rfl | exact .inr (Nat.le_trans hsz' (Nat.le_of_lt (by omega)))
  · have N0 : News h₀ L s.heap [(l, listOf its.toArray k), (37, tabObj #[rawInt 47, rawInt 4, .ref c2]), (c2, x2)] := cb_drop N (by simp)
    clear N
    refine wpAny_call ?_
    k_dflt (refine' enter_defC ?k1 ?k2 ?k3 ?k4 ?k5 ?kA ?kF ?kK ?k6 ?k7 ?k8 ?k9 ?kB ?kD ?_ ?c2 ?c3 ?c4)
    case kA => exact rfl
    case kF => exact rfl
    case kK => assumption
    case k1 => k_asm
    case k2 => k_asm
    case k3 => k_asm
    case k4 => k_asm
    case k5 => k_asm
    case k6 => k_is
    case k7 => k_is
    case k8 => ktr_room
    case k9 => exact BindsTo.of_eq rfl
    case kB => exact rfl
    case kD => decide +kernel
    case c2 => exact rfl
    case c3 => exact rfl
    case c4 => exact rfl
    intro g' L' h' tk' cells' FG' F' N' Y' B' X' T' l1 hsz'
    have h30 : @LT.lt Nat _ 30 L' := Nat.lt_of_lt_of_le (Heap.lt_size n30.1) hsz'
    k_lt l1
    k_cells Y'
    simp only [List.cons_append, List.nil_append] at N'
    with_reducible show wpAny _ _ _ _ _ _
    k_fold
    k_steps
    · k_dflt (refine' inner2_spec 9 _ _ _ _ _ _ _ _ _ _ _ _ _ _ _ _ _ _ _ _ _ _ _ _ _ _ _ _ _ _ _ _ _ _ _ _ _ n _ _ _ ?b1 ?b2 ?b3 ?b4 ?b5 ?b6 ?b7 ?d1 ?d2 ?d3 ?d4 ?d5 ?b8 ?b9 ?b9b ?b10 ?b11 ?b12 ?b13 hn1 hn8 ?b14 ?b15 ?b16)
      case b1 => k_asm
      case b2 => k_asm
      case b3 => k_asm
      case b4 => assumption
      case b5 => k_asm
      case b6 => exact rfl
      case b7 => exact cb_drop (by k_asm) (by repeat (first | exact List.forall_mem_nil _ | refine List.forall_mem_cons.mpr ⟨by k_mem, ?_⟩))
      case d1 => assumption
      case d2 => assumption
      case d3 => assumption
      case d4 => assumption
      case d5 => assumption
      case b8 => l_ints
      case b9 => exact hdd
      case b9b => exact hlen
      case b10 => omega
      case b11 => omega
      case b12 => omega
      case b13 => omega
      case b14 => ktr_room
      case b15 => ktr_units
      case b16 =>
        rename News _ _ _ _ => NB
        have N37 := NB (37, _) (by k_mem)
        intro t1 h1' tk1 F1 N1 keep1
        have N1b := news_more N1 keep1 N37 (by simp)
        clear NB N37
        k_steps
        intro keep
        rename News h₀ L _ _ => kN
        (try simp only [Array.empty_append] at kN)
        refine' d2i_fin hret ?fr N0 keep kN ?hs n30 nc1 s1 ?h37 ?hc ?d1 ?d2 ?l3 ?l4 ?hv ?hk2
        case fr => k_asm
        case h37 => k_mem
        case hc => k_mem
        case d1 => assumption
        case d2 => assumption
        case hs => (repeat (first | exact List.forall_mem_nil _ | refine List.forall_mem_cons.mpr ⟨by first | exact .inr (by k_mem) | exact .inl (.head _), ?_⟩))
        case l3 => omega
        case l4 => omega
        case hv => exact d2i_end rfl (by omega)
        case hk2 => first | exact .inl rfl | exact .inr (Nat.le_trans hsz' (Nat.le_of_lt (by omega)))
    · intro keep
      rename News h₀ L _ _ => kN
      (try simp only [Array.empty_append] at kN)
      refine' d2i_fin hret ?fr N0 keep kN ?hs n30 nc1 s1 ?h37 ?hc ?d1 ?d2 ?l3 ?l4 ?hv ?hk2
      case fr => k_asm
      case h37 => k_mem
      case hc => k_mem
      case d1 => assumption
      case d2 => assumption
      case hs => (repeat (first | exact List.forall_mem_nil _ | refine List.forall_mem_cons.mpr ⟨by first | exact .inr (by k_mem) | exact .inl (.head _), ?_⟩))
      case l3 => omega
      case l4 => omega
      case hv => exact d2i_nil (by omega)
      case hk2 => first | exact .inl rfl | exact .inr (Nat.le_trans hsz' (Nat.le_of_lt (by omega)))

end Mine
namespace Mine
theorem off_C4 : True := by
  w_top off
  trivial
/-! ## the division -/
theorem spec_fin {h₀ h' : Heap} {L : Addr} {m : Str → Option Value} {s : Shared} {Q : Value → Shared → Prop} {post : Value → List (Addr × Obj) → Prop} {news0 news' new : List (Addr × Obj)} {tk : Nat} {r : Value} {o1 : Obj} {c1 cb1 cb2 : Addr} {x1 o2 : Obj} {c2 : Addr} {x2 : Obj}
    (hret : ∀ r new h' tk' o1' c1' x1' o2' c2' x2', Fr h₀ L h' m → News h₀ L h' (new ++ tbl o1' c1' x1' o2' c2' x2') → S1 o1' c1' x1' → S2 o2' c2' x2' → Kept s.heap.objs.size cb1 c1' → Kept s.heap.objs.size cb2 c2' → (∀ b o, s.heap.get? b = some o → b ∉ [30, 37] → h'.get? b = some o) → (∀ q ∈ new, q.1 ∉ [30, 37] ∧ s.heap.objs.size ≤ q.1) → post r new →
      Q r { s with heap := h', toks := tk' })
    (F : Fr h₀ L h' m) (N0 : News h₀ L s.heap news0) (st : ∀ b o, s.heap.get? b = some o → b ∉ news0.map (·.1) → h'.get? b = some o) (N : News h₀ L h' news') (s1 : S1 o1 c1 x1) (s2 : S2 o2 c2 x2) (hp : post r new)
    (hs : ∀ p ∈ news0, p.1 ∈ [30, 37] ∨ p ∈ news') (hsub : ∀ p ∈ new ++ tbl o1 c1 x1 o2 c2 x2, p ∈ news') (off : ∀ q ∈ new, q.1 ∉ [30, 37] ∧ s.heap.objs.size ≤ q.1) (hk1 : Kept s.heap.objs.size cb1 c1) (hk2 : Kept s.heap.objs.size cb2 c2) :
    Q r { s with heap := h', toks := tk } :=
  hret r new h' tk o1 c1 x1 o2 c2 x2 F (fun p hp => N p (hsub p hp)) s1 s2 hk1 hk2 (keep_of (wr := [30, 37]) N0 st N hs) off hp

/-- a call that needs no table: everything that stood stands -/
noncomputable def Spec0 (w : World) (f : Addr) (vs : List Value) (args : List (Addr × Obj)) (d : Nat) (post : Value → List (Addr × Obj) → Prop) : Prop :=
  ∀ {p : Program} {loose : List Str} {mean : ExcName → Option Value} {mg mb : Str → Option Value} (dp un : Nat) (gd : Option (List Code)) (cn : Str) (cs : Scope) (a : Addr) (ccd : Value) (cl : List (Str × Addr)) (outer : List Env) (A₀ : Around) (base h₀ : Heap) (L : Addr) (m : Str → Option Value) (s : Shared) (Q E : Value → Shared → Prop),
    Below A₀ base outer h₀ → Fr h₀ L s.heap m → (hd.heap_39 w.params).In h₀ → Top p loose mean mg mb h₀ → cs.kind = .function →
    News h₀ L s.heap args → dp + d < recursionLimit → un + 8 * d < cLine →
    (∀ r new h' tk', Fr h₀ L h' m → News h₀ L h' new → (∀ b o, s.heap.get? b = some o → h'.get? b = some o) → (∀ q ∈ new, s.heap.objs.size ≤ q.1) → post r new →
      Q r { s with heap := h', toks := tk' }) →
    wpAny (model PySem.Challenge.rw_ie0010_01.row.prog w) (ktrTop dp un gd cn cs L a ccd cl outer) (call (.ref f) vs) Q E s
theorem Spec0.use {w : World} {f : Addr} {vs : List Value} {args : List (Addr × Obj)} {d : Nat} {post : Value → List (Addr × Obj) → Prop} (C : Spec0 w f vs args d post)
    {p : Program} {loose : List Str} {mean : ExcName → Option Value} {mg mb : Str → Option Value} {dp un : Nat} {gd : Option (List Code)} {cn : Str} {cs : Scope} {a : Addr} {ccd : Value} {cl : List (Str × Addr)} {outer : List Env} {A₀ : Around} {base h₀ : Heap} {L : Addr} {m : Str → Option Value} {s : Shared} {Q E : Value → Shared → Prop}
    {news : List (Addr × Obj)}
    (B : Below A₀ base outer h₀) (F : Fr h₀ L s.heap m) (X : (hd.heap_39 w.params).In h₀) (T : Top p loose mean mg mb h₀) (hk : cs.kind = .function)
    (N : News h₀ L s.heap news) (hsub : ∀ p ∈ args, p ∈ news) (hd : dp + d < recursionLimit) (hu : un + 8 * d < cLine)
    (ret : ∀ r new h' tk', Fr h₀ L h' m → News h₀ L h' (new ++ news) → (∀ q ∈ new, ∀ p ∈ news, p.1 < q.1) → post r new → Q r { s with heap := h', toks := tk' }) :
    wpAny (model PySem.Challenge.rw_ie0010_01.row.prog w) (ktrTop dp un gd cn cs L a ccd cl outer) (call (.ref f) vs) Q E s := by
  refine C dp un gd cn cs a ccd cl outer A₀ base h₀ L m s Q E B F X T hk (fun p hp => N p (hsub p hp)) hd hu ?_
  intro r new h' tk' F' N' keep hq hp
  refine ret r new h' tk' F' (fun p hp => ?_) (fun q hm p hp => Nat.lt_of_lt_of_le (Heap.lt_size (N p hp).1) (hq q hm)) hp
  rcases List.mem_append.mp hp with hp | hp
  · exact N' p hp
  · exact ⟨keep _ _ (N p hp).1, (N p hp).2⟩
theorem spec0_fin {h₀ h' : Heap} {L : Addr} {m : Str → Option Value} {s : Shared} {Q : Value → Shared → Prop} {post : Value → List (Addr × Obj) → Prop} {news0 news' new : List (Addr × Obj)} {tk : Nat} {r : Value}
    (hret : ∀ r new h' tk', Fr h₀ L h' m → News h₀ L h' new → (∀ b o, s.heap.get? b = some o → h'.get? b = some o) → (∀ q ∈ new, s.heap.objs.size ≤ q.1) → post r new →
      Q r { s with heap := h', toks := tk' })
    (F : Fr h₀ L h' m) (N0 : News h₀ L s.heap news0) (st : ∀ b o, s.heap.get? b = some o → b ∉ news0.map (·.1) → h'.get? b = some o) (N : News h₀ L h' news') (hp : post r new)
    (hs : ∀ p ∈ news0, p ∈ news') (hsub : ∀ p ∈ new, p ∈ news') (off : ∀ q ∈ new, s.heap.objs.size ≤ q.1) :
    Q r { s with heap := h', toks := tk } :=
  hret r new h' tk F (fun p hp => N p (hsub p hp)) (fun b o e => keep_of (wr := []) N0 st N (fun p hp => .inr (hs p hp)) b o e (by simp)) off hp

noncomputable abbrev tupOf (vs : List Value) : Obj := { cls := .type "tuple", data := .seq vs.toArray }
noncomputable def pairPost (q r : Int) (v : Value) (new : List (Addr × Obj)) : Prop := ∃ l t u, v = .ref l ∧ new = [(l, tupOf [.int q t, .int r u])]
noncomputable def strPost (x : Str) (r : Value) (new : List (Addr × Obj)) : Prop := ∃ t, r = .str x t ∧ new = []
theorem newTuple_L {M : Model} {A : Around} {E : Value → Shared → Prop} {s : Shared} {h₀ : Heap} {L : Addr} {m : Str → Option Value} {news : List (Addr × Obj)} {vs : List Value} {Q : Value → Shared → Prop} (F : Fr h₀ L s.heap m) (N : News h₀ L s.heap news)
    (h : ∀ D h', Fr h₀ L h' m → News h₀ L h' ((D, tupOf vs) :: news) → (∀ p ∈ news, p.1 < D) → @LT.lt Nat _ L D → Q (.ref D) { s with heap := h' }) (hsz : vs.length ≤ sizeLine := by size_fits) : wpAny M A (newTuple vs) Q E s :=
  newTuple_N F N (fun h' F' N' => h _ h' F' N' (fun p hp => Heap.lt_size (N p hp).1) F.ns.lt) hsz

local macro_rules | `(tactic| walk_at "ite") => `(tactic| (k_here; first
  | (refine ite_pos (by simp only [beq_iff_eq, bne_iff_ne, ne_eq, decide_eq_true_eq]; first | assumption | omega) ?_; walk_say "MINE")
  | (refine ite_neg (by simp only [beq_iff_eq, bne_iff_ne, ne_eq, decide_eq_true_eq]; first | assumption | omega) ?_; walk_say "MINE")))

theorem divmod_K {prog : Program} {w : World} {A : Around} {E : Value → Shared → Prop} {s : Shared} {a b : Int} {t u : Tok} {Q : Value → Shared → Prop} {h₀ : Heap} {L : Addr} {m : Str → Option Value} {news : List (Addr × Obj)} (F : Fr h₀ L s.heap m) (N : News h₀ L s.heap news) (hb : b ≠ 0) (hb2 : b.natAbs < 1073741824)
    (h : ∀ l h', Fr h₀ L h' m → News h₀ L h' ((l, tupOf [.int (a.fdiv b) s.toks, .int (a.fmod b) (s.toks + 1)]) :: news) → (∀ p ∈ news, p.1 < l) → @LT.lt Nat _ L l → Q (.ref l) { s with toks := s.toks + 1 + 1, heap := h' }) :
    wpAny (model prog w) A (call (.builtin "divmod") [.int a t, .int b u]) Q E s :=
  divmod_N F N hb (fun h' F' N' => h _ h' F' N' (fun p hp => Heap.lt_size (N p hp).1) F.ns.lt) (Or.inl (PyProof.noPylong_small hb2))
local macro_rules | `(tactic| walk_at "call builtin:divmod") => `(tactic| (k_here; k_dflt (refine divmod_K (by k_asm) (by k_asm) (by omega) (by omega) ?_); intro l' h' F' N' l1 l2; k_lt l1))

set_option maxHeartbeats 8000000 in
theorem div2n1n_spec {w : World} {a b n : Int} {ta tb tn : Tok} (ha0 : 0 ≤ a) (ha1 : a < 2 ^ 32) (hb : 0 < b) (hb2 : b < 2 ^ 20) (hn : 0 ≤ n) : Spec0 w 21 [.int a ta, .int b tb, .int n tn] [] 2 (pairPost (a.fdiv b) (a.fmod b)) := by
  intro p loose mean mg mb dp un gd cn cs aa ccd cl outer A₀ base h₀ L m s Q E B F X T hk N hdp hun hret
  have hbits : Builtin.Int.intBits a ≤ 32 := intBits_le_iff.mpr (by omega)
  refine wpAny_call ?_
  k_dflt (refine' enter_def ?k1 ?k2 ?k3 ?k4 ?k5 ?kA ?kF ?kK ?k6 ?k7 ?k8 ?k9 ?kB ?_ ?c2 ?c3 ?c4 ?c5)
  case kA => exact rfl
  case kF => exact rfl
  case kK => assumption
  case k1 => k_asm
  case k2 => k_asm
  case k3 => k_asm
  case k4 => k_asm
  case k5 => k_asm
  case k6 => k_is
  case k7 => k_is
  case k8 => ktr_room
  case k9 => exact BindsTo.of_eq rfl
  case c5 => decide
  case kB => exact locs rfl
  case c2 => exact rfl
  case c3 => exact rfl
  case c4 => exact rfl
  intro g' L' h' FG' F' N' B' X' T' l1 hsz'
  k_lt l1
  with_reducible show wpAny _ _ _ _ _ _
  k_fold
  k_steps
  intro keep
  rename News h₀ L _ _ => kN
  refine' spec0_fin hret ?fr N keep kN ⟨_, _, _, rfl, rfl⟩ ?hs ?hsub ?off
  case fr => k_asm
  case hs => (repeat (first | exact List.forall_mem_nil _ | refine List.forall_mem_cons.mpr ⟨by k_mem, ?_⟩))
  case hsub => (repeat (first | exact List.forall_mem_nil _ | refine List.forall_mem_cons.mpr ⟨by k_mem, ?_⟩))
  case off => (repeat (first | exact List.forall_mem_nil _ | refine List.forall_mem_cons.mpr ⟨Nat.le_trans hsz' (Nat.le_of_lt (by omega)), ?_⟩))
end Mine
namespace Mine
/-! ## a loop by what holds of the frame and the ledger at each turn -/
structure Stop (P : Prop) : Prop where
  out : P
theorem stop {P : Prop} (h : Stop P) : P := h.out

noncomputable def TurnEnd (h₀ : Heap) (L : Addr) (s₂ : Shared) (Q : Flow → Shared → Prop) (I : Addr) (io : Obj) (fix : List (Addr × Obj)) (J : (Str → Option Value) → List (Addr × Obj) → Prop) (f : Flow) (s' : Shared) : Prop :=
  match f with
  | .ret v => Q (.ret v) s'
  | .brk => Q .next s'
  | _ => ∃ h' tk' m₂ news₂, s' = { s₂ with heap := h', toks := tk' } ∧ Fr h₀ L h' m₂ ∧ News h₀ L h' ((I, io) :: (fix ++ news₂)) ∧ (∀ p ∈ news₂, p.1 ≠ I) ∧ J m₂ news₂

section
variable {prog : Program} {w : World} {A : Around} {E : Value → Shared → Prop} {s₂ : Shared} {env : Env} {h₀ : Heap} {x : Str} {body : List Stmt} {Q : Flow → Shared → Prop}
theorem loop_led {I : Addr} {fp : List Addr} {n : Nat} {P : Nat → Value → Prop} {St : Nat → Heap → Prop} {m : Str → Option Value} {fix news : List (Addr × Obj)}
    (W : Walks prog w A I fp [I] n P St) (hfp : ∀ b ∈ fp, b = I ∨ ∃ o, (b, o) ∈ fix) (hIL : I ≠ env.locals) (hI0 : h₀.get? I = none) (hlive : ∀ i h, St i h → ∃ io, h.get? I = some io)
    (hst : St 0 s₂.heap) (F : Fr h₀ env.locals s₂.heap m) (N : News h₀ env.locals s₂.heap (fix ++ news)) (hIn : ∀ p ∈ fix ++ news, p.1 ≠ I)
    (J : Nat → (Str → Option Value) → List (Addr × Obj) → Prop) (h0 : J 0 m news)
    (step : ∀ (Q : Flow → Shared → Prop) (s₂ : Shared) i v m₁ news₁ io h tk, i < n → P i v → J i m₁ news₁ → (∀ p ∈ fix ++ news₁, p.1 ≠ I) → Fr h₀ env.locals h (fun y => if y = x then some v else m₁ y) → News h₀ env.locals h ((I, io) :: (fix ++ news₁)) →
      wpAny (model prog w) A (execs body env) (TurnEnd h₀ env.locals s₂ Q I io fix (J (i + 1))) E { s₂ with heap := h, toks := tk })
    (done : ∀ h' tk m' news', Fr h₀ env.locals h' m' → News h₀ env.locals h' (fix ++ news') → J n m' news' → Q .next { s₂ with heap := h', toks := tk }) :
    LoopAtV prog w A h₀ env x body Q E (.ref I) s₂ := by
  refine ⟨I, fp, [I], n, P, St, m, fix ++ news, fun i m' nw => ∃ nw', nw = fix ++ nw' ∧ J i m' nw', rfl, W, ?_, ?_, ?_, hst, F, N, ⟨news, rfl, h0⟩, ?_, ?_⟩
  · intro hm
    rcases hfp _ hm with e | ⟨o, ho⟩
    · exact hIL e.symm
    · exact (N _ (List.mem_append_left _ ho)).2.1 rfl
  · intro b hb
    rw [List.mem_singleton.mp hb]; exact hI0
  · intro p hp hb
    exact hIn p hp (List.mem_singleton.mp hb)
  · rintro i v m₁ news₁ s₁ own ⟨h, tk, rfl⟩ hi hP ⟨nw, rfl, hJ⟩ hoff hsub hget hall hst₁ F₁ N₁
    obtain ⟨io, hio⟩ := hlive _ _ hst₁
    have hne : ∀ p ∈ fix ++ nw, p.1 ≠ I := fun p hp e => hoff p hp (by rw [e]; exact .head _)
    have hown : (I, io) ∈ own := hall I (W.sub I (.head _)) hI0 io hio
    have N₂ : News h₀ env.locals h ((I, io) :: (fix ++ nw)) := fun p hp => by
      rcases List.mem_cons.mp hp with rfl | hp
      · exact N₁ _ (List.mem_append_left _ hown)
      · exact N₁ _ (List.mem_append_right _ hp)
    refine wpAny_mono (step Q s₂ i v m₁ nw io h tk hi hP hJ hne F₁ N₂) (fun f s' hf => ?_) fun _ _ e => e
    have fin : (∃ h' tk' m₂ news₂, s' = { s₂ with heap := h', toks := tk' } ∧ Fr h₀ env.locals h' m₂ ∧ News h₀ env.locals h' ((I, io) :: (fix ++ news₂)) ∧ (∀ p ∈ news₂, p.1 ≠ I) ∧ J (i + 1) m₂ news₂) →
        LoopStepU h₀ env.locals [I] own (fun m' nw => ∃ nw', nw = fix ++ nw' ∧ J (i + 1) m' nw') { s₂ with heap := h, toks := tk } .next s' := by
      rintro ⟨h', tk', m₂, news₂, rfl, F', N', ho', hJ'⟩
      refine ⟨rfl, h', tk', m₂, fix ++ news₂, rfl, F', fun p hp => ?_, fun p hp hb => ?_, ⟨news₂, rfl, hJ'⟩⟩
      · rcases List.mem_append.mp hp with hp | hp
        · have e1 := hget p hp
          rcases hfp _ (hsub p hp) with e | ⟨o, ho⟩
          · have : p = (I, io) := by
              obtain ⟨a, b⟩ := p
              dsimp only at e e1
              subst e
              have e2 : h.get? a = some io := hio
              rw [e1] at e2; cases e2; rfl
            rw [this]; exact N' _ (.head _)
          · have e2 := (N₂ _ (.tail _ (List.mem_append_left _ ho))).1
            have : p = (p.1, o) := by
              obtain ⟨a, b⟩ := p
              dsimp only at e1 e2
              rw [e1] at e2; cases e2; rfl
            rw [this]; exact N' _ (.tail _ (List.mem_append_left _ ho))
        · exact N' _ (.tail _ hp)
      · have e := List.mem_singleton.mp hb
        rcases List.mem_append.mp hp with hp | hp
        · exact hne p (List.mem_append_left _ hp) e
        · exact ho' p hp e
    cases f with
    | ret v => exact .ret hf
    | brk => exact .brk hf
    | next => exact .next (fin hf)
    | cont => exact .cont (fin hf)
  · rintro h' tk m' news' F' N' _ ⟨nw, rfl, hJ⟩
    exact done h' tk m' nw F' N' hJ

/-- over a list of the ledger, from its end (the iterator stands in the ledger) -/
theorem loop_rev {l D : Addr} {vs : List Value} {k : Nat} {m : Str → Option Value} {news : List (Addr × Obj)} (hh : A.handled = none)
    (F : Fr h₀ env.locals s₂.heap m) (N : News h₀ env.locals s₂.heap ((D, revObj l ((vs.length : Int) - 1)) :: (l, listOf vs.toArray k) :: news)) (hD : ∀ p ∈ (l, listOf vs.toArray k) :: news, p.1 < D)
    (J : Nat → (Str → Option Value) → List (Addr × Obj) → Prop) (h0 : J 0 m news)
    (step : ∀ (Q : Flow → Shared → Prop) (s₂ : Shared) i v m₁ news₁ io h tk, i < vs.length → vs[vs.length - 1 - i]? = some v → J i m₁ news₁ → (∀ p ∈ (l, listOf vs.toArray k) :: news₁, p.1 ≠ D) → Fr h₀ env.locals h (fun y => if y = x then some v else m₁ y) → News h₀ env.locals h ((D, io) :: (l, listOf vs.toArray k) :: news₁) →
      wpAny (model prog w) A (execs body env) (TurnEnd h₀ env.locals s₂ Q D io [(l, listOf vs.toArray k)] (J (i + 1))) E { s₂ with heap := h, toks := tk })
    (done : ∀ h' tk m' news', Fr h₀ env.locals h' m' → News h₀ env.locals h' ((l, listOf vs.toArray k) :: news') → J vs.length m' news' → Q .next { s₂ with heap := h', toks := tk }) :
    wpAny (model prog w) A (pyIter (.ref D)) (fun it s₂ => LoopAtV prog w A h₀ env x body Q E it s₂) E s₂ := by
  have n1 := N _ (.head _)
  have n2 := N _ (.tail _ (.head _))
  have hl : s₂.heap.IsList l vs.toArray := ⟨_, n2.1, rfl, k, rfl⟩
  have hit : s₂.heap.IsRevIter D l ((vs.length : Int) - 1) := ⟨_, n1.1, rfl, rfl⟩
  refine wpAny_pyIter_revIter hit ?_
  have hlD := hD _ (.head _)
  have W := Walks.listRev (prog := prog) (w := w) hh D l (Nat.ne_of_lt hlD) vs.toArray
  have hsz : vs.toArray.size = vs.length := by simp
  rw [hsz] at W
  refine loop_led (fix := [(l, listOf vs.toArray k)]) W ?_ n1.2.1 n1.2.2 ?_ ⟨Nat.zero_le _, by simpa using hit, hl⟩ F (fun p hp => N p (.tail _ hp)) (fun p hp => Nat.ne_of_lt (hD p hp)) J h0 ?_ done
  · intro b hb
    simp only [List.mem_cons, List.not_mem_nil, or_false] at hb
    exact hb.imp id fun e => ⟨_, by rw [e]; exact .head _⟩
  · rintro i h ⟨_, ⟨o, ho, _⟩, _⟩
    exact ⟨o, ho⟩
  · intro Q₃ s₃ i v m₁ news₁ io h tk hi hP hJ hne F₁ N₁
    exact step Q₃ s₃ i v m₁ news₁ io h tk hi (by simpa using hP) hJ hne F₁ N₁

/-- over a list of the ledger -/
theorem loop_list {l : Addr} {vs : List Value} {k : Nat} {m : Str → Option Value} {news : List (Addr × Obj)} (hh : A.handled = none)
    (F : Fr h₀ env.locals s₂.heap m) (N : News h₀ env.locals s₂.heap ((l, listOf vs.toArray k) :: news))
    (J : Nat → (Str → Option Value) → List (Addr × Obj) → Prop) (h0 : J 0 m news)
    (step : ∀ (Q : Flow → Shared → Prop) (s₂ : Shared) I i v m₁ news₁ io h tk, i < vs.length → vs[i]? = some v → J i m₁ news₁ → (∀ p ∈ (l, listOf vs.toArray k) :: news, p.1 < I) → (∀ p ∈ (l, listOf vs.toArray k) :: news₁, p.1 ≠ I) → Fr h₀ env.locals h (fun y => if y = x then some v else m₁ y) → News h₀ env.locals h ((I, io) :: (l, listOf vs.toArray k) :: news₁) →
      wpAny (model prog w) A (execs body env) (TurnEnd h₀ env.locals s₂ Q I io [(l, listOf vs.toArray k)] (J (i + 1))) E { s₂ with heap := h, toks := tk })
    (done : ∀ h' tk m' news', Fr h₀ env.locals h' m' → News h₀ env.locals h' ((l, listOf vs.toArray k) :: news') → J vs.length m' news' → Q .next { s₂ with heap := h', toks := tk }) :
    wpAny (model prog w) A (pyIter (.ref l)) (fun it s₂ => LoopAtV prog w A h₀ env x body Q E it s₂) E s₂ := by
  have n2 := N _ (.head _)
  have hl : s₂.heap.IsList l vs.toArray := ⟨_, n2.1, rfl, k, rfl⟩
  refine wpAny_pyIter_list hl ?_
  have hlt : ∀ p ∈ (l, listOf vs.toArray k) :: news, p.1 < s₂.heap.objs.size := fun p hp => Heap.lt_size (N p hp).1
  have W := Walks.list (prog := prog) (w := w) hh s₂.heap.objs.size l (Nat.ne_of_lt (hlt _ (.head _))) vs.toArray
  have hsz : vs.toArray.size = vs.length := by simp
  rw [hsz] at W
  refine loop_led (s₂ := { s₂ with heap := _ }) (fix := [(l, listOf vs.toArray k)]) W ?_ (Nat.ne_of_gt F.ns.lt) (next_is_new F) ?_ ⟨⟨_, Heap.get?_push_size _ rfl, rfl, rfl⟩, hl.at fun o e => Heap.get?_push_of_some _ e⟩ (F.push _)
    (fun p hp => ⟨Heap.get?_push_of_some _ (N p hp).1, (N p hp).2⟩) (fun p hp => Nat.ne_of_lt (hlt p hp)) J h0 ?_ done
  · intro b hb
    simp only [List.mem_cons, List.not_mem_nil, or_false] at hb
    exact hb.imp id fun e => ⟨_, by rw [e]; exact .head _⟩
  · rintro i h ⟨⟨o, ho, _⟩, _⟩
    exact ⟨o, ho⟩
  · intro Q₃ s₃ i v m₁ news₁ io h tk hi hP hJ hne F₁ N₁
    exact step Q₃ s₃ _ i v m₁ news₁ io h tk hi (by simpa using hP) hJ hlt hne F₁ N₁
end
/-- a predicate by a letter of its own: the goals of the walk stay small -/
theorem hide {α β γ : Type} (P : α → β → γ → Prop) : ∃ J : α → β → γ → Prop, ∀ i m nw, J i m nw ↔ P i m nw := ⟨P, fun _ _ _ => Iff.rfl⟩
theorem hide1 {γ : Type} (P : γ → Prop) : ∃ J : γ → Prop, ∀ nw, J nw ↔ P nw := ⟨P, fun _ => Iff.rfl⟩
theorem hide2 {β γ : Type} (P : β → γ → Prop) : ∃ J : β → γ → Prop, ∀ m nw, J m nw ↔ P m nw := ⟨P, fun _ _ => Iff.rfl⟩
theorem fr_name {h₀ h : Heap} {L : Addr} {m : Str → Option Value} (F : Fr h₀ L h m) : ∃ m0, m0 = m ∧ Fr h₀ L h m0 := ⟨m, rfl, F⟩
theorem map1 {m1 m0 : Str → Option Value} {a1 : Str} {u1 : Option Value} (h1 : m1 a1 = u1) (hm : ∀ z, z ≠ a1 → m1 z = m0 z) : m1 = fun z => if z = a1 then u1 else m0 z := by
  funext z
  by_cases z1 : z = a1
  · rw [if_pos z1, z1]; exact h1
  · rw [if_neg z1]
    exact hm z z1
theorem map2 {m1 m0 : Str → Option Value} {a1 a2 : Str} {u1 u2 : Option Value} (h1 : m1 a1 = u1) (h2 : m1 a2 = u2) (hm : ∀ z, z ≠ a1 → z ≠ a2 → m1 z = m0 z) : m1 = fun z => if z = a1 then u1 else if z = a2 then u2 else m0 z := by
  funext z
  by_cases z1 : z = a1
  · rw [if_pos z1, z1]; exact h1
  · rw [if_neg z1]
    by_cases z2 : z = a2
    · rw [if_pos z2, z2]; exact h2
    · rw [if_neg z2]
      exact hm z z1 z2
theorem map3 {m1 m0 : Str → Option Value} {a1 a2 a3 : Str} {u1 u2 u3 : Option Value} (h1 : m1 a1 = u1) (h2 : m1 a2 = u2) (h3 : m1 a3 = u3) (hm : ∀ z, z ≠ a1 → z ≠ a2 → z ≠ a3 → m1 z = m0 z) : m1 = fun z => if z = a1 then u1 else if z = a2 then u2 else if z = a3 then u3 else m0 z := by
  funext z
  by_cases z1 : z = a1
  · rw [if_pos z1, z1]; exact h1
  · rw [if_neg z1]
    by_cases z2 : z = a2
    · rw [if_pos z2, z2]; exact h2
    · rw [if_neg z2]
      by_cases z3 : z = a3
      · rw [if_pos z3, z3]; exact h3
      · rw [if_neg z3]
        exact hm z z1 z2 z3
theorem map4 {m1 m0 : Str → Option Value} {a1 a2 a3 a4 : Str} {u1 u2 u3 u4 : Option Value} (h1 : m1 a1 = u1) (h2 : m1 a2 = u2) (h3 : m1 a3 = u3) (h4 : m1 a4 = u4) (hm : ∀ z, z ≠ a1 → z ≠ a2 → z ≠ a3 → z ≠ a4 → m1 z = m0 z) : m1 = fun z => if z = a1 then u1 else if z = a2 then u2 else if z = a3 then u3 else if z = a4 then u4 else m0 z := by
  funext z
  by_cases z1 : z = a1
  · rw [if_pos z1, z1]; exact h1
  · rw [if_neg z1]
    by_cases z2 : z = a2
    · rw [if_pos z2, z2]; exact h2
    · rw [if_neg z2]
      by_cases z3 : z = a3
      · rw [if_pos z3, z3]; exact h3
      · rw [if_neg z3]
        by_cases z4 : z = a4
        · rw [if_pos z4, z4]; exact h4
        · rw [if_neg z4]
          exact hm z z1 z2 z3 z4
theorem map6 {m1 m0 : Str → Option Value} {a1 a2 a3 a4 a5 a6 : Str} {u1 u2 u3 u4 u5 u6 : Option Value} (h1 : m1 a1 = u1) (h2 : m1 a2 = u2) (h3 : m1 a3 = u3) (h4 : m1 a4 = u4) (h5 : m1 a5 = u5) (h6 : m1 a6 = u6) (hm : ∀ z, z ≠ a1 → z ≠ a2 → z ≠ a3 → z ≠ a4 → z ≠ a5 → z ≠ a6 → m1 z = m0 z) : m1 = fun z => if z = a1 then u1 else if z = a2 then u2 else if z = a3 then u3 else if z = a4 then u4 else if z = a5 then u5 else if z = a6 then u6 else m0 z := by
  funext z
  by_cases z1 : z = a1
  · rw [if_pos z1, z1]; exact h1
  · rw [if_neg z1]
    by_cases z2 : z = a2
    · rw [if_pos z2, z2]; exact h2
    · rw [if_neg z2]
      by_cases z3 : z = a3
      · rw [if_pos z3, z3]; exact h3
      · rw [if_neg z3]
        by_cases z4 : z = a4
        · rw [if_pos z4, z4]; exact h4
        · rw [if_neg z4]
          by_cases z5 : z = a5
          · rw [if_pos z5, z5]; exact h5
          · rw [if_neg z5]
            by_cases z6 : z = a6
            · rw [if_pos z6, z6]; exact h6
            · rw [if_neg z6]
              exact hm z z1 z2 z3 z4 z5 z6
end Mine
namespace Mine
local macro_rules | `(tactic| walk_at "use mems") => `(tactic| (((try simp only [List.cons_append, List.nil_append]); repeat (first | exact List.forall_mem_nil _ | refine List.forall_mem_cons.mpr ⟨by k_mem, ?_⟩))))
local macro_rules | `(tactic| walk_at "use rest") => `(tactic| ((repeat (first | exact RestOf.nil | (apply RestOf.keep; with_reducible assumption) | with_reducible apply RestOf.drop30 | with_reducible apply RestOf.drop37 | apply RestOf.drop))))
local macro_rules | `(tactic| walk_at "use side") => `(tactic| (first | with_reducible assumption | omega | assumption | exact ne_off (by k_ne) (by k_ne)))
local macro_rules | `(tactic| walk_at "use tail") => `(tactic| (intro r9 new9 h9 tk9 o19 c19 x19 o29 c29 x29 F9 N9 s19 s29 mv19 mv29 off9 post9; (first | ((first | (unfold i2dPost at post9; obtain ⟨l9, its9, k9, e91, e92, hi9⟩ := post9) | (unfold pairPost at post9; obtain ⟨l9, t9, u9, e91, e92⟩ := post9)); subst e91; subst e92; (have ne91 := ne_off s19.ne.1 s19.ne.2); (have ne92 := ne_off s29.ne.1 s29.ne.2); (have ne93 := (off9 _ List.mem_cons_self).1); (have lt91 := (off9 _ List.mem_cons_self).2.1); (have lt92 := (off9 _ List.mem_cons_self).2.2); (try dsimp only at ne93); (try dsimp only at lt92); clear off9; k_lt lt91) | ((try unfold strPost at post9); (try unfold d2iPost at post9); obtain ⟨t9, e91, e92⟩ := post9; subst e91; subst e92; (have ne91 := ne_off s19.ne.1 s19.ne.2); (have ne92 := ne_off s29.ne.1 s29.ne.2); clear off9)); (try simp only [List.cons_append, List.nil_append] at N9); (try k_sweep); (try dsimp only); (try k_fold)))
local macro_rules | `(tactic| walk_at "use tail0") => `(tactic| (intro r9 new9 h9 tk9 F9 N9 off9 post9; (first | (unfold pairPost at post9; obtain ⟨l9, t9, u9, e91, e92⟩ := post9; subst e91; subst e92; (have lt91 := (off9 _ List.mem_cons_self)); clear off9; k_lt lt91) | (obtain ⟨t9, e91, e92⟩ := post9; subst e91; subst e92; clear off9)); (try simp only [List.cons_append, List.nil_append] at N9); (try k_sweep); (try dsimp only); (try k_fold)))
local macro_rules | `(tactic| walk_at "use call") => `(tactic| ((with_reducible show wpAny _ _ (call (Value.ref _) _) _ _ _); k_dflt (refine' Spec.use ?C ?B ?F ?X ?C1 ?C2 ?T ?hk ?N ?s1 ?s2 ?sub ?d ?u ?r ?_; (case' C => walk_at "use spec"); (case B => k_asm); (case F => k_asm); (case X => k_asm); (case C1 => assumption); (case C2 => assumption); (case T => k_asm); (case hk => exact rfl); (case N => k_asm); (case s1 => assumption); (case s2 => assumption); (case sub => walk_at "use mems"); (case d => ktr_room); (case u => ktr_units); (case r => walk_at "use rest")); k_whole; walk_at "use tail"))
local macro_rules | `(tactic| walk_at "use call0") => `(tactic| ((with_reducible show wpAny _ _ (call (Value.ref _) _) _ _ _); k_dflt (refine' Spec0.use ?C ?B ?F ?X ?T ?hk ?N ?sub ?d ?u ?_; (case' C => walk_at "use spec0"); (case B => k_asm); (case F => k_asm); (case X => k_asm); (case T => k_asm); (case hk => exact rfl); (case N => k_asm); (case sub => walk_at "use mems"); (case d => ktr_room); (case u => ktr_units)); k_whole; walk_at "use tail0"))
local macro_rules | `(tactic| walk_at "call ref") => `(tactic| (k_here; walk_at "use call"))
local macro_rules | `(tactic| walk_at "call ref") => `(tactic| (k_here; walk_at "use call0"))
section
theorem off_C5 : True := by
  w_top off
  trivial
/-! ## _divmod_pos, int_divmod -/
/-- one turn of the long division -/
noncomputable def dstep (b n : Int) (st : Int × List Int) (d : Int) : Int × List Int := ((st.1 * 2 ^ n.toNat + d).fmod b, st.2 ++ [(st.1 * 2 ^ n.toNat + d).fdiv b])
noncomputable def dfold (a b : Int) : Int × List Int := (i2d a (Builtin.Int.intBits b)).reverse.foldl (dstep b (Builtin.Int.intBits b)) (0, [])
noncomputable def dst (a b : Int) (i : Nat) : Int × List Int := ((i2d a (Builtin.Int.intBits b)).reverse.take i).foldl (dstep b (Builtin.Int.intBits b)) (0, [])
noncomputable def dquo (a b : Int) : Int := d2i (dfold a b).2.reverse (Builtin.Int.intBits b)
noncomputable def drem (a b : Int) : Int := (dfold a b).1
theorem dstep_facts {b r d : Int} {n : Nat} (hb : 0 < b) (hb2 : b < 128) (hn : n ≤ 7) (hr0 : 0 ≤ r) (hr1 : r < b) (hd0 : 0 ≤ d) (hd1 : d < 2 ^ n) :
    0 ≤ r * 2 ^ ((n : Nat) : Int).toNat + d ∧ r * 2 ^ ((n : Nat) : Int).toNat + d < 2 ^ 32 ∧ 0 ≤ (r * 2 ^ ((n : Nat) : Int).toNat + d).fdiv b ∧ (r * 2 ^ ((n : Nat) : Int).toNat + d).fdiv b < 256 ∧ 0 ≤ (r * 2 ^ ((n : Nat) : Int).toNat + d).fmod b ∧ (r * 2 ^ ((n : Nat) : Int).toNat + d).fmod b < b := by
  rw [Int.toNat_natCast]
  have hp : (0 : Int) < 2 ^ n := kbt_pos n
  have hp2 : (2 : Int) ^ n ≤ 128 := by
    rw [← kbt_cast, show (128 : Int) = ((2 ^ 7 : Nat) : Int) from rfl]
    exact Int.ofNat_le.mpr (Nat.pow_le_pow_right (by decide) hn)
  generalize (2 : Int) ^ n = P at *
  have m0 : 0 ≤ r * P := Int.mul_nonneg hr0 (by omega)
  have m1 : r * P ≤ (b - 1) * P := Int.mul_le_mul_of_nonneg_right (by omega) (by omega)
  have m2 : (b - 1) * P ≤ 127 * 128 := Int.mul_le_mul (by omega) hp2 (by omega) (by decide)
  have m3 : b * P = (b - 1) * P + P := by rw [Int.sub_mul]; omega
  rw [Int.fdiv_eq_ediv_of_nonneg _ (by omega), Int.fmod_eq_emod_of_nonneg _ (by omega)]
  have q0 : 0 ≤ (r * P + d) / b := Int.ediv_nonneg (by omega) (by omega)
  have q1 : (r * P + d) / b < P := Int.ediv_lt_of_lt_mul hb (by rw [Int.mul_comm P b]; omega)
  exact ⟨by omega, by omega, q0, by omega, Int.emod_nonneg _ (by omega), Int.emod_lt_of_pos _ hb⟩
theorem dfold_step {ns : List Int} {i : Nat} {d : Int} {b n : Int} {z : Int × List Int} (h : ns[ns.length - 1 - i]? = some d) (hi : i < ns.length) :
    (ns.reverse.take (i + 1)).foldl (dstep b n) z = dstep b n ((ns.reverse.take i).foldl (dstep b n) z) d := by
  have e : ns.reverse[i]? = some d := by rw [List.getElem?_reverse hi]; exact h
  rw [List.take_add_one, e, List.foldl_append]; rfl
theorem dst_step {a b : Int} {i : Nat} {d : Int} (h : (i2d a (Builtin.Int.intBits b))[(i2d a (Builtin.Int.intBits b)).length - 1 - i]? = some d) (hi : i < (i2d a (Builtin.Int.intBits b)).length) : dst a b (i + 1) = dstep b (Builtin.Int.intBits b) (dst a b i) d :=
  dfold_step h hi
theorem dst_all {a b : Int} {k : Nat} (h : k = (i2d a (Builtin.Int.intBits b)).length) : dst a b k = dfold a b := by
  subst h
  unfold dst dfold
  rw [List.take_of_length_le (by rw [List.length_reverse]; exact Nat.le_refl _)]
theorem ints_rev {vs : List Value} {ns : List Int} (h : IntsAre vs ns) : IntsAre vs.reverse ns.reverse := by
  induction h with
  | nil => exact .nil
  | cons n t h ih => rw [List.reverse_cons, List.reverse_cons]; exact IntsAre.append ih (.cons n t .nil)
theorem rev_list {prog : Program} {w : World} {A : Around} {E : Value → Shared → Prop} {s : Shared} {h₀ : Heap} {L D : Addr} {m : Str → Option Value} {news news' : List (Addr × Obj)} {its : List Value} {n : Nat} {Q : Value → Shared → Prop} (F : Fr h₀ L s.heap m) (N : News h₀ L s.heap news)
    (U : Upd D (listOf its.toArray n) (listOf its.reverse.toArray n) news news') (hz : its.length ≤ 1000) (h : ∀ h', Fr h₀ L h' m → News h₀ L h' news' → Q .none { s with heap := h' }) : wpAny (model prog w) A (call (.builtin "list.reverse") [.ref D]) Q E s :=
  kl_reverse F N rfl U (by rw [sizeLine_eq]; exact Nat.le_trans hz (by decide)) h
theorem ints_mem {vs : List Value} {ns : List Int} (h : IntsAre vs ns) {i : Nat} {v : Value} (e : vs[i]? = some v) : ∃ d t, v = .int d t ∧ ns[i]? = some d ∧ d ∈ ns := by
  have hl := h.length
  have hi : i < ns.length := by rw [← hl]; exact (List.getElem?_eq_some_iff.mp e).1
  obtain ⟨t, ht⟩ := h.get i ns[i] (by simp [hi])
  rw [ht] at e
  cases e
  exact ⟨_, t, rfl, by simp [hi], List.getElem_mem hi⟩

local macro_rules | `(tactic| walk_at "ite") => `(tactic| (k_here; first | (refine ite_pos (by simp only [beq_iff_eq, bne_iff_ne, ne_eq, decide_eq_true_eq]; first | assumption | omega) ?_; walk_say "MINE") | (refine ite_neg (by simp only [beq_iff_eq, bne_iff_ne, ne_eq, decide_eq_true_eq]; first | assumption | omega) ?_; walk_say "MINE")))

local macro_rules | `(tactic| walk_at "newTuple") => `(tactic| (k_here; k_dflt (refine' newTuple_L ?F ?N ?_; (case F => k_asm); (case N => k_asm); k_whole); intro l' h' F' N' l1 l2; (try k_lt l1); (try k_sweep)))

local macro_rules | `(tactic| walk_at "use spec") => `(tactic| ((with_reducible show Spec _ 35 _ _ _ _); refine' int2digits_spec (by walk_at "use side") (by walk_at "use side") (by walk_at "use side") (by walk_at "use side")))

local macro_rules | `(tactic| walk_at "use spec") => `(tactic| ((with_reducible show Spec _ 42 _ _ _ _); refine' digits2int_spec (by walk_at "use side") (by walk_at "use side") (by walk_at "use side") (by walk_at "use side") (by walk_at "use side") (by walk_at "use side")))

local macro_rules | `(tactic| walk_at "use spec0") => `(tactic| ((with_reducible show Spec0 _ 21 _ _ _ _); refine' div2n1n_spec (by walk_at "use side") (by walk_at "use side") (by walk_at "use side") (by walk_at "use side") (by walk_at "use side")))

local macro_rules | `(tactic| walk_at "pyIter ref") => `(tactic| (k_here; refine stop ?_))
local macro_rules | `(tactic| walk_at "binaryOp LShift int int") => `(tactic| (k_here; refine' lsh_64 ?b ?c ?d ?f ?_; (case b => omega); (case c => omega); (case d => omega); (case f => omega)))

local macro_rules | `(tactic| walk_at "call builtin:list.reverse") => `(tactic| (k_here; k_dflt (refine' rev_list ?F ?N ?U ?z ?_; (case F => k_asm); (case N => k_asm); (case U => k_upd); (case z => omega)); intro h' F' N'; (try k_sweep)))

inductive Inv5 (a b : Int) (m0 : Str → Option Value) (q : Addr) (rest : List (Addr × Obj)) (i : Nat) (m' : Str → Option Value) (nw : List (Addr × Obj)) : Prop
  | mk (r : Int) (t : Tok) (its : List Value) (k : Nat) (hr : m' ("r" : Str) = some (.int r t)) (hm : ∀ z : Str, z ≠ "r" → z ≠ "q_digit" → z ≠ "a_digit" → m' z = m0 z) (hn : nw = (q, listOf its.toArray k) :: rest) (hI : IntsAre its (dst a b i).2) (hr2 : r = (dst a b i).1) (hr0 : 0 ≤ r) (hr1 : r < b) (hq : ∀ d ∈ (dst a b i).2, 0 ≤ d ∧ d < 256) (hql : (dst a b i).2.length = i) : Inv5 a b m0 q rest i m' nw
set_option maxHeartbeats 8000000 in
theorem divmod_pos_spec {w : World} {a b : Int} {ta tb : Tok} (ha0 : 0 ≤ a) (ha1 : a < 2 ^ 32) (hb : 0 < b) (hb2 : b < 128) (hd : ∀ d ∈ i2d a (Builtin.Int.intBits b), 0 ≤ d ∧ d < 2 ^ (Builtin.Int.intBits b)) (hlen : (i2d a (Builtin.Int.intBits b)).length ≤ 8) :
    Spec w 49 [.int a ta, .int b tb] [] 60 (pairPost (dquo a b) (drem a b)) := by
  intro p loose mean mg mb dp un gd cn cs aa ccd cl outer A₀ base h₀ L m s Q E o1 c1 x1 o2 c2 x2 B F X C1 C2 T hk N s1 s2 hdp hun hret
  (try simp only [List.cons_append, List.nil_append] at N)
  have hne1 := s1.1
  have hne2 := s2.1
  have hbits : Builtin.Int.intBits b ≤ 7 := intBits_le_iff.mpr (by omega)
  have hbits1 : 1 ≤ Builtin.Int.intBits b := by
    rcases Nat.eq_zero_or_pos (Builtin.Int.intBits b) with e | e
    · have := (intBits_le_iff (m := 0) (x := b)).mp (by omega); simp at this; omega
    · exact e
  refine wpAny_call ?_
  k_dflt (refine' enter_def ?k1 ?k2 ?k3 ?k4 ?k5 ?kA ?kF ?kK ?k6 ?k7 ?k8 ?k9 ?kB ?_ ?c2 ?c3 ?c4 ?c5)
  case kA => exact rfl
  case kF => exact rfl
  case kK => assumption
  case k1 => k_asm
  case k2 => k_asm
  case k3 => k_asm
  case k4 => k_asm
  case k5 => k_asm
  case k6 => k_is
  case k7 => k_is
  case k8 => ktr_room
  case k9 => first | exact BindsTo.of_eq rfl | exact binds_K (by k_in) rfl (by k_is) rfl rfl rfl | exact binds_KW (by k_in) rfl (by k_is) rfl (by exact rfl) (by exact rfl) (by k_is) (by exact rfl)
  case c5 => decide
  case kB => exact locs rfl
  case c2 => exact rfl
  case c3 => exact rfl
  case c4 => exact rfl
  intro g' L' h' FG' F' N' B' X' T' l1 hsz'
  k_lt l1
  with_reducible show wpAny _ _ _ _ _ _
  k_fold
  k_steps
  rename_i h9 tk9 o19 c19 x19 o29 c29 x29 s19 s29 mv19 mv29 l9 its9 k9 hi9 ne91 ne92 ne93 lt91 lt92 h4 tk4 h3 q h2 ltq h1 D hD F9 N9 ltD
  refine ⟨?_⟩
  have hll := hi9.length
  obtain ⟨m0, hm0, F0⟩ := fr_name F9
  obtain ⟨J, hJ⟩ := hide (Inv5 a b m0 q [(30, o19), (c19, x19), (37, o29), (c29, x29), (c1, x1), (c2, x2)])
  k_dflt (refine' loop_rev (l := l9) (vs := its9) (k := k9) (news := [(q, listOf [].toArray 0), (30, o19), (c19, x19), (37, o29), (c29, x29), (c1, x1), (c2, x2)]) ?hh F0 ?N ?hD J ?h0 ?step ?done)
  case hh => exact rfl
  case N => exact cb_drop N9 (by (repeat (first | exact List.forall_mem_nil _ | refine List.forall_mem_cons.mpr ⟨by k_mem, ?_⟩)))
  case hD => (refine List.forall_mem_cons.mpr ⟨by (refine ltN ?_; dsimp only; omega), ?_⟩; repeat (first | exact List.forall_mem_nil _ | refine List.forall_mem_cons.mpr ⟨by (refine ltN ?_; dsimp only; omega), ?_⟩))
  case h0 => exact (hJ _ _ _).mpr ⟨0, _, [], 0, by subst hm0; rfl, fun _ _ _ _ => rfl, rfl, .nil, rfl, by omega, hb, fun d hd => (nomatch hd), rfl⟩
  case step =>
    intro Q5 s5 i v m1 news1 io h tk5 hi hv hj hne F1 N1
    obtain ⟨r, t, its, k, hr, hm, rfl, hI, hr2, hr0, hr1, hq, hql⟩ := (hJ _ _ _).mp hj
    clear hj
    obtain ⟨d, td, rfl, hd1, hd2⟩ := ints_mem hi9 hv
    obtain ⟨d0, d1⟩ := hd d hd2
    obtain ⟨g0, g1, g2, g3, g4, g5⟩ := dstep_facts hb hb2 hbits hr0 hr1 d0 d1
    have em := map3 (a1 := "r") (a2 := "q_digit") (a3 := "a_digit") hr rfl rfl hm
    generalize m1 ("q_digit" : Str) = u1 at em
    generalize m1 ("a_digit" : Str) = u2 at em
    subst em
    subst hm0
    with_reducible show wpAny _ _ _ _ _ _
    k_fold
    k_steps
    rename_i h9b tk9b l9b tq tr lt9b h3b h2b h1b tkb h0b FE NE
    simp only [List.push_toArray] at NE
    rw [hll] at hd1 hi
    have hst := dst_step (b := b) hd1 hi
    subst hr2
    refine' ⟨_, _, _, [(q, listOf (its ++ [Value.int (((dst a b i).1 * 2 ^ ((Builtin.Int.intBits b : Nat) : Int).toNat + d).fdiv b) tq]).toArray (k + 1)), (30, o19), (c19, x19), (37, o29), (c29, x29), (c1, x1), (c2, x2)], rfl, ?fr, cb_drop NE ?sub, ?ne, (hJ _ _ _).mpr ⟨_, _, its ++ [Value.int (((dst a b i).1 * 2 ^ ((Builtin.Int.intBits b : Nat) : Int).toNat + d).fdiv b) tq], k + 1, ?jr, ?same, rfl, ?ii, ?ra, ?rb, ?rc, ?rd, ?re⟩⟩
    case fr => k_asm
    case jr => exact rfl
    case sub => ((try simp only [List.cons_append, List.nil_append]); repeat (first | exact List.forall_mem_nil _ | refine List.forall_mem_cons.mpr ⟨by k_mem, ?_⟩))
    case ne => repeat (first | exact List.forall_mem_nil _ | refine List.forall_mem_cons.mpr ⟨by k_ne, ?_⟩)
    case same => (intro z z1 z2 z3; simp [z1, z2, z3])
    case ii =>
      rw [hst]
      exact IntsAre.append hI (.cons _ _ .nil)
    case ra => rw [hst]; rfl
    case rb => exact g4
    case rc => exact g5
    case rd =>
      rw [hst]
      intro e he
      rcases List.mem_append.mp he with he | he
      · exact hq e he
      · rw [List.mem_singleton.mp he]; exact ⟨g2, g3⟩
    case re => rw [hst]; simp only [dstep, List.length_append, List.length_cons, List.length_nil]; omega
  case done =>
    intro h tk5 m1 news1 F1 N1 hj
    obtain ⟨r, t, its, k, hr, hm, rfl, hI, hr2, hr0, hr1, hq, hql⟩ := (hJ _ _ _).mp hj
    clear hj
    have em := map3 (a1 := "r") (a2 := "q_digit") (a3 := "a_digit") hr rfl rfl hm
    generalize m1 ("q_digit" : Str) = u1 at em
    generalize m1 ("a_digit" : Str) = u2 at em
    subst em
    subst hm0
    (try simp only [List.cons_append, List.nil_append] at N1)
    have hfull := dst_all (a := a) (b := b) hll
    rw [hfull] at hI hr2 hq hql
    subst hr2
    have hl2 := hI.length
    have hIr := ints_rev hI
    have hqr : ∀ d ∈ (dfold a b).2.reverse, 0 ≤ d ∧ d < 256 := fun d hd => hq d (List.mem_reverse.mp hd)
    have hlr := List.length_reverse (as := (dfold a b).2)
    have hq37 : q ∉ [30, 37] := ne_off (by omega) (by omega)
    k_steps
    intro keep
    rename News h₀ L _ _ => kN
    refine' spec_fin (new := [(_, tupOf [_, _])]) hret ?fr N keep kN ?s1 ?s2 ?post ?hs ?hsub ?off ?hk1 ?hk2
    case s1 => assumption
    case s2 => assumption
    case hsub => ((try simp only [List.cons_append, List.nil_append]); repeat (first | exact List.forall_mem_nil _ | refine List.forall_mem_cons.mpr ⟨by k_mem, ?_⟩))
    case post => exact ⟨_, _, _, rfl, rfl⟩
    case hk1 => (repeat (first | exact Kept.refl _ _ | refine Moved.kept (by assumption) hsz' ?_))
    case hk2 => (repeat (first | exact Kept.refl _ _ | refine Moved.kept (by assumption) hsz' ?_))
    case fr => k_asm
    case hs => (repeat (first | exact List.forall_mem_nil _ | refine List.forall_mem_cons.mpr ⟨by first | exact .inr (by k_mem) | exact .inl (.head _) | exact .inl (.tail _ (.head _)), ?_⟩))
    case off => (repeat (first | exact List.forall_mem_nil _ | refine List.forall_mem_cons.mpr ⟨⟨ne_off (by dsimp only; omega) (by dsimp only; omega), Nat.le_trans hsz' (Nat.le_of_lt (by dsimp only; omega))⟩, ?_⟩))
end
section
theorem off_C6 : True := by
  w_top off
  trivial
local macro_rules | `(tactic| walk_at "ite") => `(tactic| (k_here; first | (refine ite_pos (by simp only [beq_iff_eq, bne_iff_ne, ne_eq, decide_eq_true_eq]; first | assumption | omega) ?_; walk_say "MINE") | (refine ite_neg (by simp only [beq_iff_eq, bne_iff_ne, ne_eq, decide_eq_true_eq]; first | assumption | omega) ?_; walk_say "MINE")))

local macro_rules | `(tactic| walk_at "use spec") => `(tactic| ((with_reducible show Spec _ 49 _ _ _ _); refine' divmod_pos_spec (by walk_at "use side") (by walk_at "use side") (by walk_at "use side") (by walk_at "use side") (by walk_at "use side") (by walk_at "use side")))


set_option maxHeartbeats 8000000 in
theorem int_divmod_spec {w : World} {a b : Int} {ta tb : Tok} (ha0 : 0 ≤ a) (ha1 : a < 2 ^ 32) (hb : 0 < b) (hb2 : b < 128) (hd : ∀ d ∈ i2d a (Builtin.Int.intBits b), 0 ≤ d ∧ d < 2 ^ (Builtin.Int.intBits b)) (hlen : (i2d a (Builtin.Int.intBits b)).length ≤ 8) :
    Spec w 56 [.int a ta, .int b tb] [] 64 (pairPost (dquo a b) (drem a b)) := by
  intro p loose mean mg mb dp un gd cn cs aa ccd cl outer A₀ base h₀ L m s Q E o1 c1 x1 o2 c2 x2 B F X C1 C2 T hk N s1 s2 hdp hun hret
  (try simp only [List.cons_append, List.nil_append] at N)
  have hne1 := s1.1
  have hne2 := s2.1
  refine wpAny_call ?_
  k_dflt (refine' enter_def ?k1 ?k2 ?k3 ?k4 ?k5 ?kA ?kF ?kK ?k6 ?k7 ?k8 ?k9 ?kB ?_ ?c2 ?c3 ?c4 ?c5)
  case kA => exact rfl
  case kF => exact rfl
  case kK => assumption
  case k1 => k_asm
  case k2 => k_asm
  case k3 => k_asm
  case k4 => k_asm
  case k5 => k_asm
  case k6 => k_is
  case k7 => k_is
  case k8 => ktr_room
  case k9 => first | exact BindsTo.of_eq rfl | exact binds_K (by k_in) rfl (by k_is) rfl rfl rfl | exact binds_KW (by k_in) rfl (by k_is) rfl (by exact rfl) (by exact rfl) (by k_is) (by exact rfl)
  case c5 => decide
  case kB => exact locs rfl
  case c2 => exact rfl
  case c3 => exact rfl
  case c4 => exact rfl
  intro g' L' h' FG' F' N' B' X' T' l1 hsz'
  k_lt l1
  with_reducible show wpAny _ _ _ _ _ _
  k_fold
  k_steps
  intro keep
  rename News h₀ L _ _ => kN
  refine' spec_fin (new := [(_, tupOf [_, _])]) hret ?fr N keep kN ?s1 ?s2 ?post ?hs ?hsub ?off ?hk1 ?hk2
  case s1 => assumption
  case s2 => assumption
  case hsub => ((try simp only [List.cons_append, List.nil_append]); repeat (first | exact List.forall_mem_nil _ | refine List.forall_mem_cons.mpr ⟨by k_mem, ?_⟩))
  case post => exact ⟨_, _, _, rfl, rfl⟩
  case hk1 => (repeat (first | exact Kept.refl _ _ | refine Moved.kept (by assumption) hsz' ?_))
  case hk2 => (repeat (first | exact Kept.refl _ _ | refine Moved.kept (by assumption) hsz' ?_))
  case fr => k_asm
  case hs => (repeat (first | exact List.forall_mem_nil _ | refine List.forall_mem_cons.mpr ⟨by first | exact .inr (by k_mem) | exact .inl (.head _) | exact .inl (.tail _ (.head _)), ?_⟩))
  case off => (repeat (first | exact List.forall_mem_nil _ | refine List.forall_mem_cons.mpr ⟨⟨ne_off (by dsimp only; omega) (by dsimp only; omega), Nat.le_trans hsz' (Nat.le_of_lt (by dsimp only; omega))⟩, ?_⟩))
end
local macro_rules | `(tactic| walk_at "ite") => `(tactic| (k_here; first | (refine ite_pos (by simp only [beq_iff_eq, bne_iff_ne, ne_eq, decide_eq_true_eq]; first | assumption | omega) ?_; walk_say "MINE") | (refine ite_neg (by simp only [beq_iff_eq, bne_iff_ne, ne_eq, decide_eq_true_eq]; first | assumption | omega) ?_; walk_say "MINE")))
local macro_rules | `(tactic| walk_at "exec While") => `(tactic| (refine stop ?_; walk_say "MINE"))
local macro_rules | `(tactic| walk_at "exec While BoolOp") => `(tactic| (refine stop ?_; walk_say "MINE"))
local macro_rules | `(tactic| walk_at "exec While Compare") => `(tactic| (refine stop ?_; walk_say "MINE"))
local macro_rules | `(tactic| walk_at "WhileOut") => `(tactic| (refine stop ?_; walk_say "MINE"))
local macro_rules | `(tactic| walk_at "WhileStep") => `(tactic| (refine stop ?_; walk_say "MINE"))
section
theorem off_C7 : True := by
  w_top off
  trivial
/-! ## _law_figures -/
noncomputable def txt (k : Int) : Str := Str.ofString (toString k)
/-- the lowest n figures, the lowest first -/
noncomputable def low (a n : Int) : List Int := List.take n.toNat (i2d a 1 ++ (List.replicate n.toNat [0]).flatten)
noncomputable def figs (a n : Int) : Str := PySem.Txt.join (Str.ofString "") ((low a n).reverse.map txt)
theorem len_low (a n : Int) : (low a n).length ≤ n.toNat := by
  rw [low, List.length_take]; exact Nat.min_le_left _ _
theorem mem_low {a n k : Int} (hd : ∀ d ∈ i2d a 1, 0 ≤ d ∧ d < 2) (h : k ∈ low a n) : 0 ≤ k ∧ k < 2 := by
  have h := List.mem_of_mem_take h
  rcases List.mem_append.1 h with h | h
  · exact hd k h
  · obtain ⟨l, hl, hk⟩ := List.mem_flatten.1 h
    rw [List.eq_of_mem_replicate hl] at hk
    rw [List.mem_singleton.1 hk]; decide
theorem txt_one {k : Int} (h0 : 0 ≤ k) (h1 : k < 2) : (txt k).length = 1 := by
  obtain rfl | rfl : k = 0 ∨ k = 1 := by omega
  · decide
  · decide

local macro_rules | `(tactic| walk_at "eval ListComp") => `(tactic| (k_here; k_dflt (refine LCg.ListComp_U (F₀ := by k_asm) (by with_unfolding_all rfl) (by decide) (by rfl) (by decide) (by rfl) ?_); walk_say "MINE"))
local macro_rules | `(tactic| walk_at "CompSrc") => `(tactic| (refine stop ?_; walk_say "MINE"))
local macro_rules | `(tactic| walk_at "call type:str") => `(tactic| (k_here; (refine P.str_of_int (shown (N := 2) (by omega) (by omega) (by decide +kernel)) ?_); walk_say "MINE"))
local macro_rules | `(tactic| walk_at "CompEnd") => `(tactic| (refine stop ?_; walk_say "MINE"))
local macro_rules | `(tactic| walk_at "KCtEl") => `(tactic| (refine kct_el ?kce (by with_unfolding_all rfl) (by with_unfolding_all rfl); (case kce => exact rfl)))
local macro_rules | `(tactic| walk_at "call builtin:str.join") => `(tactic| (k_here; (with_reducible rename CarriedAll _ _ => ktC); (refine KT.join_1 (by is_list) ktC (by assumption) (by omega) ?_); intro _ _ ktE; walk_say "MINE"))
local macro_rules | `(tactic| walk_at "use spec") => `(tactic| ((with_reducible show Spec _ 35 _ _ _ _); refine' int2digits_spec (by walk_at "use side") (by walk_at "use side") (by walk_at "use side") (by walk_at "use side")))


set_option maxHeartbeats 1000000 in
theorem figures_spec {w : World} {a n : Int} {ta tn : Tok} (ha0 : 0 ≤ a) (ha1 : a < 2 ^ 32) (hn0 : 0 ≤ n) (hn1 : n ≤ 16) (hlen : (i2d a 1).length ≤ 16) (hd : ∀ d ∈ i2d a 1, 0 ≤ d ∧ d < 2) :
    Spec w 79 [.int a ta, .int n tn] [] 44 (strPost (figs a n)) := by
  intro p loose mean mg mb dp un gd cn cs aa ccd cl outer A₀ base h₀ L m s Q E o1 c1 x1 o2 c2 x2 B F X C1 C2 T hk N s1 s2 hdp hun hret
  (try simp only [List.cons_append, List.nil_append] at N)
  have hne1 := s1.1
  have hne2 := s2.1
  refine wpAny_call ?_
  k_dflt (refine' enter_def ?k1 ?k2 ?k3 ?k4 ?k5 ?kA ?kF ?kK ?k6 ?k7 ?k8 ?k9 ?kB ?_ ?c2 ?c3 ?c4 ?c5)
  case kA => exact rfl
  case kF => exact rfl
  case kK => assumption
  case k1 => k_asm
  case k2 => k_asm
  case k3 => k_asm
  case k4 => k_asm
  case k5 => k_asm
  case k6 => k_is
  case k7 => k_is
  case k8 => ktr_room
  case k9 => first | exact BindsTo.of_eq rfl | exact binds_K (by k_in) rfl (by k_is) rfl rfl rfl | exact binds_KW (by k_in) rfl (by k_is) rfl (by exact rfl) (by exact rfl) (by k_is) (by exact rfl)
  case c5 => decide
  case kB => exact locs rfl
  case c2 => exact rfl
  case c3 => exact rfl
  case c4 => exact rfl
  intro g' L' h' FG' F' N' B' X' T' l1 hsz'
  k_lt l1
  with_reducible show wpAny _ _ _ _ _ _
  k_fold
  k_steps
  rename_i D3 ws3 h3 F3 N3 hI3 hC3 l13
  have hlow := len_low a n
  have hsz : ws3.length ≤ 16 := by
    rw [hI3.length, List.length_reverse]
    exact Nat.le_trans (len_low a n) (by omega)
  refine ⟨?_⟩
  k_dflt (refine LCg.CompSrc.ledger (by rfl) F3 N3 (by k_mem) (by rw [List.size_toArray, sizeLine_eq]; omega) ?_)
  intro g9
  refine kct_list txt hI3 (fun k' t' I' oI' C' oC' D' m' ys' h' tk' E' hk' hC' hx' F' N' off' ne' mk => ?_) ?_
  · have hb := mem_low hd (List.mem_reverse.1 hk')
    obtain ⟨hb0, hb1⟩ := hb
    have off0 := off'
    (simp only [LCg.Off3, and_true] at off')
    with_reducible show wpAny _ _ _ _ _ _
    k_steps
    refine ⟨?_⟩
    exact LCg.CompEnd.intro F' N' _ (fun p hp => hp) off0 (Or.inr ⟨_, by k_mem, rfl, _, rfl⟩) (kct_el rfl rfl rfl)
  · unfold KPfDone
    intro ys hc hl
    have hone : ∀ k ∈ (low a n).reverse, (txt k).length = 1 := fun k hk => txt_one (mem_low hd (List.mem_reverse.1 hk)).1 (mem_low hd (List.mem_reverse.1 hk)).2
    have hnum : (low a n).reverse.length ≤ 16 := by rw [List.length_reverse]; omega
    change CarriedAll ys ((low a n).reverse.map fun k => PyData.str (txt k)) at hc
    k_steps
    intro keep
    rename News h₀ L _ _ => kN
    refine' spec_fin (new := []) hret ?fr N keep kN ?s1 ?s2 ?post ?hs ?hsub ?off ?hk1 ?hk2
    case s1 => assumption
    case s2 => assumption
    case hsub => ((try simp only [List.cons_append, List.nil_append]); repeat (first | exact List.forall_mem_nil _ | refine List.forall_mem_cons.mpr ⟨by k_mem, ?_⟩))
    case post => exact ⟨_, rfl, rfl⟩
    case hk1 => (repeat (first | exact Kept.refl _ _ | refine Moved.kept (by assumption) hsz' ?_))
    case hk2 => (repeat (first | exact Kept.refl _ _ | refine Moved.kept (by assumption) hsz' ?_))
    case fr => k_asm
    case hs => (repeat (first | exact List.forall_mem_nil _ | refine List.forall_mem_cons.mpr ⟨by first | exact .inr (by k_mem) | exact .inl (.head _) | exact .inl (.tail _ (.head _)), ?_⟩))
    case off => (repeat (first | exact List.forall_mem_nil _ | refine List.forall_mem_cons.mpr ⟨⟨ne_off (by dsimp only; omega) (by dsimp only; omega), Nat.le_trans hsz' (Nat.le_of_lt (by dsimp only; omega))⟩, ?_⟩))
end
section
theorem off_C8 : True := by
  w_top off
  trivial
theorem len_figs {a n : Int} (hd : ∀ d ∈ i2d a 1, 0 ≤ d ∧ d < 2) : (figs a n).length ≤ n.toNat := by
  have h : (figs a n).length = ((low a n).reverse.map txt).length := KT.join_ones _ (by
    intro t ht
    obtain ⟨k, hk, e⟩ := List.mem_map.1 ht
    have := mem_low hd (List.mem_reverse.1 hk)
    rw [← e]; exact txt_one this.1 this.2)
  rw [h, List.length_map, List.length_reverse]; exact len_low a n
theorem two_fit {x y : Str} {A B : Nat} (hx : x.length ≤ A) (hy : y.length ≤ B) (h : A + B ≤ 4096 := by omega) : x.length + y.length ≤ sizeLine := by
  rw [sizeLine_eq]; omega
theorem len_noughts {x : Str} {k : Int} {N : Nat} (hx : x.length ≤ 1) (h : k ≤ (N : Int)) : (Txt.mul x k).length ≤ N := by
  have := len_mul_leN hx h; omega
noncomputable def told (a : Int) : Str := Txt.mul (Str.ofString "0") (((i2d a 1).length : Int) - 1) ++ figs a ((i2d a 1).length : Int)
theorem len_told {a : Int} (hlen : (i2d a 1).length ≤ 16) (hd : ∀ d ∈ i2d a 1, 0 ≤ d ∧ d < 2) : (told a).length ≤ 32 := by
  have h1 : (Txt.mul (Str.ofString "0") (((i2d a 1).length : Int) - 1)).length ≤ 16 := len_noughts (by decide) (by omega)
  have h2 := len_figs (n := ((i2d a 1).length : Int)) hd
  have h3 : (told a).length = _ := PySem.Str.length_append _ _
  omega

local macro_rules | `(tactic| walk_at "binaryOp Add str str") => `(tactic| (k_here; (refine add_str ?_ (by assumption)); intro _ _; walk_say "MINE"))
local macro_rules | `(tactic| walk_at "use spec") => `(tactic| ((with_reducible show Spec _ 35 _ _ _ _); refine' int2digits_spec (by walk_at "use side") (by walk_at "use side") (by walk_at "use side") (by walk_at "use side")))

local macro_rules | `(tactic| walk_at "use spec") => `(tactic| ((with_reducible show Spec _ 79 _ _ _ _); refine' figures_spec (by walk_at "use side") (by walk_at "use side") (by walk_at "use side") (by walk_at "use side") (by walk_at "use side") (by walk_at "use side")))

set_option maxHeartbeats 1000000 in
theorem told_spec {w : World} {a : Int} {ta : Tok} (ha0 : 0 ≤ a) (ha1 : a < 2 ^ 32) (hlen : (i2d a 1).length ≤ 16) (hd : ∀ d ∈ i2d a 1, 0 ≤ d ∧ d < 2) :
    Spec w 86 [.int a ta] [] 48 (strPost (told a)) := by
  intro p loose mean mg mb dp un gd cn cs aa ccd cl outer A₀ base h₀ L m s Q E o1 c1 x1 o2 c2 x2 B F X C1 C2 T hk N s1 s2 hdp hun hret
  (try simp only [List.cons_append, List.nil_append] at N)
  have hne1 := s1.1
  have hne2 := s2.1
  refine wpAny_call ?_
  k_dflt (refine' enter_def ?k1 ?k2 ?k3 ?k4 ?k5 ?kA ?kF ?kK ?k6 ?k7 ?k8 ?k9 ?kB ?_ ?c2 ?c3 ?c4 ?c5)
  case kA => exact rfl
  case kF => exact rfl
  case kK => assumption
  case k1 => k_asm
  case k2 => k_asm
  case k3 => k_asm
  case k4 => k_asm
  case k5 => k_asm
  case k6 => k_is
  case k7 => k_is
  case k8 => ktr_room
  case k9 => first | exact BindsTo.of_eq rfl | exact binds_K (by k_in) rfl (by k_is) rfl rfl rfl | exact binds_KW (by k_in) rfl (by k_is) rfl (by exact rfl) (by exact rfl) (by k_is) (by exact rfl)
  case c5 => decide
  case kB => exact locs rfl
  case c2 => exact rfl
  case c3 => exact rfl
  case c4 => exact rfl
  intro g' L' h' FG' F' N' B' X' T' l1 hsz'
  k_lt l1
  with_reducible show wpAny _ _ _ _ _ _
  k_fold
  have hfit : (Txt.mul (Str.ofString "0") (((i2d a 1).length : Int) - 1)).length + (figs a ((i2d a 1).length : Int)).length ≤ sizeLine :=
    two_fit (A := 16) (B := 16) (len_noughts (by decide) (by omega)) (Nat.le_trans (len_figs hd) (by omega))
  k_steps
  intro keep
  rename News h₀ L _ _ => kN
  refine' spec_fin (new := []) hret ?fr N keep kN ?s1 ?s2 ?post ?hs ?hsub ?off ?hk1 ?hk2
  case s1 => assumption
  case s2 => assumption
  case hsub => ((try simp only [List.cons_append, List.nil_append]); repeat (first | exact List.forall_mem_nil _ | refine List.forall_mem_cons.mpr ⟨by k_mem, ?_⟩))
  case post => exact ⟨_, rfl, rfl⟩
  case hk1 => (repeat (first | exact Kept.refl _ _ | refine Moved.kept (by assumption) hsz' ?_))
  case hk2 => (repeat (first | exact Kept.refl _ _ | refine Moved.kept (by assumption) hsz' ?_))
  case fr => k_asm
  case hs => (repeat (first | exact List.forall_mem_nil _ | refine List.forall_mem_cons.mpr ⟨by first | exact .inr (by k_mem) | exact .inl (.head _) | exact .inl (.tail _ (.head _)), ?_⟩))
  case off => (repeat (first | exact List.forall_mem_nil _ | refine List.forall_mem_cons.mpr ⟨⟨ne_off (by dsimp only; omega) (by dsimp only; omega), Nat.le_trans hsz' (Nat.le_of_lt (by dsimp only; omega))⟩, ?_⟩))
end
local macro_rules | `(tactic| walk_at "call builtin:len") => `(tactic| (k_here; (with_reducible show wpAny _ _ (call (Value.builtin "len") [Value.str _ _]) _ _ _); (refine P.len_str (by first | with_reducible assumption | omega) ?_); walk_say "MINE"))
local macro_rules | `(tactic| walk_at "binaryOp Add str str") => `(tactic| (k_here; k_dflt (refine add_str ?_ (by first | with_reducible assumption | assumption)); intro _ _; walk_say "MINE"))
local macro_rules | `(tactic| walk_at "subscriptTail Name Slice str ref") => `(tactic| (k_here; (with_reducible show wpAny _ _ (subscriptTail _ (Expr.Slice none (some _) none _) (Value.str _ _) _) _ _ _); (with_reducible rename Fr _ _ _ _ => sF9); (with_reducible rename News _ _ _ _ => sN9); k_dflt (refine slice_strN_ns (hsz := ?hsz) (s := ⟨_, _, _, _, _⟩) sF9 sN9 ?_); (case hsz => first | with_reducible assumption | omega | assumption); intro _ _ _ _ _; walk_say "MINE"))
local macro_rules | `(tactic| walk_at "subscriptTail Name Slice str ref") => `(tactic| (k_here; (with_reducible show wpAny _ _ (subscriptTail _ (Expr.Slice (some _) none none _) (Value.str _ _) _) _ _ _); (with_reducible rename Fr _ _ _ _ => sF9); (with_reducible rename News _ _ _ _ => sN9); k_dflt (refine slice_strN_sn (hsz := ?hsz) (s := ⟨_, _, _, _, _⟩) sF9 sN9 ?_); (case hsz => first | with_reducible assumption | omega | assumption); intro _ _ _ _ _; walk_say "MINE"))
local macro_rules | `(tactic| walk_at "subscriptTail Name Slice str ref") => `(tactic| (k_here; (with_reducible show wpAny _ _ (subscriptTail _ (Expr.Slice (some _) (some _) none _) (Value.str _ _) _) _ _ _); (with_reducible rename Fr _ _ _ _ => sF9); (with_reducible rename News _ _ _ _ => sN9); k_dflt (refine slice_strN_ss (hsz := ?hsz) (s := ⟨_, _, _, _, _⟩) sF9 sN9 ?_); (case hsz => first | with_reducible assumption | omega | assumption); intro _ _ _ _ _; walk_say "MINE"))
local macro_rules | `(tactic| walk_at "subscriptTail Name Slice str ref") => `(tactic| (k_here; (with_reducible show wpAny _ _ (subscriptTail _ (Expr.Slice none none (some _) _) (Value.str _ _) _) _ _ _); (with_reducible rename Fr _ _ _ _ => sF9); (with_reducible rename News _ _ _ _ => sN9); k_dflt (refine slice_strK_nn (hsz := ?hsz) (s := ⟨_, _, _, _, _⟩) sF9 sN9 (by decide) ?_); (case hsz => first | with_reducible assumption | omega | assumption); intro _ _ _ _ _; walk_say "MINE"))
section
theorem off_C9 : True := by
  w_top off
  trivial
/-! ## numbers below 256 -/
theorem small_fin : ∀ k : Fin 256, (i2d (k.val : Int) 1).length ≤ 8 ∧ ∀ d ∈ i2d (k.val : Int) 1, 0 ≤ d ∧ d < 2 := by decide +kernel
theorem small {a : Int} (h0 : 0 ≤ a) (h1 : a < 256) : (i2d a 1).length ≤ 8 ∧ ∀ d ∈ i2d a 1, 0 ≤ d ∧ d < 2 := by
  have h := small_fin ⟨a.toNat, by omega⟩
  have e : ((a.toNat : Nat) : Int) = a := Int.toNat_of_nonneg h0
  simp only [e] at h
  exact h
theorem some_fin : ∀ k : Fin 256, k.val = 0 ∨ 1 ≤ (i2d (k.val : Int) 1).length := by decide +kernel
theorem some_digit {a : Int} (h0 : 1 ≤ a) (h1 : a < 256) : 1 ≤ (i2d a 1).length := by
  have h := some_fin ⟨a.toNat, by omega⟩
  have e : ((a.toNat : Nat) : Int) = a := Int.toNat_of_nonneg (by omega)
  simp only [e] at h
  rcases h with h | h
  · omega
  · exact h
section
variable {prog : Program} {w : World} {A : Around} {E : Value → Shared → Prop} {s : Shared} {h₀ : Heap} {L : Addr} {m : Str → Option Value} {news : List (Addr × Obj)}
theorem max_up {a b : Int} {t u : Tok} {Q : Value → Shared → Prop} (hh : A.handled = none) (F : Fr h₀ L s.heap m) (N : News h₀ L s.heap news) (hab : a ≤ b)
    (h : ∀ h' tk t', Fr h₀ L h' m → News h₀ L h' news → Q (.int b t') { s with heap := h', toks := tk }) :
    wpAny (model prog w) A (call (.builtin "max") [.int a t, .int b u]) Q E s :=
  max_two_N hh F N fun h' tk F' N' => by
    have e : (if b > a then b else a) = b := by split <;> omega
    rw [e]; exact h h' tk _ F' N'
end
noncomputable def cut1 (x : Str) : Str := Txt.slice x (some 1) none
noncomputable def shorter (a : Int) : Str := told ((i2d a 1).length : Int) ++ cut1 (figs a ((i2d a 1).length : Int))
theorem len_shorter {a : Int} (h0 : 0 ≤ a) (h1 : a < 256) : (shorter a).length ≤ 48 := by
  obtain ⟨hs1, hs2⟩ := small h0 h1
  obtain ⟨hM4, hM5⟩ := small (a := ((i2d a 1).length : Int)) (by omega) (by omega)
  have h2 := len_figs (n := ((i2d a 1).length : Int)) hs2
  have h4 : (cut1 (figs a ((i2d a 1).length : Int))).length ≤ _ := Txt.slice_le _ _ _
  have h5 := len_told (Nat.le_trans hM4 (by decide)) hM5
  have h3 : (shorter a).length = _ := PySem.Str.length_append _ _
  omega


local macro_rules | `(tactic| walk_at "call builtin:max") => `(tactic| (k_here; k_dflt (refine' max_up ?hh ?F ?N ?ab ?_; (case hh => exact rfl); (case F => k_asm); (case N => k_asm); (case ab => omega); k_whole); intro h' tk' t' F' N'; (try k_sweep); walk_say "MINE"))
local macro_rules | `(tactic| walk_at "use spec") => `(tactic| ((with_reducible show Spec _ 35 _ _ _ _); refine' int2digits_spec (by walk_at "use side") (by walk_at "use side") (by walk_at "use side") (by walk_at "use side")))

local macro_rules | `(tactic| walk_at "use spec") => `(tactic| ((with_reducible show Spec _ 86 _ _ _ _); refine' told_spec (by walk_at "use side") (by walk_at "use side") (by walk_at "use side") (by walk_at "use side")))

local macro_rules | `(tactic| walk_at "use spec") => `(tactic| ((with_reducible show Spec _ 79 _ _ _ _); refine' figures_spec (by walk_at "use side") (by walk_at "use side") (by walk_at "use side") (by walk_at "use side") (by walk_at "use side") (by walk_at "use side")))

set_option maxHeartbeats 1000000 in
theorem shorter_spec {w : World} {a : Int} {ta : Tok} (ha0 : 1 ≤ a) (ha1 : a < 256) :
    Spec w 93 [.int a ta] [] 52 (strPost (shorter a)) := by
  obtain ⟨hs1, hs2⟩ := small (by omega) ha1
  have hs3 := some_digit ha0 ha1
  intro p loose mean mg mb dp un gd cn cs aa ccd cl outer A₀ base h₀ L m s Q E o1 c1 x1 o2 c2 x2 B F X C1 C2 T hk N s1 s2 hdp hun hret
  (try simp only [List.cons_append, List.nil_append] at N)
  have hne1 := s1.1
  have hne2 := s2.1
  refine wpAny_call ?_
  k_dflt (refine' enter_def ?k1 ?k2 ?k3 ?k4 ?k5 ?kA ?kF ?kK ?k6 ?k7 ?k8 ?k9 ?kB ?_ ?c2 ?c3 ?c4 ?c5)
  case kA => exact rfl
  case kF => exact rfl
  case kK => assumption
  case k1 => k_asm
  case k2 => k_asm
  case k3 => k_asm
  case k4 => k_asm
  case k5 => k_asm
  case k6 => k_is
  case k7 => k_is
  case k8 => ktr_room
  case k9 => first | exact BindsTo.of_eq rfl | exact binds_K (by k_in) rfl (by k_is) rfl rfl rfl | exact binds_KW (by k_in) rfl (by k_is) rfl (by exact rfl) (by exact rfl) (by k_is) (by exact rfl)
  case c5 => decide
  case kB => exact locs rfl
  case c2 => exact rfl
  case c3 => exact rfl
  case c4 => exact rfl
  intro g' L' h' FG' F' N' B' X' T' l1 hsz'
  k_lt l1
  with_reducible show wpAny _ _ _ _ _ _
  k_fold
  obtain ⟨hM4', hM5⟩ := small (a := ((i2d a 1).length : Int)) (by omega) (by omega)
  have hM4 := Nat.le_trans hM4' (show 8 ≤ 16 by decide)
  have hf := len_figs (n := ((i2d a 1).length : Int)) hs2
  have hq : (figs a ((i2d a 1).length : Int)).length ≤ sizeLine := by rw [sizeLine_eq]; omega
  have hfit : (told ((i2d a 1).length : Int)).length + (Txt.slice (figs a ((i2d a 1).length : Int)) (some 1) none).length ≤ sizeLine :=
    two_fit (A := 32) (B := 16) (len_told hM4 hM5) (Nat.le_trans (Txt.slice_le _ _ _) (by omega))
  clear hf
  k_steps
  intro keep
  rename News h₀ L _ _ => kN
  refine' spec_fin (new := []) hret ?fr N keep kN ?s1 ?s2 ?post ?hs ?hsub ?off ?hk1 ?hk2
  case s1 => assumption
  case s2 => assumption
  case hsub => ((try simp only [List.cons_append, List.nil_append]); repeat (first | exact List.forall_mem_nil _ | refine List.forall_mem_cons.mpr ⟨by k_mem, ?_⟩))
  case post => exact ⟨_, rfl, rfl⟩
  case hk1 => (repeat (first | exact Kept.refl _ _ | refine Moved.kept (by assumption) hsz' ?_))
  case hk2 => (repeat (first | exact Kept.refl _ _ | refine Moved.kept (by assumption) hsz' ?_))
  case fr => k_asm
  case hs => (repeat (first | exact List.forall_mem_nil _ | refine List.forall_mem_cons.mpr ⟨by first | exact .inr (by k_mem) | exact .inl (.head _) | exact .inl (.tail _ (.head _)), ?_⟩))
  case off => (repeat (first | exact List.forall_mem_nil _ | refine List.forall_mem_cons.mpr ⟨⟨ne_off (by dsimp only; omega) (by dsimp only; omega), Nat.le_trans hsz' (Nat.le_of_lt (by dsimp only; omega))⟩, ?_⟩))
end
section
theorem off_C10 : True := by
  w_top off
  trivial
noncomputable def two (z : Int) : Int := 2 ^ z.toNat
theorem rest_fin : ∀ z : Fin 4, ∀ k : Fin 256, (∀ d ∈ i2d (k.val : Int) (Builtin.Int.intBits (2 ^ (z.val + 1))), 0 ≤ d ∧ d < 2 ^ (Builtin.Int.intBits (2 ^ (z.val + 1)))) ∧ (i2d (k.val : Int) (Builtin.Int.intBits (2 ^ (z.val + 1)))).length ≤ 8
    ∧ 0 ≤ dquo (k.val : Int) (2 ^ (z.val + 1)) ∧ dquo (k.val : Int) (2 ^ (z.val + 1)) ≤ 128 ∧ 0 ≤ drem (k.val : Int) (2 ^ (z.val + 1)) ∧ drem (k.val : Int) (2 ^ (z.val + 1)) < 256 := by decide +kernel
theorem rest_facts {a z : Int} (ha0 : 0 ≤ a) (ha1 : a < 256) (hz0 : 1 ≤ z) (hz1 : z ≤ 4) : (∀ d ∈ i2d a (Builtin.Int.intBits (2 ^ z.toNat)), 0 ≤ d ∧ d < 2 ^ (Builtin.Int.intBits (2 ^ z.toNat))) ∧ (i2d a (Builtin.Int.intBits (2 ^ z.toNat))).length ≤ 8
    ∧ 0 ≤ dquo a (2 ^ z.toNat) ∧ dquo a (2 ^ z.toNat) ≤ 128 ∧ 0 ≤ drem a (2 ^ z.toNat) ∧ drem a (2 ^ z.toNat) < 256 := by
  have h := rest_fin ⟨z.toNat - 1, by omega⟩ ⟨a.toNat, by omega⟩
  have e : ((a.toNat : Nat) : Int) = a := Int.toNat_of_nonneg ha0
  have e2 : z.toNat - 1 + 1 = z.toNat := by omega
  simp only [e, e2] at h
  exact h
theorem two_facts {z : Int} (hz0 : 1 ≤ z) (hz1 : z ≤ 4) : (0 : Int) < 2 ^ z.toNat ∧ (2 : Int) ^ z.toNat < 128 := by
  obtain rfl | rfl | rfl | rfl : z = 1 ∨ z = 2 ∨ z = 3 ∨ z = 4 := by omega
  all_goals decide
noncomputable def byrest (a z : Int) : Str := Txt.mul (Str.ofString "1") (dquo a (2 ^ z.toNat)) ++ Str.ofString "0" ++ figs (drem a (2 ^ z.toNat)) z
theorem len_ones {a z : Int} (ha0 : 0 ≤ a) (ha1 : a < 256) (hz0 : 1 ≤ z) (hz1 : z ≤ 4) : (Txt.mul (Str.ofString "1") (dquo a (2 ^ z.toNat))).length ≤ 128 :=
  len_noughts (by decide) (rest_facts ha0 ha1 hz0 hz1).2.2.2.1
theorem len_rest {a z : Int} (ha0 : 0 ≤ a) (ha1 : a < 256) (hz0 : 1 ≤ z) (hz1 : z ≤ 4) : (figs (drem a (2 ^ z.toNat)) z).length ≤ 4 := by
  obtain ⟨_, _, _, _, h0, h1⟩ := rest_facts ha0 ha1 hz0 hz1
  have := len_figs (n := z) (small h0 h1).2
  omega
theorem len_byrest {a z : Int} (ha0 : 0 ≤ a) (ha1 : a < 256) (hz0 : 1 ≤ z) (hz1 : z ≤ 4) : (byrest a z).length ≤ 133 := by
  have h1 := len_ones ha0 ha1 hz0 hz1
  have h2 := len_rest ha0 ha1 hz0 hz1
  have h3 : (byrest a z).length = _ := PySem.Str.length_append _ _
  rw [PySem.Str.length_append] at h3
  have h4 : (Str.ofString "0").length = 1 := by decide
  omega


local macro_rules | `(tactic| walk_at "use spec") => `(tactic| ((with_reducible show Spec _ 56 _ _ _ _); refine' int_divmod_spec (by walk_at "use side") (by walk_at "use side") (by walk_at "use side") (by walk_at "use side") (by walk_at "use side") (by walk_at "use side")))

local macro_rules | `(tactic| walk_at "use spec") => `(tactic| ((with_reducible show Spec _ 79 _ _ _ _); refine' figures_spec (by walk_at "use side") (by walk_at "use side") (by walk_at "use side") (by walk_at "use side") (by walk_at "use side") (by walk_at "use side")))

set_option maxHeartbeats 1000000 in
theorem by_rest_spec {w : World} {a z : Int} {ta tz : Tok} (ha0 : 0 ≤ a) (ha1 : a < 256) (hz0 : 1 ≤ z) (hz1 : z ≤ 4) :
    Spec w 100 [.int a ta, .int z tz] [] 68 (strPost (byrest a z)) := by
  intro p loose mean mg mb dp un gd cn cs aa ccd cl outer A₀ base h₀ L m s Q E o1 c1 x1 o2 c2 x2 B F X C1 C2 T hk N s1 s2 hdp hun hret
  (try simp only [List.cons_append, List.nil_append] at N)
  have hne1 := s1.1
  have hne2 := s2.1
  refine wpAny_call ?_
  k_dflt (refine' enter_def ?k1 ?k2 ?k3 ?k4 ?k5 ?kA ?kF ?kK ?k6 ?k7 ?k8 ?k9 ?kB ?_ ?c2 ?c3 ?c4 ?c5)
  case kA => exact rfl
  case kF => exact rfl
  case kK => assumption
  case k1 => k_asm
  case k2 => k_asm
  case k3 => k_asm
  case k4 => k_asm
  case k5 => k_asm
  case k6 => k_is
  case k7 => k_is
  case k8 => ktr_room
  case k9 => first | exact BindsTo.of_eq rfl | exact binds_K (by k_in) rfl (by k_is) rfl rfl rfl | exact binds_KW (by k_in) rfl (by k_is) rfl (by exact rfl) (by exact rfl) (by k_is) (by exact rfl)
  case c5 => decide
  case kB => exact locs rfl
  case c2 => exact rfl
  case c3 => exact rfl
  case c4 => exact rfl
  intro g' L' h' FG' F' N' B' X' T' l1 hsz'
  k_lt l1
  with_reducible show wpAny _ _ _ _ _ _
  k_fold
  obtain ⟨f1, f2, f3, f4, f5, f6⟩ := rest_facts ha0 ha1 hz0 hz1
  obtain ⟨f7, f8⟩ := two_facts hz0 hz1
  obtain ⟨f9, f10⟩ := small f5 f6
  have f11 := Nat.le_trans f9 (show 8 ≤ 16 by decide)
  have f12 : drem a (2 ^ z.toNat) < 2 ^ 32 := by omega
  have fit1 : (Txt.mul (Str.ofString "1") (dquo a (2 ^ z.toNat))).length + (Str.ofString "0").length ≤ sizeLine := two_fit (A := 128) (B := 1) (len_ones ha0 ha1 hz0 hz1) (by decide)
  have fit2 : (Txt.mul (Str.ofString "1") (dquo a (2 ^ z.toNat)) ++ Str.ofString "0").length + (figs (drem a (2 ^ z.toNat)) z).length ≤ sizeLine :=
    two_fit (A := 129) (B := 4) (by rw [PySem.Str.length_append]; exact Nat.add_le_add (len_ones ha0 ha1 hz0 hz1) (show (Str.ofString "0").length ≤ 1 by decide)) (len_rest ha0 ha1 hz0 hz1)
  k_steps
  intro keep
  rename News h₀ L _ _ => kN
  refine' spec_fin (new := []) hret ?fr N keep kN ?s1 ?s2 ?post ?hs ?hsub ?off ?hk1 ?hk2
  case s1 => assumption
  case s2 => assumption
  case hsub => ((try simp only [List.cons_append, List.nil_append]); repeat (first | exact List.forall_mem_nil _ | refine List.forall_mem_cons.mpr ⟨by k_mem, ?_⟩))
  case post => exact ⟨_, rfl, rfl⟩
  case hk1 => (repeat (first | exact Kept.refl _ _ | refine Moved.kept (by assumption) hsz' ?_))
  case hk2 => (repeat (first | exact Kept.refl _ _ | refine Moved.kept (by assumption) hsz' ?_))
  case fr => k_asm
  case hs => (repeat (first | exact List.forall_mem_nil _ | refine List.forall_mem_cons.mpr ⟨by first | exact .inr (by k_mem) | exact .inl (.head _) | exact .inl (.tail _ (.head _)), ?_⟩))
  case off => (repeat (first | exact List.forall_mem_nil _ | refine List.forall_mem_cons.mpr ⟨⟨ne_off (by dsimp only; omega) (by dsimp only; omega), Nat.le_trans hsz' (Nat.le_of_lt (by dsimp only; omega))⟩, ?_⟩))
end
section
theorem off_Lp2 : True := by
  w_top off
  trivial
/-! ## while, comprehensions over a text -/
noncomputable def WhileOut (h₀ : Heap) (L : Addr) (s : Shared) (K : (Str → Option Value) → List (Addr × Obj) → Prop) (s₃ : Shared) : Prop :=
  ∃ h' tk m₂ news₂, s₃ = { s with heap := h', toks := tk } ∧ Fr h₀ L h' m₂ ∧ News h₀ L h' news₂ ∧ K m₂ news₂
section
variable {prog : Program} {w : World} {A : Around} {E : Value → Shared → Prop} {Q : Flow → Shared → Prop} {s : Shared} {env : Env} {h₀ : Heap} {L : Addr}
theorem while_out {test : Expr} {body : List Stmt} {pos : Pos} {m : Str → Option Value} {news : List (Addr × Obj)} (J : Nat → (Str → Option Value) → List (Addr × Obj) → Prop) (K : (Str → Option Value) → List (Addr × Obj) → Prop) {n₀ : Nat}
    (F : Fr h₀ L s.heap m) (N : News h₀ L s.heap news) (hJ : J n₀ m news)
    (turn : ∀ (s : Shared) n m₁ news₁ h₁ tk₁, Fr h₀ L h₁ m₁ → News h₀ L h₁ news₁ → J n m₁ news₁ →
      wpAny (model prog w) A (isTrue test env (eval test env)) (fun b s₂ =>
        if b = true then wpAny (model prog w) A (execs body env) (WhileStep h₀ L s J n) E s₂ else WhileOut h₀ L s K s₂) E { s with heap := h₁, toks := tk₁ })
    (done : ∀ h' tk m₂ news₂, Fr h₀ L h' m₂ → News h₀ L h' news₂ → K m₂ news₂ → Q .next { s with heap := h', toks := tk })
    (hE : PassesOwn (model prog w) A env E) :
    wpAny (model prog w) A (exec (.While test body [] pos) env) Q E s :=
  While_inv J F N hJ (fun n m₁ news₁ h₁ tk₁ F₁ N₁ J₁ => wpAny_mono (turn s n m₁ news₁ h₁ tk₁ F₁ N₁ J₁) (fun b s₂ h₂ => by
    cases b with
    | false =>
      simp only [Bool.false_eq_true, if_false] at h₂ ⊢
      obtain ⟨h', tk, m₂, news₂, rfl, F₂, N₂, K₂⟩ := h₂
      exact done _ _ _ _ F₂ N₂ K₂
    | true => simpa using h₂) fun _ _ e => e) hE
noncomputable def TextSrc (prog : Program) (w : World) (A : Around) (h₀ : Heap) (L : Addr) (m : Str → Option Value) (env : Env) (elt : Expr) (x : Str) (scope : Scope) (cl : List (Str × Addr)) (Fin : Shared → List Value → List (Addr × Obj) → Prop) (xv : Value) (s₁ : Shared) : Prop :=
  ∃ xs t news, xv = .str xs t ∧ A.handled = none ∧ Fr h₀ L s₁.heap m ∧ News h₀ L s₁.heap news ∧ xs.cps.size ≤ sizeLine ∧
    ∀ g, LCg.CompRest prog w A h₀ L m env elt x scope cl { s₁ with heap := g } (fun _ => True) (SignAt xs) (Fin { s₁ with heap := g }) xs.cps.size 0 [] news
theorem ListComp_T {m : Str → Option Value} {elt iter : Expr} {x : Str} {px : Pos} {scope : Scope} {cl : List (Str × Addr)} {pos : Pos} {Q : Value → Shared → Prop} (F₀ : Fr h₀ L s.heap m)
    (hclos : closureFor scope env = pure cl) (hcell : ∀ y ∈ scope.names, y.2 ≠ .cell) (hkind : scope.kind = .function)
    (hnames : ∀ y ∈ scope.names, y.2 = .local → scope.names.lookup y.1 = some .local) (hx : scope.names.lookup x = some .local)
    (h : wpAny (model prog w) A (eval iter env) (TextSrc prog w A h₀ L m env elt x scope cl (fun s₂ => LCg.FinE h₀ L m s₂ Q)) E s)
    (hs : ∀ x, foldedSetIterable iter env x = pure x := by intro _; rfl) :
    wpAny (model prog w) A (eval (.ListComp elt [⟨.Name x px, iter, [], 0⟩] scope pos) env) Q E s := by
  rw [eval_ListComp]
  refine wpAny_comprehension_free (use := none) rfl hs hclos hkind hnames (wpAny_mono h (fun xv s₁ h₁ => ?_) fun _ _ e => e)
  obtain ⟨xs, t, news, rfl, hh, F, N, hsz, R⟩ := h₁
  cases ha : xs.cps.all (· < 128)
  · refine wpAny_pyIter_wide ha ?_
    refine LCg.block_U (Walks.strWide hh s₁.heap.objs.size xs t) hsz (fun i h st => by obtain ⟨o, e, _⟩ := st; exact ⟨o, e⟩) (S := fun _ => True)
      (fun i h h' o nw st e e' _ _ _ => by obtain ⟨o', q, r⟩ := st; rw [e] at q; cases q; exact ⟨o, e', r⟩) hcell hkind hx
      ⟨_, Heap.get?_push_size _ rfl, rfl, rfl⟩ (fun b hb => ?_)
      (F.keeps fun _ _ e => Heap.get?_push_of_some _ e) (N.grown fun _ _ e => Heap.get?_push_of_some _ e) (Nat.ne_of_lt F.ns.lt) (next_is_new F) (fun p hp => Nat.ne_of_lt (Heap.lt_size (N p hp).1)) trivial (R _) ?_
    · rw [List.mem_singleton.mp hb]
      show s₁.heap.objs.size < (s₁.heap.push _).objs.size
      rw [Heap.size_push]; exact Nat.lt_succ_self _
    · intro D C h tk m' ys news' F' N' o1 hn hC₀ hD₀ hCL hDL hCD offC fin
      refine ⟨m', hn, fun h'' hs'' => fin D h'' tk (F'.change hs'' hCL hC₀) (fun p hp => ?_) o1⟩
      refine ⟨hs''.extBut _ _ ?_ (N' p hp).1, (N' p hp).2⟩
      rcases List.mem_cons.mp hp with rfl | hp
      · exact Ne.symm hCD
      · exact offC p hp
  · refine wpAny_pyIter_ascii ha ?_
    refine LCg.block_U (Walks.strAscii hh s₁.heap.objs.size xs t) hsz (fun i h st => by obtain ⟨o, e, _⟩ := st; exact ⟨o, e⟩) (S := fun _ => True)
      (fun i h h' o nw st e e' _ _ _ => by obtain ⟨o', q, r⟩ := st; rw [e] at q; cases q; exact ⟨o, e', r⟩) hcell hkind hx
      ⟨_, Heap.get?_push_size _ rfl, rfl, rfl⟩ (fun b hb => ?_)
      (F.keeps fun _ _ e => Heap.get?_push_of_some _ e) (N.grown fun _ _ e => Heap.get?_push_of_some _ e) (Nat.ne_of_lt F.ns.lt) (next_is_new F) (fun p hp => Nat.ne_of_lt (Heap.lt_size (N p hp).1)) trivial (R _) ?_
    · rw [List.mem_singleton.mp hb]
      show s₁.heap.objs.size < (s₁.heap.push _).objs.size
      rw [Heap.size_push]; exact Nat.lt_succ_self _
    · intro D C h tk m' ys news' F' N' o1 hn hC₀ hD₀ hCL hDL hCD offC fin
      refine ⟨m', hn, fun h'' hs'' => fin D h'' tk (F'.change hs'' hCL hC₀) (fun p hp => ?_) o1⟩
      refine ⟨hs''.extBut _ _ ?_ (N' p hp).1, (N' p hp).2⟩
      rcases List.mem_cons.mp hp with rfl | hp
      · exact Ne.symm hCD
      · exact offC p hp
theorem rest_text {m : Str → Option Value} {elt : Expr} {x : Str} {scope : Scope} {cl : List (Str × Addr)} {Fin : List Value → List (Addr × Obj) → Prop} {news : List (Addr × Obj)} (xs : Str) (g : Nat → Int)
    (turn : ∀ c u I oI C oC D m₂ ys h tk (E' : Value → Shared → Prop), c ∈ xs.cps.toList → LCg.NsObj oC m₂ → m₂ x = some (.str ⟨#[c]⟩ u) → Fr h₀ L h m → News h₀ L h ((I, oI) :: (C, oC) :: (D, LCg.lst ys) :: news) → LCg.Off3 I C D news → ((@Ne Nat I C) ∧ (@Ne Nat I D) ∧ (@Ne Nat C D)) →
      wpAny (model prog w) A (eval elt (compEnvC scope cl C env)) (LCg.CompEnd h₀ L m { s with heap := h, toks := tk } I oI C oC D (LCg.lst ys) (fun _ => True) (fun y news' => news' = news ∧ ∃ t : Tok, y = .int (g c) t)) E' { s with heap := h, toks := tk })
    (fin : ∀ ys, IntsAre ys (xs.cps.toList.map g) → Fin ys news) : LCg.CompRest prog w A h₀ L m env elt x scope cl s (fun _ => True) (SignAt xs) Fin xs.cps.size 0 [] news := by
  have key : ∀ (j i : Nat) (ys : List Value), i + j = xs.cps.size → IntsAre ys ((xs.cps.toList.take i).map g) → LCg.CompRest prog w A h₀ L m env elt x scope cl s (fun _ => True) (SignAt xs) Fin j i ys news := by
    intro j
    induction j with
    | zero =>
      intro i ys hi hy
      have e : i = xs.cps.toList.length := by rw [Array.length_toList]; omega
      subst e
      rw [List.take_length] at hy
      exact LCg.CompRest.zero (fin ys hy)
    | succ j ih =>
      intro i ys hi hy
      refine LCg.CompRest.succ ?_
      intro v I oI C oC D m₂ h tk E' hv hC hx F N off ne
      obtain ⟨c, u, hc, hv'⟩ := hv
      have hc' : xs.cps.toList[i]? = some c := by rw [Array.getElem?_toList]; exact hc
      rw [hv'] at hx
      refine wpAny_mono (turn c u I oI C oC D m₂ ys h tk E' (List.mem_of_getElem? hc') hC hx F N off ne) (fun y s₂ hq => ?_) fun _ _ e => e
      obtain ⟨h', tk', nw, e, F', N', off', hS, hn, t', hy'⟩ := hq
      rw [hn] at N' off'
      refine ⟨h', tk', news, e, F', N', off', trivial, ?_⟩
      rw [hy']
      refine ih (i + 1) _ (by omega) ?_
      rw [List.take_add_one, hc']
      simpa using IntsAre.append hy (.cons (g c) t' .nil)
  exact key xs.cps.size 0 [] (by omega) (by simp only [List.take_zero, List.map_nil]; exact .nil)
end
end
section
theorem off_C11 : True := by
  w_top off
  trivial
/-! ## _law_read -/
noncomputable def zrun (x c : Str) : Nat → Int → Int
  | 0, _ => 0
  | f + 1, i => if i < x.length then (if (Txt.item x i == c) = true then 1 + zrun x c f (i + 1) else 0) else 0
noncomputable def val (c : Nat) : Int := if c = 49 then 1 else 0
noncomputable def readMany (x : Str) (i : Int) : Int := zrun x (Str.ofString "0") (x.length - i).toNat i
noncomputable def readEnd (x : Str) (i : Int) : Int := i + 2 * readMany x i + 1
noncomputable def readText (x : Str) (i : Int) : Str := Txt.sliceBy (Txt.slice x (some (i + readMany x i)) (some (readEnd x i))) none none (-1, 0)
noncomputable def bits (x : Str) : List Int := x.cps.toList.map val
theorem val_reads {c : Nat} (h : c = 48 ∨ c = 49) : PySem.intText? ⟨#[c]⟩ = some (val c) := by
  obtain rfl | rfl := h <;> decide +kernel
theorem bits_small {x : Str} {d : Int} (h : d ∈ bits x) : 0 ≤ d ∧ d < 256 := by
  obtain ⟨c, _, e⟩ := List.mem_map.1 h
  rw [← e, val]; split <;> decide


local macro_rules | `(tactic| walk_at "eval ListComp") => `(tactic| (k_here; k_dflt (refine ListComp_T (F₀ := by k_asm) (by with_unfolding_all rfl) (by decide) (by rfl) (by decide) (by rfl) ?_); walk_say "MINE"))
local macro_rules | `(tactic| walk_at "TextSrc") => `(tactic| (refine stop ?_; walk_say "MINE"))
local macro_rules | `(tactic| walk_at "CompEnd") => `(tactic| (refine stop ?_; walk_say "MINE"))
local macro_rules | `(tactic| walk_at "call type:int") => `(tactic| (k_here; (refine KIN.call_text (by assumption) (show (1 : Nat) ≤ 640 by decide) ?_); walk_say "MINE"))
local macro_rules | `(tactic| walk_at "newTuple") => `(tactic| (k_here; k_dflt (refine' newTuple_L ?F ?N ?_; (case F => k_asm); (case N => k_asm); k_whole); intro l' h' F' N' l1 l2; (try k_lt l1); (try k_sweep)))

local macro_rules | `(tactic| walk_at "use spec") => `(tactic| ((with_reducible show Spec _ 42 _ _ _ _); refine' digits2int_spec (by walk_at "use side") (by walk_at "use side") (by walk_at "use side") (by walk_at "use side") (by walk_at "use side") (by walk_at "use side")))

inductive InvM (x : Str) (i : Int) (m0 : Str → Option Value) (rest : List (Addr × Obj)) (n : Nat) (m' : Str → Option Value) (nw : List (Addr × Obj)) : Prop
  | mk (j : Int) (t : Tok) (e1 : m' (Str.ofString "many") = some (.int j t)) (e2 : ∀ z, z ≠ Str.ofString "many" → m' z = m0 z) (hn : nw = rest) (b1 : 0 ≤ j) (b2 : i + j ≤ x.length) (b3 : n = (x.length - i - j).toNat) (b4 : readMany x i = j + zrun x (Str.ofString "0") n (i + j)) : InvM x i m0 rest n m' nw
inductive OutM (x : Str) (i : Int) (m0 : Str → Option Value) (rest : List (Addr × Obj)) (m' : Str → Option Value) (nw : List (Addr × Obj)) : Prop
  | mk (t : Tok) (e1 : m' (Str.ofString "many") = some (.int (readMany x i) t)) (e2 : ∀ z, z ≠ Str.ofString "many" → m' z = m0 z) (hn : nw = rest) : OutM x i m0 rest m' nw
set_option maxHeartbeats 1000000 in
theorem read_spec {w : World} {x : Str} {i : Int} {tx ti : Tok} (hi0 : 0 ≤ i) (hi1 : i ≤ x.length) (hx : x.length ≤ 2048) (hb : ∀ c ∈ (readText x i).cps.toList, c = 48 ∨ c = 49) (hlen : (bits (readText x i)).length ≤ 8) :
    Spec w 105 [.str x tx, .int i ti] [] 24 (pairPost (d2i (bits (readText x i)) 1) (readEnd x i)) := by
  intro p loose mean mg mb dp un gd cn cs aa ccd cl outer A₀ base h₀ L m s Q E o1 c1 x1 o2 c2 x2 B F X C1 C2 T hk N s1 s2 hdp hun hret
  (try simp only [List.cons_append, List.nil_append] at N)
  have hne1 := s1.1
  have hne2 := s2.1
  refine wpAny_call ?_
  k_dflt (refine' enter_def ?k1 ?k2 ?k3 ?k4 ?k5 ?kA ?kF ?kK ?k6 ?k7 ?k8 ?k9 ?kB ?_ ?c2 ?c3 ?c4 ?c5)
  case kA => exact rfl
  case kF => exact rfl
  case kK => assumption
  case k1 => k_asm
  case k2 => k_asm
  case k3 => k_asm
  case k4 => k_asm
  case k5 => k_asm
  case k6 => k_is
  case k7 => k_is
  case k8 => ktr_room
  case k9 => first | exact BindsTo.of_eq rfl | exact binds_K (by k_in) rfl (by k_is) rfl rfl rfl | exact binds_KW (by k_in) rfl (by k_is) rfl (by exact rfl) (by exact rfl) (by k_is) (by exact rfl)
  case c5 => decide
  case kB => exact locs rfl
  case c2 => exact rfl
  case c3 => exact rfl
  case c4 => exact rfl
  intro g' L' h' FG' F' N' B' X' T' l1 hsz'
  k_lt l1
  with_reducible show wpAny _ _ _ _ _ _
  k_fold
  k_steps
  rename_i h3 F3 N3
  refine ⟨?_⟩
  obtain ⟨m0, hm0, F0⟩ := fr_name F3
  have hxs : x.length ≤ sizeLine := by rw [sizeLine_eq]; omega
  obtain ⟨J, hJ⟩ := hide (InvM x i m0 (tbl o1 c1 x1 o2 c2 x2))
  obtain ⟨K, hK⟩ := hide2 (OutM x i m0 (tbl o1 c1 x1 o2 c2 x2))
  k_dflt (refine' while_out J K (n₀ := (x.length - i).toNat) F0 N3 ?h0 ?turn ?done ?hE)
  case hE => passes_own
  case h0 =>
    refine (hJ _ _ _).mpr ⟨0, _, by rw [hm0]; rfl, fun _ _ => rfl, rfl, by omega, by omega, by rw [Int.sub_zero], ?_⟩
    rw [readMany, Int.add_zero, Int.zero_add]
  case turn =>
    intro s5 n m1 nw1 h1 tk1 F1 N1 hj
    obtain ⟨j, t, e1, e2, rfl, b1, b2, b3, b4⟩ := (hJ _ _ _).mp hj
    clear hj
    have em := map1 e1 e2
    subst em
    clear e1 e2
    have b5 : ¬ (i + j < x.length) → zrun x (Str.ofString "0") n (i + j) = 0 := fun h => by
      cases n with
      | zero => rfl
      | succ n => rw [zrun, if_neg h]
    have b6 : i + j < x.length → ¬ ((Txt.item x (i + j) == Str.ofString "0") = true) → zrun x (Str.ofString "0") n (i + j) = 0 := fun h1 h2 => by
      cases n with
      | zero => rfl
      | succ n => rw [zrun, if_pos h1, if_neg h2]
    subst hm0
    k_steps
    · rename_i c1 c2 c3 h9 F9 N9
      refine ⟨?_⟩
      obtain ⟨n', rfl⟩ : ∃ n', n = n' + 1 := succ_toNat b3 c1
      rw [zrun, if_pos c1, if_pos c3] at b4
      clear b5 b6
      refine WhileStep.intro F9 N9 (n' := n') (Nat.lt_succ_self _) ((hJ _ _ _).mpr ⟨j + 1, _, rfl, (by intro z z1; simp [z1]), rfl, by clear b2 b3 b4; omega, by clear b2 b3 b4; omega, pred_toNat b3, ?_⟩)
      rw [b4, show i + (j + 1) = i + j + 1 by omega]; omega
    · rename_i c1 c2 c3
      refine ⟨?_⟩
      have b7 : readMany x i = j := by rw [b4, b6 c1 (by rw [c3]; decide)]; omega
      refine ⟨_, _, _, _, rfl, F1, N1, (hK _ _).mpr ⟨t, ?_, (by intro z z1; simp [z1]), rfl⟩⟩
      rw [b7]; rfl
    · rename_i c1
      refine ⟨?_⟩
      have b7 : readMany x i = j := by rw [b4, b5 c1]; omega
      refine ⟨_, _, _, _, rfl, F1, N1, (hK _ _).mpr ⟨t, ?_, (by intro z z1; simp [z1]), rfl⟩⟩
      rw [b7]; rfl
  case done =>
    intro h4 tk4 m2 nw2 F2 N2 hk
    obtain ⟨t, e1, e2, rfl⟩ := (hK _ _).mp hk
    clear hk
    have em := map1 e1 e2
    subst em
    subst hm0
    clear e1 e2
    have hq : (Txt.slice x (some (i + readMany x i)) (some (i + 2 * readMany x i + 1))).length ≤ sizeLine := Nat.le_trans (Txt.slice_le _ _ _) hxs
    k_steps
    rename_i h5 t5 k5 F5 N5
    refine ⟨?_⟩
    refine ⟨_, _, _, rfl, rfl, F5, N5, Nat.le_trans (Txt.sliceBy_le _ _ _ _ (show (-1 : Int) ≠ 0 by decide)) hq, ?_⟩
    intro g9
    refine rest_text _ val (fun c u I oI C oC D m₂ ys h tk E' hc hC hx' F' N' off ne => ?_) ?_
    · have hv : PySem.intText? ⟨#[c]⟩ = some (val c) := val_reads (hb c hc)
      have off0 := off
      (simp only [LCg.Off3, and_true] at off)
      with_reducible show wpAny _ _ _ _ _ _
      k_steps
      refine ⟨?_⟩
      exact LCg.CompEnd.intro F' N' _ (fun p hp => hp) off0 trivial ⟨rfl, _, rfl⟩
    · intro ys hys
      have hys' : IntsAre ys (bits (readText x i)) := hys
      clear hys
      have hdd : ∀ d ∈ bits (readText x i), 0 ≤ d ∧ d < 256 := fun d hd => bits_small hd
      k_steps
      intro keep
      rename News h₀ L _ _ => kN
      refine' spec_fin (new := [(_, tupOf [_, _])]) hret ?fr N keep kN ?s1 ?s2 ?post ?hs ?hsub ?off ?hk1 ?hk2
      case s1 => assumption
      case s2 => assumption
      case hsub => ((try simp only [List.cons_append, List.nil_append]); repeat (first | exact List.forall_mem_nil _ | refine List.forall_mem_cons.mpr ⟨by k_mem, ?_⟩))
      case post => exact ⟨_, _, _, rfl, rfl⟩
      case hk1 => (repeat (first | exact Kept.refl _ _ | refine Moved.kept (by assumption) hsz' ?_))
      case hk2 => (repeat (first | exact Kept.refl _ _ | refine Moved.kept (by assumption) hsz' ?_))
      case fr => k_asm
      case hs => (repeat (first | exact List.forall_mem_nil _ | refine List.forall_mem_cons.mpr ⟨by first | exact .inr (by k_mem) | exact .inl (.head _) | exact .inl (.tail _ (.head _)), ?_⟩))
      case off => (repeat (first | exact List.forall_mem_nil _ | refine List.forall_mem_cons.mpr ⟨⟨ne_off (by dsimp only; omega) (by dsimp only; omega), Nat.le_trans hsz' (Nat.le_of_lt (by dsimp only; omega))⟩, ?_⟩))
end
section
theorem off_C12 : True := by
  w_top off
  trivial
local macro_rules | `(tactic| walk_at "pad C12 22") => `(tactic| skip)
local macro_rules | `(tactic| walk_at "pad C12 23") => `(tactic| skip)
/-! ## bisect_left -/
theorem binds_KW {K : Frag} {s : Shared} {fd : FuncData} {args : Args} {binds : List (Str × Value)} {T D : Addr} {o od : Obj} {items : Array Value} {n : Nat} {part : Option Value} {k : Option (Array Value) → Sem (List (Str × Value))} {k2 : Obj → Sem (List (Str × Value))}
    (X : K.In s.heap) (hd : fd.defaults = .ref T) (ho : K.lookup T = some o) (hs : o.data = .seq items n)
    (h₁ : bindArgs fd args = seqItems? fd.defaults >>= k) (h₂ : k (some items) = Sem.load D part k2) (hD : K.lookup D = some od) (h₃ : k2 od = pure binds) : BindsTo s fd args binds :=
  fun _ _ _ _ hq => by
    rw [h₁, hd]
    refine wpAny_bind (wpAny_seqItems (X _ _ ho) hs ?_)
    rw [h₂]
    show wpAny _ _ (loadPart D part >>= k2) _ _ _
    exact wpAny_bind (wpAny_loadPart (X _ _ hD) (h₃ ▸ wpAny_pure hq))

local macro_rules | `(tactic| walk_at "subscriptTail Name Name ref int") => `(tactic| (k_here; k_dflt (refine' item_strsA ?sl ?sa ?i0 ?i1 ?i2 ?_; (case sl => is_list); (case sa => assumption); (case i0 => omega); (case i1 => omega); (case i2 => omega)); intro _; walk_say "MINE"))
theorem mid_of {lo hi : Int} (h0 : 0 ≤ lo) (h : lo < hi) : lo ≤ (lo + hi).fdiv 2 ∧ (lo + hi).fdiv 2 < hi := by
  rw [Int.fdiv_eq_ediv_of_nonneg _ (by decide)]; omega
noncomputable def bl (ys : List Str) (x : Str) : Nat → Int → Int → Int
  | 0, lo, _ => lo
  | f + 1, lo, hi => if lo < hi then (if (ys.getD ((lo + hi).fdiv 2).toNat Str.empty).cps.toList < x.cps.toList then bl ys x f ((lo + hi).fdiv 2 + 1) hi else bl ys x f lo ((lo + hi).fdiv 2)) else lo
noncomputable def bisect (ys : List Str) (x : Str) : Int := bl ys x ys.length 0 ys.length
theorem bl_range {ys : List Str} {x : Str} : ∀ (f : Nat) (lo hi : Int), 0 ≤ lo → lo ≤ hi → lo ≤ bl ys x f lo hi ∧ bl ys x f lo hi ≤ hi
  | 0, lo, hi, _, h => ⟨Int.le_refl _, h⟩
  | f + 1, lo, hi, h0, h => by
    rw [bl]
    split
    · rename_i c
      have hm := mid_of h0 c
      split
      · have := bl_range (ys := ys) (x := x) f ((lo + hi).fdiv 2 + 1) hi (by omega) (by omega); omega
      · have := bl_range (ys := ys) (x := x) f lo ((lo + hi).fdiv 2) h0 (by omega); omega
    · exact ⟨Int.le_refl _, h⟩
theorem bisect_range (ys : List Str) (x : Str) : 0 ≤ bisect ys x ∧ bisect ys x ≤ ys.length := bl_range _ _ _ (Int.le_refl _) (by omega)
inductive InvB (ys : List Str) (x : Str) (m0 : Str → Option Value) (rest : List (Addr × Obj)) (n : Nat) (m' : Str → Option Value) (nw : List (Addr × Obj)) : Prop
  | mk (lo hi : Int) (tl th : Tok) (e1 : m' (Str.ofString "lo") = some (.int lo tl)) (e2 : m' (Str.ofString "hi") = some (.int hi th)) (e3 : ∀ z, z ≠ Str.ofString "lo" → z ≠ Str.ofString "hi" → z ≠ Str.ofString "mid" → m' z = m0 z) (hn : nw = rest) (b1 : 0 ≤ lo) (b2 : lo ≤ hi) (b3 : hi ≤ ys.length) (b4 : hi - lo ≤ (n : Int)) (b5 : bisect ys x = bl ys x n lo hi) : InvB ys x m0 rest n m' nw
inductive OutB (ys : List Str) (x : Str) (m0 : Str → Option Value) (rest : List (Addr × Obj)) (m' : Str → Option Value) (nw : List (Addr × Obj)) : Prop
  | mk (t : Tok) (e1 : m' (Str.ofString "lo") = some (.int (bisect ys x) t)) (e2 : ∀ z, z ≠ Str.ofString "lo" → z ≠ Str.ofString "hi" → z ≠ Str.ofString "mid" → m' z = m0 z) (hn : nw = rest) : OutB ys x m0 rest m' nw
set_option maxHeartbeats 1000000 in
theorem bisect2_spec {w : World} {l : Addr} {vs : List Value} {k : Nat} {ys : List Str} {x : Str} {tx : Tok} (hi0 : StrsAre vs ys) (hlen : ys.length ≤ 64) :
    Spec0 w 74 [.ref l, .str x tx] [(l, listOf vs.toArray k)] 2 (fun r new => ∃ t, r = .int (bisect ys x) t ∧ new = []) := by
  intro p loose mean mg mb dp un gd cn cs aa ccd cl outer A₀ base h₀ L m s Q E B F X T hk N hdp hun hret
  refine wpAny_call ?_
  k_dflt (refine' enter_def ?k1 ?k2 ?k3 ?k4 ?k5 ?kA ?kF ?kK ?k6 ?k7 ?k8 ?k9 ?kB ?_ ?c2 ?c3 ?c4 ?c5)
  case kA => exact rfl
  case kF => exact rfl
  case kK => assumption
  case k1 => k_asm
  case k2 => k_asm
  case k3 => k_asm
  case k4 => k_asm
  case k5 => k_asm
  case k6 => k_is
  case k7 => k_is
  case k8 => ktr_room
  case k9 => first | exact BindsTo.of_eq rfl | exact binds_K (by k_in) rfl (by k_is) rfl rfl rfl | exact binds_KW (by k_in) rfl (by k_is) rfl (by exact rfl) (by exact rfl) (by k_is) (by exact rfl)
  case c5 => decide
  case kB => exact locs rfl
  case c2 => exact rfl
  case c3 => exact rfl
  case c4 => exact rfl
  intro g' L' h' FG' F' N' B' X' T' l1 hsz'
  k_lt l1
  with_reducible show wpAny _ _ _ _ _ _
  k_fold
  k_steps
  rename_i h3 F3 N3
  refine ⟨?_⟩
  obtain ⟨m0, hm0, F0⟩ := fr_name F3
  obtain ⟨J, hJ⟩ := hide (InvB ys x m0 [(l, listOf vs.toArray k)])
  obtain ⟨K, hK⟩ := hide2 (OutB ys x m0 [(l, listOf vs.toArray k)])
  k_dflt (refine' while_out J K (n₀ := ys.length) F0 N3 ?h0 ?turn ?done ?hE)
  case hE => passes_own
  case h0 =>
    refine (hJ _ _ _).mpr ⟨0, ys.length, _, _, by rw [hm0]; rfl, by rw [hm0]; rfl, fun _ _ _ _ => rfl, rfl, by omega, by omega, by omega, by omega, rfl⟩
  case turn =>
    intro s5 n m1 nw1 h1 tk1 F1 N1 hj
    obtain ⟨lo, hi, tl, th, e1, e2, e3, rfl, b1, b2, b3, b4, b5⟩ := (hJ _ _ _).mp hj
    clear hj
    have em := map3 e1 e2 rfl e3
    generalize m1 (Str.ofString "mid") = u1 at em
    subst em
    clear e1 e2 e3
    subst hm0
    have hmid : lo < hi → lo ≤ (lo + hi).fdiv 2 ∧ (lo + hi).fdiv 2 < hi := mid_of b1
    k_steps
    · rename_i c1 h8 t8 c2 h9 F9 N9
      refine ⟨?_⟩
      obtain ⟨n', rfl⟩ : ∃ n', n = n' + 1 := ⟨n - 1, by omega⟩
      rw [bl, if_pos c1, if_pos c2] at b5
      obtain ⟨g1, g2⟩ := hmid c1
      clear hmid
      exact WhileStep.intro F9 N9 (n' := n') (by omega) ((hJ _ _ _).mpr ⟨(lo + hi).fdiv 2 + 1, hi, _, _, rfl, rfl, (by intro z z1 z2 z3; simp [z1, z2, z3]), rfl, by omega, by omega, by omega, by omega, b5⟩)
    · rename_i c1 h8 t8 c2 h9 F9 N9
      refine ⟨?_⟩
      obtain ⟨n', rfl⟩ : ∃ n', n = n' + 1 := ⟨n - 1, by omega⟩
      rw [bl, if_pos c1, if_neg c2] at b5
      obtain ⟨g1, g2⟩ := hmid c1
      clear hmid
      exact WhileStep.intro F9 N9 (n' := n') (by omega) ((hJ _ _ _).mpr ⟨lo, (lo + hi).fdiv 2, _, _, rfl, rfl, (by intro z z1 z2 z3; simp [z1, z2, z3]), rfl, by omega, by omega, by omega, by omega, b5⟩)
    · rename_i c1
      refine ⟨?_⟩
      have b7 : bisect ys x = lo := by
        rw [b5]
        cases n with
        | zero => rfl
        | succ n => rw [bl, if_neg c1]
      refine ⟨_, _, _, _, rfl, F1, N1, (hK _ _).mpr ⟨tl, ?_, (by intro z z1 z2 z3; simp [z1, z2, z3]), rfl⟩⟩
      rw [b7]; rfl
  case done =>
    intro h4 tk4 m2 nw2 F2 N2 hk
    obtain ⟨t, e1, e2, rfl⟩ := (hK _ _).mp hk
    clear hk hJ hK J K
    have em := map3 e1 rfl rfl e2
    generalize m2 (Str.ofString "hi") = u1 at em
    generalize m2 (Str.ofString "mid") = u2 at em
    subst em
    subst hm0
    clear e1 e2
    k_steps
    intro keep
    rename News h₀ L _ _ => kN
    refine' spec0_fin (new := []) hret ?fr N keep kN ?post ?hs ?hsub ?off
    case hsub => ((try simp only [List.cons_append, List.nil_append]); repeat (first | exact List.forall_mem_nil _ | refine List.forall_mem_cons.mpr ⟨by k_mem, ?_⟩))
    case post => exact ⟨_, rfl, rfl⟩
    case fr => k_asm
    case hs => (repeat (first | exact List.forall_mem_nil _ | refine List.forall_mem_cons.mpr ⟨by k_mem, ?_⟩))
    case off => (repeat (first | exact List.forall_mem_nil _ | refine List.forall_mem_cons.mpr ⟨Nat.le_trans hsz' (Nat.le_of_lt (by dsimp only; omega)), ?_⟩))
set_option maxHeartbeats 1000000 in
theorem bisect4_spec {w : World} {l : Addr} {vs : List Value} {k : Nat} {ys : List Str} {x : Str} {tx t0 : Tok} (hi0 : StrsAre vs ys) (hlen : ys.length ≤ 64) :
    Spec0 w 74 [.ref l, .str x tx, .int 0 t0, .none] [(l, listOf vs.toArray k)] 2 (fun r new => ∃ t, r = .int (bisect ys x) t ∧ new = []) := by
  intro p loose mean mg mb dp un gd cn cs aa ccd cl outer A₀ base h₀ L m s Q E B F X T hk N hdp hun hret
  refine wpAny_call ?_
  k_dflt (refine' enter_def ?k1 ?k2 ?k3 ?k4 ?k5 ?kA ?kF ?kK ?k6 ?k7 ?k8 ?k9 ?kB ?_ ?c2 ?c3 ?c4 ?c5)
  case kA => exact rfl
  case kF => exact rfl
  case kK => assumption
  case k1 => k_asm
  case k2 => k_asm
  case k3 => k_asm
  case k4 => k_asm
  case k5 => k_asm
  case k6 => k_is
  case k7 => k_is
  case k8 => ktr_room
  case k9 => first | exact BindsTo.of_eq rfl | exact binds_K (by k_in) rfl (by k_is) rfl rfl rfl | exact binds_KW (by k_in) rfl (by k_is) rfl (by exact rfl) (by exact rfl) (by k_is) (by exact rfl)
  case c5 => decide
  case kB => exact locs rfl
  case c2 => exact rfl
  case c3 => exact rfl
  case c4 => exact rfl
  intro g' L' h' FG' F' N' B' X' T' l1 hsz'
  k_lt l1
  with_reducible show wpAny _ _ _ _ _ _
  k_fold
  k_steps
  rename_i h3 F3 N3
  refine ⟨?_⟩
  obtain ⟨m0, hm0, F0⟩ := fr_name F3
  obtain ⟨J, hJ⟩ := hide (InvB ys x m0 [(l, listOf vs.toArray k)])
  obtain ⟨K, hK⟩ := hide2 (OutB ys x m0 [(l, listOf vs.toArray k)])
  k_dflt (refine' while_out J K (n₀ := ys.length) F0 N3 ?h0 ?turn ?done ?hE)
  case hE => passes_own
  case h0 =>
    refine (hJ _ _ _).mpr ⟨0, ys.length, _, _, by rw [hm0]; rfl, by rw [hm0]; rfl, fun _ _ _ _ => rfl, rfl, by omega, by omega, by omega, by omega, rfl⟩
  case turn =>
    intro s5 n m1 nw1 h1 tk1 F1 N1 hj
    obtain ⟨lo, hi, tl, th, e1, e2, e3, rfl, b1, b2, b3, b4, b5⟩ := (hJ _ _ _).mp hj
    clear hj
    have em := map3 e1 e2 rfl e3
    generalize m1 (Str.ofString "mid") = u1 at em
    subst em
    clear e1 e2 e3
    subst hm0
    have hmid : lo < hi → lo ≤ (lo + hi).fdiv 2 ∧ (lo + hi).fdiv 2 < hi := mid_of b1
    k_steps
    · rename_i c1 h8 t8 c2 h9 F9 N9
      refine ⟨?_⟩
      obtain ⟨n', rfl⟩ : ∃ n', n = n' + 1 := ⟨n - 1, by omega⟩
      rw [bl, if_pos c1, if_pos c2] at b5
      obtain ⟨g1, g2⟩ := hmid c1
      clear hmid
      exact WhileStep.intro F9 N9 (n' := n') (by omega) ((hJ _ _ _).mpr ⟨(lo + hi).fdiv 2 + 1, hi, _, _, rfl, rfl, (by intro z z1 z2 z3; simp [z1, z2, z3]), rfl, by omega, by omega, by omega, by omega, b5⟩)
    · rename_i c1 h8 t8 c2 h9 F9 N9
      refine ⟨?_⟩
      obtain ⟨n', rfl⟩ : ∃ n', n = n' + 1 := ⟨n - 1, by omega⟩
      rw [bl, if_pos c1, if_neg c2] at b5
      obtain ⟨g1, g2⟩ := hmid c1
      clear hmid
      exact WhileStep.intro F9 N9 (n' := n') (by omega) ((hJ _ _ _).mpr ⟨lo, (lo + hi).fdiv 2, _, _, rfl, rfl, (by intro z z1 z2 z3; simp [z1, z2, z3]), rfl, by omega, by omega, by omega, by omega, b5⟩)
    · rename_i c1
      refine ⟨?_⟩
      have b7 : bisect ys x = lo := by
        rw [b5]
        cases n with
        | zero => rfl
        | succ n => rw [bl, if_neg c1]
      refine ⟨_, _, _, _, rfl, F1, N1, (hK _ _).mpr ⟨tl, ?_, (by intro z z1 z2 z3; simp [z1, z2, z3]), rfl⟩⟩
      rw [b7]; rfl
  case done =>
    intro h4 tk4 m2 nw2 F2 N2 hk
    obtain ⟨t, e1, e2, rfl⟩ := (hK _ _).mp hk
    clear hk hJ hK J K
    have em := map3 e1 rfl rfl e2
    generalize m2 (Str.ofString "hi") = u1 at em
    generalize m2 (Str.ofString "mid") = u2 at em
    subst em
    subst hm0
    clear e1 e2
    k_steps
    intro keep
    rename News h₀ L _ _ => kN
    refine' spec0_fin (new := []) hret ?fr N keep kN ?post ?hs ?hsub ?off
    case hsub => ((try simp only [List.cons_append, List.nil_append]); repeat (first | exact List.forall_mem_nil _ | refine List.forall_mem_cons.mpr ⟨by k_mem, ?_⟩))
    case post => exact ⟨_, rfl, rfl⟩
    case fr => k_asm
    case hs => (repeat (first | exact List.forall_mem_nil _ | refine List.forall_mem_cons.mpr ⟨by k_mem, ?_⟩))
    case off => (repeat (first | exact List.forall_mem_nil _ | refine List.forall_mem_cons.mpr ⟨Nat.le_trans hsz' (Nat.le_of_lt (by dsimp only; omega)), ?_⟩))
end
section
theorem off_Lp3 : True := by
  w_top off
  trivial
section
variable {prog : Program} {w : World} {A : Around} {E : Value → Shared → Prop} {s : Shared} {env : Env} {h₀ : Heap} {L : Addr}
theorem rest_ints {m : Str → Option Value} {elt : Expr} {x : Str} {scope : Scope} {cl : List (Str × Addr)} {S : List (Addr × Obj) → Prop} {P : Nat → Value → Prop} {Fin : List Value → List (Addr × Obj) → Prop} {news : List (Addr × Obj)} {n : Nat} (ns : List Int) (g : Int → Int) (R : List (Addr × Obj) → Prop)
    (hn : ns.length = n) (hP : ∀ i v, i < n → P i v → ∃ k t, ns[i]? = some k ∧ v = .int k t) (h0 : R news)
    (turn : ∀ k t I oI C oC D m₂ ys news h tk (E' : Value → Shared → Prop), k ∈ ns → R news → LCg.NsObj oC m₂ → m₂ x = some (.int k t) → Fr h₀ L h m → News h₀ L h ((I, oI) :: (C, oC) :: (D, LCg.lst ys) :: news) → LCg.Off3 I C D news → ((@Ne Nat I C) ∧ (@Ne Nat I D) ∧ (@Ne Nat C D)) →
      wpAny (model prog w) A (eval elt (compEnvC scope cl C env)) (LCg.CompEnd h₀ L m { s with heap := h, toks := tk } I oI C oC D (LCg.lst ys) S (fun y news' => R news' ∧ ∃ t : Tok, y = .int (g k) t)) E' { s with heap := h, toks := tk })
    (fin : ∀ ys news, R news → IntsAre ys (ns.map g) → Fin ys news) : LCg.CompRest prog w A h₀ L m env elt x scope cl s S P Fin n 0 [] news := by
  have key : ∀ (j i : Nat) (ys : List Value) (news : List (Addr × Obj)), i + j = n → R news → IntsAre ys ((ns.take i).map g) → LCg.CompRest prog w A h₀ L m env elt x scope cl s S P Fin j i ys news := by
    intro j
    induction j with
    | zero =>
      intro i ys news hi hR hy
      have e : i = ns.length := by omega
      subst e
      rw [List.take_length] at hy
      exact LCg.CompRest.zero (fin ys news hR hy)
    | succ j ih =>
      intro i ys news hi hR hy
      refine LCg.CompRest.succ ?_
      intro v I oI C oC D m₂ h tk E' hv hC hx F N off ne
      obtain ⟨k, u, hk, hv'⟩ := hP i v (by omega) hv
      rw [hv'] at hx
      refine wpAny_mono (turn k u I oI C oC D m₂ ys news h tk E' (List.mem_of_getElem? hk) hR hC hx F N off ne) (fun y s₂ hq => ?_) fun _ _ e => e
      obtain ⟨h', tk', nw, e, F', N', off', hS, hR', t', hy'⟩ := hq
      refine ⟨h', tk', nw, e, F', N', off', hS, ?_⟩
      rw [hy']
      refine ih (i + 1) _ nw (by omega) hR' ?_
      rw [List.take_add_one, hk]
      simpa using IntsAre.append hy (.cons (g k) t' .nil)
  exact key n 0 [] news (by omega) h0 (by simp only [List.take_zero, List.map_nil]; exact .nil)
theorem led_P {vs : List Value} {ns : List Int} (hi : IntsAre vs ns) : ∀ i v, i < vs.toArray.size → vs.toArray[i]? = some v → ∃ k t, ns[i]? = some k ∧ v = .int k t := fun i v _ hv => by
  obtain ⟨k, t, e, hk⟩ := IntsAre.at hi i v (by simpa using hv)
  exact ⟨k, t, hk, e⟩
end
end
section
theorem off_C13 : True := by
  w_top off
  trivial
local macro_rules | `(tactic| walk_at "pad C13 23") => `(tactic| skip)
local macro_rules | `(tactic| walk_at "pad C13 24") => `(tactic| skip)
local macro_rules | `(tactic| walk_at "pad C13 25") => `(tactic| skip)
/-! ## insort_left -/
noncomputable def ins (ys : List Str) (x : Str) : List Str := ys.take (bisect ys x).toNat ++ x :: ys.drop (bisect ys x).toNat
theorem strs_ins {x : Str} {t : Tok} : ∀ {vs : List Value} {ys : List Str} (n : Nat), StrsAre vs ys → StrsAre (vs.take n ++ .str x t :: vs.drop n) (ys.take n ++ x :: ys.drop n)
  | _, _, 0, h => by simp only [List.take_zero, List.drop_zero, List.nil_append]; exact .cons _ _ h
  | _, _, _ + 1, .nil => by simp only [List.take_nil, List.drop_nil, List.nil_append]; exact .cons _ _ .nil
  | _, _, n + 1, .cons y u r => by simp only [List.take_succ_cons, List.drop_succ_cons, List.cons_append]; exact .cons _ _ (strs_ins n r)
section
variable {prog : Program} {w : World} {A : Around} {E : Value → Shared → Prop} {s : Shared} {h₀ : Heap} {L D : Addr} {m : Str → Option Value} {news news' : List (Addr × Obj)} {vs : List Value} {n : Nat}
theorem ins_K {x : Int} {u : Tok} {y : Value} {Q : Value → Shared → Prop} (F : Fr h₀ L s.heap m) (N : News h₀ L s.heap news) (h0 : 0 ≤ x) (h1 : x ≤ vs.length) (hl : vs.length ≤ 64)
    (U : Upd D (listOf vs.toArray n) (listOf (vs.take x.toNat ++ y :: vs.drop x.toNat).toArray (n + 1)) news news') (h : ∀ h', Fr h₀ L h' m → News h₀ L h' news' → Q .none { s with heap := h' }) :
    wpAny (model prog w) A (call (.builtin "list.insert") [.ref D, .int x u, y]) Q E s :=
  kl_insert F N (by simp only [Builtin.List.listFitsIndex, Bool.and_eq_true, decide_eq_true_eq]; omega) (by
    show kl_ins vs x y = _
    unfold kl_ins
    rw [if_neg (by omega), Nat.min_eq_left (by omega)]) U (by show vs.length ≤ _; rw [sizeLine_eq]; omega) h
end

local macro_rules | `(tactic| walk_at "use spec0") => `(tactic| ((with_reducible show Spec0 _ 74 _ _ _ _); refine' bisect4_spec (by walk_at "use side") (by walk_at "use side")))

local macro_rules | `(tactic| walk_at "call builtin:list.insert") => `(tactic| (k_here; k_dflt (refine' ins_K ?F ?N ?a ?b ?c ?U ?_; (case F => k_asm); (case N => k_asm); (case U => k_upd); (case a => assumption); (case b => assumption); (case c => assumption)); intro h' F' N'; (try k_sweep); walk_say "MINE"))
noncomputable def InsSpec (w : World) (l : Addr) (vs : List Value) (k : Nat) (ys : List Str) (x : Str) (tx : Tok) : Prop :=
  ∀ {p : Program} {loose : List Str} {mean : ExcName → Option Value} {mg mb : Str → Option Value} (dp un : Nat) (gd : Option (List Code)) (cn : Str) (cs : Scope) (a : Addr) (ccd : Value) (cl : List (Str × Addr)) (outer : List Env) (A₀ : Around) (base h₀ : Heap) (L : Addr) (m : Str → Option Value) (s : Shared) (Q E : Value → Shared → Prop),
    Below A₀ base outer h₀ → Fr h₀ L s.heap m → (hd.heap_39 w.params).In h₀ → Top p loose mean mg mb h₀ → cs.kind = .function →
    News h₀ L s.heap [(l, listOf vs.toArray k)] → dp + 8 < recursionLimit → un + 64 < cLine →
    (∀ h' tk' vs' k', Fr h₀ L h' m → News h₀ L h' [(l, listOf vs'.toArray k')] → (∀ b o, s.heap.get? b = some o → b ∉ [l] → h'.get? b = some o) → StrsAre vs' (ins ys x) →
      Q .none { s with heap := h', toks := tk' }) →
    wpAny (model PySem.Challenge.rw_ie0010_01.row.prog w) (ktrTop dp un gd cn cs L a ccd cl outer) (call (.ref 65) [.ref l, .str x tx]) Q E s
set_option maxHeartbeats 1000000 in
theorem insort_spec {w : World} {l : Addr} {vs : List Value} {k : Nat} {ys : List Str} {x : Str} {tx : Tok} (hi0 : StrsAre vs ys) (hlen : ys.length ≤ 64) : InsSpec w l vs k ys x tx := by
  intro p loose mean mg mb dp un gd cn cs aa ccd cl outer A₀ base h₀ L m s Q E B F X T hk N hdp hun hret
  refine wpAny_call ?_
  k_dflt (refine' enter_def ?k1 ?k2 ?k3 ?k4 ?k5 ?kA ?kF ?kK ?k6 ?k7 ?k8 ?k9 ?kB ?_ ?c2 ?c3 ?c4 ?c5)
  case kA => exact rfl
  case kF => exact rfl
  case kK => assumption
  case k1 => k_asm
  case k2 => k_asm
  case k3 => k_asm
  case k4 => k_asm
  case k5 => k_asm
  case k6 => k_is
  case k7 => k_is
  case k8 => ktr_room
  case k9 => first | exact BindsTo.of_eq rfl | exact binds_K (by k_in) rfl (by k_is) rfl rfl rfl | exact binds_KW (by k_in) rfl (by k_is) rfl (by exact rfl) (by exact rfl) (by k_is) (by exact rfl)
  case c5 => decide
  case kB => exact locs rfl
  case c2 => exact rfl
  case c3 => exact rfl
  case c4 => exact rfl
  intro g' L' h' FG' F' N' B' X' T' l1 hsz'
  k_lt l1
  with_reducible show wpAny _ _ _ _ _ _
  k_fold
  have hb := bisect_range ys x
  have hb0 := hb.1
  have hl := hi0.length
  have hb1 : bisect ys x ≤ vs.length := by omega
  have hl64 : vs.length ≤ 64 := by omega
  clear hb
  k_steps
  intro keep
  rename News h₀ L _ _ => kN
  rename Fr h₀ L _ _ => kF
  exact hret _ _ _ _ kF kN (keep_of (wr := [l]) N keep kN (List.forall_mem_cons.mpr ⟨.inl (.head _), List.forall_mem_nil _⟩)) (strs_ins _ hi0)
/-- the call from a frame with more in its ledger -/
theorem InsSpec.use {w : World} {l : Addr} {vs : List Value} {k : Nat} {ys : List Str} {x : Str} {tx : Tok} (C : InsSpec w l vs k ys x tx)
    {p : Program} {loose : List Str} {mean : ExcName → Option Value} {mg mb : Str → Option Value} {dp un : Nat} {gd : Option (List Code)} {cn : Str} {cs : Scope} {a : Addr} {ccd : Value} {cl : List (Str × Addr)} {outer : List Env} {A₀ : Around} {base h₀ : Heap} {L : Addr} {m : Str → Option Value} {s : Shared} {Q E : Value → Shared → Prop}
    {news rest : List (Addr × Obj)}
    (B : Below A₀ base outer h₀) (F : Fr h₀ L s.heap m) (X : (hd.heap_39 w.params).In h₀) (T : Top p loose mean mg mb h₀) (hk : cs.kind = .function)
    (N : News h₀ L s.heap news) (hm : (l, listOf vs.toArray k) ∈ news) (hd : dp + 8 < recursionLimit) (hu : un + 64 < cLine) (hr : ∀ p ∈ rest, p ∈ news ∧ p.1 ≠ l)
    (ret : ∀ h' tk' vs' k', Fr h₀ L h' m → News h₀ L h' ((l, listOf vs'.toArray k') :: rest) → StrsAre vs' (ins ys x) → Q .none { s with heap := h', toks := tk' }) :
    wpAny (model PySem.Challenge.rw_ie0010_01.row.prog w) (ktrTop dp un gd cn cs L a ccd cl outer) (call (.ref 65) [.ref l, .str x tx]) Q E s := by
  refine C dp un gd cn cs a ccd cl outer A₀ base h₀ L m s Q E B F X T hk (fun p hp => N p (by rw [List.mem_singleton.mp hp]; exact hm)) hd hu ?_
  intro h' tk' vs' k' F' N' keep hi
  refine ret h' tk' vs' k' F' (fun p hp => ?_) hi
  rcases List.mem_cons.mp hp with rfl | hp
  · exact N' _ (.head _)
  · obtain ⟨h1, h2⟩ := hr p hp
    exact ⟨keep _ _ (N p h1).1 (by simpa using h2), (N p h1).2⟩
end
section
theorem off_F1 : True := by
  w_top off
  trivial
/-! ## the texts as rows of signs, from the figures alone -/
noncomputable def sign (d : Int) : Nat := if d = 1 then 49 else 48
theorem txt_sign {d : Int} (h0 : 0 ≤ d) (h1 : d < 2) : (txt d).cps.toList = [sign d] := by
  obtain rfl | rfl : d = 0 ∨ d = 1 := by omega
  · decide +kernel
  · decide +kernel
theorem app_list (x y : Str) : (x ++ y).cps.toList = x.cps.toList ++ y.cps.toList := by
  show (x.cps ++ y.cps).toList = _
  exact Array.toList_append
theorem join_list : ∀ l : List Str, (Str.join (Str.ofString "") l).cps.toList = l.flatMap (fun x => x.cps.toList)
  | [] => rfl
  | [x] => by simp [Str.join]
  | x :: y :: l => by
    have e : (Str.ofString "").cps.toList = [] := by decide
    rw [Str.join, app_list, app_list, join_list (y :: l), e, List.append_nil]
    · rfl
    · intro h; cases h
theorem figs_list {a n : Int} (hd : ∀ d ∈ i2d a 1, 0 ≤ d ∧ d < 2) : (figs a n).cps.toList = (low a n).reverse.map sign := by
  have hl : ∀ d ∈ (low a n).reverse, 0 ≤ d ∧ d < 2 := fun d h => mem_low hd (List.mem_reverse.1 h)
  have e : figs a n = Str.join (Str.ofString "") ((low a n).reverse.map txt) := StrLaws.glued_eq_join _ _
  rw [e, join_list]
  generalize (low a n).reverse = l at hl
  induction l with
  | nil => rfl
  | cons d l ih =>
    rw [List.map_cons, List.flatMap_cons, List.map_cons, ih (fun x hx => hl x (.tail _ hx)), txt_sign (hl d (.head _)).1 (hl d (.head _)).2]
    rfl
theorem mul_list (c : Nat) (n : Int) : (Txt.mul ⟨#[c]⟩ n).cps.toList = List.replicate n.toNat c := by
  unfold Txt.mul
  have key : ∀ (k : Nat) (acc : Array Nat), ((List.replicate k #[c]).foldl (· ++ ·) acc).toList = acc.toList ++ List.replicate k c := by
    intro k
    induction k with
    | zero => intro acc; simp
    | succ k ih => intro acc; rw [List.replicate_succ, List.foldl_cons, ih, List.replicate_succ]; simp
  by_cases h1 : n < 1
  · rw [if_pos h1, show n.toNat = 0 by omega]; rfl
  · rw [if_neg h1]
    by_cases h2 : n = 1
    · subst h2; rfl
    · rw [if_neg (by simp [h2, Str.length]), key]; rfl
theorem low_all (a : Int) : low a ((i2d a 1).length : Int) = i2d a 1 := by
  rw [low, Int.toNat_natCast, List.take_left]
/-- the figures from the highest on -/
noncomputable def rowF (a : Int) : List Nat := (i2d a 1).reverse.map sign
noncomputable def rowT (a : Int) : List Nat := List.replicate ((i2d a 1).length - 1) 48 ++ rowF a
theorem told_list {a : Int} (hd : ∀ d ∈ i2d a 1, 0 ≤ d ∧ d < 2) : (told a).cps.toList = rowT a := by
  have e : Str.ofString "0" = ⟨#[48]⟩ := by decide
  rw [told, app_list, figs_list hd, low_all, e, mul_list, rowT, rowF, show (((i2d a 1).length : Int) - 1).toNat = (i2d a 1).length - 1 by omega]
theorem cut1_list {x : Str} (h : 1 ≤ x.length) : (cut1 x).cps.toList = x.cps.toList.drop 1 := by
  have e := slice_closes_fromL (x := x) (i := 1) (b := x.length) (by decide) (by omega) rfl
  rw [beq_iff_eq] at e
  rw [cut1, e]
  refine List.take_of_length_le ?_
  rw [List.length_drop, Array.length_toList]
  show x.length - 1 ≤ _
  omega
noncomputable def rowS (a : Int) : List Nat := rowT ((i2d a 1).length : Int) ++ (rowF a).drop 1
theorem shorter_list {a : Int} (h1 : 1 ≤ (i2d a 1).length) (hd : ∀ d ∈ i2d a 1, 0 ≤ d ∧ d < 2) (hd2 : ∀ d ∈ i2d ((i2d a 1).length : Int) 1, 0 ≤ d ∧ d < 2) : (shorter a).cps.toList = rowS a := by
  have hf := figs_list (n := ((i2d a 1).length : Int)) hd
  rw [low_all] at hf
  have hl : 1 ≤ (figs a ((i2d a 1).length : Int)).length := by
    have := congrArg List.length hf
    rw [Array.length_toList, List.length_map, List.length_reverse] at this
    show 1 ≤ (figs a ((i2d a 1).length : Int)).cps.size
    omega
  rw [shorter, app_list, told_list hd2, cut1_list hl, hf, rowS, rowF]
noncomputable def rowR (a z : Int) : List Nat := List.replicate (dquo a (2 ^ z.toNat)).toNat 49 ++ (48 :: (low (drem a (2 ^ z.toNat)) z).reverse.map sign)
theorem byrest_list {a z : Int} (hd : ∀ d ∈ i2d (drem a (2 ^ z.toNat)) 1, 0 ≤ d ∧ d < 2) : (byrest a z).cps.toList = rowR a z := by
  have e : Str.ofString "1" = ⟨#[49]⟩ := by decide
  have e2 : (Str.ofString "0").cps.toList = [48] := by decide
  rw [byrest, app_list, app_list, figs_list hd, e, mul_list, e2, rowR, List.append_assoc]; rfl
end
section
theorem off_D1 : True := by
  w_top off
  trivial
/-! ## the law: its text, its frame -/
/-- a term's own form, by the left side of an equation that holds by rfl -/
noncomputable abbrev litOf {α : Type} {a b : α} (_ : a = b) : α := a
noncomputable def lawS : Stmt := (PySem.Challenge.pw_ie0010_01.main.body.getLast?).getD default
noncomputable def forBody : Stmt → List Stmt
  | .For _ _ b _ _ => b
  | _ => []
noncomputable abbrev lawEnv (L fa : Addr) : Env := envOfC "law" (litOf (rfl : Scope.mk _ _ _ _ _ = stScope lawS)) L fa (.ref 109)
theorem s1_grown {h₀ h : Heap} {L : Addr} {o1 o2 x1 x2 : Obj} {c1 c2 : Addr} {news : List (Addr × Obj)} (N : News h₀ L h news) (s1 : S1 o1 c1 x1) (hm : (30, o1) ∈ news) : GrownAt 30 h := by
  rcases s1.2.2 with e | ⟨_, _, e, _⟩
  · exact ⟨_, e ▸ (N _ hm).1⟩
  · exact ⟨_, e ▸ (N _ hm).1⟩
theorem s2_grown {h₀ h : Heap} {L : Addr} {o1 o2 x1 x2 : Obj} {c1 c2 : Addr} {news : List (Addr × Obj)} (N : News h₀ L h news) (s2 : S2 o2 c2 x2) (hm : (37, o2) ∈ news) : GrownAt 37 h := by
  rcases s2.2.2 with e | ⟨_, _, e, _⟩
  · exact ⟨_, e ▸ (N _ hm).1⟩
  · exact ⟨_, e ▸ (N _ hm).1⟩
theorem off3_off {I C D : Addr} {news : List (Addr × Obj)} {o1 o2 : Obj} (h : LCg.Off3 I C D news) (m1 : (30, o1) ∈ news) (m2 : (37, o2) ∈ news) : I ∉ [30, 37] ∧ C ∉ [30, 37] ∧ D ∉ [30, 37] :=
  ⟨ne_off (Ne.symm (h.mem _ m1).1) (Ne.symm (h.mem _ m2).1), ne_off (Ne.symm (h.mem _ m1).2.1) (Ne.symm (h.mem _ m2).2.1), ne_off (Ne.symm (h.mem _ m1).2.2) (Ne.symm (h.mem _ m2).2.2)⟩
theorem off3_moved {I C D c c' L : Addr} {oI oC oD : Obj} {news led : List (Addr × Obj)} {x : Obj} (h : LCg.Off3 I C D news) (mv : Moved c c' L led) (hm : (c, x) ∈ news) (i : (I, oI) ∈ led) (j : (C, oC) ∈ led) (k : (D, oD) ∈ led) : @Ne Nat c' I ∧ @Ne Nat c' C ∧ @Ne Nat c' D :=
  ⟨mv.ne i (h.mem _ hm).1, mv.ne j (h.mem _ hm).2.1, mv.ne k (h.mem _ hm).2.2⟩
theorem off3_tbl {I C D c1 c2 c1' c2' : Addr} {o1 o2 x1 x2 o1' o2' x1' x2' q : Obj} (h : LCg.Off3 I C D ((107, q) :: tbl o1 c1 x1 o2 c2 x2)) (a1 : @Ne Nat c1' I ∧ @Ne Nat c1' C ∧ @Ne Nat c1' D) (a2 : @Ne Nat c2' I ∧ @Ne Nat c2' C ∧ @Ne Nat c2' D) :
    LCg.Off3 I C D ((107, q) :: tbl o1' c1' x1' o2' c2' x2') := ⟨h.1, h.2.1, a1, h.2.2.2.1, a2, trivial⟩
theorem all_grown {h₀ h : Heap} {L : Addr} {o1 o2 x1 x2 : Obj} {c1 c2 : Addr} {p3 : Array Value} {news : List (Addr × Obj)} (N : News h₀ L h news) (s1 : S1 o1 c1 x1) (s2 : S2 o2 c2 x2) (hm : ∀ p ∈ (107, tabObj p3) :: tbl o1 c1 x1 o2 c2 x2, p ∈ news) : GrownAll [(34, 30), (41, 37), (109, 107)] h :=
  ⟨s1_grown (o2 := o2) (x2 := x2) (c2 := c2) N s1 (hm _ (.tail _ (.head _))), s2_grown (o1 := o1) (x1 := x1) (c1 := c1) N s2 (hm _ (.tail _ (.tail _ (.tail _ (.head _))))), ⟨_, (N _ (hm _ (.head _))).1⟩, trivial⟩
end
local macro_rules | `(tactic| walk_at "eval ListComp") => `(tactic| (k_here; k_dflt (refine LCg.ListComp_U (F₀ := by k_asm) (by with_unfolding_all rfl) (by decide) (by rfl) (by decide) (by rfl) ?_); walk_say "MINE"))
local macro_rules | `(tactic| walk_at "CompSrc") => `(tactic| (refine stop ?_; walk_say "MINE"))
local macro_rules | `(tactic| walk_at "TextSrc") => `(tactic| (refine stop ?_; walk_say "MINE"))
local macro_rules | `(tactic| walk_at "CompEnd") => `(tactic| (refine stop ?_; walk_say "MINE"))
local macro_rules | `(tactic| walk_at "pyIter ref") => `(tactic| (k_here; refine stop ?_; walk_say "MINE"))
local macro_rules | `(tactic| walk_at "call ref") => `(tactic| (k_here; refine stop ?_; walk_say "MINE"))
local macro_rules | `(tactic| walk_at "use for") => `(tactic| ((with_reducible rename Fr _ _ _ _ => lF9); (with_unfolding_all refine' For_invVF lF9 ?k1 ?k2 ?_ ?k4 ?k3; (case k1 => exact rfl); (case k2 => exact rfl); (case k3 => first | assumption | passes_own); (case k4 => (intro _; rfl)); k_whole)))
local macro_rules | `(tactic| walk_at "exec For Name Name cons nil") => `(tactic| (k_here; walk_at "use for"))
local macro_rules | `(tactic| walk_at "exec For Name Call cons nil") => `(tactic| (k_here; walk_at "use for"))
local macro_rules | `(tactic| walk_at "exec For Name List cons nil") => `(tactic| (k_here; walk_at "use for"))
local macro_rules | `(tactic| walk_at "TurnEnd") => `(tactic| (refine stop ?_; walk_say "MINE"))
local macro_rules | `(tactic| walk_at "use rest") => `(tactic| ((repeat (first | exact RestOf.nil | (refine RestOf.dropS1 (by with_reducible assumption) ?_) | (refine RestOf.dropS2 (by with_reducible assumption) ?_) | (apply RestOf.keep; with_reducible assumption) | with_reducible apply RestOf.drop30 | with_reducible apply RestOf.drop37 | apply RestOf.drop))))
local macro_rules | `(tactic| walk_at "call ref") => `(tactic| (k_here; walk_at "use call"))
local macro_rules | `(tactic| walk_at "call ref") => `(tactic| (k_here; walk_at "use call0"))
local macro_rules | `(tactic| walk_at "use spec") => `(tactic| ((with_reducible show Spec _ 86 _ _ _ _); refine' told_spec (by walk_at "use side") (by walk_at "use side") (by walk_at "use side") (by walk_at "use side")))
local macro_rules | `(tactic| walk_at "use spec") => `(tactic| ((with_reducible show Spec _ 93 _ _ _ _); refine' shorter_spec (by walk_at "use side") (by walk_at "use side")))
local macro_rules | `(tactic| walk_at "use spec") => `(tactic| ((with_reducible show Spec _ 100 _ _ _ _); refine' by_rest_spec (by walk_at "use side") (by walk_at "use side") (by walk_at "use side") (by walk_at "use side")))
local macro_rules | `(tactic| walk_at "use spec") => `(tactic| ((with_reducible show Spec _ 105 _ _ _ _); refine' read_spec (by walk_at "use side") (by walk_at "use side") (by walk_at "use side") (by walk_at "use side") (by walk_at "use side")))
local macro_rules | `(tactic| walk_at "use spec") => `(tactic| ((with_reducible show Spec _ 42 _ _ _ _); refine' digits2int_spec (by walk_at "use side") (by walk_at "use side") (by walk_at "use side") (by walk_at "use side") (by walk_at "use side") (by walk_at "use side")))
section
theorem off_D7 : True := by
  w_top off
  trivial
/-! ## the law's last line -/




noncomputable def kraft (k : Int) : Int := 2 ^ (5 - ((told k).length : Int)).toNat
theorem kraft_sum : ((rangeKs 1 7).map kraft).sum ≤ 2 ^ 5 := by decide +kernel
theorem kraft_fin : ∀ k ∈ rangeKs 1 7, 0 ≤ k ∧ k < 256 ∧ (told k).length ≤ 5 := by decide +kernel
inductive TabC (rest : List (Addr × Obj)) (nw : List (Addr × Obj)) : Prop
  | mk (o1 : Obj) (c1 : Addr) (x1 o2 : Obj) (c2 : Addr) (x2 : Obj) (hn : nw = rest ++ tbl o1 c1 x1 o2 c2 x2) (s1 : S1 o1 c1 x1) (s2 : S2 o2 c2 x2) : TabC rest nw
set_option maxHeartbeats 2000000 in
theorem seg7 {w : World} {p : Program} {loose : List Str} {mean : ExcName → Option Value} {mg mb m : Str → Option Value} {G : Heap} {L fa : Addr} {s : Shared} {Q : Flow → Shared → Prop} {E : Value → Shared → Prop} {o1 o2 x1 x2 : Obj} {c1 c2 : Addr} {p3 : Array Value}
    (B : Below callerA G [] G) (X : (hd.heap_39 w.params).In G) (T : Top p loose mean mg mb G) (C1 : CodeHd G 34 30) (C2 : CodeHd G 41 37) (F : Fr G L s.heap m) (N : News G L s.heap ((107, tabObj p3) :: tbl o1 c1 x1 o2 c2 x2)) (s1 : S1 o1 c1 x1) (s2 : S2 o2 c2 x2)
    (hQ : ∀ h' tk' m' news', Fr G L h' m' → News G L h' news' → GrownAll [(34, 30), (41, 37), (109, 107)] h' → Q (.ret (.bool true)) { s with heap := h', toks := tk' }) :
    wpAny (model PySem.Challenge.rw_ie0010_01.row.prog w) (callerA.deeper (lawEnv L fa)) (execs (litOf (rfl : _ :: _ = (stBody lawS).drop 7)) (lawEnv L fa)) Q E s := by
  (try dsimp only [tbl] at N)
  k_steps
  rename_i h3 tk3 t3 u3 v3 hr3 F3 N3 k3
  refine ⟨?_⟩
  k_dflt (refine LCg.CompSrc.range (by rfl) F3 N3 hr3 (by decide) (n := 7) (by rfl) (by decide +kernel) ?_)
  intro g9
  obtain ⟨R, hR0⟩ := hide1 (TabC ((107, tabObj p3) :: []))
  refine rest_ints (rangeKs 1 7) kraft R rfl (fun i v hi hv => by obtain ⟨t, e⟩ := hv; exact ⟨1 + (i : Int), t, by simp [rangeKs, hi], e⟩) ((hR0 _).mpr ⟨_, _, _, _, _, _, rfl, s1, s2⟩) (fun k t I oI C oC D m₂ ys news h tk E' hk hR hC hx' F' N' off ne => ?_) ?_
  · obtain ⟨o1', c1', x1', o2', c2', x2', rfl, s1', s2'⟩ := (hR0 _).mp hR
    have hne1 := s1'.1
    have hne2 := s2'.1
    have x30 : 107 ∉ [30, 37] := by decide
    obtain ⟨hk0, hk1, hk2⟩ := kraft_fin k hk
    obtain ⟨hk3, hk5⟩ := small hk0 hk1
    have hk4 := Nat.le_trans hk3 (show 8 ≤ 16 by decide)
    (try dsimp only [tbl] at N')
    obtain ⟨i30, j30, d30⟩ := off3_off off (.tail _ (.head _)) (.tail _ (.tail _ (.tail _ (.head _))))
    with_reducible show wpAny _ _ _ _ _ _
    k_steps

    rename_i h9 tk9 o19 c19 x19 o29 c29 x29 F9 s19 s29 mv19 mv29 t9 N9 ne91 ne92
    refine ⟨?_⟩
    have a1 := off3_moved off mv19 (.tail _ (.tail _ (.head _))) (.head _) (.tail _ (.head _)) (.tail _ (.tail _ (.head _)))
    have a2 := off3_moved off mv29 (.tail _ (.tail _ (.tail _ (.tail _ (.head _))))) (.head _) (.tail _ (.head _)) (.tail _ (.tail _ (.head _)))
    refine LCg.CompEnd.intro F9 N9 ((107, tabObj p3) :: tbl o19 c19 x19 o29 c29 x29) ?_ (off3_tbl off a1 a2) trivial ⟨(hR0 _).mpr ⟨_, _, _, _, _, _, rfl, s19, s29⟩, _, rfl⟩
    repeat (first | exact List.forall_mem_nil _ | refine List.forall_mem_cons.mpr ⟨by k_mem, ?_⟩)
  · intro ys news hR hys
    obtain ⟨o1', c1', x1', o2', c2', x2', rfl, s1', s2'⟩ := (hR0 _).mp hR
    have hne1 := s1'.1
    have hne2 := s2'.1
    have hsum : decide ((List.map kraft (rangeKs 1 7)).sum ≤ 2 ^ Int.toNat 5) = true := decide_eq_true kraft_sum
    k_steps
    rw [hsum]
    rename News G L _ _ => N8
    rename Fr G L _ _ => F8
    refine hQ _ _ _ _ F8 N8 (all_grown N8 s1' s2' (p3 := p3) ?_)
    repeat (first | exact List.forall_mem_nil _ | refine List.forall_mem_cons.mpr ⟨by k_mem, ?_⟩)
end
section
theorem off_D2 : True := by
  w_top off
  trivial
/-! ## the law's first loop -/
noncomputable def cat (f : Int → Str) (ns : List Int) : Str := ns.foldl (fun x n => x ++ f n) (Str.ofString "")
theorem cat_step {f : Int → Str} {ns : List Int} {i : Nat} {n : Int} (h : ns[i]? = some n) : cat f (ns.take (i + 1)) = cat f (ns.take i) ++ f n := by
  rw [List.take_add_one, h, cat, cat, List.foldl_append]; rfl
theorem cat_len {f : Int → Str} {ns : List Int} {B : Nat} (hf : ∀ n ∈ ns, (f n).length ≤ B) : ∀ i, (cat f (ns.take i)).length ≤ B * i
  | 0 => by simp only [List.take_zero]; exact Nat.zero_le _
  | i + 1 => by
    have ih := cat_len hf i
    cases h : ns[i]? with
    | none =>
      rw [List.take_add_one, h]
      simp only [Option.toList_none, List.append_nil]
      exact Nat.le_trans ih (Nat.mul_le_mul_left _ (Nat.le_succ _))
    | some n =>
      rw [cat_step h, PySem.Str.length_append, Nat.mul_succ]
      exact Nat.add_le_add ih (hf n (List.mem_of_getElem? h))
theorem twice_fin : ∀ k : Fin 101, k.val = 0 ∨ (rowT (2 * (k.val : Int))).length = (rowT (k.val : Int)).length + 2 := by decide +kernel
theorem told_len {a : Int} (h0 : 0 ≤ a) (h1 : a < 256) : (told a).length = (rowT a).length := by
  rw [← told_list (small h0 h1).2, Array.length_toList]; rfl
theorem twice {a : Int} (h0 : 1 ≤ a) (h1 : a ≤ 100) : ((told (2 * a)).length : Int) = (told a).length + 2 := by
  have h := twice_fin ⟨a.toNat, by omega⟩
  have e : ((a.toNat : Nat) : Int) = a := Int.toNat_of_nonneg (by omega)
  simp only [e] at h
  rw [told_len (a := 2 * a) (by omega) (by omega), told_len (a := a) (by omega) (by omega)]
  rcases h with h | h
  · omega
  · omega
theorem fr_at_eq {h₀ h : Heap} {L : Addr} {m m' : Str → Option Value} (F : Fr h₀ L h m) (e : m = m') : Fr h₀ L h m' := e ▸ F






inductive Inv2 (z : Int) (ns : List Int) (m0 : Str → Option Value) (L : Addr) (oc : Obj) (p3 : Array Value) (i : Nat) (m' : Str → Option Value) (nw : List (Addr × Obj)) : Prop
  | mk (t1 t2 t3 : Tok) (o1 : Obj) (c1 : Addr) (x1 o2 : Obj) (c2 : Addr) (x2 : Obj) (e1 : m' (Str.ofString "rests") = some (.str (cat (fun n => byrest n z) (ns.take i)) t3)) (e2 : m' (Str.ofString "short") = some (.str (cat shorter (ns.take i)) t2)) (e3 : m' (Str.ofString "signs") = some (.str (cat told (ns.take i)) t1)) (hm : ∀ y, y ≠ Str.ofString "rests" → y ≠ Str.ofString "short" → y ≠ Str.ofString "signs" → y ≠ Str.ofString "number" → m' y = m0 y)
    (hn : nw = (L + 1, oc) :: (107, tabObj p3) :: tbl o1 c1 x1 o2 c2 x2) (s1 : S1 o1 c1 x1) (s2 : S2 o2 c2 x2) (k1 : @Ne Nat c1 107) (k2 : @Ne Nat c2 107) : Inv2 z ns m0 L oc p3 i m' nw
set_option maxHeartbeats 2000000 in
theorem seg2 {w : World} {p : Program} {loose : List Str} {mean : ExcName → Option Value} {mg mb m : Str → Option Value} {G : Heap} {L fa nl : Addr} {s : Shared} {Q : Flow → Shared → Prop} {E : Value → Shared → Prop} {o1 o2 x1 x2 oc : Obj} {c1 c2 : Addr} {p3 : Array Value} {vs : List Value} {ns : List Int} {kk : Nat} {z : Int} {tz t1 t2 t3 : Tok}
    (B : Below callerA G [] G) (X : (hd.heap_39 w.params).In G) (T : Top p loose mean mg mb G) (C1 : CodeHd G 34 30) (C2 : CodeHd G 41 37)
    (F : Fr G L s.heap (fun y => if y = Str.ofString "rests" then some (.str (Str.ofString "") t3) else if y = Str.ofString "short" then some (.str (Str.ofString "") t2) else if y = Str.ofString "signs" then some (.str (Str.ofString "") t1) else if y = Str.ofString "numbers" then some (.ref nl) else m y))
    (N : News G L s.heap ((nl, listOf vs.toArray kk) :: (L + 1, oc) :: (107, tabObj p3) :: tbl o1 c1 x1 o2 c2 x2)) (s1 : S1 o1 c1 x1) (s2 : S2 o2 c2 x2) (hoc : oc.data = Data.cell (some (.int z tz))) (hz0 : 1 ≤ z) (hz1 : z ≤ 4) (h30 : @LT.lt Nat _ 30 L) (h37 : @LT.lt Nat _ 37 L) (h107 : @LT.lt Nat _ 107 L) (n30 : nl ∉ [30, 37]) (hca : @Ne Nat c1 107 ∧ @Ne Nat c2 107)
    (hI : IntsAre vs ns) (hns : ∀ n ∈ ns, 1 ≤ n ∧ n ≤ 100) (hnl : ns.length ≤ 8) (hE : PassesOwn (model PySem.Challenge.rw_ie0010_01.row.prog w) (callerA.deeper (lawEnv L fa)) (lawEnv L fa) E)
    (hQ : ∀ h' tk' t1 t2 t3 o1 c1 x1 o2 c2 x2 (m' : Str → Option Value), Fr G L h' (fun y => if y = Str.ofString "rests" then some (.str (cat (fun n => byrest n z) ns) t3) else if y = Str.ofString "short" then some (.str (cat shorter ns) t2) else if y = Str.ofString "signs" then some (.str (cat told ns) t1) else if y = Str.ofString "numbers" then some (.ref nl) else m' y) →
      News G L h' ((nl, listOf vs.toArray kk) :: (L + 1, oc) :: (107, tabObj p3) :: tbl o1 c1 x1 o2 c2 x2) → S1 o1 c1 x1 → S2 o2 c2 x2 → (@Ne Nat c1 107 ∧ @Ne Nat c2 107) →
      wpAny (model PySem.Challenge.rw_ie0010_01.row.prog w) (callerA.deeper (lawEnv L fa)) (execs (litOf (rfl : _ :: _ = (stBody lawS).drop 3)) (lawEnv L fa)) Q E { s with heap := h', toks := tk' }) :
    wpAny (model PySem.Challenge.rw_ie0010_01.row.prog w) (callerA.deeper (lawEnv L fa)) (execs (litOf (rfl : _ :: _ = (stBody lawS).drop 2)) (lawEnv L fa)) Q E s := by
  (try dsimp only [tbl] at N)
  k_steps
  rename Fr G L _ _ => F5
  rename News G L _ _ => N5
  refine ⟨?_⟩
  obtain ⟨m0, hm0, F0⟩ := fr_name F5
  obtain ⟨J, hJ⟩ := hide (Inv2 z ns m0 L oc p3)
  k_dflt (refine' loop_list (l := nl) (vs := vs) (k := kk) (news := (L + 1, oc) :: (107, tabObj p3) :: tbl o1 c1 x1 o2 c2 x2) ?hh F0 N5 J ?h0 ?step ?done)
  case hh => exact rfl
  case h0 => exact (hJ _ _ _).mpr ⟨t1, t2, t3, o1, c1, x1, o2, c2, x2, by rw [hm0]; rfl, by rw [hm0]; rfl, by rw [hm0]; rfl, fun _ _ _ _ _ => rfl, rfl, s1, s2, hca.1, hca.2⟩
  case step =>
    intro Q5 s5 I i v m1 news1 io h tk5 hi hv hj hlow hne F1 N1
    obtain ⟨t1', t2', t3', o1', c1', x1', o2', c2', x2', e1, e2, e3, hm, rfl, s1', s2', hca1, hca2⟩ := (hJ _ _ _).mp hj
    clear hj
    have hne1 := s1'.1
    have hne2 := s2'.1
    obtain ⟨d, td, rfl, hd1, hd2⟩ := ints_mem hI hv
    obtain ⟨d0, d1⟩ := hns d hd2
    have em := map4 e1 e2 e3 rfl hm
    generalize m1 (Str.ofString "number") = u1 at em
    subst em
    subst hm0
    clear e1 e2 e3 hm
    (try dsimp only [tbl] at N1)
    obtain ⟨g1, g3⟩ := small (a := d) (by omega) (by omega)
    have g2 := Nat.le_trans g1 (show 8 ≤ 16 by decide)
    obtain ⟨g4, g6⟩ := small (a := 2 * d) (by omega) (by omega)
    have g5 := Nat.le_trans g4 (show 8 ≤ 16 by decide)
    have g7 := twice d0 d1
    have l1 : (cat told (ns.take i)).length + (told d).length ≤ sizeLine := two_fit (A := 32 * 8) (B := 32) (Nat.le_trans (cat_len (fun n hn => len_told (Nat.le_trans (small (a := n) (by have := hns n hn; omega) (by have := hns n hn; omega)).1 (by decide)) (small (a := n) (by have := hns n hn; omega) (by have := hns n hn; omega)).2) i) (Nat.mul_le_mul_left _ (by have := hI.length; omega))) (len_told g2 g3)
    have l2 : (cat shorter (ns.take i)).length + (shorter d).length ≤ sizeLine := two_fit (A := 48 * 8) (B := 48) (Nat.le_trans (cat_len (fun n hn => len_shorter (by have := hns n hn; omega) (by have := hns n hn; omega)) i) (Nat.mul_le_mul_left _ (by have := hI.length; omega))) (len_shorter (by omega) (by omega))
    have l3 : (cat (fun n => byrest n z) (ns.take i)).length + (byrest d z).length ≤ sizeLine := two_fit (A := 133 * 8) (B := 133) (Nat.le_trans (cat_len (fun n hn => len_byrest (by have := hns n hn; omega) (by have := hns n hn; omega) hz0 hz1) i) (Nat.mul_le_mul_left _ (by have := hI.length; omega))) (len_byrest (by omega) (by omega) hz0 hz1)
    have i30 : I ∉ [30, 37] := ne_off (Ne.symm (hne _ (.tail _ (.tail _ (.tail _ (.head _)))))) (Ne.symm (hne _ (.tail _ (.tail _ (.tail _ (.tail _ (.tail _ (.head _))))))))
    have L30 : L + 1 ∉ [30, 37] := ne_off (by omega) (by omega)
    have x30 : 107 ∉ [30, 37] := by decide
    have l4 : (told (2 * d)).length ≤ 1048576 := Nat.le_trans (len_told g5 g6) (by decide)
    have l5 : (told d).length ≤ 1048576 := Nat.le_trans (len_told g2 g3) (by decide)
    clear hlow
    generalize hX1 : cat told (ns.take i) = X1 at F1 l1
    generalize hX2 : cat shorter (ns.take i) = X2 at F1 l2
    generalize hX3 : cat (fun n => byrest n z) (ns.take i) = X3 at F1 l3
    with_reducible show wpAny _ _ _ _ _ _
    k_steps
    rename_i h9 tk9 o19 c19 x19 o29 c29 x29 F9 s19 s29 mv19 mv29 t9 N9 ne91 ne92
    have b1 : @Ne Nat c1' I := hne (c1', x1') (by k_mem)
    have b2 : @Ne Nat c2' I := hne (c2', x2') (by k_mem)
    have v1 : @Ne Nat c19 I := by (repeat (first | exact b1 | (refine Moved.ne (I := I) (o := io) (by assumption) (by k_mem) ?_)))
    have v2 : @Ne Nat c29 I := by (repeat (first | exact b2 | (refine Moved.ne (I := I) (o := io) (by assumption) (by k_mem) ?_)))
    have w1 : @Ne Nat c19 107 := by (repeat (first | exact hca1 | (refine Moved.ne (I := 107) (o := tabObj p3) (by assumption) (by k_mem) ?_)))
    have w2 : @Ne Nat c29 107 := by (repeat (first | exact hca2 | (refine Moved.ne (I := 107) (o := tabObj p3) (by assumption) (by k_mem) ?_)))
    have v3 : ∀ q ∈ (L + 1, oc) :: (107, tabObj p3) :: tbl o1' c1' x1' o2' c2' x2', q.1 ≠ I := fun q hq => hne q (.tail _ hq)
    refine ⟨?_⟩
    refine' ⟨_, _, _, (L + 1, oc) :: (107, tabObj p3) :: tbl o19 c19 x19 o29 c29 x29, rfl, F9, cb_drop N9 ?g1, ?g2, (hJ _ _ _).mpr ⟨_, _, _, o19, c19, x19, o29, c29, x29, ?g3, ?g4, ?g5, ?g6, rfl, s19, s29, w1, w2⟩⟩
    case g1 => (try simp only [List.cons_append, List.nil_append]); repeat (first | exact List.forall_mem_nil _ | refine List.forall_mem_cons.mpr ⟨by k_mem, ?_⟩)
    case g2 => exact List.forall_mem_cons.mpr ⟨v3 (L + 1, oc) (by k_mem), List.forall_mem_cons.mpr ⟨v3 (107, tabObj p3) (by k_mem), List.forall_mem_cons.mpr ⟨v3 (30, o1') (by k_mem), List.forall_mem_cons.mpr ⟨v1, List.forall_mem_cons.mpr ⟨v3 (37, o2') (by k_mem), List.forall_mem_cons.mpr ⟨v2, List.forall_mem_nil _⟩⟩⟩⟩⟩⟩
    case g3 => rw [cat_step hd1, hX3]; rfl
    case g4 => rw [cat_step hd1, hX2]; rfl
    case g5 => rw [cat_step hd1, hX1]; rfl
    case g6 => intro y y1 y2 y3 y4; simp [y1, y2, y3, y4]
  case done =>
    intro h' tk' m1 news1 F1 N1 hj
    obtain ⟨t1', t2', t3', o1', c1', x1', o2', c2', x2', e1, e2, e3, hm, rfl, s1', s2', hca1, hca2⟩ := (hJ _ _ _).mp hj
    have em := map4 e1 e2 e3 rfl hm
    generalize m1 (Str.ofString "number") = u1 at em
    subst em
    subst hm0
    rw [hI.length, List.take_length] at F1
    refine hQ h' _ t1' t2' t3' o1' c1' x1' o2' c2' x2' (fun y => if y = Str.ofString "number" then u1 else m y) (fr_at_eq F1 ?_) N1 s1' s2' ⟨hca1, hca2⟩
    funext y
    by_cases y1 : y = Str.ofString "rests"
    · simp [y1]
    by_cases y2 : y = Str.ofString "short"
    · simp [y1, y2]
    by_cases y3 : y = Str.ofString "signs"
    · simp [y1, y2, y3]
    by_cases y4 : y = Str.ofString "numbers"
    · subst y4; rfl
    · simp only [y1, y2, y3, y4, if_false]
end
section
theorem off_Lp4 : True := by
  w_top off
  trivial
section
variable {prog : Program} {w : World} {A : Around} {E : Value → Shared → Prop} {s₂ : Shared} {env : Env} {h₀ : Heap} {x : Str} {body : List Stmt} {Q : Flow → Shared → Prop}
theorem loop_range {a b : Int} {n : Nat} {r : Addr} {t u v : Tok} {m : Str → Option Value} {news : List (Addr × Obj)} (hh : A.handled = none)
    (F : Fr h₀ env.locals s₂.heap m) (N : News h₀ env.locals s₂.heap news) (hr : IsRange s₂.heap r a b 1 t u v) (hsm : Builtin.Range.small a b 1 = true) (hn : Builtin.Range.rangeSize a b 1 = ((n : Nat) : Int))
    (J : Nat → (Str → Option Value) → List (Addr × Obj) → Prop) (h0 : J 0 m news)
    (step : ∀ (Q : Flow → Shared → Prop) (s₂ : Shared) I i tv m₁ news₁ io h tk, i < n → J i m₁ news₁ → (∀ p ∈ news, p.1 < I) → (∀ p ∈ news₁, p.1 ≠ I) → Fr h₀ env.locals h (fun y => if y = x then some (.int (a + (i : Int)) tv) else m₁ y) → News h₀ env.locals h ((I, io) :: news₁) →
      wpAny (model prog w) A (execs body env) (TurnEnd h₀ env.locals s₂ Q I io [] (J (i + 1))) E { s₂ with heap := h, toks := tk })
    (done : ∀ h' tk' m' news', Fr h₀ env.locals h' m' → News h₀ env.locals h' news' → J n m' news' → Q .next { s₂ with heap := h', toks := tk' }) :
    wpAny (model prog w) A (pyIter (.ref r)) (fun it s₂ => LoopAtV prog w A h₀ env x body Q E it s₂) E s₂ := by
  refine wpAny_pyIter_range hr hsm ?_
  have hlt : ∀ p ∈ news, p.1 < s₂.heap.objs.size := fun p hp => Heap.lt_size (N p hp).1
  have W := LCg.range_walks (prog := prog) (w := w) (I := s₂.heap.objs.size) hh a n
  refine loop_led (s₂ := { s₂ with heap := _ }) (fix := []) W ?_ (Nat.ne_of_gt F.ns.lt) (next_is_new F) ?_ (by show IsRangeIter _ _ _ _ _; rw [hn]; simpa using Heap.get?_push_size _ rfl) (F.push _)
    (fun p hp => ⟨Heap.get?_push_of_some _ (N p hp).1, (N p hp).2⟩) (fun p hp => Nat.ne_of_lt (hlt p hp)) J h0 ?_ done
  · intro b hb
    simp only [List.mem_cons, List.not_mem_nil, or_false] at hb
    exact .inl hb
  · intro i h st
    exact ⟨_, st⟩
  · rintro Q₃ s₃ i v m₁ news₁ io h tk hi ⟨t, rfl⟩ hJ hne F₁ N₁
    exact step Q₃ s₃ _ i t m₁ news₁ io h tk hi hJ hlt hne F₁ N₁
end
end
section
theorem off_D5 : True := by
  w_top off
  trivial
/-! ## one way's order -/



local macro_rules | `(tactic| walk_at "callWith ref") => `(tactic| (k_here; (fail_if_success (with_reducible show wpAny _ _ (callWith _ (Value.ref 65) _ _ _) _ _ _)); (fail_if_success (with_reducible show wpAny _ _ (callWith _ (Value.ref 74) _ _ _) _ _ _)); refine stop ?_; walk_say "MINE"))
local macro_rules | `(tactic| walk_at "subscriptTail Name Name ref int") => `(tactic| (k_here; k_dflt (refine' item_strsA ?sl ?sa ?i0 ?i1 ?i2 ?_; (case sl => is_list); (case sa => with_reducible assumption); (case i0 => omega); (case i1 => omega); (case i2 => omega)); intro _; walk_say "MINE"))
local macro_rules | `(tactic| walk_at "subscriptTail Name BinOp ref int") => `(tactic| (k_here; k_dflt (refine' item_strsA ?sl ?sa ?i0 ?i1 ?i2 ?_; (case sl => is_list); (case sa => with_reducible assumption); (case i0 => omega); (case i1 => omega); (case i2 => omega)); intro _; walk_say "MINE"))
local macro_rules | `(tactic| walk_at "use spec0") => `(tactic| ((with_reducible show Spec0 _ 74 _ _ _ _); refine' bisect2_spec (by walk_at "use side") (by walk_at "use side")))

local macro_rules | `(tactic| walk_at "FnAt") => `(tactic| (refine stop ?_))
theorem allLt_mem {D : Addr} (l : List (Addr × Obj)) : AllLt D l → ∀ p ∈ l, p.1 < D := by
  induction l with
  | nil => intro _ p hp; cases hp
  | cons a l ih =>
    intro h p hp
    unfold AllLt at h
    rcases List.mem_cons.mp hp with e | hp
    · rw [e]; exact h.1
    · exact ih h.2 p hp
theorem RestOf.all {wr : List Addr} : ∀ {l : List (Addr × Obj)}, (∀ p ∈ l, p.1 ∉ wr) → RestOf wr l l
  | [], _ => .nil
  | p :: _, h => .keep (h p (.head _)) (RestOf.all fun q hq => h q (.tail _ hq))
/-- what one of the three ways does at a call from the law -/
noncomputable def Way (w : World) (G : Heap) (L fa : Addr) (wv : Value) (g : Int → Str) (ext : List (Addr × Obj)) : Prop :=
  ∀ (k : Int) (tk : Tok) (m : Str → Option Value) (s : Shared) (Q E : Value → Shared → Prop) (news rest : List (Addr × Obj)) (o1 : Obj) (c1 : Addr) (x1 o2 : Obj) (c2 : Addr) (x2 : Obj),
    1 ≤ k → k < 16 → Fr G L s.heap m → News G L s.heap news → (∀ p ∈ ext ++ tbl o1 c1 x1 o2 c2 x2, p ∈ news) → S1 o1 c1 x1 → S2 o2 c2 x2 → RestOf [30, 37] news rest →
    (∀ t' h' tk' o1' c1' x1' o2' c2' x2', Fr G L h' m → News G L h' (tbl o1' c1' x1' o2' c2' x2' ++ rest) → S1 o1' c1' x1' → S2 o2' c2' x2' → Moved c1 c1' L news → Moved c2 c2' L news → Q (.str (g k) t') { s with heap := h', toks := tk' }) →
    wpAny (model PySem.Challenge.rw_ie0010_01.row.prog w) (callerA.deeper (lawEnv L fa)) (call wv [.int k tk]) Q E s
theorem order_step (g : Int → Str) (i : Nat) : ((List.range (i + 1)).map fun (j : Nat) => g (1 + (j : Int))).foldl ins [] = ins (((List.range i).map fun (j : Nat) => g (1 + (j : Int))).foldl ins []) (g (1 + (i : Int))) := by
  rw [List.range_succ, List.map_append, List.foldl_append]; rfl
theorem len_ins (ys : List Str) (x : Str) : (ins ys x).length = ys.length + 1 := by
  rw [ins, List.length_append, List.length_cons, ← Nat.add_assoc, ← List.length_append, List.take_append_drop]
noncomputable def order (g : Int → Str) (i : Nat) : List Str := ((List.range i).map fun (j : Nat) => g (1 + (j : Int))).foldl ins []
theorem len_order (g : Int → Str) : ∀ i, (order g i).length = i
  | 0 => rfl
  | i + 1 => by
    show (((List.range (i + 1)).map fun (j : Nat) => g (1 + (j : Int))).foldl ins []).length = _
    rw [order_step, len_ins]; exact congrArg (· + 1) (len_order g i)
inductive InvW (g : Int → Str) (m0 : Str → Option Value) (D I0 : Addr) (ext : List (Addr × Obj)) (i : Nat) (m' : Str → Option Value) (nw : List (Addr × Obj)) : Prop
  | mk (vs : List Value) (k : Nat) (o1 : Obj) (c1 : Addr) (x1 o2 : Obj) (c2 : Addr) (x2 : Obj) (hm : ∀ y, y ≠ Str.ofString "number" → m' y = m0 y) (hn : nw = (D, listOf vs.toArray k) :: (tbl o1 c1 x1 o2 c2 x2 ++ ext)) (hvs : StrsAre vs (order g i)) (s1 : S1 o1 c1 x1) (s2 : S2 o2 c2 x2) (hce : ∀ p ∈ ext, p.1 = I0 → @Ne Nat c1 p.1 ∧ @Ne Nat c2 p.1) : InvW g m0 D I0 ext i m' nw
set_option maxHeartbeats 600000 in
theorem way_body {w : World} {p : Program} {loose : List Str} {mean : ExcName → Option Value} {mg mb m : Str → Option Value} {G : Heap} {L fa : Addr} {s : Shared} {Q : Flow → Shared → Prop} {E : Value → Shared → Prop} {o1 o2 x1 x2 : Obj} {c1 c2 : Addr} {wa I0 : Addr} {g : Int → Str} {ext : List (Addr × Obj)}
    (B : Below callerA G [] G) (X : (hd.heap_39 w.params).In G) (T : Top p loose mean mg mb G) (C1 : CodeHd G 34 30) (C2 : CodeHd G 41 37)
    (F : Fr G L s.heap (fun y => if y = Str.ofString "way" then some (.ref wa) else m y))
    (N : News G L s.heap (tbl o1 c1 x1 o2 c2 x2 ++ ext)) (s1 : S1 o1 c1 x1) (s2 : S2 o2 c2 x2) (W : Way w G L fa (.ref wa) g ext) (hfn : ∀ h mm, Fr G L h mm → News G L h ext → FnAt wa h) (hext : ∀ p ∈ ext, p.1 ∉ [30, 37]) (hgl : ∀ i, ((order g 15).getD i Str.empty).length ≤ sizeLine) (hok : ∀ i, i < 14 → (¬ Txt.slice ((order g 15).getD (i + 1) Str.empty) none (some (((order g 15).getD i Str.empty).length : Int)) = (order g 15).getD i Str.empty) ∧ bisect (order g 15) ((order g 15).getD (i + 1) Str.empty) = 1 + (i : Int))
    (hce : ∀ p ∈ ext, p.1 = I0 → @Ne Nat c1 p.1 ∧ @Ne Nat c2 p.1)
    (hQ : ∀ h' tk' (m' : Str → Option Value) o1 c1 x1 o2 c2 x2, Fr G L h' m' → (∀ y, y ≠ Str.ofString "order" → y ≠ Str.ofString "number" → y ≠ Str.ofString "k" → m' y = if y = Str.ofString "way" then some (.ref wa) else m y) →
      News G L h' (tbl o1 c1 x1 o2 c2 x2 ++ ext) → S1 o1 c1 x1 → S2 o2 c2 x2 → (∀ p ∈ ext, p.1 = I0 → @Ne Nat c1 p.1 ∧ @Ne Nat c2 p.1) → Q .next { s with heap := h', toks := tk' })
    (hE : PassesOwn (model PySem.Challenge.rw_ie0010_01.row.prog w) (callerA.deeper (lawEnv L fa)) (lawEnv L fa) E) :
    wpAny (model PySem.Challenge.rw_ie0010_01.row.prog w) (callerA.deeper (lawEnv L fa)) (execs (litOf (rfl : _ :: _ = forBody ((stBody lawS).tail.tail.tail.tail.tail.tail.headD default))) (lawEnv L fa)) Q E s := by
  (try dsimp only [tbl, List.cons_append, List.nil_append] at N)
  k_steps
  rename_i D h1 ltD h2 F1 N1 h3 tk3 t3 u3 v3 hr3 F3 N3 kp3
  refine ⟨?_⟩
  obtain ⟨m0, hm0, F0⟩ := fr_name F3
  obtain ⟨J, hJ⟩ := hide (InvW g m0 D I0 ext)
  k_dflt (refine' loop_range (n := 15) ?hh F0 N3 hr3 ?sm ?rs J ?h0 ?step ?done)
  case hh => exact rfl
  case sm => decide
  case rs => rfl
  case h0 => exact (hJ _ _ _).mpr ⟨[], 0, o1, c1, x1, o2, c2, x2, fun _ _ => rfl, rfl, .nil, s1, s2, hce⟩
  case step =>
    intro Q5 s5 I i tv m1 news1 io h tk5 hi hj hlow hne F1 N1
    obtain ⟨vs, k, o1', c1', x1', o2', c2', x2', hm, rfl, hvs, s1', s2', hce'⟩ := (hJ _ _ _).mp hj
    clear hj hQ
    have hne1 := s1'.1
    have hne2 := s2'.1
    have em := map1 rfl hm
    generalize m1 (Str.ofString "number") = u1 at em
    subst em
    subst hm0
    have i30 : I ∉ [30, 37] := ne_off (Ne.symm (hne (30, o1') (.tail _ (.head _)))) (Ne.symm (hne (37, o2') (.tail _ (.tail _ (.tail _ (.head _))))))
    have d30 : D ∉ [30, 37] := ne_off (by omega) (by omega)
    (try dsimp only [tbl, List.cons_append, List.nil_append] at N1)
    clear hlow
    with_reducible show wpAny _ _ _ _ _ _
    k_steps
    refine ⟨?_⟩
    refine callWith_F (hfn _ _ F1 (cb_drop N1 fun p hp => .tail _ (.tail _ (.tail _ (.tail _ (.tail _ (.tail _ hp))))))) ?_
    k_steps
    · exact ⟨hfn _ _ F1 (cb_drop N1 fun p hp => .tail _ (.tail _ (.tail _ (.tail _ (.tail _ (.tail _ hp))))))⟩
    · refine ⟨?_⟩
      have hdl := allLt_mem _ ltD.2.2.2.2
      refine W (1 + (i : Int)) tv _ _ _ _ _ ((I, io) :: (D, listOf vs.toArray k) :: (c1', x1') :: (c2', x2') :: ext) o1' c1' x1' o2' c2' x2' (by omega) (by omega) F1 N1 ?_ s1' s2' ?_ ?_
      · refine List.forall_mem_append.mpr ⟨fun p hp => .tail _ (.tail _ (.tail _ (.tail _ (.tail _ (.tail _ hp))))), ?_⟩
        repeat (first | exact List.forall_mem_nil _ | refine List.forall_mem_cons.mpr ⟨by k_mem, ?_⟩)
      · exact .keep i30 (.keep d30 (.drop (.keep hne1 (.drop (.keep hne2 (RestOf.all hext))))))
      · intro t' h' tk' o19 c19 x19 o29 c29 x29 F9 N9 s19 s29 mv1 mv2
        (try dsimp only [tbl, List.cons_append, List.nil_append] at N9)
        have hlo := len_order g i
        k_steps
        refine ⟨?_⟩
        k_dflt (refine' InsSpec.use (insort_spec (x := g (1 + (i : Int))) hvs ?len) (rest := (I, io) :: (30, o19) :: (c19, x19) :: (37, o29) :: (c29, x29) :: ext) B F9 X T ?hk N9 ?mem ?hd ?hu ?hr ?ret)
        case len => omega
        case hk => exact rfl
        case mem => k_mem
        case hd => ktr_room
        case hu => ktr_units
        case hr =>
          refine List.forall_mem_cons.mpr ⟨⟨by k_mem, Ne.symm (hne (D, listOf vs.toArray k) (.head _))⟩, List.forall_mem_cons.mpr ⟨⟨by k_mem, Nat.ne_of_lt ltD.1⟩, List.forall_mem_cons.mpr ⟨⟨by k_mem, Ne.symm (s19.apart N9 (l := D) (its := vs.toArray) (n := k) (by k_mem) (by k_mem))⟩, List.forall_mem_cons.mpr ⟨⟨by k_mem, Nat.ne_of_lt ltD.2.2.1⟩, List.forall_mem_cons.mpr ⟨⟨by k_mem, Ne.symm (s29.apart N9 (l := D) (its := vs.toArray) (n := k) (by k_mem) (by k_mem))⟩, fun p hp => ⟨.tail _ (.tail _ (.tail _ (.tail _ (.tail _ (.tail _ (.tail _ (.tail _ hp))))))), Nat.ne_of_lt (hdl p hp)⟩⟩⟩⟩⟩⟩
        case ret =>
          intro h8 tk8 vs8 k8 F8 N8 hvs8
          k_steps
          refine ⟨?_⟩
          refine ⟨_, _, _, (D, listOf vs8.toArray k8) :: (tbl o19 c19 x19 o29 c29 x29 ++ ext), rfl, F8, cb_drop N8 ?_, ?_, (hJ _ _ _).mpr ⟨vs8, k8, o19, c19, x19, o29, c29, x29, ?_, rfl, ?_, s19, s29, fun p hp hpI => ⟨Moved.ne (I := p.1) (o := p.2) mv1 (.tail _ (.tail _ (.tail _ (.tail _ (.tail _ (.tail _ hp)))))) (hce' p hp hpI).1, Moved.ne (I := p.1) (o := p.2) mv2 (.tail _ (.tail _ (.tail _ (.tail _ (.tail _ (.tail _ hp)))))) (hce' p hp hpI).2⟩⟩⟩
          · refine List.forall_mem_cons.mpr ⟨by k_mem, List.forall_mem_cons.mpr ⟨by k_mem, List.forall_mem_cons.mpr ⟨by k_mem, List.forall_mem_cons.mpr ⟨by k_mem, List.forall_mem_cons.mpr ⟨by k_mem, List.forall_mem_cons.mpr ⟨by k_mem, fun p hp => .tail _ (.tail _ (.tail _ (.tail _ (.tail _ (.tail _ hp)))))⟩⟩⟩⟩⟩⟩
          · refine List.forall_mem_cons.mpr ⟨hne (D, listOf vs.toArray k) (.head _), List.forall_mem_cons.mpr ⟨hne (30, o1') (.tail _ (.head _)), List.forall_mem_cons.mpr ⟨Moved.ne (I := I) (o := io) mv1 (by k_mem) (hne (c1', x1') (.tail _ (.tail _ (.head _)))), List.forall_mem_cons.mpr ⟨hne (37, o2') (.tail _ (.tail _ (.tail _ (.head _)))), List.forall_mem_cons.mpr ⟨Moved.ne (I := I) (o := io) mv2 (by k_mem) (hne (c2', x2') (.tail _ (.tail _ (.tail _ (.tail _ (.head _)))))), fun p hp => hne p (.tail _ (.tail _ (.tail _ (.tail _ (.tail _ hp)))))⟩⟩⟩⟩⟩
          · intro y y1; simp [y1]
          · show StrsAre vs8 (((List.range (i + 1)).map fun (j : Nat) => g (1 + (j : Int))).foldl ins [])
            rw [order_step]; exact hvs8
  case done =>
    intro h5 tk5 m1 news1 F1 N1 hj
    obtain ⟨vs, k, o1', c1', x1', o2', c2', x2', hm, rfl, hvs, s1', s2', hce'⟩ := (hJ _ _ _).mp hj
    clear hj hJ J
    have em := map1 rfl hm
    generalize m1 (Str.ofString "number") = u1 at em
    subst em
    subst hm0
    (try dsimp only [tbl, List.cons_append, List.nil_append] at N1)
    have hlo := len_order g 15
    generalize order g 15 = ys at hvs hgl hok hlo
    clear F3 N3 hr3 kp3 s1 s2
    with_reducible show wpAny _ _ _ _ _ _
    k_steps
    rename_i h6 tk6 t6 u6 v6 hr6 F6 N6 kp6
    refine ⟨?_⟩
    obtain ⟨m6, hm6, F60⟩ := fr_name F6
    rw [hlo] at hr6
    obtain ⟨J, hJ⟩ := hide (fun (_ : Nat) (m' : Str → Option Value) nw => (∀ y, y ≠ Str.ofString "k" → m' y = m6 y) ∧ nw = (D, listOf vs.toArray k) :: (tbl o1' c1' x1' o2' c2' x2' ++ ext))
    k_dflt (refine' loop_range (n := 14) ?hh2 F60 N6 hr6 ?sm2 ?rs2 J ?h02 ?step2 ?done2)
    case hh2 => exact rfl
    case sm2 => decide
    case rs2 => rfl
    case h02 => exact (hJ _ _ _).mpr ⟨fun _ _ => rfl, rfl⟩
    case step2 =>
      intro Q5 s5 I i tv m1 news1 io h tk7 hi hj hlow hne F1 N1
      obtain ⟨hm, rfl⟩ := (hJ _ _ _).mp hj
      clear hj
      have em := map1 rfl hm
      generalize m1 (Str.ofString "k") = u2 at em
      subst em
      subst hm6
      obtain ⟨q1, q2⟩ := hok i hi
      have e1 : (1 + (i : Int)).toNat = i + 1 := by omega
      have e2 : (1 + (i : Int) - 1).toNat = i := by omega
      have q3 : ¬ Txt.slice (ys.getD (1 + (i : Int)).toNat Str.empty) none (some ((ys.getD (1 + (i : Int) - 1).toNat Str.empty).length : Int)) = ys.getD (1 + (i : Int) - 1).toNat Str.empty := by rw [e1, e2]; exact q1
      have q4 : bisect ys (ys.getD (1 + (i : Int)).toNat Str.empty) = 1 + (i : Int) := by rw [e1]; exact q2
      have q5 := hgl (1 + (i : Int)).toNat
      have q6 : (ys.getD (1 + (i : Int) - 1).toNat Str.empty).length ≤ 16777216 := by have := hgl (1 + (i : Int) - 1).toNat; rw [sizeLine_eq] at this; omega
      have q7 : ys.length ≤ 64 := by omega
      clear hlow e1 e2 q1 q2 hr6 F6 kp6 hgl hok
      (try dsimp only [tbl, List.cons_append, List.nil_append] at N1)
      with_reducible show wpAny _ _ _ _ _ _
      k_steps
      rename News G L _ _ => NE
      rename Fr G L _ _ => FE
      refine ⟨?_⟩
      refine ⟨_, _, _, (D, listOf vs.toArray k) :: (tbl o1' c1' x1' o2' c2' x2' ++ ext), rfl, FE, cb_drop NE ?_, fun p hp => hne p hp, (hJ _ _ _).mpr ⟨fun y y1 => by simp [y1], rfl⟩⟩
      refine List.forall_mem_cons.mpr ⟨by k_mem, List.forall_mem_cons.mpr ⟨by k_mem, List.forall_mem_cons.mpr ⟨by k_mem, List.forall_mem_cons.mpr ⟨by k_mem, List.forall_mem_cons.mpr ⟨by k_mem, List.forall_mem_cons.mpr ⟨by k_mem, fun p hp => .tail _ (.tail _ (.tail _ (.tail _ (.tail _ (.tail _ hp)))))⟩⟩⟩⟩⟩⟩
    case done2 =>
      intro h7 tk7 m1 news1 F1 N1 hj
      obtain ⟨hm, rfl⟩ := (hJ _ _ _).mp hj
      refine wpAny_execs_nil (hQ h7 _ m1 o1' c1' x1' o2' c2' x2' F1 (fun y y1 y2 y3 => ?_) (cb_drop N1 fun p hp => .tail _ hp) s1' s2' hce')
      rw [hm y y3, hm6]
      simp [y1, y2]
end
section
theorem off_D4 : True := by
  w_top off
  trivial
local macro_rules | `(tactic| walk_at "call ref") => `(tactic| (k_here; refine stop ?_; walk_say "MINE"))
/-! ## the three ways -/
theorem way_fn {w : World} {G : Heap} {L wa : Addr} {fd : FuncData} {oc : Value} {od : Option Addr} {sl : Array (Option Value)} (X : (hd.heap_39 w.params).In G) (h : (hd.heap_39 w.params).lookup wa = some ⟨oc, od, .func fd, sl⟩) {hh : Heap} {mm : Str → Option Value} (F : Fr G L hh mm) : FnAt wa hh :=
  ⟨oc, od, fd, sl, F.keep _ _ (X _ _ h)⟩
section
variable {w : World} {p : Program} {loose : List Str} {mean : ExcName → Option Value} {mg mb : Str → Option Value} {G : Heap} {L fa : Addr}
theorem way_told (B : Below callerA G [] G) (X : (hd.heap_39 w.params).In G) (T : Top p loose mean mg mb G) (C1 : CodeHd G 34 30) (C2 : CodeHd G 41 37) (ext : List (Addr × Obj)) : Way w G L fa (.ref 86) told ext := by
  intro k tk m s Q E news rest o1 c1 x1 o2 c2 x2 hk1 hk2 F N hsub s1 s2 hr ret
  obtain ⟨q1, q2⟩ := small (a := k) (by omega) (by omega)
  k_dflt (refine' Spec.use (told_spec (by omega) (by omega) (Nat.le_trans q1 (by decide)) q2) B F X C1 C2 T ?hk N s1 s2 (fun p hp => hsub p (List.mem_append_right _ hp)) ?d ?u hr ?_)
  case hk => exact rfl
  case d => ktr_room
  case u => ktr_units
  rintro r new h' tk' o1' c1' x1' o2' c2' x2' F' N' s1' s2' mv1 mv2 _ ⟨t, rfl, rfl⟩
  exact ret t h' tk' o1' c1' x1' o2' c2' x2' F' N' s1' s2' mv1 mv2
theorem way_shorter (B : Below callerA G [] G) (X : (hd.heap_39 w.params).In G) (T : Top p loose mean mg mb G) (C1 : CodeHd G 34 30) (C2 : CodeHd G 41 37) (ext : List (Addr × Obj)) : Way w G L fa (.ref 93) shorter ext := by
  intro k tk m s Q E news rest o1 c1 x1 o2 c2 x2 hk1 hk2 F N hsub s1 s2 hr ret
  k_dflt (refine' Spec.use (shorter_spec (by omega) (by omega)) B F X C1 C2 T ?hk N s1 s2 (fun p hp => hsub p (List.mem_append_right _ hp)) ?d ?u hr ?_)
  case hk => exact rfl
  case d => ktr_room
  case u => ktr_units
  rintro r new h' tk' o1' c1' x1' o2' c2' x2' F' N' s1' s2' mv1 mv2 _ ⟨t, rfl, rfl⟩
  exact ret t h' tk' o1' c1' x1' o2' c2' x2' F' N' s1' s2' mv1 mv2
end

noncomputable def forIter : Stmt → Expr
  | .For _ (.List es _) _ _ _ => (es.tail.tail).headD default
  | _ => default
noncomputable def lamArgs : Expr → Arguments
  | .Lambda a _ _ _ => a
  | _ => default
noncomputable def lamBody : Expr → Expr
  | .Lambda _ b _ _ => b
  | _ => default
noncomputable def lamScope : Expr → Scope
  | .Lambda _ _ sc _ => sc
  | _ => default
noncomputable abbrev lamObj (L fa : Addr) (pm : Value) (c' : Addr) (ct : Value) : Obj :=
  kla_obj (Str.ofString "<lambda>") ((lawEnv L fa).qual ++ Str.ofString "<lambda>") (litOf (rfl : Arguments.mk _ _ _ _ _ _ _ = lamArgs (forIter ((stBody lawS).tail.tail.tail.tail.tail.tail.headD default)))) (litOf (rfl : Expr.Call _ _ _ _ = lamBody (forIter ((stBody lawS).tail.tail.tail.tail.tail.tail.headD default)))) (litOf (rfl : Scope.mk _ _ _ _ _ = lamScope (forIter ((stBody lawS).tail.tail.tail.tail.tail.tail.headD default)))) [(Str.ofString "size", L + 1)] pm c' ct
set_option maxHeartbeats 1000000 in
theorem way_lam {w : World} {p : Program} {loose : List Str} {mean : ExcName → Option Value} {mg mb : Str → Option Value} {G : Heap} {L fa f c' : Addr} {oc oc' : Obj} {pm ct : Value} {vs' : Array Value} {t' : Tok} {z : Int} {tz : Tok}
    (B : Below callerA G [] G) (X : (hd.heap_39 w.params).In G) (T : Top p loose mean mg mb G) (C1 : CodeHd G 34 30) (C2 : CodeHd G 41 37) (hoc : oc.data = Data.cell (some (.int z tz))) (hz0 : 1 ≤ z) (hz1 : z ≤ 4)
    (d1 : oc'.data = Data.fields vs') (d2 : vs'[1]? = some (Value.str ((lawEnv L fa).qual ++ Str.ofString "<lambda>") t')) (ext : List (Addr × Obj)) (he : ∀ p ∈ [(f, lamObj L fa pm c' ct), (c', oc'), (L + 1, oc)], p ∈ ext) : Way w G L fa (.ref f) (fun n => byrest n z) ext := by
  intro k tk m s Q E news rest o1 c1 x1 o2 c2 x2 hk1 hk2 F N hsub s1 s2 hr ret
  have N9 : News G L s.heap ((f, lamObj L fa pm c' ct) :: (c', oc') :: (L + 1, oc) :: news) := by
    intro p hp
    rcases List.mem_cons.mp hp with rfl | hp
    · exact N _ (hsub _ (List.mem_append_left _ (he _ (.head _))))
    rcases List.mem_cons.mp hp with rfl | hp
    · exact N _ (hsub _ (List.mem_append_left _ (he _ (.tail _ (.head _)))))
    rcases List.mem_cons.mp hp with rfl | hp
    · exact N _ (hsub _ (List.mem_append_left _ (he _ (.tail _ (.tail _ (.head _))))))
    exact N _ hp
  refine wpAny_call ?_
  k_dflt (refine' kla_code ?k1 ?k2 ?k3 ?k4 ?k5 ?kA ?kF ?kK ?k6 ?k7 ?k8 ?k9 ?kB ?_ ?c2 ?c3 ?c4 ?c5)
  case kA => exact rfl
  case kF => exact rfl
  case kK => exact rfl
  case k1 => exact B
  case k2 => exact F
  case k3 => exact X
  case k4 => exact N9
  case k5 => exact T
  case k6 => k_mem
  case k7 => exact codeRec_news N9 (by k_mem) d1 d2
  case k8 => ktr_room
  case k9 => exact rfl
  case c5 => decide
  case kB => exact locs rfl
  case c2 => exact rfl
  case c3 => exact rfl
  case c4 => exact rfl
  intro g' L' h' FG' F' N' B' X' T'
  (try dsimp only)
  clear N N9 F X T
  have hLL : @LT.lt Nat _ L L' := Nat.lt_of_lt_of_le FG'.ns.lt F'.above
  with_reducible show wpAny _ _ _ _ _ _
  (try k_fold)
  k_steps
  refine ⟨?_⟩
  rename News g' L' _ _ => N8
  rename Fr g' L' _ _ => F8
  k_dflt (refine' Spec.use (by_rest_spec (a := k) (z := z) (by omega) (by omega) hz0 hz1) (rest := rest) B' F8 X' C1 C2 T' ?hk N8 s1 s2 ?sub ?d ?u (.drop (.drop (.drop hr))) ?_)
  case hk => exact rfl
  case d => ktr_room
  case u => ktr_units
  case sub => exact fun p hp => .tail _ (.tail _ (.tail _ (hsub p (List.mem_append_right _ hp))))
  rintro r new h9 tk9 o19 c19 x19 o29 c29 x29 F9 N9 s19 s29 mv1 mv2 _ ⟨t9, rfl, rfl⟩
  exact leaveK_ F9 N9 (fun F N => ret t9 h9 tk9 o19 c19 x19 o29 c29 x29 F N s19 s29 (mv1.imp id fun h => ⟨fun p hp => h.1 p (.tail _ (.tail _ (.tail _ hp))), Nat.lt_trans hLL h.2⟩) (mv2.imp id fun h => ⟨fun p hp => h.1 p (.tail _ (.tail _ (.tail _ hp))), Nat.lt_trans hLL h.2⟩))
/-! ## what each way's order is -/
noncomputable def okWay (g : Int → Str) : Bool := decide (∀ i : Fin 14, (¬ Txt.slice ((order g 15).getD (i.val + 1) Str.empty) none (some (((order g 15).getD i.val Str.empty).length : Int)) = (order g 15).getD i.val Str.empty) ∧ bisect (order g 15) ((order g 15).getD (i.val + 1) Str.empty) = 1 + (i.val : Int)) && (order g 15).all fun y => y.length ≤ 256
theorem ok_told : okWay told = true := by decide +kernel
theorem ok_shorter : okWay shorter = true := by decide +kernel
theorem ok_rest : ∀ z : Fin 4, okWay (fun n => byrest n ((z.val : Int) + 1)) = true := by decide +kernel
theorem okWay.use {g : Int → Str} (h : okWay g = true) : (∀ i, ((order g 15).getD i Str.empty).length ≤ sizeLine) ∧ (∀ i, i < 14 → (¬ Txt.slice ((order g 15).getD (i + 1) Str.empty) none (some (((order g 15).getD i Str.empty).length : Int)) = (order g 15).getD i Str.empty) ∧ bisect (order g 15) ((order g 15).getD (i + 1) Str.empty) = 1 + (i : Int)) := by
  rw [okWay, Bool.and_eq_true, decide_eq_true_eq, List.all_eq_true] at h
  refine ⟨fun i => ?_, fun i hi => h.1 ⟨i, hi⟩⟩
  rw [sizeLine_eq, List.getD_eq_getElem?_getD]
  cases e : (order g 15)[i]? with
  | none => exact Nat.zero_le _
  | some y => exact Nat.le_trans (of_decide_eq_true (h.2 y (List.mem_of_getElem? e))) (by decide)
end
section
theorem off_D6 : True := by
  w_top off
  trivial
/-! ## the law's loop over the three ways -/






inductive Tab (rest : List (Addr × Obj)) (nw : List (Addr × Obj)) : Prop
  | mk (o1 : Obj) (c1 : Addr) (x1 o2 : Obj) (c2 : Addr) (x2 : Obj) (hn : nw = tbl o1 c1 x1 o2 c2 x2 ++ rest) (s1 : S1 o1 c1 x1) (s2 : S2 o2 c2 x2) : Tab rest nw
set_option maxHeartbeats 2000000 in
theorem seg6 {w : World} {p : Program} {loose : List Str} {mean : ExcName → Option Value} {mg mb m : Str → Option Value} {G : Heap} {L fa : Addr} {s : Shared} {Q : Flow → Shared → Prop} {E : Value → Shared → Prop} {o1 o2 x1 x2 oc : Obj} {c1 c2 : Addr} {z : Int} {tz : Tok}
    (B : Below callerA G [] G) (X : (hd.heap_39 w.params).In G) (T : Top p loose mean mg mb G) (C1 : CodeHd G 34 30) (C2 : CodeHd G 41 37) (C3 : CodeHd G 109 107)
    (F : Fr G L s.heap m)
    (N : News G L s.heap ((L + 1, oc) :: (107, tabObj #[]) :: tbl o1 c1 x1 o2 c2 x2)) (s1 : S1 o1 c1 x1) (s2 : S2 o2 c2 x2) (hoc : oc.data = Data.cell (some (.int z tz))) (hz0 : 1 ≤ z) (hz1 : z ≤ 4) (h30 : @LT.lt Nat _ 30 L) (h37 : @LT.lt Nat _ 37 L) (h107 : @LT.lt Nat _ 107 L) (hc1 : @Ne Nat c1 107) (hc2 : @Ne Nat c2 107)
    (hE : PassesOwn (model PySem.Challenge.rw_ie0010_01.row.prog w) (callerA.deeper (lawEnv L fa)) (lawEnv L fa) E)
    (hQ : ∀ h' tk' m' news', Fr G L h' m' → News G L h' news' → GrownAll [(34, 30), (41, 37), (109, 107)] h' → Q (.ret (.bool true)) { s with heap := h', toks := tk' }) :
    wpAny (model PySem.Challenge.rw_ie0010_01.row.prog w) (callerA.deeper (lawEnv L fa)) (execs (litOf (rfl : _ :: _ = (stBody lawS).drop 6)) (lawEnv L fa)) Q E s := by
  (try dsimp only [tbl] at N)
  k_steps
  rename_i f c' oc' vs' t' ct' h1 tk1 d1 d2 lt1 lt2 l h2 F2 N2 lt3
  refine ⟨?_⟩
  obtain ⟨m0, hm0, F0⟩ := fr_name F2
  obtain ⟨p7, hp7⟩ : ∃ p7 : Array Value, p7 = #[] ++ #[rawInt ((143 : Nat) : Int), rawInt ((41 : Nat) : Int), .ref c'] := ⟨_, rfl⟩
  obtain ⟨ko, hko⟩ : ∃ ko : Obj, ko = lamObj L fa ((mg (Str.ofString "__name__")).getD .none) c' ct' := ⟨_, rfl⟩
  have N3 : News G L h2 ((l, listOf [Value.ref 86, Value.ref 93, Value.ref f].toArray 0) :: (tbl o1 c1 x1 o2 c2 x2 ++ [(f, ko), (c', oc'), (L + 1, oc), (107, tabObj p7)])) := by
    rw [hp7, hko]
    refine cb_drop N2 ?_
    simp only [List.cons_append, List.nil_append]
    repeat (first | exact List.forall_mem_nil _ | refine List.forall_mem_cons.mpr ⟨by k_mem, ?_⟩)
  have hfn3 : ∀ h mm ext, (f, ko) ∈ ext → Fr G L h mm → News G L h ext → FnAt f h := fun h mm ext hm F N => FnAt.of N (hko ▸ hm)
  have hlam : ∀ ext, (∀ q ∈ [(f, ko), (c', oc'), (L + 1, oc)], q ∈ ext) → Way w G L fa (.ref f) (fun n => byrest n z) ext := fun ext he => way_lam B X T C1 C2 hoc hz0 hz1 d1 d2 ext (hko ▸ he)
  have hz : okWay (fun n => byrest n z) = true := by
    have h := ok_rest ⟨z.toNat - 1, by omega⟩
    have e : (((z.toNat - 1 : Nat) : Int) + 1) = z := by omega
    simp only [e] at h
    exact h
  clear N2
  obtain ⟨J, hJ⟩ := hide (fun (_ : Nat) (_ : Str → Option Value) nw => Tab [(f, ko), (c', oc'), (L + 1, oc), (107, tabObj p7)] nw)
  k_dflt (refine' loop_list (l := l) (vs := [Value.ref 86, Value.ref 93, Value.ref f]) (k := 0) (news := tbl o1 c1 x1 o2 c2 x2 ++ [(f, ko), (c', oc'), (L + 1, oc), (107, tabObj p7)]) ?hh F0 N3 J ?h0 ?step ?done)
  case hh => exact rfl
  case h0 =>
    exact (hJ _ _ _).mpr ⟨o1, c1, x1, o2, c2, x2, rfl, s1, s2⟩
  case step =>
    intro Q5 s5 I i v m1 news1 io h tk5 hi hv hj hlow hne F1 N1
    obtain ⟨o1', c1', x1', o2', c2', x2', rfl, s1', s2'⟩ := (hJ _ _ _).mp hj
    clear hj
    generalize hlo : listOf [Value.ref 86, Value.ref 93, Value.ref f].toArray 0 = lo at N1 hne
    have NW : News G L h (tbl o1' c1' x1' o2' c2' x2' ++ (I, io) :: [(l, lo), (f, ko), (c', oc'), (L + 1, oc), (107, tabObj p7)]) := by
      refine cb_drop N1 ?_
      simp only [List.cons_append, List.nil_append]
      repeat (first | exact List.forall_mem_nil _ | refine List.forall_mem_cons.mpr ⟨by k_mem, ?_⟩)
    have hext : ∀ q ∈ (I, io) :: [(l, lo), (f, ko), (c', oc'), (L + 1, oc), (107, tabObj p7)], q.1 ∉ [30, 37] := by
      refine List.forall_mem_cons.mpr ⟨ne_off (Ne.symm (hne (30, o1') (by simp))) (Ne.symm (hne (37, o2') (by simp))), ?_⟩
      repeat (first | exact List.forall_mem_nil _ | refine List.forall_mem_cons.mpr ⟨ne_off (by (refine neN ?_; dsimp only; omega)) (by (refine neN ?_; dsimp only; omega)), ?_⟩)
    have hce9 : ∀ q ∈ (I, io) :: [(l, lo), (f, ko), (c', oc'), (L + 1, oc), (107, tabObj p7)], q.1 = I → @Ne Nat c1' q.1 ∧ @Ne Nat c2' q.1 :=
      fun q _ e => by rw [e]; exact ⟨hne (c1', x1') (by simp), hne (c2', x2') (by simp)⟩
    have hI : ∀ q ∈ [(f, ko), (c', oc'), (L + 1, oc), (107, tabObj p7)], q.1 ≠ I := fun q hq => hne q (.tail _ (List.mem_append_right _ hq))
    have hi3 : i = 0 ∨ i = 1 ∨ i = 2 := by simp at hi; omega
    have hend : ∀ (u : Value) (h' : Heap) (tk' : Nat) (m' : Str → Option Value) (o1 : Obj) (c1 : Addr) (x1 o2 : Obj) (c2 : Addr) (x2 : Obj), Fr G L h' m' → (∀ y, y ≠ Str.ofString "order" → y ≠ Str.ofString "number" → y ≠ Str.ofString "k" → m' y = if y = Str.ofString "way" then some u else m1 y) →
      News G L h' (tbl o1 c1 x1 o2 c2 x2 ++ (I, io) :: [(l, lo), (f, ko), (c', oc'), (L + 1, oc), (107, tabObj p7)]) → S1 o1 c1 x1 → S2 o2 c2 x2 → (∀ q ∈ (I, io) :: [(l, lo), (f, ko), (c', oc'), (L + 1, oc), (107, tabObj p7)], q.1 = I → @Ne Nat c1 q.1 ∧ @Ne Nat c2 q.1) →
      ∃ nw, News G L h' ((I, io) :: ([(l, lo)] ++ nw)) ∧ (∀ q ∈ nw, q.1 ≠ I) ∧ J (i + 1) m' nw := by
      intro u h' tk' m' o1 c1 x1 o2 c2 x2 F _ N s1 s2 hce
      refine ⟨tbl o1 c1 x1 o2 c2 x2 ++ [(f, ko), (c', oc'), (L + 1, oc), (107, tabObj p7)], cb_drop N ?_, ?_, (hJ _ _ _).mpr ⟨o1, c1, x1, o2, c2, x2, rfl, s1, s2⟩⟩
      · simp only [List.cons_append, List.nil_append]
        repeat (first | exact List.forall_mem_nil _ | refine List.forall_mem_cons.mpr ⟨by k_mem, ?_⟩)
      · exact List.forall_mem_append.mpr ⟨List.forall_mem_cons.mpr ⟨hne (30, o1') (by simp), List.forall_mem_cons.mpr ⟨(hce (I, io) (.head _) rfl).1, List.forall_mem_cons.mpr ⟨hne (37, o2') (by simp), List.forall_mem_cons.mpr ⟨(hce (I, io) (.head _) rfl).2, List.forall_mem_nil _⟩⟩⟩⟩, hI⟩
    rcases hi3 with rfl | rfl | rfl
    · have ev : v = .ref 86 := by simpa using hv.symm
      subst ev
      obtain ⟨y1, y2⟩ := okWay.use ok_told
      refine way_body (ext := (I, io) :: [(l, lo), (f, ko), (c', oc'), (L + 1, oc), (107, tabObj p7)]) B X T C1 C2 F1 NW s1' s2' (way_told B X T C1 C2 _) (fun h mm F _ => way_fn X (by k_is) F) hext y1 y2 hce9 ?_ hE
      intro h' tk' m' o1 c1 x1 o2 c2 x2 F hm N s1 s2 hce
      obtain ⟨nw, n1, n2, n3⟩ := hend _ h' tk' m' o1 c1 x1 o2 c2 x2 F hm N s1 s2 hce
      exact ⟨_, _, _, nw, rfl, F, n1, n2, n3⟩
    · have ev : v = .ref 93 := by simpa using hv.symm
      subst ev
      obtain ⟨y1, y2⟩ := okWay.use ok_shorter
      refine way_body (ext := (I, io) :: [(l, lo), (f, ko), (c', oc'), (L + 1, oc), (107, tabObj p7)]) B X T C1 C2 F1 NW s1' s2' (way_shorter B X T C1 C2 _) (fun h mm F _ => way_fn X (by k_is) F) hext y1 y2 hce9 ?_ hE
      intro h' tk' m' o1 c1 x1 o2 c2 x2 F hm N s1 s2 hce
      obtain ⟨nw, n1, n2, n3⟩ := hend _ h' tk' m' o1 c1 x1 o2 c2 x2 F hm N s1 s2 hce
      exact ⟨_, _, _, nw, rfl, F, n1, n2, n3⟩
    · have ev : v = .ref f := by simpa using hv.symm
      subst ev
      obtain ⟨y1, y2⟩ := okWay.use hz
      refine way_body (ext := (I, io) :: [(l, lo), (f, ko), (c', oc'), (L + 1, oc), (107, tabObj p7)]) B X T C1 C2 F1 NW s1' s2' (hlam _ (by intro q hq; simp at hq ⊢; rcases hq with rfl | rfl | rfl <;> simp)) (fun h mm F N => hfn3 h mm _ (by simp) F N) hext y1 y2 hce9 ?_ hE
      intro h' tk' m' o1 c1 x1 o2 c2 x2 F hm N s1 s2 hce
      obtain ⟨nw, n1, n2, n3⟩ := hend _ h' tk' m' o1 c1 x1 o2 c2 x2 F hm N s1 s2 hce
      exact ⟨_, _, _, nw, rfl, F, n1, n2, n3⟩
  case done =>
    intro h' tk' m1 news1 F1 N1 hj
    obtain ⟨o1', c1', x1', o2', c2', x2', rfl, s1', s2'⟩ := (hJ _ _ _).mp hj
    clear hj hJ J
    refine seg7 (p3 := p7) (o1 := o1') (c1 := c1') (x1 := x1') (o2 := o2') (c2 := c2') (x2 := x2') B X T C1 C2 F1 (cb_drop N1 ?_) s1' s2' hQ
    simp only [List.cons_append, List.nil_append]
    repeat (first | exact List.forall_mem_nil _ | refine List.forall_mem_cons.mpr ⟨by k_mem, ?_⟩)
end
section
theorem off_P3 : True := by
  w_top off
  trivial
/-! ## texts as rows of signs -/
theorem slice_list {x : Str} {i j : Int} (h0 : 0 ≤ i) (h1 : i ≤ j) (h2 : j ≤ x.length) : (Txt.slice x (some i) (some j)).cps.toList = (x.cps.toList.drop i.toNat).take (j - i).toNat := by
  have h := slice_closesL h0 h1 h2
  rw [beq_iff_eq] at h
  rw [h]
theorem rev_text (x : Str) (u : Tok) : (Txt.sliceBy x none none (-1, u)).cps.toList = x.cps.toList.reverse := by
  rw [step_rev_list]
  apply List.ext_getElem
  · simp [Str.length]
  · intro k h1 h2
    simp only [List.length_map, List.length_range] at h1
    simp only [List.getElem_map, List.getElem_range, List.getElem_reverse, Array.length_toList, Array.getElem_toList]
    have hlt : x.length - 1 - k < x.cps.size := by simp only [Str.length] at h1 ⊢; omega
    simp only [Array.getD_eq_getD_getElem?, Str.length] at hlt ⊢
    rw [Array.getElem?_eq_getElem hlt]; rfl
theorem item_at {x : Str} {i : Nat} (h : i < x.length) : Txt.item x (i : Int) = ⟨#[x.cps.toList.getD i 0]⟩ := by
  have e : seqIndex? (i : Int) x.length = some i := by
    unfold seqIndex?
    have e0 : ¬ ((i : Int) < 0) := by omega
    simp only [if_neg e0]
    rw [if_pos (by simp only [Bool.and_eq_true, decide_eq_true_eq]; omega)]
    simp
  unfold Txt.item Txt.charAt
  rw [e]
  simp [List.getD, Str.length] at h ⊢
/-- the run of a sign ahead of a row -/
noncomputable def run (c : Nat) (l : List Nat) : Nat := (l.takeWhile (· == c)).length
theorem zrun_run {x : Str} {c : Nat} : ∀ (f i : Nat), x.length - i = f → i ≤ x.length → zrun x ⟨#[c]⟩ f (i : Int) = (run c (x.cps.toList.drop i) : Nat)
  | 0, i, h, hi => by
    have e : x.cps.toList.drop i = [] := List.drop_eq_nil_of_le (by rw [Array.length_toList]; simp only [Str.length] at h hi; omega)
    rw [zrun, e]; rfl
  | f + 1, i, h, hi => by
    have hlt : i < x.length := by omega
    have hlt' : i < x.cps.toList.length := by rw [Array.length_toList]; exact hlt
    have e : x.cps.toList.drop i = x.cps.toList[i] :: x.cps.toList.drop (i + 1) := List.drop_eq_getElem_cons hlt'
    have ih := zrun_run (x := x) (c := c) f (i + 1) (by omega) (by omega)
    rw [zrun, if_pos (by omega), item_at hlt, e, run, List.takeWhile_cons]
    have eg : x.cps.toList.getD i 0 = x.cps.toList[i] := by rw [List.getD_eq_getElem?_getD, List.getElem?_eq_getElem hlt']; rfl
    rw [eg]
    by_cases hc : x.cps.toList[i] = c
    · rw [if_pos (by rw [hc]; exact beq_self_eq_true _)]
      simp only [hc, beq_self_eq_true, if_true, List.length_cons]
      rw [show ((i : Int) + 1) = ((i + 1 : Nat) : Int) by omega, ih]
      simp only [run]; omega
    · rw [if_neg (by rw [beq_iff_eq]; intro q; apply hc; have := congrArg (fun y : Str => y.cps.toList) q; simpa using this)]
      have hb : (x.cps.toList[i] == c) = false := by simpa using hc
      simp only [hb, Bool.false_eq_true, if_false, List.length_nil]; rfl
end
section
theorem off_P4 : True := by
  w_top off
  trivial
/-! ## reading a number in a window of the signs -/
theorem run_cons (c a : Nat) (W : List Nat) : run c (a :: W) = if (a == c) = true then run c W + 1 else 0 := by
  unfold run
  rw [List.takeWhile_cons]
  split <;> rfl
theorem run_app {c : Nat} : ∀ {W S : List Nat}, run c W < W.length → run c (W ++ S) = run c W
  | [], _, h => absurd h (Nat.not_lt_zero _)
  | a :: W, S, h => by
    rw [List.cons_append, run_cons, run_cons]
    rw [run_cons, List.length_cons] at h
    by_cases hc : (a == c) = true
    · rw [if_pos hc] at h
      rw [if_pos hc, if_pos hc, run_app (by omega)]
    · rw [if_neg hc, if_neg hc]
theorem nought : Str.ofString "0" = ⟨#[48]⟩ := by decide
theorem one : Str.ofString "1" = ⟨#[49]⟩ := by decide
theorem zrun_win {x : Str} {P W S : List Nat} {c : Nat} (h : x.cps.toList = P ++ (W ++ S)) (hr : run c W < W.length) : zrun x ⟨#[c]⟩ (x.length - (P.length : Int)).toNat (P.length : Int) = (run c W : Nat) := by
  have hl : x.length = P.length + (W.length + S.length) := by
    have := congrArg List.length h
    rw [Array.length_toList, List.length_append, List.length_append] at this
    exact this
  rw [zrun_run _ P.length (by omega) (by omega), h, List.drop_left, run_app hr]
theorem slice_win {x : Str} {P W S : List Nat} (h : x.cps.toList = P ++ (W ++ S)) {a b : Nat} {i j : Int} (hi : i = ((P.length + a : Nat) : Int)) (hj : j = ((P.length + b : Nat) : Int)) (hab : a ≤ b) (hb : b ≤ W.length) : (Txt.slice x (some i) (some j)).cps.toList = (W.drop a).take (b - a) := by
  have hl : x.length = P.length + (W.length + S.length) := by
    have := congrArg List.length h
    rw [Array.length_toList, List.length_append, List.length_append] at this
    exact this
  subst hi hj
  rw [slice_list (by omega) (by omega) (by omega), h]
  have e1 : ((P.length + a : Nat) : Int).toNat = P.length + a := by omega
  have e2 : (((P.length + b : Nat) : Int) - ((P.length + a : Nat) : Int)).toNat = b - a := by omega
  rw [e1, e2, ← List.drop_drop, List.drop_left, List.drop_append_of_le_length (by omega), List.take_append_of_le_length (by rw [List.length_drop]; omega)]
end
section
theorem off_P5 : True := by
  w_top off
  trivial
/-! ## what stands in each window -/
noncomputable def wTold (k : Int) : List Nat := rowT k
noncomputable def okTold (k : Int) : Bool := decide (run 48 (wTold k) < (wTold k).length) && decide (2 * run 48 (wTold k) + 1 = (wTold k).length) && decide (run 48 (wTold k) + 1 ≤ 8) && (wTold k).all (fun c => c == 48 || c == 49)
  && decide (d2i ((((wTold k).drop (run 48 (wTold k))).take (run 48 (wTold k) + 1)).reverse.map val) 1 = k)
theorem told_ok : ∀ k : Fin 101, k.val = 0 ∨ okTold (k.val : Int) = true := by decide +kernel
noncomputable def many (k : Int) : Nat := (i2d k 1).length
noncomputable def wShort (k : Int) : List Nat := (rowF k).drop 1
noncomputable def okShort (k : Int) : Bool := decide (1 ≤ many k) && decide (many k ≤ 7) && decide ((wShort k).length + 1 = many k) && (wShort k).all (fun c => c == 48 || c == 49)
  && decide (d2i ((wShort k).reverse.map val ++ [1]) 1 = k)
theorem short_ok : ∀ k : Fin 101, k.val = 0 ∨ okShort (k.val : Int) = true := by decide +kernel
noncomputable def wRest (k z : Int) : List Nat := rowR k z
noncomputable def okRest (k z : Int) : Bool := decide (run 49 (wRest k z) + 1 + z.toNat = (wRest k z).length) && decide (run 49 (wRest k z) ≤ 100) && (wRest k z).all (fun c => c == 48 || c == 49)
  && decide ((run 49 (wRest k z) : Int) * 2 ^ z.toNat + d2i (((wRest k z).drop (run 49 (wRest k z) + 1)).reverse.map val) 1 = k)
theorem rest_ok : ∀ z : Fin 4, ∀ k : Fin 101, k.val = 0 ∨ okRest (k.val : Int) ((z.val : Int) + 1) = true := by decide +kernel
theorem told_row {a : Int} (h0 : 0 ≤ a) (h1 : a < 256) : (told a).cps.toList = wTold a := told_list (small h0 h1).2
theorem shorter_row {a : Int} (h0 : 0 ≤ a) (h1 : a < 256) (h2 : 1 ≤ many a) : (shorter a).cps.toList = wTold (many a) ++ wShort a := by
  have hs := small h0 h1
  have hm : (i2d a 1).length ≤ 8 := hs.1
  exact shorter_list h2 hs.2 (small (a := ((i2d a 1).length : Int)) (by omega) (by omega)).2
theorem byrest_row {a z : Int} (h0 : 0 ≤ a) (h1 : a < 256) (hz0 : 1 ≤ z) (hz1 : z ≤ 4) : (byrest a z).cps.toList = wRest a z := by
  obtain ⟨_, _, _, _, r0, r1⟩ := rest_facts h0 h1 hz0 hz1
  exact byrest_list (small r0 r1).2
end
section
theorem off_E3b : True := by
  w_top off
  trivial
/-! ## the second part of one turn of the law's second loop -/
noncomputable def cutOf (x : Str) (i j : Int) : Str := Txt.sliceBy (Txt.slice x (some i) (some j)) none none (-1, 0)
noncomputable def ones (x : Str) (i : Int) : Int := zrun x (Str.ofString "1") (x.length - i).toNat i



local macro_rules | `(tactic| walk_at "eval ListComp") => `(tactic| (k_here; k_dflt (refine ListComp_T (F₀ := by k_asm) (by with_unfolding_all rfl) (by decide) (by rfl) (by decide) (by rfl) ?_); walk_say "MINE"))
local macro_rules | `(tactic| walk_at "call type:int") => `(tactic| (k_here; (refine KIN.call_text (by assumption) (show (1 : Nat) ≤ 640 by decide) ?_); walk_say "MINE"))

inductive InvO (x : Str) (i : Int) (m0 : Str → Option Value) (rest : List (Addr × Obj)) (n : Nat) (m' : Str → Option Value) (nw : List (Addr × Obj)) : Prop
  | mk (j : Int) (t t' : Tok) (e1 : m' (Str.ofString "often") = some (.int j t)) (e2 : m' (Str.ofString "place") = some (.int (i + j) t')) (e3 : ∀ z, z ≠ Str.ofString "often" → z ≠ Str.ofString "place" → m' z = m0 z) (hn : nw = rest) (b1 : 0 ≤ j) (b2 : i + j ≤ x.length) (b3 : n = (x.length - i - j).toNat) (b4 : ones x i = j + zrun x (Str.ofString "1") n (i + j)) : InvO x i m0 rest n m' nw
inductive OutO (x : Str) (i : Int) (m0 : Str → Option Value) (rest : List (Addr × Obj)) (m' : Str → Option Value) (nw : List (Addr × Obj)) : Prop
  | mk (t t' : Tok) (e1 : m' (Str.ofString "often") = some (.int (ones x i) t)) (e2 : m' (Str.ofString "place") = some (.int (i + ones x i) t')) (e3 : ∀ z, z ≠ Str.ofString "often" → z ≠ Str.ofString "place" → m' z = m0 z) (hn : nw = rest) : OutO x i m0 rest m' nw
set_option maxHeartbeats 2000000 in
theorem turn3b {w : World} {p : Program} {loose : List Str} {mean : ExcName → Option Value} {mg mb m : Str → Option Value} {G : Heap} {L fa nl I : Addr} {s : Shared} {Q : Flow → Shared → Prop} {E : Value → Shared → Prop} {o1 o2 x1 x2 oc io lo : Obj} {c1 c2 : Addr} {z d A3 : Int} {X3 : Str} {tz td tv tr to t3 tc : Tok}
    (B : Below callerA G [] G) (X : (hd.heap_39 w.params).In G) (T : Top p loose mean mg mb G) (C1 : CodeHd G 34 30) (C2 : CodeHd G 41 37)
    (F : Fr G L s.heap (fun y => if y = Str.ofString "often" then some (.int 0 to) else if y = Str.ofString "place" then some (.int A3 tc) else if y = Str.ofString "rest" then some (.int d tr) else if y = Str.ofString "told" then some (.int d tv) else if y = Str.ofString "number" then some (.int d td) else if y = Str.ofString "rests" then some (.str X3 t3) else m y))
    (N : News G L s.heap ((I, io) :: (nl, lo) :: (L + 1, oc) :: (107, tabObj #[]) :: tbl o1 c1 x1 o2 c2 x2)) (s1 : S1 o1 c1 x1) (s2 : S2 o2 c2 x2) (hoc : oc.data = Data.cell (some (.int z tz))) (hz0 : 1 ≤ z) (hz1 : z ≤ 4)
    (i30 : I ∉ [30, 37]) (n30 : nl ∉ [30, 37]) (L30 : L + 1 ∉ [30, 37]) (x30 : 107 ∉ [30, 37])
    (w1 : 0 ≤ A3) (w2 : A3 ≤ X3.length) (w3 : X3.length ≤ 2048) (w4 : 0 ≤ ones X3 A3) (w5 : ones X3 A3 ≤ 100)
    (r4 : ∀ c ∈ (cutOf X3 (A3 + ones X3 A3 + 1) (A3 + ones X3 A3 + 1 + z)).cps.toList, c = 48 ∨ c = 49) (r5 : (bits (cutOf X3 (A3 + ones X3 A3 + 1) (A3 + ones X3 A3 + 1 + z))).length ≤ 8) (r6 : ones X3 A3 * 2 ^ z.toNat + d2i (bits (cutOf X3 (A3 + ones X3 A3 + 1) (A3 + ones X3 A3 + 1 + z))) 1 = d)
    (hE : PassesOwn (model PySem.Challenge.rw_ie0010_01.row.prog w) (callerA.deeper (lawEnv L fa)) (lawEnv L fa) E)
    (hQ : ∀ h' tk' (m' : Str → Option Value) o1' c1' x1' o2' c2' x2' tc, Fr G L h' m' → m' (Str.ofString "place") = some (.int (A3 + ones X3 A3 + 1 + z) tc) →
      (∀ y, y ≠ Str.ofString "often" → y ≠ Str.ofString "place" → y ≠ Str.ofString "left" → m' y = if y = Str.ofString "rest" then some (.int d tr) else if y = Str.ofString "told" then some (.int d tv) else if y = Str.ofString "number" then some (.int d td) else if y = Str.ofString "rests" then some (.str X3 t3) else m y) →
      News G L h' ((I, io) :: (nl, lo) :: (L + 1, oc) :: (107, tabObj #[]) :: tbl o1' c1' x1' o2' c2' x2') → S1 o1' c1' x1' → S2 o2' c2' x2' → (∀ J oj, (J, oj) ∈ (I, io) :: (nl, lo) :: (L + 1, oc) :: (107, tabObj #[]) :: tbl o1 c1 x1 o2 c2 x2 → (@Ne Nat c1 J → @Ne Nat c1' J) ∧ (@Ne Nat c2 J → @Ne Nat c2' J)) → Q .next { s with heap := h', toks := tk' }) :
    wpAny (model PySem.Challenge.rw_ie0010_01.row.prog w) (callerA.deeper (lawEnv L fa)) (execs (litOf (rfl : _ :: _ = (forBody ((stBody lawS).tail.tail.tail.tail.headD default)).tail.tail.tail.tail.tail)) (lawEnv L fa)) Q E s := by
  have hne1 := s1.1
  have hne2 := s2.1
  have hxs : X3.length ≤ sizeLine := by rw [sizeLine_eq]; omega
  obtain ⟨m0, hm0, F0⟩ := fr_name F
  clear F
  k_steps
  refine ⟨?_⟩
  obtain ⟨J, hJ⟩ := hide (InvO X3 A3 m0 ((I, io) :: (nl, lo) :: (L + 1, oc) :: (107, tabObj #[]) :: tbl o1 c1 x1 o2 c2 x2))
  obtain ⟨K, hK⟩ := hide2 (OutO X3 A3 m0 ((I, io) :: (nl, lo) :: (L + 1, oc) :: (107, tabObj #[]) :: tbl o1 c1 x1 o2 c2 x2))
  k_dflt (refine' while_out J K (n₀ := (X3.length - A3).toNat) F0 N ?h0 ?turn ?done ?hE)
  case hE => first | exact hE | passes_own
  case h0 =>
    refine (hJ _ _ _).mpr ⟨0, to, tc, by rw [hm0]; rfl, by rw [hm0, Int.add_zero]; rfl, fun _ _ _ => rfl, rfl, by omega, by omega, by rw [Int.sub_zero], ?_⟩
    rw [ones, Int.add_zero, Int.zero_add]
  case turn =>
    intro s5 n m1 nw1 h1 tk1 F1 N1 hj
    obtain ⟨j, t, t', e1, e2, e3, rfl, b1, b2, b3, b4⟩ := (hJ _ _ _).mp hj
    clear hj
    have em := map2 e1 e2 e3
    subst em
    clear e1 e2 e3
    have b5 : ¬ (A3 + j < X3.length) → zrun X3 (Str.ofString "1") n (A3 + j) = 0 := fun h => by
      cases n with
      | zero => rfl
      | succ n => rw [zrun, if_neg h]
    have b6 : A3 + j < X3.length → ¬ ((Txt.item X3 (A3 + j) == Str.ofString "1") = true) → zrun X3 (Str.ofString "1") n (A3 + j) = 0 := fun h1 h2 => by
      cases n with
      | zero => rfl
      | succ n => rw [zrun, if_pos h1, if_neg h2]
    subst hm0
    (try dsimp only [tbl] at N1)
    clear N F0
    k_steps
    · rename_i c1 c2 c3 g5 g6 g7 g8 g9 ga gb F9 N9
      refine ⟨?_⟩
      obtain ⟨n', rfl⟩ : ∃ n', n = n' + 1 := succ_toNat b3 c1
      rw [zrun, if_pos c1, if_pos c3] at b4
      clear b5 b6
      refine WhileStep.intro F9 (cb_drop N9 fun q hq => .tail _ hq) (n' := n') (Nat.lt_succ_self _) ((hJ _ _ _).mpr ⟨j + 1, _, _, rfl, (by rw [← Int.add_assoc]; rfl), (by intro z z1 z2; simp [z1, z2]), rfl, by clear b2 b3 b4; omega, by clear b2 b3 b4; omega, pred_toNat b3, ?_⟩)
      rw [b4, show A3 + (j + 1) = A3 + j + 1 by omega]; omega
    · rename_i c1 c2 c3
      refine ⟨?_⟩
      have b7 : ones X3 A3 = j := by rw [b4, b6 c1 (by rw [c3]; decide)]; omega
      refine ⟨_, _, _, _, rfl, F1, N1, (hK _ _).mpr ⟨t, t', ?_, ?_, (by intro z z1 z2; simp [z1, z2]), rfl⟩⟩
      · rw [b7]; rfl
      · rw [b7]; rfl
    · rename_i c1
      refine ⟨?_⟩
      have b7 : ones X3 A3 = j := by rw [b4, b5 c1]; omega
      refine ⟨_, _, _, _, rfl, F1, N1, (hK _ _).mpr ⟨t, t', ?_, ?_, (by intro z z1 z2; simp [z1, z2]), rfl⟩⟩
      · rw [b7]; rfl
      · rw [b7]; rfl
  case done =>
    intro h4 tk4 m2 nw2 F2 N2 hk
    obtain ⟨t, t', e1, e2, e3, rfl⟩ := (hK _ _).mp hk
    clear hk hJ hK J K
    have em := map2 e1 e2 e3
    subst em
    subst hm0
    clear e1 e2 e3 N F0
    (try dsimp only [tbl] at N2)
    generalize ones X3 A3 = M at *
    have hq : (Txt.slice X3 (some (A3 + M + 1)) (some (A3 + M + 1 + z))).length ≤ sizeLine := Nat.le_trans (Txt.slice_le _ _ _) hxs
    k_steps
    rename_i h5 t5 k5 F5 N5
    refine ⟨?_⟩
    refine ⟨_, _, _, rfl, rfl, F5, N5, Nat.le_trans (Txt.sliceBy_le _ _ _ _ (show (-1 : Int) ≠ 0 by decide)) hq, ?_⟩
    intro g9
    refine rest_text _ val (fun c u I oI C oC D m₂ ys h tk E' hc hC hx' F' N' off ne => ?_) ?_
    · have hv : PySem.intText? ⟨#[c]⟩ = some (val c) := val_reads (r4 c hc)
      have off0 := off
      (simp only [LCg.Off3, and_true] at off)
      with_reducible show wpAny _ _ _ _ _ _
      k_steps
      refine ⟨?_⟩
      exact LCg.CompEnd.intro F' N' _ (fun p hp => hp) off0 trivial ⟨rfl, _, rfl⟩
    · intro ys hys
      have hys' : IntsAre ys (bits (cutOf X3 (A3 + M + 1) (A3 + M + 1 + z))) := hys
      clear hys r4
      have y0 : ∀ e ∈ bits (cutOf X3 (A3 + M + 1) (A3 + M + 1 + z)), 0 ≤ e ∧ e < 256 := fun e he => bits_small he
      generalize bits (cutOf X3 (A3 + M + 1) (A3 + M + 1 + z)) = Y at hys' r5 r6 y0
      k_steps
      all_goals
        rename Fr G L _ _ => F8
        rename News G L _ _ => N8
        rename S1 _ _ _ => s19
        rename S2 _ _ _ => s29
        rename Moved c1 _ _ _ => mv1
        rename Moved c2 _ _ _ => mv2
        refine hQ _ _ _ _ _ _ _ _ _ _ F8 rfl (by intro y y1 y2 y3; simp [y1, y2, y3]) (cb_drop N8 ?_) s19 s29 (fun J oj hm => ⟨Moved.ne (I := J) (o := oj) mv1 (.tail _ hm), Moved.ne (I := J) (o := oj) mv2 (.tail _ hm)⟩)
        repeat (first | exact List.forall_mem_nil _ | refine List.forall_mem_cons.mpr ⟨by k_mem, ?_⟩)
end
section
theorem off_E3 : True := by
  w_top off
  trivial
/-! ## one turn of the law's second loop -/
theorem pull6 {m : Str → Option Value} {a1 a2 a3 a4 a5 a6 : Str} {u1 u2 u3 u4 u5 u6 : Option Value} (h1 : m a1 = u1) (h2 : m a2 = u2) (h3 : m a3 = u3) (h4 : m a4 = u4) (h5 : m a5 = u5) (h6 : m a6 = u6) :
    m = fun z => if z = a1 then u1 else if z = a2 then u2 else if z = a3 then u3 else if z = a4 then u4 else if z = a5 then u5 else if z = a6 then u6 else m z := map6 h1 h2 h3 h4 h5 h6 fun _ _ _ _ _ _ _ => rfl



local macro_rules | `(tactic| walk_at "eval ListComp") => `(tactic| (k_here; k_dflt (refine ListComp_T (F₀ := by k_asm) (by with_unfolding_all rfl) (by decide) (by rfl) (by decide) (by rfl) ?_); walk_say "MINE"))
local macro_rules | `(tactic| walk_at "call type:int") => `(tactic| (k_here; (refine KIN.call_text (by assumption) (show (1 : Nat) ≤ 640 by decide) ?_); walk_say "MINE"))
local macro_rules | `(tactic| walk_at "execs cons") => `(tactic| ((with_reducible show wpAny _ _ (execs (Stmt.While .. :: _) _) _ _ _); refine stop ?_; walk_say "MINE"))
local macro_rules | `(tactic| walk_at "binaryOp Add ref ref") => `(tactic| (refine stop ?_; walk_say "MINE"))


set_option maxHeartbeats 2000000 in
theorem turn3 {w : World} {p : Program} {loose : List Str} {mean : ExcName → Option Value} {mg mb m : Str → Option Value} {G : Heap} {L fa nl I : Addr} {s : Shared} {Q : Flow → Shared → Prop} {E : Value → Shared → Prop} {o1 o2 x1 x2 oc io lo : Obj} {c1 c2 : Addr} {z d A1 A2 A3 B1 B2 B3 K : Int} {X1 X2 X3 : Str} {tz td t1 t2 t3 ta tb tc : Tok} {u1 u3 u5 u6 u8 u9 v1 v2 v3 : Option Value}
    (B : Below callerA G [] G) (X : (hd.heap_39 w.params).In G) (T : Top p loose mean mg mb G) (C1 : CodeHd G 34 30) (C2 : CodeHd G 41 37)
    (F : Fr G L s.heap (fun y => if y = Str.ofString "number" then some (.int d td) else if y = Str.ofString "told" then u1 else if y = Str.ofString "at" then some (.int A1 ta) else if y = Str.ofString "many" then u3 else if y = Str.ofString "there" then some (.int A2 tb) else if y = Str.ofString "rest" then u5 else if y = Str.ofString "often" then u6 else if y = Str.ofString "place" then some (.int A3 tc) else if y = Str.ofString "left" then u8 else if y = Str.ofString "number" then u9
      else if y = Str.ofString "place" then v3 else if y = Str.ofString "there" then v2 else if y = Str.ofString "at" then v1 else if y = Str.ofString "rests" then some (.str X3 t3) else if y = Str.ofString "short" then some (.str X2 t2) else if y = Str.ofString "signs" then some (.str X1 t1) else m y))
    (N : News G L s.heap ((I, io) :: (nl, lo) :: (L + 1, oc) :: (107, tabObj #[]) :: tbl o1 c1 x1 o2 c2 x2)) (s1 : S1 o1 c1 x1) (s2 : S2 o2 c2 x2) (hoc : oc.data = Data.cell (some (.int z tz))) (hz0 : 1 ≤ z) (hz1 : z ≤ 4)
    (i30 : I ∉ [30, 37]) (n30 : nl ∉ [30, 37]) (L30 : L + 1 ∉ [30, 37]) (x30 : 107 ∉ [30, 37])
    (p1 : 0 ≤ A1) (p2 : A1 ≤ X1.length) (p3 : X1.length ≤ 2048) (p4 : ∀ c ∈ (readText X1 A1).cps.toList, c = 48 ∨ c = 49) (p5 : (bits (readText X1 A1)).length ≤ 8) (p6 : d2i (bits (readText X1 A1)) 1 = d) (p7 : readEnd X1 A1 = B1)
    (q1 : 0 ≤ A2) (q2 : A2 ≤ X2.length) (q3 : X2.length ≤ 2048) (q4 : ∀ c ∈ (readText X2 A2).cps.toList, c = 48 ∨ c = 49) (q5 : (bits (readText X2 A2)).length ≤ 8) (q6 : d2i (bits (readText X2 A2)) 1 = K) (q7 : readEnd X2 A2 + K - 1 = B2)
    (r1 : ∀ c ∈ (cutOf X2 (readEnd X2 A2) B2).cps.toList, c = 48 ∨ c = 49) (r2 : (bits (cutOf X2 (readEnd X2 A2) B2)).length ≤ 7) (r3 : d2i (bits (cutOf X2 (readEnd X2 A2) B2) ++ [1]) 1 = d)
    (w1 : 0 ≤ A3) (w2 : A3 ≤ X3.length) (w3 : X3.length ≤ 2048) (w4 : 0 ≤ ones X3 A3) (w5 : ones X3 A3 ≤ 100) (w6 : A3 + ones X3 A3 + 1 + z = B3)
    (r4 : ∀ c ∈ (cutOf X3 (A3 + ones X3 A3 + 1) B3).cps.toList, c = 48 ∨ c = 49) (r5 : (bits (cutOf X3 (A3 + ones X3 A3 + 1) B3)).length ≤ 8) (r6 : ones X3 A3 * 2 ^ z.toNat + d2i (bits (cutOf X3 (A3 + ones X3 A3 + 1) B3)) 1 = d)
    (hE : PassesOwn (model PySem.Challenge.rw_ie0010_01.row.prog w) (callerA.deeper (lawEnv L fa)) (lawEnv L fa) E)
    (hQ : ∀ h' tk' (m' : Str → Option Value) o1' c1' x1' o2' c2' x2' ta tb tc, Fr G L h' m' → m' (Str.ofString "at") = some (.int B1 ta) → m' (Str.ofString "there") = some (.int B2 tb) → m' (Str.ofString "place") = some (.int B3 tc) →
      (∀ y, y ≠ Str.ofString "told" → y ≠ Str.ofString "at" → y ≠ Str.ofString "many" → y ≠ Str.ofString "there" → y ≠ Str.ofString "rest" → y ≠ Str.ofString "often" → y ≠ Str.ofString "place" → y ≠ Str.ofString "left" → y ≠ Str.ofString "number" → m' y = if y = Str.ofString "rests" then some (.str X3 t3) else if y = Str.ofString "short" then some (.str X2 t2) else if y = Str.ofString "signs" then some (.str X1 t1) else m y) →
      News G L h' ((I, io) :: (nl, lo) :: (L + 1, oc) :: (107, tabObj #[]) :: tbl o1' c1' x1' o2' c2' x2') → S1 o1' c1' x1' → S2 o2' c2' x2' → (∀ J oj, (J, oj) ∈ [(I, io), (nl, lo), (L + 1, oc), (107, tabObj #[])] → (@Ne Nat c1 J → @Ne Nat c1' J) ∧ (@Ne Nat c2 J → @Ne Nat c2' J)) → Q .next { s with heap := h', toks := tk' }) :
    wpAny (model PySem.Challenge.rw_ie0010_01.row.prog w) (callerA.deeper (lawEnv L fa)) (execs (litOf (rfl : _ :: _ = forBody ((stBody lawS).tail.tail.tail.tail.headD default))) (lawEnv L fa)) Q E s := by
  (try dsimp only [tbl] at N)
  have hne1 := s1.1
  have hne2 := s2.1
  subst q6 q7 p7 w6
  k_steps
  rename_i h5 t5 k5 F5 N5
  refine ⟨?_⟩
  refine ⟨_, _, _, rfl, rfl, F5, N5, Nat.le_trans (Txt.sliceBy_le _ _ _ _ (show (-1 : Int) ≠ 0 by decide)) (Nat.le_trans (Txt.slice_le _ _ _) (by rw [sizeLine_eq]; omega)), ?_⟩
  intro g9
  refine rest_text _ val (fun c u I oI C oC D m₂ ys h tk E' hc hC hx' F' N' off ne => ?_) ?_
  · have hv : PySem.intText? ⟨#[c]⟩ = some (val c) := val_reads (r1 c hc)
    have off0 := off
    (simp only [LCg.Off3, and_true] at off)
    with_reducible show wpAny _ _ _ _ _ _
    k_steps
    refine ⟨?_⟩
    exact LCg.CompEnd.intro F' N' _ (fun p hp => hp) off0 trivial ⟨rfl, _, rfl⟩
  · intro ys hys
    have hys' : IntsAre ys (bits (cutOf X2 (readEnd X2 A2) (readEnd X2 A2 + d2i (bits (readText X2 A2)) 1 - 1))) := hys
    clear hys r1
    have y0 : ∀ e ∈ bits (cutOf X2 (readEnd X2 A2) (readEnd X2 A2 + d2i (bits (readText X2 A2)) 1 - 1)) ++ [1], 0 ≤ e ∧ e < 256 := fun e he => by
      rcases List.mem_append.1 he with he | he
      · exact bits_small he
      · rw [List.mem_singleton.1 he]; decide
    generalize bits (cutOf X2 (readEnd X2 A2) (readEnd X2 A2 + d2i (bits (readText X2 A2)) 1 - 1)) = Y at hys' r2 r3 y0
    have y1 : Y.length + [(1 : Int)].length ≤ sizeLine := by rw [sizeLine_eq]; simp only [List.length_cons, List.length_nil]; omega
    have y2 : (Y ++ [1]).length ≤ 8 := by simp only [List.length_append, List.length_cons, List.length_nil]; omega
    k_steps
    refine ⟨?_⟩
    k_dflt (refine' kmk_add_ints ?F ?N ?a ?b ?i ?j ?_ ?z; (case F => k_asm); (case N => k_asm); (case a => exact News.isList (by k_asm) (by k_mem)); (case b => exact News.isList (by k_asm) (by k_mem)); (case i => with_reducible assumption); (case j => exact IntsAre.cons 1 _ .nil); (case z => with_reducible assumption))
    intro _ _ _ _ _ l1 _
    (try k_lt l1)
    (try k_sweep)
    k_steps
    rename Fr G L _ _ => F8
    rename News G L _ _ => N8
    rename_i o18 c18 x18 o28 c28 x28 s18 s28 mv18 mv28 t8 ne81 ne82 N81 h81 h82
    refine ⟨?_⟩
    have mvJ : ∀ J oj, (J, oj) ∈ [(I, io), (nl, lo), (L + 1, oc), (107, tabObj #[])] → (@Ne Nat c1 J → @Ne Nat c18 J) ∧ (@Ne Nat c2 J → @Ne Nat c28 J) := by
      intro J oj hm
      rcases List.mem_cons.1 hm with e | hm
      · cases e
        refine ⟨fun hh => ?_, fun hh => ?_⟩
        all_goals (repeat (first | exact hh | refine Moved.ne (I := I) (o := io) (by assumption) (by k_mem) ?_))
      rcases List.mem_cons.1 hm with e | hm
      · cases e
        refine ⟨fun hh => ?_, fun hh => ?_⟩
        all_goals (repeat (first | exact hh | refine Moved.ne (I := nl) (o := lo) (by assumption) (by k_mem) ?_))
      rcases List.mem_cons.1 hm with e | hm
      · cases e
        refine ⟨fun hh => ?_, fun hh => ?_⟩
        all_goals (repeat (first | exact hh | refine Moved.ne (I := L + 1) (o := oc) (by assumption) (by k_mem) ?_))
      rcases List.mem_cons.1 hm with e | hm
      · cases e
        refine ⟨fun hh => ?_, fun hh => ?_⟩
        all_goals (repeat (first | exact hh | refine Moved.ne (I := 107) (o := tabObj #[]) (by assumption) (by k_mem) ?_))
      cases hm
    refine turn3b (I := I) (nl := nl) (io := io) (lo := lo) (A3 := A3) (X3 := X3) (tr := t8) B X T C1 C2 (fr_at_eq F8 (pull6 rfl rfl (by show some (Value.int (d2i (Y ++ [1]) 1) t8) = _; rw [r3]) (congrArg (fun q => some (Value.int q _)) p6) rfl rfl)) (cb_drop N8 ?sub) s18 s28 hoc hz0 hz1 i30 n30 L30 x30 w1 w2 w3 w4 w5 r4 r5 r6 hE ?hq
    case sub => repeat (first | exact List.forall_mem_nil _ | refine List.forall_mem_cons.mpr ⟨by k_mem, ?_⟩)
    case hq =>
      intro h' tk' m' o1' c1' x1' o2' c2' x2' tc9 F9 e9 hm9 N9 s19 s29 mvb
      refine hQ _ _ m' _ _ _ _ _ _ _ _ _ F9 ((hm9 (Str.ofString "at") (by decide) (by decide) (by decide)).trans rfl) ((hm9 (Str.ofString "there") (by decide) (by decide) (by decide)).trans rfl) e9 ?_ N9 s19 s29 ?_
      · intro y z1 z2 z3 z4 z5 z6 z7 z8 z9
        rw [hm9 y z6 z7 z8]
        simp only [z1, z2, z3, z4, z5, z6, z7, z8, z9, if_false]
        by_cases zr : y = Str.ofString "rests"
        · rw [if_pos zr, if_pos zr]
        · rw [if_neg zr]
      · intro J oj hm
        have hb := mvb J oj (List.mem_append_left (tbl _ _ _ _ _ _) hm)
        exact ⟨fun hh => hb.1 ((mvJ J oj hm).1 hh), fun hh => hb.2 ((mvJ J oj hm).2 hh)⟩
end
section
theorem off_P6 : True := by
  w_top off
  trivial
/-! ## the facts of one turn -/
theorem fold_list (f : Int → Str) : ∀ (ns : List Int) (x : Str), (ns.foldl (fun x n => x ++ f n) x).cps.toList = x.cps.toList ++ ns.flatMap (fun n => (f n).cps.toList)
  | [], x => by simp
  | n :: ns, x => by rw [List.foldl_cons, fold_list f ns, app_list, List.flatMap_cons, List.append_assoc]
theorem cat_list (f : Int → Str) (ns : List Int) : (cat f ns).cps.toList = ns.flatMap (fun n => (f n).cps.toList) := by
  rw [cat, fold_list]; rfl
theorem cat_win {f : Int → Str} {ns : List Int} {i : Nat} {d : Int} (h : ns[i]? = some d) : ∃ S, (cat f ns).cps.toList = (cat f (ns.take i)).cps.toList ++ ((f d).cps.toList ++ S) := by
  obtain ⟨hi, he⟩ := List.getElem?_eq_some_iff.1 h
  refine ⟨(ns.drop (i + 1)).flatMap (fun n => (f n).cps.toList), ?_⟩
  have e : ns = ns.take i ++ (d :: ns.drop (i + 1)) := by rw [← he, ← List.drop_eq_getElem_cons hi, List.take_append_drop]
  have e2 := congrArg (fun l => List.flatMap (fun n => (f n).cps.toList) l) e
  simp only [List.flatMap_append, List.flatMap_cons] at e2
  rw [cat_list, cat_list]; exact e2
noncomputable def off (f : Int → Str) (ns : List Int) (i : Nat) : Int := ((cat f (ns.take i)).length : Int)
theorem len_list (x : Str) : x.length = x.cps.toList.length := by rw [Array.length_toList]; rfl
theorem off_list (f : Int → Str) (ns : List Int) (i : Nat) : off f ns i = ((cat f (ns.take i)).cps.toList.length : Int) := by rw [off, len_list]
theorem off_step {f : Int → Str} {ns : List Int} {i : Nat} {d : Int} (h : ns[i]? = some d) : off f ns (i + 1) = off f ns i + ((f d).cps.toList.length : Int) := by
  rw [off_list, off_list, cat_step h, app_list, List.length_append, Int.natCast_add]
theorem revT_list (x : Str) : (Txt.sliceBy x none none (-1, 0)).cps.toList = x.cps.toList.reverse := rev_text x 0
theorem all_bits {W : List Nat} (h : (W.all fun c => c == 48 || c == 49) = true) : ∀ c ∈ W, c = 48 ∨ c = 49 := fun c hc => by
  have := List.all_eq_true.1 h c hc
  simpa using this
theorem read_told {x : Str} {P S : List Nat} {k : Int} (h : x.cps.toList = P ++ (wTold k ++ S)) (ok : okTold k = true) :
    readEnd x (P.length : Int) = (P.length : Int) + ((wTold k).length : Int) ∧ (∀ c ∈ (readText x (P.length : Int)).cps.toList, c = 48 ∨ c = 49) ∧ (bits (readText x (P.length : Int))).length ≤ 8 ∧ d2i (bits (readText x (P.length : Int))) 1 = k := by
  simp only [okTold, Bool.and_eq_true, decide_eq_true_eq] at ok
  obtain ⟨⟨⟨⟨o1, o2⟩, o3⟩, o4⟩, o5⟩ := ok
  have e1 : readMany x (P.length : Int) = (run 48 (wTold k) : Nat) := by
    rw [readMany, nought]; exact zrun_win h o1
  have e2 : readEnd x (P.length : Int) = (P.length : Int) + ((wTold k).length : Int) := by
    rw [readEnd, e1]; omega
  have e3 : (readText x (P.length : Int)).cps.toList = (((wTold k).drop (run 48 (wTold k))).take (run 48 (wTold k) + 1)).reverse := by
    rw [readText, revT_list, slice_win h (a := run 48 (wTold k)) (b := (wTold k).length) (by rw [e1]; omega) (by rw [e2]; omega) (by omega) (Nat.le_refl _)]
    rw [show (wTold k).length - run 48 (wTold k) = run 48 (wTold k) + 1 by omega]
  refine ⟨e2, ?_, ?_, ?_⟩
  · rw [e3]
    intro c hc
    exact all_bits o4 c (List.mem_of_mem_drop (List.mem_of_mem_take (List.mem_reverse.1 hc)))
  · rw [bits, e3, List.length_map, List.length_reverse, List.length_take]
    exact Nat.le_trans (Nat.min_le_left _ _) o3
  · rw [bits, e3]; exact o5
theorem read_short {x : Str} {P S : List Nat} {k : Int} (h : x.cps.toList = P ++ ((shorter k).cps.toList ++ S)) (o3 : (shorter k).cps.toList = wTold (many k) ++ wShort k) (ok : okShort k = true) (ok2 : okTold (many k) = true) :
    (∀ c ∈ (readText x (P.length : Int)).cps.toList, c = 48 ∨ c = 49) ∧ (bits (readText x (P.length : Int))).length ≤ 8 ∧ d2i (bits (readText x (P.length : Int))) 1 = many k ∧
    readEnd x (P.length : Int) + many k - 1 = (P.length : Int) + ((shorter k).cps.toList.length : Int) ∧
    (∀ c ∈ (cutOf x (readEnd x (P.length : Int)) ((P.length : Int) + ((shorter k).cps.toList.length : Int))).cps.toList, c = 48 ∨ c = 49) ∧ (bits (cutOf x (readEnd x (P.length : Int)) ((P.length : Int) + ((shorter k).cps.toList.length : Int)))).length ≤ 7 ∧
    d2i (bits (cutOf x (readEnd x (P.length : Int)) ((P.length : Int) + ((shorter k).cps.toList.length : Int))) ++ [1]) 1 = k := by
  simp only [okShort, Bool.and_eq_true, decide_eq_true_eq] at ok
  obtain ⟨⟨⟨⟨o1, o2⟩, o4⟩, o5⟩, o6⟩ := ok
  rw [o3, List.append_assoc] at h
  obtain ⟨r1, r2, r3, r4⟩ := read_told h ok2
  have el : (shorter k).cps.toList.length = (wTold (many k)).length + (wShort k).length := by rw [← List.length_append, ← o3]
  have e3 : (cutOf x (readEnd x (P.length : Int)) ((P.length : Int) + ((shorter k).cps.toList.length : Int))).cps.toList = (wShort k).reverse := by
    rw [← List.append_assoc] at h
    rw [cutOf, revT_list, slice_win h (a := 0) (b := (wShort k).length) (by rw [r1, List.length_append]; omega) (by rw [el, List.length_append]; omega) (Nat.zero_le _) (Nat.le_refl _)]
    rw [List.drop_zero, Nat.sub_zero, List.take_length]
  refine ⟨r2, r3, r4, by rw [r1, el]; omega, ?_, ?_, ?_⟩
  · rw [e3]
    intro c hc
    exact all_bits o5 c (List.mem_reverse.1 hc)
  · rw [bits, e3, List.length_map, List.length_reverse]; omega
  · rw [bits, e3]; exact o6
theorem read_rest {x : Str} {P S : List Nat} {k z : Int} (hz0 : 1 ≤ z) (h : x.cps.toList = P ++ (wRest k z ++ S)) (ok : okRest k z = true) :
    0 ≤ ones x (P.length : Int) ∧ ones x (P.length : Int) ≤ 100 ∧ (P.length : Int) + ones x (P.length : Int) + 1 + z = (P.length : Int) + ((wRest k z).length : Int) ∧
    (∀ c ∈ (cutOf x ((P.length : Int) + ones x (P.length : Int) + 1) ((P.length : Int) + ((wRest k z).length : Int))).cps.toList, c = 48 ∨ c = 49) ∧ (bits (cutOf x ((P.length : Int) + ones x (P.length : Int) + 1) ((P.length : Int) + ((wRest k z).length : Int)))).length ≤ z.toNat ∧
    ones x (P.length : Int) * 2 ^ z.toNat + d2i (bits (cutOf x ((P.length : Int) + ones x (P.length : Int) + 1) ((P.length : Int) + ((wRest k z).length : Int)))) 1 = k := by
  simp only [okRest, Bool.and_eq_true, decide_eq_true_eq] at ok
  obtain ⟨⟨⟨o1, o2⟩, o3⟩, o4⟩ := ok
  have e1 : ones x (P.length : Int) = (run 49 (wRest k z) : Nat) := by
    rw [ones, one]; exact zrun_win h (by omega)
  have e3 : (cutOf x ((P.length : Int) + ones x (P.length : Int) + 1) ((P.length : Int) + ((wRest k z).length : Int))).cps.toList = ((wRest k z).drop (run 49 (wRest k z) + 1)).reverse := by
    rw [cutOf, revT_list, slice_win h (a := run 49 (wRest k z) + 1) (b := (wRest k z).length) (by rw [e1]; omega) (by omega) (by omega) (Nat.le_refl _)]
    rw [List.take_of_length_le (by rw [List.length_drop]; exact Nat.le_refl _)]
  refine ⟨by rw [e1]; omega, by rw [e1]; omega, by rw [e1]; omega, ?_, ?_, ?_⟩
  · rw [e3]
    intro c hc
    exact all_bits o3 c (List.mem_of_mem_drop (List.mem_reverse.1 hc))
  · rw [bits, e3, List.length_map, List.length_reverse, List.length_drop]; omega
  · rw [bits, e3, e1]; exact o4
theorem oks {d z : Int} (d0 : 1 ≤ d) (d1 : d ≤ 100) (hz0 : 1 ≤ z) (hz1 : z ≤ 4) : okTold d = true ∧ okShort d = true ∧ okTold (many d) = true ∧ okRest d z = true := by
  have e : ((d.toNat : Nat) : Int) = d := Int.toNat_of_nonneg (by omega)
  have ez : (((z.toNat - 1 : Nat) : Int) + 1) = z := by omega
  have hd : ¬ d.toNat = 0 := by omega
  have h1 := (told_ok ⟨d.toNat, by omega⟩).resolve_left hd
  have h2 := (short_ok ⟨d.toNat, by omega⟩).resolve_left hd
  have h3 := (rest_ok ⟨z.toNat - 1, by omega⟩ ⟨d.toNat, by omega⟩).resolve_left hd
  simp only [e, ez] at h1 h2 h3
  have h2' := h2
  simp only [okShort, Bool.and_eq_true, decide_eq_true_eq] at h2'
  have hm0 : 1 ≤ many d := h2'.1.1.1.1
  have hm1 : many d ≤ 7 := h2'.1.1.1.2
  exact ⟨h1, h2, (told_ok ⟨many d, by omega⟩).resolve_left (by show ¬ many d = 0; omega), h3⟩
end
section
theorem off_D3 : True := by
  w_top off
  trivial
local macro_rules | `(tactic| walk_at "pad D3 41") => `(tactic| skip)
local macro_rules | `(tactic| walk_at "pad D3 42") => `(tactic| skip)
/-! ## the law's second loop -/
theorem map9 {m1 m0 : Str → Option Value} {a1 a2 a3 a4 a5 a6 a7 a8 a9 : Str} {u1 u2 u3 u4 u5 u6 u7 u8 u9 : Option Value} (h1 : m1 a1 = u1) (h2 : m1 a2 = u2) (h3 : m1 a3 = u3) (h4 : m1 a4 = u4) (h5 : m1 a5 = u5) (h6 : m1 a6 = u6) (h7 : m1 a7 = u7) (h8 : m1 a8 = u8) (h9 : m1 a9 = u9)
    (hm : ∀ z, z ≠ a1 → z ≠ a2 → z ≠ a3 → z ≠ a4 → z ≠ a5 → z ≠ a6 → z ≠ a7 → z ≠ a8 → z ≠ a9 → m1 z = m0 z) : m1 = fun z => if z = a1 then u1 else if z = a2 then u2 else if z = a3 then u3 else if z = a4 then u4 else if z = a5 then u5 else if z = a6 then u6 else if z = a7 then u7 else if z = a8 then u8 else if z = a9 then u9 else m0 z := by
  funext z
  by_cases z1 : z = a1
  · rw [if_pos z1, z1]; exact h1
  rw [if_neg z1]
  by_cases z2 : z = a2
  · rw [if_pos z2, z2]; exact h2
  rw [if_neg z2]
  by_cases z3 : z = a3
  · rw [if_pos z3, z3]; exact h3
  rw [if_neg z3]
  by_cases z4 : z = a4
  · rw [if_pos z4, z4]; exact h4
  rw [if_neg z4]
  by_cases z5 : z = a5
  · rw [if_pos z5, z5]; exact h5
  rw [if_neg z5]
  by_cases z6 : z = a6
  · rw [if_pos z6, z6]; exact h6
  rw [if_neg z6]
  by_cases z7 : z = a7
  · rw [if_pos z7, z7]; exact h7
  rw [if_neg z7]
  by_cases z8 : z = a8
  · rw [if_pos z8, z8]; exact h8
  rw [if_neg z8]
  by_cases z9 : z = a9
  · rw [if_pos z9, z9]; exact h9
  rw [if_neg z9]
  exact hm z z1 z2 z3 z4 z5 z6 z7 z8 z9



local macro_rules | `(tactic| walk_at "execs cons") => `(tactic| ((with_reducible show wpAny _ _ (execs (Stmt.For _ (Expr.List ..) .. :: _) _) _ _ _); refine stop ?_; walk_say "MINE"))
inductive Inv3 (z : Int) (ns : List Int) (m0 : Str → Option Value) (rest : List (Addr × Obj)) (i : Nat) (m' : Str → Option Value) (nw : List (Addr × Obj)) : Prop
  | mk (ta tb tc : Tok) (o1 : Obj) (c1 : Addr) (x1 o2 : Obj) (c2 : Addr) (x2 : Obj) (e2 : m' (Str.ofString "at") = some (.int (off told ns i) ta)) (e4 : m' (Str.ofString "there") = some (.int (off shorter ns i) tb)) (e7 : m' (Str.ofString "place") = some (.int (off (fun n => byrest n z) ns i) tc))
    (hm : ∀ y, y ≠ Str.ofString "told" → y ≠ Str.ofString "at" → y ≠ Str.ofString "many" → y ≠ Str.ofString "there" → y ≠ Str.ofString "rest" → y ≠ Str.ofString "often" → y ≠ Str.ofString "place" → y ≠ Str.ofString "left" → y ≠ Str.ofString "number" → m' y = m0 y)
    (hn : nw = rest ++ tbl o1 c1 x1 o2 c2 x2) (s1 : S1 o1 c1 x1) (s2 : S2 o2 c2 x2) (k1 : @Ne Nat c1 107) (k2 : @Ne Nat c2 107) : Inv3 z ns m0 rest i m' nw
set_option maxHeartbeats 2000000 in
theorem seg3 {w : World} {p : Program} {loose : List Str} {mean : ExcName → Option Value} {mg mb m : Str → Option Value} {G : Heap} {L fa nl : Addr} {s : Shared} {Q : Flow → Shared → Prop} {E : Value → Shared → Prop} {o1 o2 x1 x2 oc : Obj} {c1 c2 : Addr} {vs : List Value} {ns : List Int} {kk : Nat} {z : Int} {tz t1 t2 t3 : Tok}
    (B : Below callerA G [] G) (X : (hd.heap_39 w.params).In G) (T : Top p loose mean mg mb G) (C1 : CodeHd G 34 30) (C2 : CodeHd G 41 37) (C3 : CodeHd G 109 107)
    (F : Fr G L s.heap (fun y => if y = Str.ofString "rests" then some (.str (cat (fun n => byrest n z) ns) t3) else if y = Str.ofString "short" then some (.str (cat shorter ns) t2) else if y = Str.ofString "signs" then some (.str (cat told ns) t1) else if y = Str.ofString "numbers" then some (.ref nl) else m y))
    (N : News G L s.heap ((nl, listOf vs.toArray kk) :: (L + 1, oc) :: (107, tabObj #[]) :: tbl o1 c1 x1 o2 c2 x2)) (s1 : S1 o1 c1 x1) (s2 : S2 o2 c2 x2) (hoc : oc.data = Data.cell (some (.int z tz))) (hz0 : 1 ≤ z) (hz1 : z ≤ 4)
    (h30 : @LT.lt Nat _ 30 L) (h37 : @LT.lt Nat _ 37 L) (h107 : @LT.lt Nat _ 107 L) (n30 : nl ∉ [30, 37]) (hca : @Ne Nat c1 107 ∧ @Ne Nat c2 107)
    (hI : IntsAre vs ns) (hns : ∀ n ∈ ns, 1 ≤ n ∧ n ≤ 100) (hnl : ns.length ≤ 8) (hE : PassesOwn (model PySem.Challenge.rw_ie0010_01.row.prog w) (callerA.deeper (lawEnv L fa)) (lawEnv L fa) E)
    (hQ : ∀ h' tk' m' news', Fr G L h' m' → News G L h' news' → GrownAll [(34, 30), (41, 37), (109, 107)] h' → Q (.ret (.bool true)) { s with heap := h', toks := tk' }) :
    wpAny (model PySem.Challenge.rw_ie0010_01.row.prog w) (callerA.deeper (lawEnv L fa)) (execs (litOf (rfl : _ :: _ = (stBody lawS).drop 3)) (lawEnv L fa)) Q E s := by
  have hb : ∀ n ∈ ns, 0 ≤ n ∧ n < 256 := fun n hn => by have := hns n hn; omega
  have hlt : (cat told ns).length ≤ 2048 := by
    have h := cat_len (f := told) (B := 32) (ns := ns) (fun n hn => len_told (Nat.le_trans (small (hb n hn).1 (hb n hn).2).1 (by decide)) (small (hb n hn).1 (hb n hn).2).2) ns.length
    rw [List.take_length] at h
    omega
  have hls : (cat shorter ns).length ≤ 2048 := by
    have h := cat_len (f := shorter) (B := 48) (ns := ns) (fun n hn => len_shorter (hb n hn).1 (hb n hn).2) ns.length
    rw [List.take_length] at h
    omega
  have hlr : (cat (fun n => byrest n z) ns).length ≤ 2048 := by
    have h := cat_len (f := fun n => byrest n z) (B := 133) (ns := ns) (fun n hn => len_byrest (hb n hn).1 (hb n hn).2 hz0 hz1) ns.length
    rw [List.take_length] at h
    omega
  (try dsimp only [tbl] at N)
  k_steps
  rename Fr G L _ _ => F5
  rename News G L _ _ => N5
  refine ⟨?_⟩
  obtain ⟨m0, hm0, F0⟩ := fr_name F5
  obtain ⟨J, hJ⟩ := hide (Inv3 z ns m0 ((L + 1, oc) :: (107, tabObj #[]) :: []))
  k_dflt (refine' loop_list (l := nl) (vs := vs) (k := kk) (news := (L + 1, oc) :: (107, tabObj #[]) :: tbl o1 c1 x1 o2 c2 x2) ?hh F0 (cb_drop N5 ?sub) J ?h0 ?step ?done)
  case hh => exact rfl
  case sub => repeat (first | exact List.forall_mem_nil _ | refine List.forall_mem_cons.mpr ⟨by k_mem, ?_⟩)
  case h0 => exact (hJ _ _ _).mpr ⟨_, _, _, o1, c1, x1, o2, c2, x2, by rw [hm0]; rfl, by rw [hm0]; rfl, by rw [hm0]; rfl, fun _ _ _ _ _ _ _ _ _ _ => rfl, rfl, s1, s2, hca.1, hca.2⟩
  case step =>
    intro Q5 s5 I i v m1 news1 io h tk5 hi hv hj hlow hne F1 N1
    obtain ⟨ta, tb, tc, o1', c1', x1', o2', c2', x2', e2, e4, e7, hm, rfl, s1', s2', hca1, hca2⟩ := (hJ _ _ _).mp hj
    clear hj
    have hne1 := s1'.1
    have hne2 := s2'.1
    obtain ⟨d, td, rfl, hd1, hd2⟩ := ints_mem hI hv
    obtain ⟨d0, d1⟩ := hns d hd2
    have em := map9 rfl e2 rfl e4 rfl rfl e7 rfl rfl hm
    generalize m1 (Str.ofString "told") = u1 at em
    generalize m1 (Str.ofString "many") = u3 at em
    generalize m1 (Str.ofString "rest") = u5 at em
    generalize m1 (Str.ofString "often") = u6 at em
    generalize m1 (Str.ofString "left") = u8 at em
    generalize m1 (Str.ofString "number") = u9 at em
    subst em
    subst hm0
    clear e2 e4 e7 hm hlow
    have i30 : I ∉ [30, 37] := ne_off (Ne.symm (hne (30, o1') (by simp))) (Ne.symm (hne (37, o2') (by simp)))
    have L30 : L + 1 ∉ [30, 37] := ne_off (by omega) (by omega)
    have x30 : 107 ∉ [30, 37] := by decide
    obtain ⟨ok1, ok2, ok3, ok4⟩ := oks d0 d1 hz0 hz1
    obtain ⟨W1, f1⟩ := cat_win (f := told) hd1
    obtain ⟨W2, f2⟩ := cat_win (f := shorter) hd1
    obtain ⟨W3, f3⟩ := cat_win (f := fun n => byrest n z) hd1
    have r1 := told_row (a := d) (by omega) (by omega)
    have r2 := shorter_row (a := d) (by omega) (by omega) (by have h := ok2; simp only [okShort, Bool.and_eq_true, decide_eq_true_eq] at h; exact h.1.1.1.1)
    have r3 := byrest_row (a := d) (by omega) (by omega) hz0 hz1
    have n1 : off told ns (i + 1) = off told ns i + ((wTold d).length : Int) := by rw [← r1]; exact off_step hd1
    have n2 : off shorter ns (i + 1) = off shorter ns i + ((shorter d).cps.toList.length : Int) := off_step hd1
    have n3 : off (fun n => byrest n z) ns (i + 1) = off (fun n => byrest n z) ns i + ((wRest d z).length : Int) := by rw [← r3]; exact off_step hd1
    rw [r1] at f1
    have f3 : (cat (fun n => byrest n z) ns).cps.toList = (cat (fun n => byrest n z) (ns.take i)).cps.toList ++ (wRest d z ++ W3) := by rw [← r3]; exact f3
    clear r1 r3
    have l1 := congrArg List.length f1
    have l2 := congrArg List.length f2
    have l3 := congrArg List.length f3
    rw [List.length_append, ← len_list] at l1 l2 l3
    have k1 := off_list told ns i
    have k2 := off_list shorter ns i
    have k3 := off_list (fun n => byrest n z) ns i
    obtain ⟨a1, a2, a3, a4⟩ := read_told (k := d) f1 ok1
    rw [← k1] at a1 a2 a3 a4
    rw [← n1] at a1
    obtain ⟨b1, b2, b3, b4, b5, b6, b7⟩ := read_short (k := d) f2 r2 ok2 ok3
    rw [← k2] at b1 b2 b3 b4 b5 b6 b7
    rw [← n2] at b4 b5 b6 b7
    obtain ⟨g1, g2, g3, g4, g5, g6⟩ := read_rest (k := d) hz0 f3 ok4
    rw [← k3] at g1 g2 g3 g4 g5 g6
    rw [← n3] at g3 g4 g5 g6
    clear r2 n1 n2 n3 f1 f2 f3 ok1 ok2 ok3 ok4
    refine turn3 (m := fun y => if y = Str.ofString "numbers" then some (.ref nl) else m y) (I := I) (nl := nl) (io := io) (lo := listOf vs.toArray kk) B X T C1 C2 F1 N1 s1' s2' hoc hz0 hz1 i30 n30 L30 x30
      (by omega) (by omega) hlt a2 a3 a4 a1 (by omega) (by omega) hls b1 b2 b3 b4 b5 b6 b7 (by omega) (by omega) hlr g1 g2 g3 g4 (by omega) g6 hE ?hQ
    case hQ =>
      intro h' tk' m' o19 c19 x19 o29 c29 x29 ta' tb' tc' F9 e1 e2 e3 hm9 N9 s19 s29 mvJ
      refine ⟨_, _, m', (L + 1, oc) :: (107, tabObj #[]) :: tbl o19 c19 x19 o29 c29 x29, rfl, F9, N9, ?_, (hJ _ _ _).mpr ⟨_, _, _, _, _, _, _, _, _, e1, e2, e3, ?_, rfl, s19, s29, ?_, ?_⟩⟩
      · have v3 : ∀ q ∈ (L + 1, oc) :: (107, tabObj #[]) :: tbl o1' c1' x1' o2' c2' x2', q.1 ≠ I := fun q hq => hne q (.tail _ hq)
        have vI := mvJ I io (.head _)
        exact List.forall_mem_cons.mpr ⟨v3 (L + 1, oc) (by k_mem), List.forall_mem_cons.mpr ⟨v3 (107, tabObj #[]) (by k_mem), List.forall_mem_cons.mpr ⟨v3 (30, o1') (by k_mem), List.forall_mem_cons.mpr ⟨vI.1 (v3 (c1', x1') (by k_mem)), List.forall_mem_cons.mpr ⟨v3 (37, o2') (by k_mem), List.forall_mem_cons.mpr ⟨vI.2 (v3 (c2', x2') (by k_mem)), List.forall_mem_nil _⟩⟩⟩⟩⟩⟩
      · intro y z1 z2 z3 z4 z5 z6 z7 z8 z9
        rw [hm9 y z1 z2 z3 z4 z5 z6 z7 z8 z9]
        simp only [z2, z4, z7, if_false]
      · exact (mvJ 107 (tabObj #[]) (.tail _ (.tail _ (.tail _ (.head _))))).1 hca1
      · exact (mvJ 107 (tabObj #[]) (.tail _ (.tail _ (.tail _ (.head _))))).2 hca2
  case done =>
    intro h7 tk7 m1 news1 F1 N1 hj
    obtain ⟨ta, tb, tc, o1', c1', x1', o2', c2', x2', e2, e4, e7, hm, rfl, s1', s2', hca1, hca2⟩ := (hJ _ _ _).mp hj
    clear hj hJ J
    have em := map9 rfl e2 rfl e4 rfl rfl e7 rfl rfl hm
    generalize m1 (Str.ofString "told") = u1 at em
    generalize m1 (Str.ofString "many") = u3 at em
    generalize m1 (Str.ofString "rest") = u5 at em
    generalize m1 (Str.ofString "often") = u6 at em
    generalize m1 (Str.ofString "left") = u8 at em
    generalize m1 (Str.ofString "number") = u9 at em
    subst em
    subst hm0
    have hvl := hI.length
    have q1 : off told ns vs.length = ((cat told ns).length : Int) := by rw [off, hvl, List.take_length]
    have q2 : off shorter ns vs.length = ((cat shorter ns).length : Int) := by rw [off, hvl, List.take_length]
    have q3 : off (fun n => byrest n z) ns vs.length = ((cat (fun n => byrest n z) ns).length : Int) := by rw [off, hvl, List.take_length]
    have q4 : (cat told ns).length ≤ 2048 := hlt
    have q5 : (cat shorter ns).length ≤ 2048 := hls
    have q6 : (cat (fun n => byrest n z) ns).length ≤ 2048 := hlr
    with_reducible show wpAny _ _ _ _ _ _
    k_steps
    rename Fr G L _ _ => F8
    rename News G L _ _ => N8
    refine ⟨?_⟩
    exact seg6 B X T C1 C2 C3 F8 (cb_drop N8 fun q hq => .tail _ hq) s1' s2' hoc hz0 hz1 h30 h37 h107 hca1 hca2 hE hQ
end
section
theorem off_D8 : True := by
  w_top off
  trivial
local macro_rules | `(tactic| walk_at "pad D8 42") => `(tactic| skip)
local macro_rules | `(tactic| walk_at "pad D8 43") => `(tactic| skip)
local macro_rules | `(tactic| walk_at "pad D8 44") => `(tactic| skip)
local macro_rules | `(tactic| walk_at "pad D8 45") => `(tactic| skip)
theorem s1_dummy {a : Addr} {o : Obj} {v : Option Value} (h : o.data = Data.cell v) (h1 : @Ne Nat a 30) (h2 : @Ne Nat a 37) : S1 (tabObj #[]) a o :=
  ⟨ne_off h1 h2, fun its n e => Data.noConfusion (h.symm.trans e), .inl rfl⟩
theorem s2_dummy {a : Addr} {o : Obj} {v : Option Value} (h : o.data = Data.cell v) (h1 : @Ne Nat a 30) (h2 : @Ne Nat a 37) : S2 (tabObj #[]) a o :=
  ⟨ne_off h1 h2, fun its n e => Data.noConfusion (h.symm.trans e), .inl rfl⟩
theorem one_plus {a n : Int} (h : 0 < n) : 1 ≤ 1 + a.fmod n ∧ 1 + a.fmod n ≤ n := by
  have h1 := fmod_lo a h
  have h2 := fmod_hi a h
  omega



local macro_rules | `(tactic| walk_at "exec For Name Name cons nil") => `(tactic| (refine stop ?_; walk_say "MINE"))
local macro_rules | `(tactic| walk_at "execs cons") => `(tactic| ((with_reducible show wpAny _ _ (execs (Stmt.For .. :: _) _) _ _ _); refine stop ?_; walk_say "MINE"))
set_option maxHeartbeats 8000000 in
theorem main : PySem.Challenge.rw_ie0010_01.Holds := Mine.hd (by
  k_go0
  (all_goals try k_fold)
  k_steps
  rename_i D1 ws1 h1 F1 N1 hI1 hC1 hL1 l1
  refine ⟨?_⟩
  k_dflt (refine LCg.CompSrc.ledger (by rfl) F1 N1 (by k_mem) (by rw [List.size_toArray, sizeLine_eq, hI1.length, hC1]; exact Nat.le_trans (Nat.min_le_left _ _) (by decide)) ?_)
  intro g9
  refine rest_ints _ (fun k => 1 + (if k < 0 then -k else k).fmod 100) (fun nw => nw = _) (by rw [List.size_toArray, hI1.length]) (led_P hI1) rfl (fun k t I oI C oC D m₂ ys news h tk E' hk hR hC hx' F' N' off ne => ?_) ?_
  · subst hR
    have off0 := off
    (simp only [LCg.Off3, and_true] at off)
    with_reducible show wpAny _ _ _ _ _ _
    k_steps
    refine ⟨?_⟩
    exact LCg.CompEnd.intro F' N' _ (fun p hp => hp) off0 (Or.inr ⟨_, by k_mem, rfl, _, rfl⟩) ⟨rfl, _, rfl⟩
  · intro ys news hR hys
    subst hR
    k_steps
    rename News _ _ _ _ => N8
    rename Fr _ _ _ _ => F8
    refine ⟨?_⟩
    k_dflt (refine' seg2 (ns := (List.take 8 _).map fun k => 1 + (if k < 0 then -k else k).fmod 100) (c1 := _ + 1) (c2 := _ + 1) ?B ?X ?T ?C1 ?C2 F8 (cb_drop N8 ?sub) ?s1 ?s2 ?hoc ?hz0 ?hz1 ?h30 ?h37 ?h107 ?n30 ?hca hys ?hns ?hnl ?hE ?hQ)
    case sub => (try simp only [List.cons_append, List.nil_append]); repeat (first | exact List.forall_mem_nil _ | refine List.forall_mem_cons.mpr ⟨by k_mem, ?_⟩)
    case B => k_asm
    case X => k_asm
    case T => k_asm
    case C1 => assumption
    case C2 => assumption
    case hoc => assumption
    case s1 => exact s1_dummy (by assumption) (by omega) (by omega)
    case s2 => exact s2_dummy (by assumption) (by omega) (by omega)
    case hz0 => exact (one_plus (by decide)).1
    case hz1 => exact (one_plus (by decide)).2
    case h30 => omega
    case h37 => omega
    case h107 => omega
    case n30 => exact ne_off (by k_ne) (by k_ne)
    case hns =>
      intro n hn
      obtain ⟨k, _, rfl⟩ := List.mem_map.1 hn
      exact one_plus (by decide)
    case hnl => rw [List.length_map, hC1]; exact Nat.min_le_left _ _
    case hE => passes_own
    case hca => exact ⟨by k_ne, by k_ne⟩
    case hQ =>
      intro h7 tk7 t1 t2 t3 o1 c1 x1 o2 c2 x2 m7 F7 N7 s1 s2 hca
      k_dflt (refine' seg3 ?B3 ?X3 ?T3 ?C13 ?C23 ?C33 F7 N7 s1 s2 ?hoc3 ?hz03 ?hz13 ?h303 ?h373 ?h1073 ?n303 hca hys ?hns3 ?hnl3 ?hE3 ?hQ3)
      case B3 => k_asm
      case X3 => k_asm
      case T3 => k_asm
      case C13 => assumption
      case C23 => assumption
      case C33 => assumption
      case hoc3 => assumption
      case hz03 => exact (one_plus (by decide)).1
      case hz13 => exact (one_plus (by decide)).2
      case h303 => omega
      case h373 => omega
      case h1073 => omega
      case n303 => exact ne_off (by k_ne) (by k_ne)
      case hns3 =>
        intro n hn
        obtain ⟨k, _, rfl⟩ := List.mem_map.1 hn
        exact one_plus (by decide)
      case hnl3 => rw [List.length_map, hC1]; exact Nat.min_le_left _ _
      case hE3 => passes_own
      case hQ3 =>
        intro h9 tk9 m9 n9 F9 N9 hg
        refine ⟨goodW_bool F9 (by assumption) (raisesW_false ?_) ?_, hg⟩
        · wrow_none_raised
        · first | wrow_post | kc_post)
end
end Mine
theorem PySem.Challenge.cw_ie0010_01_holds : PySem.Challenge.rw_ie0010_01.Holds := by
  exact Mine.main
