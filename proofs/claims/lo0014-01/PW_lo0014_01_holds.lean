import PyProof.Rows.All
import Wide.All
import OpenK.AllK
import Wide.FinOn
import PySem.Challenge.RW_lo0014_01
set_option Elab.async false
set_option linter.all false
namespace Mine
section
open PySem PySem.W PyProof.Rows
set_option maxRecDepth 100000 in
set_option maxHeartbeats 8000000 in
open_top hd for PySem.Challenge.rw_lo0014_01
end
section
open PySem PySem.W PyProof.Rows PySem.Spec PySem.Calls


/-- what a call finds at its end: the ledger's entries that it did not take are as they were -/
structure Rest (h₀ g : Heap) (L : Addr) (L' : Addr) (rest : List (Addr × Obj)) : Prop where
  there : ∀ p ∈ rest, g.get? p.1 = some p.2
  off : ∀ p ∈ rest, p.1 ≠ L ∧ h₀.get? p.1 = none
  lt : ∀ p ∈ rest, p.1 < L'

theorem pick {h₀ h : Heap} {L : Addr} {l l' : List (Addr × Obj)} (N : News h₀ L h l) (hs : ∀ p ∈ l', p ∈ l) : News h₀ L h l' := fun p hp => N p (hs p hp)
theorem Rest.news {h₀ g h : Heap} {L L' L₂ : Addr} {m : Str → Option Value} {rest new : List (Addr × Obj)} (R : Rest h₀ g L L' rest) (F : Fr g L₂ h m) (N : News h₀ L h new) : News h₀ L h (new ++ rest) := fun p hp => by
  rcases List.mem_append.mp hp with hp | hp
  · exact N p hp
  · exact ⟨F.keep _ _ (R.there p hp), R.off p hp⟩

theorem news_head {h₀ h : Heap} {L : Addr} {x : Addr × Obj} {l : List (Addr × Obj)} (N : News h₀ L h (x :: l)) : News h₀ L h [x] := fun p hp => N p (by rw [List.mem_singleton.mp hp]; exact .head _)
def AllNe (d : Nat) : List (Addr × Obj) → Prop
  | [] => True
  | p :: r => @Ne Nat p.1 d ∧ AllNe d r
theorem allNe_of {d : Addr} : ∀ {l : List (Addr × Obj)}, (∀ p ∈ l, p.1 ≠ d) → AllNe d l
  | [], _ => trivial
  | p :: _, h => ⟨h p (.head _), allNe_of fun q hq => h q (.tail _ hq)⟩
theorem allNe_app {d : Addr} : ∀ {l l' : List (Addr × Obj)}, AllNe d l → AllNe d l' → AllNe d (l ++ l')
  | [], _, _, h => h
  | _ :: _, _, h, h' => ⟨h.1, allNe_app h.2 h'⟩
theorem AllNe.get {d x : Addr} {o : Obj} : ∀ {l : List (Addr × Obj)}, AllNe d l → (x, o) ∈ l → x ≠ d
  | _ :: _, h, .head _ => h.1
  | _ :: _, h, .tail _ hm => AllNe.get h.2 hm
theorem Rest.ne {h₀ g h : Heap} {L L' L₂ d : Addr} {o : Obj} {rest new : List (Addr × Obj)} (R : Rest h₀ g L L' rest) (N : News g L₂ h new) (hm : (d, o) ∈ new) : AllNe d rest :=
  allNe_of fun p hp q => by
    have e := R.there p hp
    rw [q, (N _ hm).2.2] at e
    cases e

section
variable {prog : Program} {w : World} {A₀ A : Around} {s : Shared} {base h₀ : Heap} {outer : List Env} {L : Addr} {m : Str → Option Value} {env : Env} {sub rest : List (Addr × Obj)}
  {R : Result → Shared → Prop} {name qual : Str} {params : Arguments} {body : List Stmt} {scope : Scope} {cl : List (Str × Addr)} {dV kV doc pm cdv ct : Value} {an : Option Addr} {fo : Obj} {f : Addr} {args : Args} {binds : List (Str × Value)}

/-- a def, its object at f, is entered with a part of the ledger alone; the rest is the callee's ground -/
theorem call_sub (B : Below A₀ base outer h₀) (F : Fr h₀ L s.heap m) (N : News h₀ L s.heap (sub ++ rest)) (hap : ∀ p ∈ rest, p.1 ∉ sub.map (·.1)) (hlim : h₀.NoLimit) (hA : A.frames = some (env :: outer)) (hf : env.frame = some L) (hke : env.scope.kind = .function)
    (ho : s.heap.get? f = some fo) (hd : fo.data = .func (fnX name qual params body scope cl dV kV doc pm an cdv ct)) (hcd : s.heap.CodeRec cdv qual) (hroom : A.depth < recursionLimit)
    (hbind : BindsTo s (fnX name qual params body scope cl dV kV doc pm an cdv ct) args binds) (hloc : ∀ y ∈ binds, scope.names.lookup y.1 = some .local)
    (h : ∀ g L' h₁, Fr h₀ L g m → Fr g L' h₁ (fun y => binds.reverse.lookup y) → News g L' h₁ sub → Below A base (env :: outer) g → h₀.StaysIn g → (∀ p ∈ sub, p.1 < L') → Rest h₀ g L L' rest →
      wpAny (model prog w) (A.deeper (envX qual scope L' f cdv cl)) (execs body (envX qual scope L' f cdv cl))
        (fun fl s' => LeaveK h₀ L m g R (match fl with | .ret v => v | _ => .none) s')
        (fun e s' => wpAny (model prog w) (A.deeper (envX qual scope L' f cdv cl)) (leaving (envX qual scope L' f cdv cl) e) (fun _ s'' => R (.error e) s'') (fun e' s'' => R (.error e') s'') s')
        { s with heap := h₁, toks := s.toks + binds.length })
    (hcell : ∀ x ∈ scope.names, x.2 ≠ .cell) (hco : scope.isCoroutine = false) (hgen : scope.isGenerator = false) (hk : scope.kind = .function) : codeAny (model prog w) A (.call (.ref f) args) R s := by
  have NS : News h₀ L s.heap sub := fun p hp => N p (List.mem_append_left _ hp)
  have NR : News h₀ L s.heap rest := fun p hp => N p (List.mem_append_right _ hp)
  obtain ⟨FG, BG, st, lv⟩ := groundX (R := R) B F NS hA hf hke
  refine codeAny_call_def (fd := fnX name qual params body scope cl dV kV doc pm an cdv ct) (body := body) (binds := binds) hroom ho hd (hlim.keeps F.keep) hcd rfl hbind hcell hloc (fun h₁ hns hk₁ => ?_) hco hgen hk
  refine wpAny_mono (h _ s.heap.objs.size h₁ FG ⟨hns, fun b o e => hk₁ b o (of_hideAll _ e), Nat.le_of_eq (hideAll_size _ _)⟩
    (fun p hp => ⟨hk₁ _ _ (NS p hp).1, Nat.ne_of_lt (Heap.lt_size (NS p hp).1), hideAll_none _ (List.mem_map_of_mem hp)⟩) BG st (fun p hp => Heap.lt_size (NS p hp).1)
    ⟨fun p hp => hideAll_get _ (NR p hp).1 (hap p hp), fun p hp => (NR p hp).2, fun p hp => Heap.lt_size (NR p hp).1⟩) (fun fl s' hl => lv _ _ hl) fun _ _ y => y

/-- the same for a def with cells of its own -/
theorem call_subC (B : Below A₀ base outer h₀) (F : Fr h₀ L s.heap m) (N : News h₀ L s.heap (sub ++ rest)) (hap : ∀ p ∈ rest, p.1 ∉ sub.map (·.1)) (hlim : h₀.NoLimit) (hA : A.frames = some (env :: outer)) (hf : env.frame = some L) (hke : env.scope.kind = .function)
    (ho : s.heap.get? f = some fo) (hd : fo.data = .func (fnX name qual params body scope [] dV kV doc pm an cdv ct)) (hcd : s.heap.CodeRec cdv qual) (hroom : A.depth < recursionLimit)
    (hbind : BindsTo s (fnX name qual params body scope [] dV kV doc pm an cdv ct) args binds)
    (hkind : (binds.all fun y => scope.names.lookup y.1 == some .local || scope.names.lookup y.1 == some .cell) = true)
    (hnd : ((cellsFrom 0 scope.names []).map (·.1)).Nodup)
    (h : ∀ g L' h₁ tk cells, Fr h₀ L g m → Fr g L' h₁ (bindL (envOfC qual scope L' f cdv).kindOf binds fun _ => none) → News g L' h₁ (cells ++ sub) →
      CellsAre (bindC (envOfC qual scope L' f cdv).kindOf binds fun _ => none) (cellsFrom (L' + 1) scope.names []) cells → Below A base (env :: outer) g → h₀.StaysIn g → (∀ p ∈ sub, p.1 < L') → Rest h₀ g L L' rest →
      wpAny (model prog w) (A.deeper (envOfC qual scope L' f cdv)) (execs body (envOfC qual scope L' f cdv))
        (fun fl s' => LeaveK h₀ L m g R (match fl with | .ret v => v | _ => .none) s')
        (fun e s' => wpAny (model prog w) (A.deeper (envOfC qual scope L' f cdv)) (leaving (envOfC qual scope L' f cdv) e) (fun _ s'' => R (.error e) s'') (fun e' s'' => R (.error e') s'') s')
        { s with heap := h₁, toks := tk })
    (hco : scope.isCoroutine = false) (hgen : scope.isGenerator = false) (hk : scope.kind = .function) : codeAny (model prog w) A (.call (.ref f) args) R s := by
  have NS : News h₀ L s.heap sub := fun p hp => N p (List.mem_append_left _ hp)
  have NR : News h₀ L s.heap rest := fun p hp => N p (List.mem_append_right _ hp)
  obtain ⟨FG, BG, st, lv⟩ := groundX (R := R) B F NS hA hf hke
  refine codeAny_call_function hroom ho hd hco hgen rfl hcd (hbind _ _ _ _ ?_)
  refine wpAny_newFunctionEnv_cells hk (kindsX hkind _) fun env' he s' x => ?_
  subst he
  refine ⟨(hlim.keeps F.keep).keeps x.toInCall.keep, codeAny_func ?_⟩
  obtain ⟨h₁, tk, rfl, _⟩ := x.done
  have hk₁ := x.toInCall.keep
  obtain ⟨cells, NC, Y⟩ := Cl.news (h₀ := s.heap) (Nat.le_refl _) fun n c hm => ⟨x.cell n c (lookup_of_mem_nodup (cellsFrom_names scope.names 0 (s.heap.objs.size + 1) [] [] rfl ▸ hnd) hm), x.above n c hm⟩
  refine wpAny_mono (h _ s.heap.objs.size h₁ tk cells FG ⟨x.toInCall.ns, fun b o e => hk₁ b o (of_hideAll _ e), Nat.le_of_eq (hideAll_size _ _)⟩ (fun p hp => ?_) Y BG st (fun p hp => Heap.lt_size (NS p hp).1)
    ⟨fun p hp => hideAll_get _ (NR p hp).1 (hap p hp), fun p hp => (NR p hp).2, fun p hp => Heap.lt_size (NR p hp).1⟩) (fun fl s' hl => lv _ _ hl) fun _ _ y => y
  rcases List.mem_append.mp hp with hp | hp
  · refine ⟨(NC p hp).1, (NC p hp).2.1, ?_⟩
    cases q : (hideAll s.heap (sub.map (·.1))).get? p.1 with
    | none => rfl
    | some o => have := of_hideAll _ q; rw [(NC p hp).2.2] at this; cases this
  · exact ⟨hk₁ _ _ (NS p hp).1, Nat.ne_of_lt (Heap.lt_size (NS p hp).1), hideAll_none _ (List.mem_map_of_mem hp)⟩
end

section
variable {prog : Program} {w : World} {A A₀ : Around} {s : Shared} {K : Frag} {L : Addr} {h₀ base : Heap} {m mg mb : Str → Option Value} {sub rest : List (Addr × Obj)} {p : Program} {loose : List Str} {mean : ExcName → Option Value}

/-- a def of the text is entered with a part of the ledger alone; the rest is the callee's ground -/
theorem code_sub {env : Env} {outer : List Env} {R : Result → Shared → Prop} {name qual : Str} {params : Arguments} {body : List Stmt} {scope : Scope} {dV kV doc pm cdv ct oc : Value} {an od : Option Addr} {osl : Array (Option Value)} {f : Addr} {args : Args} {binds : List (Str × Value)}
    (B : Below A₀ base outer h₀) (F : Fr h₀ L s.heap m) (X₀ : K.In h₀) (N : News h₀ L s.heap (sub ++ rest)) (hap : ∀ p ∈ rest, p.1 ∉ sub.map (·.1)) (T : Top p loose mean mg mb h₀) (hA : A.frames = some (env :: outer)) (hf : env.frame = some L) (hke : env.scope.kind = .function)
    (ho : K.lookup f = some ⟨oc, od, .func (fnOf name qual params body scope dV kV doc pm an cdv ct), osl⟩) (hcd : codeIn K cdv qual = true) (hroom : A.depth < recursionLimit)
    (hbind : BindsTo s (fnOf name qual params body scope dV kV doc pm an cdv ct) args binds) (hloc : ∀ y ∈ binds, scope.names.lookup y.1 = some .local)
    (h : ∀ g L' h₁, Fr h₀ L g m → Fr g L' h₁ (fun y => binds.reverse.lookup y) → News g L' h₁ sub → Below A base (env :: outer) g → K.In g → Top p loose mean mg mb g → (∀ p ∈ sub, p.1 < L') → Rest h₀ g L L' rest →
      wpAny (model prog w) (A.deeper (envOf qual scope L' f cdv)) (execs body (envOf qual scope L' f cdv))
        (fun fl s' => LeaveK h₀ L m g R (match fl with | .ret v => v | _ => .none) s')
        (fun e s' => wpAny (model prog w) (A.deeper (envOf qual scope L' f cdv)) (leaving (envOf qual scope L' f cdv) e) (fun _ s'' => R (.error e) s'') (fun e' s'' => R (.error e') s'') s')
        { s with heap := h₁, toks := s.toks + binds.length })
    (hco : scope.isCoroutine = false) (hgen : scope.isGenerator = false) (hk : scope.kind = .function)
    (hcell : ∀ x ∈ scope.names, x.2 ≠ .cell) : codeAny (model prog w) A (.call (.ref f) args) R s := by
  have NS : News h₀ L s.heap sub := fun p hp => N p (List.mem_append_left _ hp)
  have NR : News h₀ L s.heap rest := fun p hp => N p (List.mem_append_right _ hp)
  obtain ⟨FG, BG, st, lv⟩ := groundX (R := R) B F NS hA hf hke
  have X := X₀.keeps F.keep
  refine codeAny_call_def (fd := fnOf name qual params body scope dV kV doc pm an cdv ct) (body := body) (binds := binds) hroom (X _ _ ho) rfl (T.nolimit.keeps F.keep) (codeRec_of X hcd) rfl hbind hcell hloc (fun h₁ hns hk₁ => ?_) hco hgen hk
  refine wpAny_mono (h _ s.heap.objs.size h₁ FG ⟨hns, fun b o e => hk₁ b o (of_hideAll _ e), Nat.le_of_eq (hideAll_size _ _)⟩
    (fun p hp => ⟨hk₁ _ _ (NS p hp).1, Nat.ne_of_lt (Heap.lt_size (NS p hp).1), hideAll_none _ (List.mem_map_of_mem hp)⟩) BG (X₀.keeps st) (T.keeps st) (fun p hp => Heap.lt_size (NS p hp).1)
    ⟨fun p hp => hideAll_get _ (NR p hp).1 (hap p hp), fun p hp => (NR p hp).2, fun p hp => Heap.lt_size (NR p hp).1⟩) (fun fl s' hl => lv _ _ hl) fun _ _ y => y

/-- a def of the text with cells -/
theorem code_subC {env : Env} {outer : List Env} {R : Result → Shared → Prop} {name qual : Str} {params : Arguments} {body : List Stmt} {scope : Scope} {dV kV doc pm cdv ct oc : Value} {an od : Option Addr} {osl : Array (Option Value)} {f : Addr} {args : Args} {binds : List (Str × Value)}
    (B : Below A₀ base outer h₀) (F : Fr h₀ L s.heap m) (X₀ : K.In h₀) (N : News h₀ L s.heap (sub ++ rest)) (hap : ∀ p ∈ rest, p.1 ∉ sub.map (·.1)) (T : Top p loose mean mg mb h₀) (hA : A.frames = some (env :: outer)) (hf : env.frame = some L) (hke : env.scope.kind = .function)
    (ho : K.lookup f = some ⟨oc, od, .func (fnOf name qual params body scope dV kV doc pm an cdv ct), osl⟩) (hcd : codeIn K cdv qual = true) (hroom : A.depth < recursionLimit)
    (hbind : BindsTo s (fnOf name qual params body scope dV kV doc pm an cdv ct) args binds) (hkind : (binds.all fun y => scope.names.lookup y.1 == some .local || scope.names.lookup y.1 == some .cell) = true)
    (hnd : ((cellsFrom 0 scope.names []).map (·.1)).Nodup)
    (h : ∀ g L' h₁ tk cells, Fr h₀ L g m → Fr g L' h₁ (bindL (envOfC qual scope L' f cdv).kindOf binds fun _ => none) → News g L' h₁ (cells ++ sub) →
      CellsAre (bindC (envOfC qual scope L' f cdv).kindOf binds fun _ => none) (cellsFrom (L' + 1) scope.names []) cells → Below A base (env :: outer) g → K.In g → Top p loose mean mg mb g → (∀ p ∈ sub, p.1 < L') → Rest h₀ g L L' rest →
      wpAny (model prog w) (A.deeper (envOfC qual scope L' f cdv)) (execs body (envOfC qual scope L' f cdv))
        (fun fl s' => LeaveK h₀ L m g R (match fl with | .ret v => v | _ => .none) s')
        (fun e s' => wpAny (model prog w) (A.deeper (envOfC qual scope L' f cdv)) (leaving (envOfC qual scope L' f cdv) e) (fun _ s'' => R (.error e) s'') (fun e' s'' => R (.error e') s'') s')
        { s with heap := h₁, toks := tk })
    (hco : scope.isCoroutine = false) (hgen : scope.isGenerator = false) (hk : scope.kind = .function) : codeAny (model prog w) A (.call (.ref f) args) R s :=
  call_subC B F N hap T.nolimit hA hf hke ((X₀.keeps F.keep) _ _ ho) rfl (codeRec_of (X₀.keeps F.keep) hcd) hroom hbind hkind hnd (fun g L' h₁ tk cells FG F' N' Y B' st l r => h g L' h₁ tk cells FG F' N' Y B' (X₀.keeps st) (T.keeps st) l r) hco hgen hk
end
theorem room1 {a k j n : Nat} (h : a + k < n) (hj : j + 1 ≤ k) : a + 1 + j < n := by omega
theorem room3 {a k j n : Nat} (h : a + k < n) (hj : j + 3 ≤ k) : a + 3 + j < n := by omega
theorem roomS {a j n : Nat} (h : a + (j + 1 + 1) < n) : a + 1 + (j + 1) < n := by omega
theorem roomT {a j n : Nat} (h : a + 8 * (j + 1 + 1) < n) : a + 3 + 8 * (j + 1) < n := by omega
/-- what is wanted behind a walk as one letter; it raises nothing -/
theorem fold_post {α : Type} {M : Model} {A : Around} {t : Sem α} {Q : α → Shared → Prop} {E : Value → Shared → Prop} {s : Shared} (h : ∀ Q' : α → Shared → Prop, (∀ v s', Q v s' → Q' v s') → wpAny M A t Q' (fun _ _ => False) s) : wpAny M A t Q E s :=
  wpAny_mono (h Q fun _ _ q => q) (fun _ _ q => q) fun _ _ f => f.elim
end
section
open PySem PySem.W PyProof.Rows PySem.Spec PySem.Calls
open Builtin.Int (intBits)
/-- a stop of the walk: what stands here is taken by hand -/
def Stop (P : Prop) : Prop := P
theorem stop {P : Prop} (h : Stop P) : P := h
theorem Stop.mk {P : Prop} (h : P) : Stop P := h
theorem pw (k : Nat) : (0 : Int) < 2 ^ k := kbt_pos k
theorem bits_of_lt {a : Int} {k : Nat} (h0 : 0 ≤ a) (h : a < 2 ^ k) : intBits a ≤ k := intBits_le_iff.mpr (by have := kbt_cast k; omega)
theorem bits_of_abs {a : Int} {k : Nat} (h0 : -(2 ^ k) < a) (h : a < 2 ^ k) : intBits a ≤ k := intBits_le_iff.mpr (by have := kbt_cast k; omega)
theorem lt_of_bits {a : Int} {k : Nat} (h : intBits a ≤ k) : -(2 ^ k) < a ∧ a < 2 ^ k := by have := kbt_cast k; have := intBits_le_iff.mp h; omega
/-- a number below 2 to the k laid into the free low places -/
theorem or_low {x y : Int} {k : Nat} (hx : 0 ≤ x) (hy : 0 ≤ y) (hk : y < 2 ^ k) : Builtin.bitOr (x * 2 ^ k) y = x * 2 ^ k + y := by
  have hp := pw k
  have hc := kbt_cast k
  obtain ⟨X, rfl⟩ := Int.eq_ofNat_of_zero_le hx
  obtain ⟨Y, rfl⟩ := Int.eq_ofNat_of_zero_le hy
  have hY : Y < 2 ^ k := by omega
  have e := Nat.shiftLeft_add_eq_or_of_lt hY X
  have z : Builtin.bitAnd ((X : Int) * 2 ^ k) (Y : Int) = 0 := by
    have h1 : (0 : Int) ≤ (X : Int) * 2 ^ k := Int.mul_nonneg hx (Int.le_of_lt hp)
    rw [bitAnd_pp h1 hy]
    have h2 : ((X : Int) * 2 ^ k).toNat = X <<< k := by
      rw [Nat.shiftLeft_eq, ← hc, ← Int.natCast_mul, Int.toNat_natCast]
    rw [h2, Int.toNat_natCast]
    have h3 : (X <<< k) &&& Y = 0 := by
      apply Nat.eq_of_testBit_eq
      intro i
      rw [Nat.testBit_and, Nat.testBit_shiftLeft, Nat.zero_testBit]
      by_cases hi : k ≤ i
      · rw [Nat.testBit_lt_two_pow (Nat.lt_of_lt_of_le hY (Nat.pow_le_pow_right (by decide) hi)), Bool.and_false]
      · simp [hi]
    rw [h3]; rfl
  rw [bitOr_and, z]; omega
section
variable {prog : Program} {w : World} {A : Around} {E : Value → Shared → Prop} {s : Shared} {a b : Int} {t u : Tok} {Q : Value → Shared → Prop} {n k j : Nat}
theorem addR (h : ∀ v tk, Q (.int (a + b) v) { s with toks := tk }) : wpAny (model prog w) A (binaryOp .Add (.int a t) (.int b u)) Q E s := add_int (h _ _)
theorem add1R (h : ∀ v tk, Q (.int ((n + 1 : Nat) : Int) v) { s with toks := tk }) : wpAny (model prog w) A (binaryOp .Add (.int (n : Int) t) (.int 1 u)) Q E s := add_int (h _ _)
theorem subR (h : ∀ v tk, Q (.int (a - b) v) { s with toks := tk }) : wpAny (model prog w) A (binaryOp .Sub (.int a t) (.int b u)) Q E s := sub_int (h _ _)
theorem iaddR (h : ∀ v tk, Q (.int (a + b) v) { s with toks := tk }) : wpAny (model prog w) A (inplaceOp .Add (.int a t) (.int b u)) Q E s := iadd_int (h _ _)
theorem iadd1R (h : ∀ v tk, Q (.int ((n + 1 : Nat) : Int) v) { s with toks := tk }) : wpAny (model prog w) A (inplaceOp .Add (.int (n : Int) t) (.int 1 u)) Q E s := iadd_int (h _ _)
theorem isubR (h : ∀ v tk, Q (.int (a - b) v) { s with toks := tk }) : wpAny (model prog w) A (inplaceOp .Sub (.int a t) (.int b u)) Q E s := isub_int (h _ _)
theorem negR (h : ∀ v tk, Q (.int (-a) v) { s with toks := tk }) : wpAny (model prog w) A (unaryOp .USub (.int a t)) Q E s := neg_int (h _ _)
theorem notR (h : ∀ v tk, Q (.int (-a - 1) v) { s with toks := tk }) : wpAny (model prog w) A (unaryOp .Invert (.int a t)) Q E s := invert_int (h _ _)
theorem addNR (h : ∀ v tk, Q (.int ((n + k : Nat) : Int) v) { s with toks := tk }) : wpAny (model prog w) A (binaryOp .Add (.int (n : Int) t) (.int (k : Int) u)) Q E s := add_int (h _ _)
theorem subNR (hl : k ≤ n) (h : ∀ v tk, Q (.int ((n - k : Nat) : Int) v) { s with toks := tk }) : wpAny (model prog w) A (binaryOp .Sub (.int (n : Int) t) (.int (k : Int) u)) Q E s :=
  sub_int (by rw [← Int.ofNat_sub hl]; exact h _ _)
theorem sub1R (hl : 1 ≤ n) (h : ∀ v tk, Q (.int ((n - 1 : Nat) : Int) v) { s with toks := tk }) : wpAny (model prog w) A (binaryOp .Sub (.int (n : Int) t) (.int 1 u)) Q E s :=
  sub_int (by have := h s.toks (s.toks + 1); rw [Int.ofNat_sub hl] at this; exact this)
theorem mulNR (h1 : n ≤ 100000000) (h : ∀ v tk, Q (.int ((n * k : Nat) : Int) v) { s with toks := tk }) : wpAny (model prog w) A (binaryOp .Mult (.int (n : Int) t) (.int (k : Int) u)) Q E s :=
  mul_int (by rw [← Int.natCast_mul]; exact h _ _) (IntMulOk.of_left (intBits_le_64 (by omega) (by omega)))
theorem floorNR (hk : 0 < k) (hl : k ≤ 100000000) (h : ∀ v tk, Q (.int ((n / k : Nat) : Int) v) { s with toks := tk }) : wpAny (model prog w) A (binaryOp .FloorDiv (.int (n : Int) t) (.int (k : Int) u)) Q E s :=
  floordiv_int (by omega) (by rw [Int.fdiv_eq_ediv_of_nonneg _ (by omega), ← Int.natCast_ediv]; exact h _ _) (.inl (PyProof.noPylong_small (by omega)))
theorem rsh (h : ∀ v tk, Q (.int (a / 2 ^ n) v) { s with toks := tk }) : wpAny (model prog w) A (binaryOp .RShift (.int a t) (.int (n : Int) u)) Q E s :=
  rshift_int (Int.natCast_nonneg n) (by rw [Int.toNat_natCast, Int.fdiv_eq_ediv_of_nonneg _ (Int.le_of_lt (pw n))]; exact h _ _)
theorem rsh1 (h : ∀ v tk, Q (.int (a / 2) v) { s with toks := tk }) : wpAny (model prog w) A (binaryOp .RShift (.int a t) (.int 1 u)) Q E s :=
  rshift_int (by decide) (by rw [Int.fdiv_eq_ediv_of_nonneg _ (by decide)]; exact h _ _)
theorem rsh1n (h : ∀ v tk, Q (.int ((n / 2 : Nat) : Int) v) { s with toks := tk }) : wpAny (model prog w) A (binaryOp .RShift (.int (n : Int) t) (.int 1 u)) Q E s :=
  rsh1 fun v tk => by have := h v tk; rw [Int.natCast_ediv] at this; exact this
theorem irsh1 (h : ∀ v tk, Q (.int (a / 2) v) { s with toks := tk }) : wpAny (model prog w) A (inplaceOp .RShift (.int a t) (.int 1 u)) Q E s :=
  irshift_int (by decide) (by rw [Int.fdiv_eq_ediv_of_nonneg _ (by decide)]; exact h _ _)
theorem lsh (hk : intBits a ≤ k) (hs : k + n ≤ 134217728) (h : ∀ v tk, Q (.int (a * 2 ^ n) v) { s with toks := tk }) : wpAny (model prog w) A (binaryOp .LShift (.int a t) (.int (n : Int) u)) Q E s :=
  lshift_int (Int.natCast_nonneg n) (by omega) (by rw [Int.toNat_natCast]; exact h _ _)
theorem lshOne (hs : n ≤ 1000000) (h : ∀ v tk, Q (.int (2 ^ n) v) { s with toks := tk }) : wpAny (model prog w) A (binaryOp .LShift (.int 1 t) (.int (n : Int) u)) Q E s :=
  lsh (k := 1) (by decide +kernel) (by omega) fun v tk => by rw [Int.one_mul]; exact h v tk
theorem lsh1 (hk : intBits a ≤ k) (hs : k + 1 ≤ 134217728) (h : ∀ v tk, Q (.int (a * 2) v) { s with toks := tk }) : wpAny (model prog w) A (binaryOp .LShift (.int a t) (.int 1 u)) Q E s :=
  lshift_int (by decide) (by omega) (h _ _)
theorem ilsh1 (hk : intBits a ≤ k) (hs : k + 1 ≤ 134217728) (h : ∀ v tk, Q (.int (a * 2) v) { s with toks := tk }) : wpAny (model prog w) A (inplaceOp .LShift (.int a t) (.int 1 u)) Q E s :=
  ilshift_int (by decide) (by omega) (h _ _)
theorem mulR (ha : intBits a ≤ j) (hb : intBits b ≤ k) (hs : j + k ≤ 134217728) (h : ∀ v tk, Q (.int (a * b) v) { s with toks := tk }) : wpAny (model prog w) A (binaryOp .Mult (.int a t) (.int b u)) Q E s :=
  mul_int (h _ _) (IntMulOk.of_le ha hb hs)
theorem andMask (h : ∀ v tk, Q (.int (a % 2 ^ n) v) { s with toks := tk }) : wpAny (model prog w) A (binaryOp .BitAnd (.int a t) (.int (2 ^ n - 1) u)) Q E s :=
  and_int (by rw [kbt_mask]; exact h _ _)
theorem and1 (h : ∀ v tk, Q (.int ((n % 2 : Nat) : Int) v) { s with toks := tk }) : wpAny (model prog w) A (binaryOp .BitAnd (.int (n : Int) t) (.int 1 u)) Q E s :=
  and_int (by rw [bitAnd_m1]; have := h s.toks (s.toks + 1); rw [Int.natCast_emod] at this; exact this)
theorem orLow (hx : 0 ≤ a) (hy : 0 ≤ b) (hk : b < 2 ^ k) (h : ∀ v tk, Q (.int (a * 2 ^ k + b) v) { s with toks := tk }) : wpAny (model prog w) A (binaryOp .BitOr (.int (a * 2 ^ k) t) (.int b u)) Q E s :=
  or_int (by rw [or_low hx hy hk]; exact h _ _)
theorem bitlenR (h : ∀ v tk, Q (.int ((intBits a : Nat) : Int) v) { s with toks := tk }) : wpAny (model prog w) A (call (.builtin "int.bit_length") [.int a t]) Q E s := call_int_bit_length (h _ _)
theorem noPylong {b : Int} (hb : intBits b ≤ 9000) : Builtin.divisionGoesByPylong a b = false := by
  refine PyProof.noPylong_of_log2 ?_
  unfold intBits at hb
  by_cases h : (b == 0) = true
  · rw [beq_iff_eq.mp h]; decide +kernel
  · rw [if_neg h] at hb; omega
theorem floorR (hb : 0 < b) (hl : intBits b ≤ 9000) (h : ∀ v tk, Q (.int (a / b) v) { s with toks := tk }) : wpAny (model prog w) A (binaryOp .FloorDiv (.int a t) (.int b u)) Q E s :=
  floordiv_int (by omega) (by rw [Int.fdiv_eq_ediv_of_nonneg _ (Int.le_of_lt hb)]; exact h _ _) (.inl (noPylong hl))
theorem modR (hb : 0 < b) (h : ∀ v tk, Q (.int (a % b) v) { s with toks := tk }) : wpAny (model prog w) A (binaryOp .Mod (.int a t) (.int b u)) Q E s :=
  mod_int' (by omega) (by rw [Int.fmod_eq_emod_of_nonneg _ (Int.le_of_lt hb)]; exact h _ _)
theorem divmodR {h₀ : Heap} {L : Addr} {m : Str → Option Value} {news : List (Addr × Obj)} (F : Fr h₀ L s.heap m) (N : News h₀ L s.heap news) (hb : 0 < b) (hl : intBits b ≤ 9000)
    (h : ∀ d v v' h' tk, Fr h₀ L h' m → News h₀ L h' ((d, { cls := .type "tuple", data := .seq #[.int (a / b) v, .int (a % b) v'] }) :: news) → (∀ p ∈ news, p.1 < d) → Q (.ref d) { s with toks := tk, heap := h' }) :
    wpAny (model prog w) A (call (.builtin "divmod") [.int a t, .int b u]) Q E s :=
  divmod_N F N (by omega) (fun h' F' N' => by
    rw [Int.fmod_eq_emod_of_nonneg _ (Int.le_of_lt hb), Int.fdiv_eq_ediv_of_nonneg _ (Int.le_of_lt hb)] at N'
    exact h _ _ _ _ _ F' N' fun p hp => Heap.lt_size (N p hp).1) (.inl (noPylong hl))
end
end
section
open PySem PySem.W PyProof.Rows PySem.Spec PySem.Calls
theorem fold_rep (v : Value) : ∀ (k : Nat) (acc : Array Value), List.foldl (fun x1 x2 => x1 ++ x2) acc (List.replicate k #[v]) = acc ++ (List.replicate k v).toArray
  | 0, acc => by simp
  | k + 1, acc => by
    rw [List.replicate_succ, List.foldl_cons, fold_rep v k, List.replicate_succ]
    apply Array.toList_inj.mp
    simp
theorem intsAre_rep (x : Int) (t : Tok) : ∀ k : Nat, IntsAre (List.replicate k (.int x t)) (List.replicate k x)
  | 0 => .nil
  | k + 1 => .cons x t (intsAre_rep x t k)
section
variable {prog : Program} {w : World} {A : Around} {E : Value → Shared → Prop} {s : Shared} {h₀ : Heap} {L : Addr} {m : Str → Option Value} {news : List (Addr × Obj)}
theorem lenR {l : Addr} {vs : List Value} {ns : List Int} {j : Nat} {Q : Value → Shared → Prop} (N : News h₀ L s.heap news) (hm : (l, listOf vs.toArray j) ∈ news) (hi : IntsAre vs ns) (hf : ns.length < 2 ^ 62)
    (h : ∀ v tk, Q (.int (ns.length : Nat) v) { s with toks := tk }) : wpAny (model prog w) A (call (.builtin "len") [.ref l]) Q E s :=
  len_ints_fit (PySem.IsL.isList (n := j) (N _ hm).1) hi hf (h _ _)
theorem isl {l : Addr} {vs : List Value} {j : Nat} {h : Heap} (N : News h₀ L h news) (hm : (l, listOf vs.toArray j) ∈ news) : h.IsList l vs.toArray := PySem.IsL.isList (n := j) (N _ hm).1
theorem maxZ {x : Int} {t u : Tok} {Q : Value → Shared → Prop} (hh : A.handled = none) (F : Fr h₀ L s.heap m) (N : News h₀ L s.heap news)
    (h : ∀ v h' tk, Fr h₀ L h' m → News h₀ L h' news → Q (.int ((x.toNat : Nat) : Int) v) { s with heap := h', toks := tk }) : wpAny (model prog w) A (call (.builtin "max") [.int 0 t, .int x u]) Q E s :=
  max_two_N hh F N fun h' tk F' N' => by
    have e : (if x > 0 then x else 0) = ((x.toNat : Nat) : Int) := by split <;> omega
    rw [e]
    exact h _ h' tk F' N'
theorem mulZ {l : Addr} {v : Value} {j k : Nat} {u : Tok} {Q : Value → Shared → Prop} (F : Fr h₀ L s.heap m) (N : News h₀ L s.heap news) (hm : (l, listOf #[v] j) ∈ news) (hk : k ≤ 1000000)
    (h : ∀ d h', Fr h₀ L h' m → News h₀ L h' ((d, listOf (List.replicate k v).toArray 0) :: news) → (∀ p ∈ news, p.1 < d) → Q (.ref d) { s with heap := h' }) :
    wpAny (model prog w) A (binaryOp .Mult (.ref l) (.int (k : Int) u)) Q E s := by
  refine mul_list F N (N _ hm).1 (by omega) (by omega) (by simp; omega) fun h' F' N' => h _ h' F' ?_ fun p hp => Heap.lt_size (N p hp).1
  have e : (List.foldl (fun x1 x2 => x1 ++ x2) #[] (List.replicate (if (#[v] : Array Value).isEmpty = true then 0 else ((k : Int)).toNat) #[v])) = (List.replicate k v).toArray := by
    rw [if_neg (by simp), fold_rep, Int.toNat_natCast]; simp
  rw [e] at N'
  exact N'
end
end
section
open PySem PySem.W PyProof.Rows PySem.Spec PySem.Calls
abbrev PR : Program := PySem.Challenge.rw_lo0014_01.row.prog
abbrev pairO (q r : Int) (t u : Tok) : Obj := { cls := .type "tuple", data := .seq #[.int q t, .int r u] 0 }
abbrev arA (dp un : Nat) (gd : Option (List Code)) (env : Env) (outer : List Env) : Around := { handled := none, depth := dp, frames := some (env :: outer), guards := gd, units := un }

/-- where a call stands: the frame at hand, the frames below it, the ledger, the written part -/
structure Cx (w : World) (A₀ : Around) (s : Shared) (L : Addr) (h₀ base : Heap) (m mg mb : Str → Option Value) (rest : List (Addr × Obj)) (p : Program) (loose : List Str) (mean : ExcName → Option Value) (env : Env) (outer : List Env) : Prop where
  B : Below A₀ base outer h₀
  F : Fr h₀ L s.heap m
  X : (hd.heap_39 w.params).In h₀
  N : News h₀ L s.heap rest
  T : Top p loose mean mg mb h₀
  hf : env.frame = some L
  hke : env.scope.kind = .function

/-- f at vs hands back a pair of ints, and changes nothing of what stood -/
def Pairs (w : World) (f : Addr) (vs : List Value) (q r : Int) (dp' : Nat) : Prop :=
  ∀ {dp un : Nat} {gd : Option (List Code)} {A₀ : Around} {s : Shared} {L : Addr} {h₀ base : Heap} {m mg mb : Str → Option Value} {rest : List (Addr × Obj)} {p : Program} {loose : List Str} {mean : ExcName → Option Value} {env : Env} {outer : List Env} {Q E : Value → Shared → Prop},
    Cx w A₀ s L h₀ base m mg mb rest p loose mean env outer → dp + dp' < recursionLimit → un + 8 * dp' < cLine →
    (∀ t u v h' tk', Fr h₀ L h' m → News h₀ L h' ((t, pairO q r u v) :: rest) → AllNe t rest → Q (.ref t) { s with heap := h', toks := tk' }) →
    wpAny (model PR w) (arA dp un gd env outer) (call (.ref f) vs) Q E s

def Ok2 (w : World) (k : Nat) : Prop := ∀ {a b : Int} {n : Nat} {t1 t2 t3 : Tok}, 1 ≤ n → n ≤ 4000 * 2 ^ k → n ≤ 8900 → 2 ^ (n - 1) ≤ b → b < 2 ^ n → 0 ≤ a → a < b * 2 ^ n →
  Pairs w 21 [.int a t1, .int b t2, .int (n : Int) t3] (a / b) (a % b) (2 * k + 1)
def Ok3 (w : World) (k : Nat) : Prop := ∀ {a12 a3 b b1 b2 : Int} {n : Nat} {t1 t2 t3 t4 t5 t6 : Tok}, 1 ≤ n → n ≤ 4000 * 2 ^ k → n ≤ 8900 → 0 ≤ a12 → a12 < b → 0 ≤ a3 → a3 < 2 ^ n → b = b1 * 2 ^ n + b2 → 0 ≤ b2 → b2 < 2 ^ n → 2 ^ (n - 1) ≤ b1 → b1 < 2 ^ n →
  Pairs w 28 [.int a12 t1, .int a3 t2, .int b t3, .int b1 t4, .int b2 t5, .int (n : Int) t6] ((a12 * 2 ^ n + a3) / b) ((a12 * 2 ^ n + a3) % b) (2 * k + 2)
end
section
open PySem PySem.W PyProof.Rows
set_option linter.unusedVariables false
open Builtin.Int (intBits)
theorem pow_split {n : Nat} (h : 1 ≤ n) : (2 : Int) ^ n = 2 * 2 ^ (n - 1) := by
  obtain ⟨k, rfl⟩ : ∃ k, n = k + 1 := ⟨n - 1, by omega⟩
  rw [Nat.add_sub_cancel, Int.pow_succ, Int.mul_comm]
theorem pow_add' (a b : Nat) : (2 : Int) ^ (a + b) = 2 ^ a * 2 ^ b := Int.pow_add 2 a b
/-- the two ways of the first guess -/
structure Guess (a12 a3 b b1 b2 : Int) (n : Nat) (q r : Int) : Prop where
  whole : q * b1 + r = a12
  r0 : 0 ≤ r
  br : intBits r ≤ 17800
  bq : intBits q ≤ 8901
  lt : r * 2 ^ n + a3 - q * b2 < b
  q0 : 0 ≤ q
section
variable {a12 a3 b b1 b2 : Int} {n : Nat}
theorem b_lt (hb : b = b1 * 2 ^ n + b2) (hb2 : b2 < 2 ^ n) (hb1u : b1 < 2 ^ n) : b < 2 ^ (n + n) := by
  have hp := pw n
  have h1 : (b1 + 1) * 2 ^ n ≤ 2 ^ n * 2 ^ n := Int.mul_le_mul_of_nonneg_right (by omega) (Int.le_of_lt hp)
  rw [pow_add', hb]
  rw [Int.add_mul] at h1
  omega
theorem guess1 (hn2 : n ≤ 8900) (ha0 : 0 ≤ a12) (hab : a12 < b) (h30 : 0 ≤ a3) (h3 : a3 < 2 ^ n) (hb : b = b1 * 2 ^ n + b2) (hb20 : 0 ≤ b2) (hb2 : b2 < 2 ^ n) (hb1l : 2 ^ (n - 1) ≤ b1) (hb1u : b1 < 2 ^ n)
    (hc : a12 / 2 ^ n = b1) : Guess a12 a3 b b1 b2 n (2 ^ n - 1) (a12 - b1 * 2 ^ n + b1) := by
  have hp := pw n
  have hp1 := pw (n - 1)
  have hbl := b_lt hb hb2 hb1u
  have h1 : b1 * 2 ^ n ≤ a12 := by rw [← hc]; exact Int.ediv_mul_le _ (by omega)
  have e : (2 ^ n - 1) * b1 = b1 * 2 ^ n - b1 := by rw [Int.sub_mul, Int.mul_comm, Int.one_mul]
  have e2 : (2 ^ n - 1) * b2 = b2 * 2 ^ n - b2 := by rw [Int.sub_mul, Int.mul_comm, Int.one_mul]
  refine ⟨by omega, by omega, ?_, ?_, ?_, by omega⟩
  · refine Nat.le_trans (bits_of_lt (k := n + n) (by omega) ?_) (by omega)
    have : b1 ≤ b1 * 2 ^ n := by
      have := Int.mul_le_mul_of_nonneg_left (show (1 : Int) ≤ 2 ^ n by omega) (show 0 ≤ b1 by omega)
      rw [Int.mul_one] at this; exact this
    omega
  · exact Nat.le_trans (bits_of_lt (k := n) (by omega) (by omega)) (by omega)
  · -- A - (2^n - 1) b < b
    have h5 : (a12 + 1) * 2 ^ n ≤ b * 2 ^ n := Int.mul_le_mul_of_nonneg_right (by omega) (Int.le_of_lt hp)
    rw [Int.add_mul, Int.one_mul] at h5
    have h6 : (a12 - b1 * 2 ^ n + b1) * 2 ^ n = a12 * 2 ^ n - b1 * 2 ^ n * 2 ^ n + b1 * 2 ^ n := by rw [Int.add_mul, Int.sub_mul]
    have h7 : b * 2 ^ n = b1 * 2 ^ n * 2 ^ n + b2 * 2 ^ n := by rw [hb, Int.add_mul]
    rw [h6, e2]
    omega
theorem guess2 (hn1 : 1 ≤ n) (hn2 : n ≤ 8900) (ha0 : 0 ≤ a12) (hab : a12 < b) (h30 : 0 ≤ a3) (h3 : a3 < 2 ^ n) (hb : b = b1 * 2 ^ n + b2) (hb20 : 0 ≤ b2) (hb2 : b2 < 2 ^ n) (hb1l : 2 ^ (n - 1) ≤ b1) (hb1u : b1 < 2 ^ n)
    (hc : ¬ a12 / 2 ^ n = b1) : a12 < b1 * 2 ^ n ∧ Guess a12 a3 b b1 b2 n (a12 / b1) (a12 % b1) := by
  have hp := pw n
  have hp1 := pw (n - 1)
  have hbl := b_lt hb hb2 hb1u
  have h1 : a12 < b1 * 2 ^ n := by
    have h2 : a12 / 2 ^ n < b1 + 1 := Int.ediv_lt_of_lt_mul hp (by rw [Int.add_mul]; omega)
    exact Int.lt_mul_of_ediv_lt hp (by omega)
  have r0 := Int.emod_nonneg a12 (show b1 ≠ 0 by omega)
  have r1 := Int.emod_lt_of_pos a12 (show 0 < b1 by omega)
  have q0 : 0 ≤ a12 / b1 := Int.ediv_nonneg ha0 (by omega)
  have q1 : a12 / b1 < 2 ^ n := Int.ediv_lt_of_lt_mul (by omega) (by rw [Int.mul_comm]; exact h1)
  refine ⟨h1, ⟨?_, r0, ?_, ?_, ?_, q0⟩⟩
  · have := Int.mul_ediv_add_emod a12 b1
    rw [Int.mul_comm] at this; exact this
  · exact Nat.le_trans (bits_of_lt (k := n) r0 (by omega)) (by omega)
  · exact Nat.le_trans (bits_of_lt (k := n) q0 q1) (by omega)
  · have h5 : (a12 % b1 + 1) * 2 ^ n ≤ b1 * 2 ^ n := Int.mul_le_mul_of_nonneg_right (by omega) (Int.le_of_lt hp)
    rw [Int.add_mul] at h5
    have h6 : 0 ≤ a12 / b1 * b2 := Int.mul_nonneg q0 hb20
    omega
theorem Guess.inv {q r : Int} (G : Guess a12 a3 b b1 b2 n q r) (hb : b = b1 * 2 ^ n + b2) : q * b + (r * 2 ^ n + a3 - q * b2) = a12 * 2 ^ n + a3 := by
  have h := congrArg (· * (2 : Int) ^ n) G.whole
  simp only [Int.add_mul] at h
  rw [hb, Int.mul_add, ← Int.mul_assoc]
  omega
end
theorem end_unique {A b q r : Int} (hb : 0 < b) (h : q * b + r = A) (h0 : 0 ≤ r) (h1 : r < b) : q = A / b ∧ r = A % b := by
  have := (Int.ediv_emod_unique hb).mpr ⟨(by rw [Int.mul_comm, Int.add_comm]; exact h : r + b * q = A), h0, h1⟩
  exact ⟨this.1.symm, this.2.symm⟩
end
section
open PySem PySem.W PyProof.Rows
set_option linter.unusedVariables false
open Builtin.Int (intBits)
/-- what the two steps of a division of 2N places by N places find -/
structure Split (a b : Int) (N h : Nat) : Prop where
  hi0 : 0 ≤ a / 2 ^ N
  hib : a / 2 ^ N < b
  mid0 : 0 ≤ a / 2 ^ h % 2 ^ h
  mid1 : a / 2 ^ h % 2 ^ h < 2 ^ h
  bb : b = b / 2 ^ h * 2 ^ h + b % 2 ^ h
  b20 : 0 ≤ b % 2 ^ h
  b21 : b % 2 ^ h < 2 ^ h
  b1l : 2 ^ (h - 1) ≤ b / 2 ^ h
  b1u : b / 2 ^ h < 2 ^ h
  r10 : 0 ≤ (a / 2 ^ N * 2 ^ h + a / 2 ^ h % 2 ^ h) % b
  r1b : (a / 2 ^ N * 2 ^ h + a / 2 ^ h % 2 ^ h) % b < b
  lo0 : 0 ≤ a % 2 ^ h
  lo1 : a % 2 ^ h < 2 ^ h
  q10 : 0 ≤ (a / 2 ^ N * 2 ^ h + a / 2 ^ h % 2 ^ h) / b
  q20 : 0 ≤ ((a / 2 ^ N * 2 ^ h + a / 2 ^ h % 2 ^ h) % b * 2 ^ h + a % 2 ^ h) / b
  q21 : ((a / 2 ^ N * 2 ^ h + a / 2 ^ h % 2 ^ h) % b * 2 ^ h + a % 2 ^ h) / b < 2 ^ h
  bq1 : intBits ((a / 2 ^ N * 2 ^ h + a / 2 ^ h % 2 ^ h) / b) ≤ 17810
  eq : (a / 2 ^ N * 2 ^ h + a / 2 ^ h % 2 ^ h) / b * 2 ^ h + ((a / 2 ^ N * 2 ^ h + a / 2 ^ h % 2 ^ h) % b * 2 ^ h + a % 2 ^ h) / b = a / b
  er : ((a / 2 ^ N * 2 ^ h + a / 2 ^ h % 2 ^ h) % b * 2 ^ h + a % 2 ^ h) % b = a % b
theorem divmod_join (x d : Int) : x / d * d + x % d = x := by have := Int.mul_ediv_add_emod x d; rw [Int.mul_comm] at this; exact this
theorem split_of {a b : Int} {N h : Nat} (hN : N = h + h) (h1 : 1 ≤ h) (hN2 : N ≤ 8902) (bl : 2 ^ (N - 1) ≤ b) (bu : b < 2 ^ N) (a0 : 0 ≤ a) (al : a < b * 2 ^ N) : Split a b N h := by
  have pN := pw N
  have ph := pw h
  have ph1 := pw (h - 1)
  have eN : (2 : Int) ^ N = 2 ^ h * 2 ^ h := by rw [hN, pow_add']
  have eN1 : (2 : Int) ^ (N - 1) = 2 ^ (h - 1) * 2 ^ h := by rw [← pow_add']; congr 1; omega
  have b0 : 0 < b := by have := pw (N - 1); omega
  have eA : a / 2 ^ N * 2 ^ h + a / 2 ^ h % 2 ^ h = a / 2 ^ h := by
    have := divmod_join (a / 2 ^ h) (2 ^ h)
    rw [eN, ← Int.ediv_ediv_of_nonneg (Int.le_of_lt ph)]
    exact this
  have ah0 : 0 ≤ a / 2 ^ h := Int.ediv_nonneg a0 (Int.le_of_lt ph)
  have lo0 := Int.emod_nonneg a (show (2 : Int) ^ h ≠ 0 by omega)
  have lo1 := Int.emod_lt_of_pos a ph
  have r10 := Int.emod_nonneg (a / 2 ^ h) (show b ≠ 0 by omega)
  have r1b := Int.emod_lt_of_pos (a / 2 ^ h) b0
  have key : (a / 2 ^ h / b * 2 ^ h) * b + (a / 2 ^ h % b * 2 ^ h + a % 2 ^ h) = a := by
    have e1 := divmod_join a (2 ^ h)
    have e2 := congrArg (· * (2 : Int) ^ h) (divmod_join (a / 2 ^ h) b)
    simp only [Int.add_mul] at e2
    have e3 : a / 2 ^ h / b * 2 ^ h * b = a / 2 ^ h / b * b * 2 ^ h := by rw [Int.mul_assoc, Int.mul_comm (2 ^ h) b, Int.mul_assoc]
    omega
  have A2lt : a / 2 ^ h % b * 2 ^ h + a % 2 ^ h < b * 2 ^ h := by
    have := Int.mul_le_mul_of_nonneg_right (show a / 2 ^ h % b + 1 ≤ b by omega) (Int.le_of_lt ph)
    rw [Int.add_mul] at this
    omega
  have A20 : 0 ≤ a / 2 ^ h % b * 2 ^ h + a % 2 ^ h := by
    have := Int.mul_nonneg r10 (Int.le_of_lt ph)
    omega
  have fin : a / 2 ^ h / b * 2 ^ h + (a / 2 ^ h % b * 2 ^ h + a % 2 ^ h) / b = a / b ∧ (a / 2 ^ h % b * 2 ^ h + a % 2 ^ h) % b = a % b := by
    refine end_unique b0 ?_ (Int.emod_nonneg _ (by omega)) (Int.emod_lt_of_pos _ b0)
    have := divmod_join (a / 2 ^ h % b * 2 ^ h + a % 2 ^ h) b
    rw [Int.add_mul]
    omega
  have q10 : 0 ≤ a / 2 ^ h / b := Int.ediv_nonneg ah0 (Int.le_of_lt b0)
  have aN : a < 2 ^ (N + N) := by
    have := Int.mul_lt_mul_of_pos_right bu pN
    rw [pow_add']
    omega
  refine ⟨Int.ediv_nonneg a0 (Int.le_of_lt pN), Int.ediv_lt_of_lt_mul pN al, Int.emod_nonneg _ (by omega), Int.emod_lt_of_pos _ ph, (divmod_join b (2 ^ h)).symm, Int.emod_nonneg _ (by omega), Int.emod_lt_of_pos _ ph,
    Int.le_ediv_of_mul_le ph (by omega), Int.ediv_lt_of_lt_mul ph (by omega), ?_, ?_, lo0, lo1, ?_, ?_, ?_, ?_, ?_, ?_⟩ <;> rw [eA]
  · exact r10
  · exact r1b
  · exact q10
  · exact Int.ediv_nonneg A20 (Int.le_of_lt b0)
  · exact Int.ediv_lt_of_lt_mul b0 (by rw [Int.mul_comm (2 ^ h) b]; exact A2lt)
  · refine Nat.le_trans (bits_of_lt (k := N + N) q10 ?_) (by omega)
    have h1 := Int.ediv_le_self b ah0
    have h2 := Int.ediv_le_self (2 ^ h) a0
    omega
  · exact fin.1
  · exact fin.2
theorem twice_div (a b : Int) (hb : 0 < b) : a * 2 / (b * 2) = a / b := by rw [Int.mul_ediv_mul_of_pos_left _ _ (by decide)]
theorem twice_mod (a b : Int) : a * 2 % (b * 2) / 2 = a % b := by rw [Int.mul_comm a 2, Int.mul_comm b 2, Int.mul_emod_mul_of_pos _ _ (by decide)]; omega
end
section
open PySem PySem.W PyProof.Rows
set_option linter.unusedVariables false
open Builtin.Int (intBits)
/-- the k low digits of x to the base 2 ^ n, the lowest first -/
def digs (n : Nat) : Nat → Int → List Int
  | 0, _ => []
  | k + 1, x => x % 2 ^ n :: digs n k (x / 2 ^ n)
/-- the number that a row of digits says -/
def numOf (n : Nat) : List Int → Int
  | [] => 0
  | d :: r => d + 2 ^ n * numOf n r
theorem digs_len (n : Nat) : ∀ k x, (digs n k x).length = k
  | 0, _ => rfl
  | k + 1, x => by rw [digs, List.length_cons, digs_len n k]
theorem ediv_pow_pow (x : Int) (i j : Nat) : x / 2 ^ i / 2 ^ j = x / 2 ^ (i + j) := by rw [Int.ediv_ediv_of_nonneg (Int.le_of_lt (pw i)), pow_add']
theorem emod_ediv_pow {x : Int} {n k : Nat} (h : n ≤ k) : x % 2 ^ k / 2 ^ n = x / 2 ^ n % 2 ^ (k - n) := by
  obtain ⟨j, rfl⟩ : ∃ j, k = n + j := ⟨k - n, by omega⟩
  rw [Nat.add_sub_cancel_left]
  have p := pw n
  have pj := pw j
  have e1 := divmod_join x (2 ^ (n + j))
  have e2 := divmod_join (x / 2 ^ n) (2 ^ j)
  rw [ediv_pow_pow] at e2
  rw [pow_add'] at *
  have m0 := Int.emod_nonneg x (show (2 : Int) ^ n * 2 ^ j ≠ 0 by have := Int.mul_pos p pj; omega)
  have key : x % (2 ^ n * 2 ^ j) = x - x / (2 ^ n * 2 ^ j) * 2 ^ j * 2 ^ n := by rw [Int.mul_assoc, Int.mul_comm (2 ^ j)]; omega
  rw [key, Int.sub_mul_ediv_right _ _ (by omega : (2 : Int) ^ n ≠ 0)]
  omega
theorem emod_emod_pow {x : Int} {n k : Nat} (h : n ≤ k) : x % 2 ^ k % 2 ^ n = x % 2 ^ n := by
  obtain ⟨j, rfl⟩ : ∃ j, k = n + j := ⟨k - n, by omega⟩
  rw [pow_add']
  exact Int.emod_emod_of_dvd x ⟨2 ^ j, rfl⟩
theorem digs_split (n : Nat) : ∀ (i j : Nat) (x : Int), digs n (i + j) x = digs n i (x % 2 ^ (n * i)) ++ digs n j (x / 2 ^ (n * i))
  | 0, j, x => by rw [Nat.zero_add, Nat.mul_zero]; simp [digs]
  | i + 1, j, x => by
    have hle : n ≤ n * (i + 1) := by rw [Nat.mul_succ]; omega
    have e : n * (i + 1) - n = n * i := by rw [Nat.mul_succ]; omega
    rw [show i + 1 + j = (i + j) + 1 by omega, digs, digs_split n i j, digs, List.cons_append, emod_emod_pow hle, emod_ediv_pow hle, e, ediv_pow_pow, show n + n * i = n * (i + 1) by rw [Nat.mul_succ]; omega]
theorem digs_one {n : Nat} {x : Int} (h0 : 0 ≤ x) (h : x < 2 ^ n) : digs n 1 x = [x] := by rw [digs, digs, Int.emod_eq_of_lt h0 h]
/-- a row laid over a list from the place L on -/
def put (ns : List Int) (L : Nat) (ds : List Int) : List Int := ns.take L ++ (ds ++ ns.drop (L + ds.length))
theorem put_len {ns ds : List Int} {L : Nat} (h : L + ds.length ≤ ns.length) : (put ns L ds).length = ns.length := by
  unfold put; rw [List.length_append, List.length_append, List.length_take, List.length_drop]; omega
theorem put_put {ns d1 d2 : List Int} {L : Nat} (h : L + d1.length + d2.length ≤ ns.length) : put (put ns L d1) (L + d1.length) d2 = put ns L (d1 ++ d2) := by
  unfold put
  have h1 : (ns.take L).length = L := by rw [List.length_take]; omega
  have t : (ns.take L ++ (d1 ++ ns.drop (L + d1.length))).take (L + d1.length) = ns.take L ++ d1 := by
    rw [← List.append_assoc, List.take_append_of_le_length (by rw [List.length_append, h1]; omega), List.take_of_length_le (by rw [List.length_append, h1]; omega)]
  have d : (ns.take L ++ (d1 ++ ns.drop (L + d1.length))).drop (L + d1.length + d2.length) = ns.drop (L + (d1 ++ d2).length) := by
    have hl : (ns.take L ++ d1).length = L + d1.length := by rw [List.length_append, h1]
    rw [← List.append_assoc, List.drop_append, List.drop_eq_nil_of_le (by omega), List.nil_append, hl, List.drop_drop, List.length_append]
    congr 1
    omega
  rw [t, d]
  simp
theorem set_put {ns : List Int} {L : Nat} {x : Int} (h : L < ns.length) : ns.set L x = put ns L [x] := by
  unfold put
  rw [List.set_eq_take_append_cons_drop, if_pos h]
  rfl
theorem put_all {ns ds : List Int} (h : ds.length = ns.length) : put ns 0 ds = ds := by
  unfold put
  rw [List.take_zero, List.nil_append, List.drop_eq_nil_of_le (by omega), List.append_nil]
/-- what the two calls within inner leave -/
theorem put_halves {n L M R : Nat} {x : Int} {ns : List Int} (h1 : L ≤ M) (h2 : M ≤ R) (h3 : R ≤ ns.length) :
    put (put ns L (digs n (M - L) (x % 2 ^ ((M - L) * n)))) M (digs n (R - M) (x / 2 ^ ((M - L) * n))) = put ns L (digs n (R - L) x) := by
  have e := digs_split n (M - L) (R - M) x
  rw [show M - L + (R - M) = R - L by omega, Nat.mul_comm n] at e
  rw [e]
  have q := put_put (ns := ns) (L := L) (d1 := digs n (M - L) (x % 2 ^ ((M - L) * n))) (d2 := digs n (R - M) (x / 2 ^ ((M - L) * n))) (by rw [digs_len, digs_len]; omega)
  rw [digs_len, show L + (M - L) = M by omega] at q
  exact q
theorem up_lt {x : Int} {n i j : Nat} (h0 : 0 ≤ x) (h : x < 2 ^ (n * (i + j))) : 0 ≤ x / 2 ^ (i * n) ∧ x / 2 ^ (i * n) < 2 ^ (n * j) := by
  refine ⟨Int.ediv_nonneg h0 (Int.le_of_lt (pw _)), Int.ediv_lt_of_lt_mul (pw _) ?_⟩
  rw [← pow_add', show n * j + i * n = n * (i + j) by rw [Nat.mul_add, Nat.mul_comm i n, Nat.add_comm]]
  exact h
/-- the digits say the number -/
theorem num_digs {n : Nat} : ∀ {k : Nat} {x : Int}, 0 ≤ x → x < 2 ^ (n * k) → numOf n (digs n k x) = x
  | 0, x, h0, h => by
    rw [Nat.mul_zero, Int.pow_zero] at h
    rw [digs, numOf]; omega
  | k + 1, x, h0, h => by
    have e := num_digs (n := n) (k := k) (x := x / 2 ^ n) (Int.ediv_nonneg h0 (Int.le_of_lt (pw n))) (Int.ediv_lt_of_lt_mul (pw n) (by rw [← pow_add', show n * k + n = n * (k + 1) by rw [Nat.mul_succ]]; exact h))
    rw [digs, numOf, e]
    have := divmod_join x (2 ^ n)
    rw [Int.mul_comm (2 ^ n)]; omega
theorem num_app {n : Nat} : ∀ (a b : List Int), numOf n (a ++ b) = numOf n a + 2 ^ (n * a.length) * numOf n b
  | [], b => by simp [numOf]
  | d :: r, b => by
    rw [List.cons_append, numOf, num_app r b, numOf, List.length_cons, Nat.mul_succ, Nat.add_comm (n * r.length) n, pow_add', Int.mul_add, Int.mul_assoc]
    omega
theorem xor_up {x : Int} {k : Nat} (hx : 0 ≤ x) : Builtin.bitXor x (x / 2 ^ k * 2 ^ k) = x % 2 ^ k := by
  have hp := pw k
  have hc := kbt_cast k
  obtain ⟨X, rfl⟩ := Int.eq_ofNat_of_zero_le hx
  have h1 : (0 : Int) ≤ (X : Int) / 2 ^ k * 2 ^ k := Int.mul_nonneg (Int.ediv_nonneg hx (Int.le_of_lt hp)) (Int.le_of_lt hp)
  have e : ((X : Int) / 2 ^ k * 2 ^ k).toNat = X >>> k <<< k := by
    rw [Nat.shiftLeft_eq, Nat.shiftRight_eq_div_pow, ← hc, ← Int.natCast_ediv, ← Int.natCast_mul, Int.toNat_natCast]
  have e2 : X &&& (X >>> k <<< k) = X >>> k <<< k := by
    apply Nat.eq_of_testBit_eq
    intro i
    rw [Nat.testBit_and, Nat.testBit_shiftLeft, Nat.testBit_shiftRight]
    by_cases hi : k ≤ i
    · simp [hi]
    · simp [hi]
  have e3 : Builtin.bitAnd (X : Int) ((X : Int) / 2 ^ k * 2 ^ k) = (X : Int) / 2 ^ k * 2 ^ k := by
    rw [bitAnd_pp hx h1, Int.toNat_natCast, e, e2, ← e, Int.toNat_of_nonneg h1]
  have := divmod_join (X : Int) (2 ^ k)
  rw [bitXor_and, e3]
  omega
section
open PySem.Spec PySem.Calls
variable {prog : Program} {w : World} {A : Around} {E : Value → Shared → Prop} {s : Shared} {a b : Int} {t u : Tok} {Q : Value → Shared → Prop} {n k j : Nat}
theorem xorR (hx : 0 ≤ a) (h : ∀ v tk, Q (.int (a % 2 ^ k) v) { s with toks := tk }) : wpAny (model prog w) A (binaryOp .BitXor (.int a t) (.int (a / 2 ^ k * 2 ^ k) u)) Q E s :=
  xor_int (by rw [xor_up hx]; exact h _ _)
end
theorem mid_facts {Lo Hi P : Nat} (h1 : Lo < Hi) (h2 : Lo + 1 ≠ Hi) (hk : Hi - Lo ≤ P * 2) : Lo < (Lo + Hi) / 2 ∧ (Lo + Hi) / 2 < Hi ∧ (Lo + Hi) / 2 - Lo ≤ P ∧ Hi - (Lo + Hi) / 2 ≤ P := by
  generalize hm : (Lo + Hi) / 2 = m
  exact ⟨by omega, by omega, by omega, by omega⟩
theorem mid_len {Lo Hi N : Nat} (h1 : Lo < Hi) (h : Hi ≤ N) : (Lo + Hi) / 2 - Lo ≤ N ∧ Hi - (Lo + Hi) / 2 ≤ N ∧ (Lo + Hi) / 2 - Lo + (Hi - (Lo + Hi) / 2) = Hi - Lo := by
  generalize hm : (Lo + Hi) / 2 = m
  exact ⟨by omega, by omega, by omega⟩
end
section
open PySem PySem.W PyProof.Rows PySem.Spec PySem.Calls
/-- the def that the i-th statement of the text makes within its body -/
def innerOf (i : Nat) : Option (Arguments × List Stmt × Scope) :=
  match PR.main.body[i]? with
  | some (.FunctionDef _ _ (.FunctionDef _ p b _ _ _ sc _ _ _ :: _) _ _ _ _ _ _ _) => some (p, b, sc)
  | some (.FunctionDef _ _ (_ :: .FunctionDef _ p b _ _ _ sc _ _ _ :: _) _ _ _ _ _ _ _) => some (p, b, sc)
  | _ => none
abbrev ledI (l f c' cI cA cN : Addr) (vs : List Value) (j : Nat) (fo oc oI oA oN : Obj) : List (Addr × Obj) := [(l, listOf vs.toArray j), (f, fo), (c', oc), (cI, oI), (cA, oA), (cN, oN)]
structure InI (l f c' cI cA cN : Addr) (fo oc oI oA oN : Obj) (n : Nat) (nm qual : Str) (params : Arguments) (body : List Stmt) (scope : Scope) (doc pm ct : Value) (cvs : Array Value) (tq tn : Tok) : Prop where
  hfo : fo = fnMade nm qual params body scope [(Str.ofString "n", cN), (Str.ofString "inner", cI), (Str.ofString "a_digits", cA)] doc pm c' ct
  hast : innerOf 4 = some (params, body, scope)
  hoc : oc.data = .fields cvs
  hq : cvs[1]? = some (.str qual tq)
  hI : oI.data = .cell (some (.ref f))
  hA : oA.data = .cell (some (.ref l))
  hN : oN.data = .cell (some (.int (n : Int) tn))
  ne : f ≠ l ∧ c' ≠ l ∧ cI ≠ l ∧ cA ≠ l ∧ cN ≠ l
def OkI (w : World) (k : Nat) : Prop :=
  ∀ {l f c' cI cA cN : Addr} {fo oc oI oA oN : Obj} {n : Nat} {nm qual : Str} {params : Arguments} {body : List Stmt} {scope : Scope} {doc pm ct : Value} {cvs : Array Value} {tq tn : Tok}
    {vs : List Value} {ns : List Int} {j : Nat} {x : Int} {Lo Hi : Nat} {t1 t2 t3 : Tok}
    {dp un : Nat} {gd : Option (List Code)} {A₀ : Around} {s : Shared} {L : Addr} {h₀ base : Heap} {m mg mb : Str → Option Value} {rest : List (Addr × Obj)} {p : Program} {loose : List Str} {mean : ExcName → Option Value} {env : Env} {outer : List Env} {Q E : Value → Shared → Prop},
    InI l f c' cI cA cN fo oc oI oA oN n nm qual params body scope doc pm ct cvs tq tn → IntsAre vs ns → Lo < Hi → Hi ≤ ns.length → n * ns.length ≤ 1000000 → ns.length ≤ 1000000 → Hi - Lo ≤ 2 ^ k → 0 ≤ x → x < 2 ^ (n * (Hi - Lo)) → 1 ≤ n → n ≤ 1000000 →
    Cx w A₀ s L h₀ base m mg mb (ledI l f c' cI cA cN vs j fo oc oI oA oN ++ rest) p loose mean env outer → (∀ p ∈ rest, p.1 ∉ (ledI l f c' cI cA cN vs j fo oc oI oA oN).map (·.1)) → dp + (k + 1) < recursionLimit → un + 8 * (k + 1) < cLine →
    (∀ vs' h' tk', Fr h₀ L h' m → News h₀ L h' (ledI l f c' cI cA cN vs' j fo oc oI oA oN ++ rest) → IntsAre vs' (put ns Lo (digs n (Hi - Lo) x)) → Q .none { s with heap := h', toks := tk' }) →
    wpAny (model PR w) (arA dp un gd env outer) (call (.ref f) [.int x t1, .int (Lo : Int) t2, .int (Hi : Int) t3]) Q E s
abbrev QI : Str := (Str.ofString "_int2digits" ++ ".<locals>.") ++ Str.ofString "inner"
abbrev QD : Str := (Str.ofString "_digits2int" ++ ".<locals>.") ++ Str.ofString "inner"
abbrev t30 (c : Addr) : Obj := tabObj (#[] ++ #[rawInt ((32 : Nat) : Int), rawInt ((4 : Nat) : Int), .ref c])
def CodeIs (oc : Obj) (q : Str) : Prop := ∃ vs t, oc.data = .fields vs ∧ vs[1]? = some (.str q t)
/-- _int2digits where its table is filled -/
def DigF (w : World) : Prop :=
  ∀ {a : Int} {n : Nat} {t1 t2 : Tok} {c : Addr} {oc : Obj}
    {dp un : Nat} {gd : Option (List Code)} {A₀ : Around} {s : Shared} {L : Addr} {h₀ base : Heap} {m mg mb : Str → Option Value} {rest : List (Addr × Obj)} {p : Program} {loose : List Str} {mean : ExcName → Option Value} {env : Env} {outer : List Env} {Q E : Value → Shared → Prop},
    0 ≤ a → 1 ≤ n → n ≤ 10000 → (Builtin.Int.intBits a + n - 1) / n ≤ 1024 → n * ((Builtin.Int.intBits a + n - 1) / n) ≤ 1000000 → CodeIs oc QI → c ≠ 30 →
    Cx w A₀ s L h₀ base m mg mb ((30, t30 c) :: (c, oc) :: rest) p loose mean env outer → AllNe 30 rest → AllNe c rest → dp + 12 < recursionLimit → un + 100 < cLine →
    (∀ d vs h' tk', Fr h₀ L h' m → News h₀ L h' ((d, listOf vs.toArray 0) :: (30, t30 c) :: (c, oc) :: rest) → IntsAre vs (digs n ((Builtin.Int.intBits a + n - 1) / n) a) → AllNe d ((30, t30 c) :: (c, oc) :: rest) → Q (.ref d) { s with heap := h', toks := tk' }) →
    wpAny (model PR w) (arA dp un gd env outer) (call (.ref 35) [.int a t1, .int (n : Int) t2]) Q E s
/-- _int2digits where its table is empty -/
def DigE (w : World) : Prop :=
  ∀ {a : Int} {n : Nat} {t1 t2 : Tok}
    {dp un : Nat} {gd : Option (List Code)} {A₀ : Around} {s : Shared} {L : Addr} {h₀ base : Heap} {m mg mb : Str → Option Value} {rest : List (Addr × Obj)} {p : Program} {loose : List Str} {mean : ExcName → Option Value} {env : Env} {outer : List Env} {Q E : Value → Shared → Prop},
    0 ≤ a → 1 ≤ n → n ≤ 10000 → (Builtin.Int.intBits a + n - 1) / n ≤ 1024 → n * ((Builtin.Int.intBits a + n - 1) / n) ≤ 1000000 →
    Cx w A₀ s L h₀ base m mg mb ((30, tabObj #[]) :: rest) p loose mean env outer → AllNe 30 rest → dp + 12 < recursionLimit → un + 100 < cLine →
    (∀ d vs c oc h' tk', Fr h₀ L h' m → News h₀ L h' ((d, listOf vs.toArray 0) :: (30, t30 c) :: (c, oc) :: rest) → IntsAre vs (digs n ((Builtin.Int.intBits a + n - 1) / n) a) → AllNe d ((30, t30 c) :: (c, oc) :: rest) → CodeIs oc QI → c ≠ 30 → AllNe c rest → Q (.ref d) { s with heap := h', toks := tk' }) →
    wpAny (model PR w) (arA dp un gd env outer) (call (.ref 35) [.int a t1, .int (n : Int) t2]) Q E s
theorem pickT {h₀ h : Heap} {L : Addr} {l : List (Addr × Obj)} {d c : Addr} {o oc : Obj} (N : News h₀ L h l) (h1 : (d, o) ∈ l) (h2 : (30, t30 c) ∈ l) (h3 : (c, oc) ∈ l) : News h₀ L h [(d, o), (30, t30 c), (c, oc)] :=
  pick N (List.forall_mem_cons.mpr ⟨h1, List.forall_mem_cons.mpr ⟨h2, List.forall_mem_cons.mpr ⟨h3, List.forall_mem_nil _⟩⟩⟩)
theorem dig_enough {b n : Nat} (hn : 1 ≤ n) : b ≤ n * ((b + n - 1) / n) := by
  have := Nat.div_add_mod (b + n - 1) n
  have := Nat.mod_lt (b + n - 1) (show 0 < n by omega)
  omega
theorem apart1 {x : Addr × Obj} {rest : List (Addr × Obj)} (h : AllNe x.1 rest) : ∀ p ∈ rest, p.1 ∉ [x].map (·.1) := fun p hp q => by
  simp only [List.map_cons, List.map_nil, List.mem_singleton] at q
  exact h.get hp q
theorem apart2 {x y : Addr × Obj} {rest : List (Addr × Obj)} (h : AllNe x.1 rest) (h' : AllNe y.1 rest) : ∀ p ∈ rest, p.1 ∉ [x, y].map (·.1) := fun p hp q => by
  simp only [List.map_cons, List.map_nil, List.mem_cons, List.not_mem_nil, or_false] at q
  exact q.elim (h.get hp) (h'.get hp)
end
section
open PySem PySem.W PyProof.Rows
set_option linter.unusedVariables false
open Builtin.Int (intBits)
def Dig (n : Nat) (ns : List Int) : Prop := ∀ d ∈ ns, 0 ≤ d ∧ d < 2 ^ n
theorem num_range {n : Nat} : ∀ {ns : List Int}, Dig n ns → 0 ≤ numOf n ns ∧ numOf n ns < 2 ^ (n * ns.length)
  | [], _ => by simp [numOf]
  | d :: r, h => by
    have hd := h d (.head _)
    have hr := num_range (ns := r) fun x hx => h x (.tail _ hx)
    have p := pw n
    have e : (2 : Int) ^ (n * (d :: r).length) = 2 ^ n * 2 ^ (n * r.length) := by rw [List.length_cons, Nat.mul_succ, Nat.add_comm, pow_add']
    rw [numOf, e]
    have h1 := Int.mul_nonneg (Int.le_of_lt p) hr.1
    have h2 := Int.mul_le_mul_of_nonneg_left (show numOf n r + 1 ≤ 2 ^ (n * r.length) by omega) (Int.le_of_lt p)
    rw [Int.mul_add] at h2
    omega
def slice (ns : List Int) (Lo Hi : Nat) : List Int := (ns.drop Lo).take (Hi - Lo)
theorem slice_len {ns : List Int} {Lo Hi : Nat} (h : Hi ≤ ns.length) : (slice ns Lo Hi).length = Hi - Lo := by
  unfold slice; rw [List.length_take, List.length_drop]; omega
theorem slice_dig {n : Nat} {ns : List Int} {Lo Hi : Nat} (h : Dig n ns) : Dig n (slice ns Lo Hi) := fun d hd => h d (List.mem_of_mem_drop (List.mem_of_mem_take hd))
theorem slice_one {ns : List Int} {Lo : Nat} (h : Lo < ns.length) : slice ns Lo (Lo + 1) = [ns.getD Lo 0] := by
  unfold slice
  rw [show Lo + 1 - Lo = 1 by omega, List.drop_eq_getElem_cons h, List.getD_eq_getElem?_getD, List.getElem?_eq_getElem h]
  rfl
theorem slice_join {ns : List Int} {Lo M Hi : Nat} (h1 : Lo ≤ M) (h2 : M ≤ Hi) : slice ns Lo Hi = slice ns Lo M ++ slice ns M Hi := by
  unfold slice
  rw [show Hi - Lo = (M - Lo) + (Hi - M) by omega, List.take_add, List.drop_drop, show Lo + (M - Lo) = M by omega]
theorem slice_all (ns : List Int) : slice ns 0 ns.length = ns := by unfold slice; simp
theorem num_join {n : Nat} {ns : List Int} {Lo M Hi : Nat} (h1 : Lo ≤ M) (h2 : M ≤ Hi) (h3 : Hi ≤ ns.length) :
    numOf n (slice ns M Hi) * 2 ^ ((M - Lo) * n) + numOf n (slice ns Lo M) = numOf n (slice ns Lo Hi) := by
  rw [slice_join h1 h2, num_app, slice_len (by omega), Nat.mul_comm n, Int.mul_comm (2 ^ _)]
  omega
theorem digs_dig (n : Nat) : ∀ k x, Dig n (digs n k x)
  | 0, _ => fun _ h => nomatch h
  | k + 1, x => fun d hd => by
    rcases List.mem_cons.mp hd with rfl | hd
    · exact ⟨Int.emod_nonneg _ (by have := pw n; omega), Int.emod_lt_of_pos _ (pw n)⟩
    · exact digs_dig n k _ d hd
theorem num_one (n : Nat) (d : Int) : numOf n [d] = d := by simp [numOf]
end
section
open PySem PySem.W PyProof.Rows PySem.Spec PySem.Calls
abbrev ledD (l f c' cI cA cN : Addr) (vs : List Value) (j : Nat) (fo oc oI oA oN : Obj) : List (Addr × Obj) := [(l, listOf vs.toArray j), (f, fo), (c', oc), (cI, oI), (cA, oA), (cN, oN)]
structure InD (l f c' cI cA cN : Addr) (fo oc oI oA oN : Obj) (n : Nat) (nm qual : Str) (params : Arguments) (body : List Stmt) (scope : Scope) (doc pm ct : Value) (cvs : Array Value) (tq tn : Tok) (clos : List (Str × Addr)) : Prop where
  hfo : fo = fnMade nm qual params body scope clos doc pm c' ct
  hclos : clos = [(Str.ofString "n", cN), (Str.ofString "inner", cI), (Str.ofString "digits", cA)]
  hast : innerOf 5 = some (params, body, scope)
  hoc : oc.data = .fields cvs
  hq : cvs[1]? = some (.str qual tq)
  hI : oI.data = .cell (some (.ref f))
  hA : oA.data = .cell (some (.ref l))
  hN : oN.data = .cell (some (.int (n : Int) tn))
def OkD (w : World) (k : Nat) : Prop :=
  ∀ {l f c' cI cA cN : Addr} {fo oc oI oA oN : Obj} {n : Nat} {nm qual : Str} {params : Arguments} {body : List Stmt} {scope : Scope} {doc pm ct : Value} {cvs : Array Value} {tq tn : Tok} {clos : List (Str × Addr)}
    {vs : List Value} {ns : List Int} {j : Nat} {Lo Hi : Nat} {t1 t2 : Tok}
    {dp un : Nat} {gd : Option (List Code)} {A₀ : Around} {s : Shared} {L : Addr} {h₀ base : Heap} {m mg mb : Str → Option Value} {rest : List (Addr × Obj)} {p : Program} {loose : List Str} {mean : ExcName → Option Value} {env : Env} {outer : List Env} {Q E : Value → Shared → Prop},
    InD l f c' cI cA cN fo oc oI oA oN n nm qual params body scope doc pm ct cvs tq tn clos → IntsAre vs ns → Dig n ns → Lo < Hi → Hi ≤ ns.length → n * ns.length ≤ 1000000 → ns.length ≤ 1000000 → Hi - Lo ≤ 2 ^ k → 1 ≤ n → n ≤ 1000000 →
    Cx w A₀ s L h₀ base m mg mb (ledD l f c' cI cA cN vs j fo oc oI oA oN ++ rest) p loose mean env outer → (∀ p ∈ rest, p.1 ∉ (ledD l f c' cI cA cN vs j fo oc oI oA oN).map (·.1)) → dp + (k + 1) < recursionLimit → un + 8 * (k + 1) < cLine →
    (∀ v h' tk', Fr h₀ L h' m → News h₀ L h' (ledD l f c' cI cA cN vs j fo oc oI oA oN ++ rest) → Q (.int (numOf n (slice ns Lo Hi)) v) { s with heap := h', toks := tk' }) →
    wpAny (model PR w) (arA dp un gd env outer) (call (.ref f) [.int (Lo : Int) t1, .int (Hi : Int) t2]) Q E s
abbrev t37 (c : Addr) : Obj := tabObj (#[] ++ #[rawInt ((47 : Nat) : Int), rawInt ((4 : Nat) : Int), .ref c])
/-- _digits2int where its table is filled -/
def DecF (w : World) : Prop :=
  ∀ {vs : List Value} {ns : List Int} {j n : Nat} {l : Addr} {t2 : Tok} {c : Addr} {oc : Obj}
    {dp un : Nat} {gd : Option (List Code)} {A₀ : Around} {s : Shared} {L : Addr} {h₀ base : Heap} {m mg mb : Str → Option Value} {rest : List (Addr × Obj)} {p : Program} {loose : List Str} {mean : ExcName → Option Value} {env : Env} {outer : List Env} {Q E : Value → Shared → Prop},
    IntsAre vs ns → Dig n ns → ns.length ≤ 1024 → n * ns.length ≤ 1000000 → 1 ≤ n → n ≤ 10000 → CodeIs oc QD → c ≠ 37 → l ≠ 37 → l ≠ c →
    Cx w A₀ s L h₀ base m mg mb ((l, listOf vs.toArray j) :: (37, t37 c) :: (c, oc) :: rest) p loose mean env outer → AllNe l rest → AllNe 37 rest → AllNe c rest → dp + 12 < recursionLimit → un + 100 < cLine →
    (∀ v h' tk', Fr h₀ L h' m → News h₀ L h' ((l, listOf vs.toArray j) :: (37, t37 c) :: (c, oc) :: rest) → Q (.int (numOf n ns) v) { s with heap := h', toks := tk' }) →
    wpAny (model PR w) (arA dp un gd env outer) (call (.ref 42) [.ref l, .int (n : Int) t2]) Q E s
/-- _digits2int where its table is empty -/
def DecE (w : World) : Prop :=
  ∀ {vs : List Value} {ns : List Int} {j n : Nat} {l : Addr} {t2 : Tok}
    {dp un : Nat} {gd : Option (List Code)} {A₀ : Around} {s : Shared} {L : Addr} {h₀ base : Heap} {m mg mb : Str → Option Value} {rest : List (Addr × Obj)} {p : Program} {loose : List Str} {mean : ExcName → Option Value} {env : Env} {outer : List Env} {Q E : Value → Shared → Prop},
    IntsAre vs ns → Dig n ns → ns.length ≤ 1024 → n * ns.length ≤ 1000000 → 1 ≤ n → n ≤ 10000 → l ≠ 37 →
    Cx w A₀ s L h₀ base m mg mb ((l, listOf vs.toArray j) :: (37, tabObj #[]) :: rest) p loose mean env outer → AllNe l rest → AllNe 37 rest → dp + 12 < recursionLimit → un + 100 < cLine →
    (∀ v c oc h' tk', Fr h₀ L h' m → News h₀ L h' ((l, listOf vs.toArray j) :: (37, t37 c) :: (c, oc) :: rest) → CodeIs oc QD → AllNe c ((l, listOf vs.toArray j) :: (37, t37 c) :: rest) → Q (.int (numOf n ns) v) { s with heap := h', toks := tk' }) →
    wpAny (model PR w) (arA dp un gd env outer) (call (.ref 42) [.ref l, .int (n : Int) t2]) Q E s
theorem apart3 {x y z : Addr × Obj} {rest : List (Addr × Obj)} (h : AllNe x.1 rest) (h' : AllNe y.1 rest) (h'' : AllNe z.1 rest) : ∀ p ∈ rest, p.1 ∉ [x, y, z].map (·.1) := fun p hp q => by
  simp only [List.map_cons, List.map_nil, List.mem_cons, List.not_mem_nil, or_false] at q
  rcases q with q | q | q
  · exact h.get hp q
  · exact h'.get hp q
  · exact h''.get hp q
theorem pickU {h₀ h : Heap} {L : Addr} {l : List (Addr × Obj)} {d c : Addr} {o oc : Obj} (N : News h₀ L h l) (h1 : (d, o) ∈ l) (h2 : (37, t37 c) ∈ l) (h3 : (c, oc) ∈ l) : News h₀ L h [(d, o), (37, t37 c), (c, oc)] :=
  pick N (List.forall_mem_cons.mpr ⟨h1, List.forall_mem_cons.mpr ⟨h2, List.forall_mem_cons.mpr ⟨h3, List.forall_mem_nil _⟩⟩⟩)
end
section
open PySem PySem.W PyProof.Rows
set_option linter.unusedVariables false
open Builtin.Int (intBits)
/-- a positive number's places -/
theorem bits_pos {b : Int} (hb : 0 < b) : 1 ≤ intBits b ∧ 2 ^ (intBits b - 1) ≤ b ∧ b < 2 ^ intBits b := by
  have h1 : 1 ≤ intBits b := by
    apply Nat.pos_of_ne_zero
    intro q
    have := lt_of_bits (Nat.le_of_eq q)
    rw [Int.pow_zero] at this
    omega
  refine ⟨h1, ?_, (lt_of_bits (Nat.le_refl _)).2⟩
  by_cases h : 2 ^ (intBits b - 1) ≤ b
  · exact h
  · have := bits_of_lt (k := intBits b - 1) (Int.le_of_lt hb) (by omega)
    omega
/-- one more digit comes down -/
theorem down {A b r d : Int} {n : Nat} (hb : 0 < b) (h : A % b = r) :
    (A * 2 ^ n + d) / b = A / b * 2 ^ n + (r * 2 ^ n + d) / b ∧ (A * 2 ^ n + d) % b = (r * 2 ^ n + d) % b := by
  have e := divmod_join A b
  rw [h] at e
  have e2 := congrArg (· * (2 : Int) ^ n) e
  simp only [Int.add_mul] at e2
  have e3 := divmod_join (r * 2 ^ n + d) b
  have := end_unique (A := A * 2 ^ n + d) (q := A / b * 2 ^ n + (r * 2 ^ n + d) / b) hb (by rw [Int.add_mul, Int.mul_assoc, Int.mul_comm (2 ^ n) b, ← Int.mul_assoc]; omega) (Int.emod_nonneg (r * 2 ^ n + d) (by omega)) (Int.emod_lt_of_pos _ hb)
  exact ⟨this.1.symm, this.2.symm⟩
/-- the row of quotient digits so far (the highest first) and the rest say A divided by b -/
structure Paper (n : Nat) (b A r : Int) (qs : List Int) : Prop where
  num : numOf n qs.reverse = A / b
  rest : A % b = r
  dig : Dig n qs
theorem Paper.start {n : Nat} {b : Int} : Paper n b 0 0 [] := ⟨by simp [numOf], by simp, fun _ h => nomatch h⟩
theorem Paper.r_range {n : Nat} {b A r : Int} {qs : List Int} (P : Paper n b A r qs) (hb : 0 < b) : 0 ≤ r ∧ r < b := by
  rw [← P.rest]; exact ⟨Int.emod_nonneg _ (by omega), Int.emod_lt_of_pos _ hb⟩
theorem step_range {b r d : Int} {n : Nat} (hb : 0 < b) (hr : 0 ≤ r ∧ r < b) (hd : 0 ≤ d ∧ d < 2 ^ n) : 0 ≤ r * 2 ^ n + d ∧ r * 2 ^ n + d < b * 2 ^ n := by
  have p := pw n
  have h1 := Int.mul_nonneg hr.1 (Int.le_of_lt p)
  have h2 := Int.mul_le_mul_of_nonneg_right (show r + 1 ≤ b by omega) (Int.le_of_lt p)
  rw [Int.add_mul] at h2
  omega
theorem Paper.turn {n : Nat} {b A r d : Int} {qs : List Int} (P : Paper n b A r qs) (hb : 0 < b) (hd : 0 ≤ d ∧ d < 2 ^ n) :
    Paper n b (A * 2 ^ n + d) ((r * 2 ^ n + d) % b) (qs ++ [(r * 2 ^ n + d) / b]) := by
  have hs := step_range hb (P.r_range hb) hd
  obtain ⟨e1, e2⟩ := down (n := n) (d := d) hb P.rest
  refine ⟨?_, e2, fun x hx => ?_⟩
  · rw [List.reverse_append, List.reverse_singleton, List.singleton_append, numOf, P.num, e1, Int.mul_comm (2 ^ n)]
    omega
  · rcases List.mem_append.mp hx with hx | hx
    · exact P.dig x hx
    · rw [List.mem_singleton.mp hx]
      exact ⟨Int.ediv_nonneg hs.1 (Int.le_of_lt hb), Int.ediv_lt_of_lt_mul hb (by rw [Int.mul_comm (2 ^ n) b]; exact hs.2)⟩
theorem come_down {n : Nat} {A d : Int} {rs : List Int} {a : Int} (h : A * 2 ^ (n * (d :: rs).length) + numOf n (d :: rs).reverse = a) :
    (A * 2 ^ n + d) * 2 ^ (n * rs.length) + numOf n rs.reverse = a := by
  rw [List.reverse_cons, num_app, num_one, List.length_reverse, List.length_cons, Nat.mul_succ, Nat.add_comm (n * rs.length) n, pow_add', ← Int.mul_assoc] at h
  rw [Int.add_mul, Int.mul_comm d]
  omega
end
section
open PySem PySem.W PyProof.Rows PySem.Spec PySem.Calls
abbrev tabsF (c : Addr) (oc : Obj) (e : Addr) (oe : Obj) : List (Addr × Obj) := [(30, t30 c), (c, oc), (37, t37 e), (e, oe)]
abbrev tabsE : List (Addr × Obj) := [(30, tabObj #[]), (37, tabObj #[])]
/-- the two tables are filled, apart from one another and from the rest -/
structure TabF (c : Addr) (oc : Obj) (e : Addr) (oe : Obj) (rest : List (Addr × Obj)) : Prop where
  ci : CodeIs oc QI
  cd : CodeIs oe QD
  c30 : c ≠ 30
  c37 : c ≠ 37
  e30 : e ≠ 30
  e37 : e ≠ 37
  ce : c ≠ e
  n30 : AllNe 30 rest
  n37 : AllNe 37 rest
  nc : AllNe c rest
  ne : AllNe e rest
abbrev nOf (b : Int) : Nat := Builtin.Int.intBits b
/-- _divmod_pos where the tables are filled -/
def PosF (w : World) : Prop :=
  ∀ {a b : Int} {t1 t2 : Tok} {c e : Addr} {oc oe : Obj}
    {dp un : Nat} {gd : Option (List Code)} {A₀ : Around} {s : Shared} {L : Addr} {h₀ base : Heap} {m mg mb : Str → Option Value} {rest : List (Addr × Obj)} {p : Program} {loose : List Str} {mean : ExcName → Option Value} {env : Env} {outer : List Env} {Q E : Value → Shared → Prop},
    0 ≤ a → 0 < b → nOf b ≤ 8900 → (nOf a + nOf b - 1) / nOf b ≤ 1024 → nOf b * ((nOf a + nOf b - 1) / nOf b) ≤ 1000000 → TabF c oc e oe rest →
    Cx w A₀ s L h₀ base m mg mb (tabsF c oc e oe ++ rest) p loose mean env outer → dp + 20 < recursionLimit → un + 200 < cLine →
    (∀ t u v h' tk', Fr h₀ L h' m → News h₀ L h' ((t, pairO (a / b) (a % b) u v) :: (tabsF c oc e oe ++ rest)) → AllNe t (tabsF c oc e oe ++ rest) → Q (.ref t) { s with heap := h', toks := tk' }) →
    wpAny (model PR w) (arA dp un gd env outer) (call (.ref 49) [.int a t1, .int b t2]) Q E s
/-- _divmod_pos where the tables are empty -/
def PosE (w : World) : Prop :=
  ∀ {a b : Int} {t1 t2 : Tok}
    {dp un : Nat} {gd : Option (List Code)} {A₀ : Around} {s : Shared} {L : Addr} {h₀ base : Heap} {m mg mb : Str → Option Value} {rest : List (Addr × Obj)} {p : Program} {loose : List Str} {mean : ExcName → Option Value} {env : Env} {outer : List Env} {Q E : Value → Shared → Prop},
    0 ≤ a → 0 < b → nOf b ≤ 8900 → (nOf a + nOf b - 1) / nOf b ≤ 1024 → nOf b * ((nOf a + nOf b - 1) / nOf b) ≤ 1000000 → AllNe 30 rest → AllNe 37 rest →
    Cx w A₀ s L h₀ base m mg mb (tabsE ++ rest) p loose mean env outer → dp + 20 < recursionLimit → un + 200 < cLine →
    (∀ t u v c oc e oe h' tk', Fr h₀ L h' m → News h₀ L h' ((t, pairO (a / b) (a % b) u v) :: (tabsF c oc e oe ++ rest)) → AllNe t (tabsF c oc e oe ++ rest) → TabF c oc e oe rest → Q (.ref t) { s with heap := h', toks := tk' }) →
    wpAny (model PR w) (arA dp un gd env outer) (call (.ref 49) [.int a t1, .int b t2]) Q E s
theorem apart4 {x y z u : Addr × Obj} {rest : List (Addr × Obj)} (h : AllNe x.1 rest) (h' : AllNe y.1 rest) (h'' : AllNe z.1 rest) (h3 : AllNe u.1 rest) : ∀ p ∈ rest, p.1 ∉ [x, y, z, u].map (·.1) := fun p hp q => by
  simp only [List.map_cons, List.map_nil, List.mem_cons, List.not_mem_nil, or_false] at q
  rcases q with q | q | q | q
  · exact h.get hp q
  · exact h'.get hp q
  · exact h''.get hp q
  · exact h3.get hp q
theorem TabF.apart {c e : Addr} {oc oe : Obj} {rest : List (Addr × Obj)} (T : TabF c oc e oe rest) : ∀ p ∈ rest, p.1 ∉ (tabsF c oc e oe).map (·.1) := apart4 T.n30 T.nc T.n37 T.ne
end
section
open PySem PySem.W PyProof.Rows PySem.Spec PySem.Calls
/-- a frame's map, some of its names written out -/
def kn : List (Str × Value) → (Str → Option Value) → Str → Option Value
  | [], m => m
  | (k, v) :: r, m => fun y => if y = k then some v else kn r m y
theorem kn_eq {m : Str → Option Value} : ∀ {l : List (Str × Value)}, (∀ p ∈ l, m p.1 = some p.2) → kn l m = m
  | [], _ => rfl
  | (k, v) :: r, h => by
    funext y
    show (if y = k then some v else kn r m y) = m y
    rw [kn_eq fun p hp => h p (.tail _ hp)]
    by_cases q : y = k
    · rw [if_pos q, q]; exact (h (k, v) (.head _)).symm
    · rw [if_neg q]
theorem IntsAre.rev {vs : List Value} {ns : List Int} (h : IntsAre vs ns) : IntsAre vs.reverse ns.reverse := by
  have app : ∀ {a : List Value} {b : List Int}, IntsAre a b → ∀ n t, IntsAre (a ++ [.int n t]) (b ++ [n]) := by
    intro a b h n t
    induction h with
    | nil => exact .cons n t .nil
    | cons m u _ ih => exact .cons m u ih
  induction h with
  | nil => exact .nil
  | cons n t _ ih => rw [List.reverse_cons, List.reverse_cons]; exact app ih n t
theorem IntsAre.snoc {vs : List Value} {ns : List Int} {n : Int} {t : Tok} (h : IntsAre vs ns) : IntsAre (vs ++ [.int n t]) (ns ++ [n]) := by
  induction h with
  | nil => exact .cons n t .nil
  | cons m u _ ih => exact .cons m u ih
section
variable {prog : Program} {w : World} {A : Around} {E : Value → Shared → Prop} {s : Shared} {env : Env} {h₀ : Heap} {x : Str} {body : List Stmt} {Q : Flow → Shared → Prop}
theorem rev_inv {I : Addr} {lp : Addr × Obj} (J : List Int → (Str → Option Value) → List (Addr × Obj) → Prop)
    (turn : ∀ d t rs m news it h tk, J (d :: rs) m news → it.cls = .type "list_reverseiterator" → Fr h₀ env.locals h (fun y => if y = x then some (.int d t) else m y) → News h₀ env.locals h ((I, it) :: news) →
      wpAny (model prog w) A (execs body env) (UnrPost h₀ env.locals { s with heap := h, toks := tk } I it (fun m' n' => lp ∈ n' ∧ J rs m' n') Q) E { s with heap := h, toks := tk })
    (done : ∀ m news h tk, J [] m news → Fr h₀ env.locals h m → News h₀ env.locals h news → Q .next { s with heap := h, toks := tk }) :
    ∀ {r : List Value} {rs : List Int}, IntsAre r rs → ∀ {m news}, J rs m news → RevRest prog w A E h₀ env x body Q s I lp r m news := by
  intro r rs hi
  induction hi with
  | nil => exact fun {m news} hJ => RevRest.zero fun h tk F N => done m news h tk hJ F N
  | cons n t _ ih =>
    intro m news hJ
    refine RevRest.succ fun it h tk hc F N => wpAny_mono (turn n t _ m news it h tk hJ hc F N) (fun f s₂ p => ?_) fun _ _ e => e
    have fin : ∀ {s₂}, UnrEnd h₀ env.locals { s with heap := h, toks := tk } I it (fun m' n' => lp ∈ n' ∧ J _ m' n') s₂ → UnrEnd h₀ env.locals { s with heap := h, toks := tk } I it (fun m' n' => lp ∈ n' ∧ RevRest prog w A E h₀ env x body Q s I lp _ m' n') s₂ :=
      fun ⟨h', tk', m', news', e, F', N', off, hl, hj⟩ => ⟨h', tk', m', news', e, F', N', off, hl, ih hj⟩
    cases f with
    | ret v => exact p
    | brk => exact p
    | next => exact fin p
    | cont => exact fin p

/-- a loop over range(c - 1, -1, -1) by what holds between its turns -/
theorem down_inv {r : Addr} {c : Nat} {t₀ u₀ v₀ : Tok} {m₀ : Str → Option Value} {news : List (Addr × Obj)} (J : Nat → (Str → Option Value) → List (Addr × Obj) → Prop)
    (hh : A.handled = none) (hr : IsRange s.heap r ((c : Int) - 1) (-1) (-1) t₀ u₀ v₀) (hc : c ≤ 1000000) (F : Fr h₀ env.locals s.heap m₀) (N : News h₀ env.locals s.heap news) (hj : J 0 m₀ news)
    (turn : ∀ i t m₁ news₁ h tk own, i < c → OwnOff own (news.map (·.1)) → J i m₁ news₁ → Fr h₀ env.locals h (fun y => if y = x then some (.int ((c - 1 - i : Nat) : Int) t) else m₁ y) → News h₀ env.locals h (news₁ ++ own) →
      wpAny (model prog w) A (execs body env) (InvPostN h₀ env.locals (J (i + 1)) own (news.map (·.1)) { s with heap := h, toks := tk } Q) E { s with heap := h, toks := tk })
    (done : ∀ m₁ news₁ h tk, J c m₁ news₁ → Fr h₀ env.locals h m₁ → News h₀ env.locals h news₁ → Q .next { s with heap := h, toks := tk }) :
    wpAny (model prog w) A (pyIter (.ref r)) (fun it s₂ => LoopAtV prog w A h₀ env x body Q E it s₂) E s := by
  have hn : Builtin.Range.rangeSize ((c : Int) - 1) (-1) (-1) = (c : Int) := by rw [rangeSize_downNat]; omega
  refine wpAny_pyIter_range hr (small_down (by omega) (by omega) (by decide) (by decide)) ?_
  have W : Walks prog w A s.heap.objs.size [s.heap.objs.size] [s.heap.objs.size] c (fun i v => i < c ∧ ∃ t, v = .int ((c : Int) - 1 + i * (-1)) t)
      (fun i h => IsRangeIter h s.heap.objs.size ((c : Int) - 1 + (i : Nat) * (-1)) ((c : Int) - (i : Nat)) (-1)) := (Walks.range hh _ ((c : Int) - 1) (-1) c).bound
  refine loop_invN J W ?_ ?_ ?_ ?_ (by show IsRangeIter _ _ _ _ _; rw [hn]; simpa using Heap.get?_push_size _ rfl) (F.push _) (fun p hp => ⟨Heap.get?_push_of_some _ (N p hp).1, (N p hp).2⟩) hj ?_ done
  · intro hm
    exact absurd F.ns.lt ((List.mem_singleton.mp hm) ▸ Nat.lt_irrefl _)
  · intro b hb
    rw [List.mem_singleton.mp hb]
    exact next_is_new F
  · intro p hp hI
    exact absurd (Heap.lt_size (N p hp).1) ((List.mem_singleton.mp hI) ▸ Nat.lt_irrefl _)
  · intro p hp hI
    exact absurd (Heap.lt_size (N p hp).1) ((List.mem_singleton.mp hI) ▸ Nat.lt_irrefl _)
  · rintro i v m₁ nx h tk own hi ⟨_, t, rfl⟩ _ hoff hJ F₁ N₁
    have e1 : (c : Int) - 1 + (i : Int) * (-1) = ((c - 1 - i : Nat) : Int) := by omega
    rw [e1] at F₁
    exact turn i t m₁ nx h tk own hi hoff hJ F₁ N₁
end
end
section
open PySem PySem.W PyProof.Rows PySem.Spec PySem.Calls
open Builtin.Int (intBits)
/-- the widths that the divisions below keep -/
structure Fit (a b : Int) : Prop where
  bn : nOf b ≤ 8900
  k1 : (nOf a + nOf b - 1) / nOf b ≤ 1024
  k2 : nOf b * ((nOf a + nOf b - 1) / nOf b) ≤ 1000000
theorem Fit.mono {a a' b : Int} (h : Fit a b) (hl : a'.natAbs ≤ a.natAbs) : Fit a' b := by
  have e : nOf a' ≤ nOf a := intBits_le_of_natAbs hl (Nat.le_refl _)
  have e2 : (nOf a' + nOf b - 1) / nOf b ≤ (nOf a + nOf b - 1) / nOf b := Nat.div_le_div_right (by omega)
  exact ⟨h.bn, Nat.le_trans e2 h.k1, Nat.le_trans (Nat.mul_le_mul_left _ e2) h.k2⟩
/-- int_divmod at a, b hands back the pair q, r (the tables filled) -/
def DvAt (w : World) (a b q r : Int) (dx : Nat) : Prop :=
  ∀ {t1 t2 : Tok} {c e : Addr} {oc oe : Obj}
    {dp un : Nat} {gd : Option (List Code)} {A₀ : Around} {s : Shared} {L : Addr} {h₀ base : Heap} {m mg mb : Str → Option Value} {rest : List (Addr × Obj)} {p : Program} {loose : List Str} {mean : ExcName → Option Value} {env : Env} {outer : List Env} {Q E : Value → Shared → Prop},
    TabF c oc e oe rest → Cx w A₀ s L h₀ base m mg mb (tabsF c oc e oe ++ rest) p loose mean env outer → dp + dx < recursionLimit → un + 10 * dx < cLine →
    (∀ t u v h' tk', Fr h₀ L h' m → News h₀ L h' ((t, pairO q r u v) :: (tabsF c oc e oe ++ rest)) → AllNe t (tabsF c oc e oe ++ rest) → Q (.ref t) { s with heap := h', toks := tk' }) →
    wpAny (model PR w) (arA dp un gd env outer) (call (.ref 56) [.int a t1, .int b t2]) Q E s
end
section
open PySem PySem.W PyProof.Rows
set_option linter.unusedVariables false
open Builtin.Int (intBits)
theorem paper_start {n : Nat} {b A : Int} (h0 : 0 ≤ A) (h : A < b) : Paper n b A A [] :=
  ⟨by rw [Int.ediv_eq_zero_of_lt h0 h]; rfl, Int.emod_eq_of_lt h0 h, fun _ h => nomatch h⟩
/-- as many leading bits as stay below the divisor -/
theorem lead_lt {a b : Int} {W come : Nat} (ha : 0 ≤ a) (hb : 0 < b) (hW : (0 : Int) < W) (hc : (((intBits a : Int) - (intBits b : Int)) / (W : Int) + 1).toNat = come) : 0 ≤ a / 2 ^ (come * W) ∧ a / 2 ^ (come * W) < b := by
  refine ⟨Int.ediv_nonneg ha (Int.le_of_lt (pw _)), Int.ediv_lt_of_lt_mul (pw _) ?_⟩
  obtain ⟨h1, h2, h3⟩ := bits_pos hb
  have hal := (lt_of_bits (Nat.le_refl (intBits a))).2
  have key : intBits a ≤ intBits b - 1 + come * W := by
    have e := Int.lt_ediv_add_one_mul_self ((intBits a : Int) - (intBits b : Int)) hW
    have h4 : ((((intBits a : Int) - (intBits b : Int)) / (W : Int) + 1)) * (W : Int) ≤ (come : Int) * (W : Int) := Int.mul_le_mul_of_nonneg_right (by omega) (Int.le_of_lt hW)
    have h5 : ((come * W : Nat) : Int) = (come : Int) * (W : Int) := Int.natCast_mul _ _
    omega
  have h6 : (2 : Int) ^ intBits a ≤ 2 ^ (intBits b - 1 + come * W) := by
    have := Nat.pow_le_pow_right (show 0 < 2 by decide) key
    have c1 := kbt_cast (intBits a)
    have c2 := kbt_cast (intBits b - 1 + come * W)
    omega
  rw [pow_add'] at h6
  have h7 := Int.mul_le_mul_of_nonneg_right h2 (Int.le_of_lt (pw (come * W)))
  omega
theorem low_le {b : Int} {W low : Nat} (hb : 0 < b) (hl : ((intBits b : Int) - (W : Int) - 2).toNat = low) : 0 < b / 2 ^ low := by
  obtain ⟨h1, h2, h3⟩ := bits_pos hb
  have h4 : (2 : Int) ^ low ≤ 2 ^ (intBits b - 1) := by
    have := Nat.pow_le_pow_right (show 0 < 2 by decide) (show low ≤ intBits b - 1 by omega)
    have c1 := kbt_cast low
    have c2 := kbt_cast (intBits b - 1)
    omega
  exact Int.le_ediv_of_mul_le (pw low) (by omega)
/-- the guess by the leading places is not too small -/
theorem guess_ge {R b : Int} {low : Nat} (hR : 0 ≤ R) (hb : 0 < b) (hl : 0 < b / 2 ^ low) : R / b ≤ R / 2 ^ low / (b / 2 ^ low) := by
  refine Int.le_ediv_of_mul_le hl (Int.le_ediv_of_mul_le (pw low) ?_)
  have h1 := Int.ediv_mul_le b (show (2 : Int) ^ low ≠ 0 by have := pw low; omega)
  have h2 := Int.mul_le_mul_of_nonneg_left h1 (Int.ediv_nonneg hR (Int.le_of_lt hb))
  have h3 := Int.ediv_mul_le R (show b ≠ 0 by omega)
  rw [Int.mul_assoc]
  omega
theorem too_big {R b d : Int} (hb : 0 < b) (h : d * b > R) : R / b < d := Int.ediv_lt_of_lt_mul hb h
theorem fits {R b d : Int} (hb : 0 < b) (h : ¬ d * b > R) (h2 : R / b ≤ d) : d = R / b := by
  have := Int.le_ediv_of_mul_le hb (show d * b ≤ R by omega)
  omega
theorem next_lead {a : Int} {W c i : Nat} (h : i < c) : a / 2 ^ ((c - (i + 1)) * W) = a / 2 ^ ((c - i) * W) * 2 ^ W + a / 2 ^ ((c - 1 - i) * W) % 2 ^ W := by
  have e : (c - i) * W = (c - (i + 1)) * W + W := by
    rw [show c - i = (c - (i + 1)) + 1 by omega, Nat.add_mul, Nat.one_mul]
  rw [e, ← ediv_pow_pow, show c - 1 - i = c - (i + 1) by omega]
  exact (divmod_join _ _).symm
def dropz (l : List Int) : List Int := l.dropWhile (· == 0)
theorem dropz_snoc (l : List Int) (d : Int) : dropz (l ++ [d]) = if dropz l = [] ∧ d = 0 then [] else dropz l ++ [d] := by
  unfold dropz
  rw [List.dropWhile_append]
  by_cases h : (l.dropWhile (· == 0)) = []
  · rw [h]
    by_cases hd : d = 0
    · simp [hd]
    · simp [hd]
  · simp [h]
theorem dropz_cases : ∀ (l : List Int), (dropz l = [] ∧ ∀ d ∈ l, d = 0) ∨ (∃ d r, dropz l = d :: r ∧ d ≠ 0 ∧ ∃ z, l = z ++ (d :: r) ∧ ∀ x ∈ z, x = 0)
  | [] => .inl ⟨rfl, fun _ h => nomatch h⟩
  | x :: l => by
    by_cases hx : x = 0
    · have e : dropz (x :: l) = dropz l := by unfold dropz; rw [List.dropWhile_cons]; simp [hx]
      rcases dropz_cases l with ⟨h1, h2⟩ | ⟨d, r, h1, h2, z, h3, h4⟩
      · exact .inl ⟨e.trans h1, fun d hd => (List.mem_cons.mp hd).elim (fun q => q.trans hx) (h2 d)⟩
      · exact .inr ⟨d, r, e.trans h1, h2, x :: z, by rw [h3]; rfl, fun y hy => (List.mem_cons.mp hy).elim (fun q => q.trans hx) (h4 y)⟩
    · exact .inr ⟨x, l, by unfold dropz; rw [List.dropWhile_cons]; simp [hx], hx, [], rfl, fun _ h => nomatch h⟩
theorem dropz_len (l : List Int) : (dropz l).length ≤ l.length := (List.dropWhile_sublist _).length_le
theorem num_zero {n : Nat} : ∀ {l : List Int}, (∀ d ∈ l, d = 0) → numOf n l = 0
  | [], _ => rfl
  | d :: r, h => by rw [numOf, num_zero fun x hx => h x (.tail _ hx), h d (.head _)]; simp
theorem digs_num {n : Nat} : ∀ {l : List Int}, Dig n l → digs n l.length (numOf n l) = l
  | [], _ => rfl
  | d :: r, h => by
    have hd := h d (.head _)
    have p := pw n
    have e1 : numOf n (d :: r) % 2 ^ n = d := by
      rw [numOf, Int.add_mul_emod_self_left]; exact Int.emod_eq_of_lt hd.1 hd.2
    have e2 : numOf n (d :: r) / 2 ^ n = numOf n r := by
      rw [numOf, Int.add_mul_ediv_left _ _ (by omega), Int.ediv_eq_zero_of_lt hd.1 hd.2, Int.zero_add]
    rw [List.length_cons, digs, e1, e2, digs_num fun x hx => h x (.tail _ hx)]
theorem ceil_eq {n k x : Nat} (hn : 0 < n) (h1 : n * k < x) (h2 : x ≤ n * (k + 1)) : (x + n - 1) / n = k + 1 := by
  have e : n * (k + 1) = n * k + n := Nat.mul_succ n k
  have hm : (k + 1) * n = n * k + n := by rw [Nat.mul_comm]; exact e
  have hm2 : (k + 1 + 1) * n = n * k + n + n := by rw [Nat.add_mul, Nat.one_mul, hm]
  exact Nat.div_eq_of_lt_le (by omega) (by omega)
theorem bits_gt {x : Int} {k : Nat} (h : 2 ^ k ≤ x) : k < intBits x := by
  by_cases q : k < intBits x
  · exact q
  · have := (lt_of_bits (show intBits x ≤ k by omega)).2
    omega
/-- the row without the noughts on top is the number's row -/
theorem row_is {n : Nat} {qs : List Int} (hn : 1 ≤ n) (hd : Dig n qs) : (dropz qs).reverse = digs n ((intBits (numOf n qs.reverse) + n - 1) / n) (numOf n qs.reverse) := by
  rcases dropz_cases qs with ⟨h1, h2⟩ | ⟨d, r, h1, h2, z, h3, h4⟩
  · have e : numOf n qs.reverse = 0 := num_zero fun x hx => h2 x (List.mem_reverse.mp hx)
    rw [e, h1]
    have : (intBits 0 + n - 1) / n = 0 := by
      have e0 : intBits 0 = 0 := rfl
      rw [e0]; exact Nat.div_eq_of_lt (by omega)
    rw [this]; rfl
  · have hdr : Dig n (d :: r) := fun x hx => hd x (by rw [h3]; exact List.mem_append_right _ hx)
    have hrev : Dig n (d :: r).reverse := fun x hx => hdr x (List.mem_reverse.mp hx)
    have e : numOf n qs.reverse = numOf n (d :: r).reverse := by
      rw [h3, List.reverse_append, num_app, num_zero (l := z.reverse) fun x hx => h4 x (List.mem_reverse.mp hx)]
      simp
    rw [h1, e]
    have hlen : (intBits (numOf n (d :: r).reverse) + n - 1) / n = (d :: r).reverse.length := by
      rw [List.length_reverse, List.length_cons]
      refine ceil_eq (by omega) ?_ ?_
      · apply bits_gt
        rw [List.reverse_cons, num_app, num_one, List.length_reverse]
        have h5 := (num_range (ns := r.reverse) fun x hx => hdr x (.tail _ (List.mem_reverse.mp hx))).1
        have h6 := hdr d (.head _)
        have h7 := Int.mul_le_mul_of_nonneg_left (show 1 ≤ d by omega) (Int.le_of_lt (pw (n * r.length)))
        rw [Int.mul_one] at h7
        omega
      · have h5 := num_range hrev
        rw [List.length_reverse, List.length_cons] at h5
        exact bits_of_lt h5.1 h5.2
    rw [hlen, digs_num hrev]
end
section
open PySem PySem.W PyProof.Rows PySem.Spec PySem.Calls
abbrev tripO (l : Addr) (q r : Int) (t u : Tok) : Obj := { cls := .type "tuple", data := .seq #[.ref l, .int q t, .int r u] 0 }
/-- the row as it is written down: the digits of q, no nought on top -/
abbrev rowOf (W : Nat) (q : Int) : List Int := digs W ((nOf q + W - 1) / W) q
/-- _law_on_paper at a, b, W -/
def Paps (w : World) : Prop :=
  ∀ {a b : Int} {W : Nat} {t1 t2 t3 : Tok}
    {dp un : Nat} {gd : Option (List Code)} {A₀ : Around} {s : Shared} {L : Addr} {h₀ base : Heap} {m mg mb : Str → Option Value} {rest : List (Addr × Obj)} {p : Program} {loose : List Str} {mean : ExcName → Option Value} {env : Env} {outer : List Env} {Q E : Value → Shared → Prop},
    0 ≤ a → 0 < b → 4 ≤ W → W ≤ 62 → nOf a ≤ 20000 → nOf b ≤ 8900 →
    Cx w A₀ s L h₀ base m mg mb rest p loose mean env outer → dp + 5 < recursionLimit → un + 100 < cLine →
    (∀ t l vs j u v h' tk', Fr h₀ L h' m → News h₀ L h' ((t, tripO l (a / b) (a % b) u v) :: (l, listOf vs.toArray j) :: rest) → IntsAre vs (rowOf W (a / b)) → AllNe t ((l, listOf vs.toArray j) :: rest) → AllNe l rest → Q (.ref t) { s with heap := h', toks := tk' }) →
    wpAny (model PR w) (arA dp un gd env outer) (call (.ref 63) [.int a t1, .int b t2, .int (W : Int) t3]) Q E s
end
section
open PySem PySem.W PyProof.Rows
set_option linter.unusedVariables false
open Builtin.Int (intBits)
theorem scale_div (a b : Int) (k : Nat) (hb : 0 < b) : a * 2 ^ k / (b * 2 ^ k) = a / b := by rw [Int.mul_ediv_mul_of_pos_left _ _ (pw k)]
theorem scale_mod (a b : Int) (k : Nat) : a * 2 ^ k % (b * 2 ^ k) = a % b * 2 ^ k := by rw [Int.mul_comm a, Int.mul_comm b, Int.mul_emod_mul_of_pos _ _ (pw k), Int.mul_comm]
theorem twice_mod' (a b : Int) : a * 2 % (b * 2) = a % b * 2 := by have := scale_mod a b 1; rw [Int.pow_succ, Int.pow_zero, Int.one_mul] at this; exact this
theorem neg_div0 {a b : Int} (hb : 0 < b) (h : a % b = 0) : -a / b = -(a / b) ∧ -a % b = 0 := by
  have e := divmod_join a b
  have := end_unique (A := -a) (q := -(a / b)) (r := 0) hb (by rw [Int.neg_mul]; omega) (Int.le_refl _) hb
  exact ⟨this.1.symm, this.2.symm⟩
theorem neg_div1 {a b : Int} (hb : 0 < b) (h : ¬ a % b = 0) : -a / b = -(a / b) - 1 ∧ -a % b = b - a % b := by
  have e := divmod_join a b
  have h0 := Int.emod_nonneg a (show b ≠ 0 by omega)
  have h1 := Int.emod_lt_of_pos a hb
  have := end_unique (A := -a) (q := -(a / b) - 1) (r := b - a % b) hb (by rw [Int.sub_mul, Int.neg_mul]; omega) (by omega) (by omega)
  exact ⟨this.1.symm, this.2.symm⟩
/-- what _div3n2n asks of a number below the divisor moved up by half its width -/
structure Three (a b : Int) (h : Nat) : Prop where
  hi0 : 0 ≤ a / 2 ^ h
  hib : a / 2 ^ h < b
  lo0 : 0 ≤ a % 2 ^ h
  lo1 : a % 2 ^ h < 2 ^ h
  bb : b = b / 2 ^ h * 2 ^ h + b % 2 ^ h
  b20 : 0 ≤ b % 2 ^ h
  b21 : b % 2 ^ h < 2 ^ h
  b1l : 2 ^ (h - 1) ≤ b / 2 ^ h
  b1u : b / 2 ^ h < 2 ^ h
  whole : a / 2 ^ h * 2 ^ h + a % 2 ^ h = a
theorem three_of {a b : Int} {N h : Nat} (hN : N = h + h) (h1 : 1 ≤ h) (bl : 2 ^ (N - 1) ≤ b) (bu : b < 2 ^ N) (a0 : 0 ≤ a) (al : a < b * 2 ^ h) : Three a b h := by
  have ph := pw h
  have eN : (2 : Int) ^ N = 2 ^ h * 2 ^ h := by rw [hN, pow_add']
  have eN1 : (2 : Int) ^ (N - 1) = 2 ^ (h - 1) * 2 ^ h := by rw [← pow_add']; congr 1; omega
  exact ⟨Int.ediv_nonneg a0 (Int.le_of_lt ph), Int.ediv_lt_of_lt_mul ph al, Int.emod_nonneg _ (by omega), Int.emod_lt_of_pos _ ph, (divmod_join _ _).symm, Int.emod_nonneg _ (by omega), Int.emod_lt_of_pos _ ph, Int.le_ediv_of_mul_le ph (by omega), Int.ediv_lt_of_lt_mul ph (by omega), divmod_join _ _⟩
/-- moved up by the odd place -/
theorem three_pad {a b : Int} {n : Nat} (hn : 1 ≤ n) (bl : 2 ^ (n - 1) ≤ b) (bu : b < 2 ^ n) (a0 : 0 ≤ a) (al : a < b * 2 ^ ((n + n % 2) / 2)) : Three (a * 2 ^ (n % 2)) (b * 2 ^ (n % 2)) ((n + n % 2) / 2) := by
  have pp := pw (n % 2)
  refine three_of (N := n + n % 2) (by omega) (by omega) ?_ ?_ (Int.mul_nonneg a0 (Int.le_of_lt pp)) ?_
  · rw [show n + n % 2 - 1 = (n - 1) + n % 2 by omega, pow_add']
    exact Int.mul_le_mul_of_nonneg_right bl (Int.le_of_lt pp)
  · rw [pow_add']
    exact Int.mul_lt_mul_of_pos_right bu pp
  · have := Int.mul_lt_mul_of_pos_right al pp
    rw [Int.mul_assoc b, Int.mul_comm (2 ^ (n % 2)), ← Int.mul_assoc]
    exact this
end
section
open PySem PySem.W PyProof.Rows PySem.Spec PySem.Calls
/-- _divmod_pos from the tables' state sub0 on -/
def PosX (w : World) (sub0 : List (Addr × Obj)) : Prop :=
  ∀ {a b : Int} {t1 t2 : Tok}
    {dp un : Nat} {gd : Option (List Code)} {A₀ : Around} {s : Shared} {L : Addr} {h₀ base : Heap} {m mg mb : Str → Option Value} {rest : List (Addr × Obj)} {p : Program} {loose : List Str} {mean : ExcName → Option Value} {env : Env} {outer : List Env} {Q E : Value → Shared → Prop},
    0 ≤ a → 0 < b → Fit a b → (∀ p ∈ rest, AllNe p.1 sub0) →
    Cx w A₀ s L h₀ base m mg mb (sub0 ++ rest) p loose mean env outer → dp + 20 < recursionLimit → un + 200 < cLine →
    (∀ t u v c oc e oe h' tk', Fr h₀ L h' m → News h₀ L h' ((t, pairO (a / b) (a % b) u v) :: (tabsF c oc e oe ++ rest)) → AllNe t (tabsF c oc e oe ++ rest) → TabF c oc e oe rest → Q (.ref t) { s with heap := h', toks := tk' }) →
    wpAny (model PR w) (arA dp un gd env outer) (call (.ref 49) [.int a t1, .int b t2]) Q E s
/-- _law_right from the tables' state sub0 on -/
def RightX (w : World) (sub0 : List (Addr × Obj)) : Prop :=
  ∀ {a b : Int} {W : Nat} {t1 t2 t3 : Tok}
    {dp un : Nat} {gd : Option (List Code)} {A₀ : Around} {s : Shared} {L : Addr} {h₀ base : Heap} {m mg mb : Str → Option Value} {rest : List (Addr × Obj)} {p : Program} {loose : List Str} {mean : ExcName → Option Value} {env : Env} {outer : List Env} {Q E : Value → Shared → Prop},
    0 ≤ a → 0 < b → 4 ≤ W → W ≤ 62 → nOf a ≤ 20000 → nOf a ≤ 1000 * W → nOf b ≤ 8890 → Fit a b → (∀ p ∈ rest, p.1 ∉ sub0.map (·.1)) →
    Cx w A₀ s L h₀ base m mg mb (sub0 ++ rest) p loose mean env outer → dp + 50 < recursionLimit → un + 500 < cLine →
    (∀ c oc e oe h' tk', Fr h₀ L h' m → News h₀ L h' (tabsF c oc e oe ++ rest) → TabF c oc e oe rest → Q (.bool true) { s with heap := h', toks := tk' }) →
    wpAny (model PR w) (arA dp un gd env outer) (call (.ref 68) [.int a t1, .int b t2, .int (W : Int) t3]) Q E s
theorem allNe_mem {rest : List (Addr × Obj)} {x : Addr} {l : List (Addr × Obj)} {o : Obj} (h : ∀ p ∈ rest, AllNe p.1 l) (hm : (x, o) ∈ l) : AllNe x rest := allNe_of fun p hp q => (h p hp).get hm q.symm
theorem news_rot {h₀ h : Heap} {L : Addr} {x : Addr × Obj} {l r : List (Addr × Obj)} (N : News h₀ L h (x :: (l ++ r))) : News h₀ L h (l ++ (x :: r)) := fun p hp => N p (by
  rcases List.mem_append.mp hp with hp | hp
  · exact .tail _ (List.mem_append_left _ hp)
  · rcases List.mem_cons.mp hp with rfl | hp
    · exact .head _
    · exact .tail _ (List.mem_append_right _ hp))
theorem TabF.cons {c e x : Addr} {oc oe o : Obj} {rest r : List (Addr × Obj)} (T : TabF c oc e oe rest) (h : AllNe x (tabsF c oc e oe ++ r)) : TabF c oc e oe ((x, o) :: rest) :=
  ⟨T.ci, T.cd, T.c30, T.c37, T.e30, T.e37, T.ce, ⟨fun q => h.1 q.symm, T.n30⟩, ⟨fun q => h.2.2.1 q.symm, T.n37⟩, ⟨fun q => h.2.1 q.symm, T.nc⟩, ⟨fun q => h.2.2.2.1 q.symm, T.ne⟩⟩
theorem posX_E {w : World} (H : PosE w) : PosX w tabsE := by
  intro a b t1 t2 dp un gd A₀ s L h₀ base m mg mb rest p loose mean env outer Q E ha hb hF hr C hd hu hret
  exact H ha hb hF.bn hF.k1 hF.k2 (allNe_mem hr (.head _)) (allNe_mem hr (.tail _ (.head _))) C hd hu hret
theorem posX_F {w : World} {c e : Addr} {oc oe : Obj} (H : PosF w) (T : TabF c oc e oe []) : PosX w (tabsF c oc e oe) := by
  intro a b t1 t2 dp un gd A₀ s L h₀ base m mg mb rest p loose mean env outer Q E ha hb hF hr C hd hu hret
  have T' : TabF c oc e oe rest := ⟨T.ci, T.cd, T.c30, T.c37, T.e30, T.e37, T.ce, allNe_mem hr (.head _), allNe_mem hr (.tail _ (.tail _ (.head _))), allNe_mem hr (.tail _ (.head _)), allNe_mem hr (.tail _ (.tail _ (.tail _ (.head _))))⟩
  exact H ha hb hF.bn hF.k1 hF.k2 T' C hd hu fun t u v h' tk' F N l => hret t u v c oc e oe h' tk' F N l T'
end
section
open PySem PySem.W PyProof.Rows PySem.Spec PySem.Calls
/-- [elt for xp in it0 for xx in xp if T] -/
abbrev e2 (elt it0 T : PySem.Expr) (xp xx : Str) (pp px pi : Pos) (scope : Scope) (pos : Pos) : PySem.Expr := .ListComp elt [⟨.Name xp pp, it0, [], 0⟩, ⟨.Name xx px, .Name xp pi, [T], 0⟩] scope pos
section
variable {elt it0 T : PySem.Expr} {xp xx : Str} {pp px pi : Pos} {scope : Scope} {pos : Pos}
theorem turn2_in (it acc : Value) (env : Env) : compTurn (e2 elt it0 T xp xx pp px pi scope pos) 1 it acc env = (do
      standAt (PySem.Expr.Name xp pi).pos
      match ← pyNext it with
      | none => pure (.done .next)
      | some v =>
        letOwnedTupleGo (.Name xx px) it v
        assign (.Name xx px) env v
        let mut ok := true
        for c in [T] do
          if ok then ok ← isTrue c env (eval c env)
        if ok then
          (do let _ ← call (.builtin "list.append") [acc, ← eval elt env])
        again (.compLoop (e2 elt it0 T xp xx pp px pi scope pos) 1 it acc env)) := by rfl
theorem turn2_out (it acc : Value) (env : Env) : compTurn (e2 elt it0 T xp xx pp px pi scope pos) 0 it acc env = (do
      standAt it0.pos
      match ← pyNext it with
      | none => pure (.done .next)
      | some v =>
        letOwnedTupleGo (.Name xp pp) it v
        assign (.Name xp pp) env v
        let mut ok := true
        for c in ([] : List PySem.Expr) do
          if ok then ok ← isTrue c env (eval c env)
        if ok then
          let x ← eval (.Name xp pi) env
          standAt (PySem.Expr.Name xp pi).pos
          let x ← foldedSetIterable (.Name xp pi) env x
          let _ ← runOwn (.compStart (e2 elt it0 T xp xx pp px pi scope pos) 1 (← holding [x] (pyIter x)) acc env) env
        again (.compLoop (e2 elt it0 T xp xx pp px pi scope pos) 0 it acc env)) := by rfl
variable {prog : Program} {w : World} {A : Around} {E : Value → Shared → Prop} {R : Result → Shared → Prop} {s : Shared} {cenv : Env}
theorem start2 {it acc : Value}
    (h0 : codeAny (model prog w) A (.compLoop (e2 elt it0 T xp xx pp px pi scope pos) 1 it acc cenv) R s)
    (h : wpAny (model prog w) A (pyIter it) (fun it' s' => codeAny (model prog w) A (.compLoop (e2 elt it0 T xp xx pp px pi scope pos) 1 it' acc cenv) R s')
      (notedBy (model prog w) A cenv fun x s' => R (.error x) s') s) :
    codeAny (model prog w) A (.compStart (e2 elt it0 T xp xx pp px pi scope pos) 1 it acc cenv) R s := by
  refine codeAny_of_tree ?_
  show wpAny _ _ ((compStart (e2 elt it0 T xp xx pp px pi scope pos) 1 it acc cenv).onRaise (fun x => do noteFrame x cenv; standAt theWindowsPlace)) _ _ s
  refine wpAny_notedAt ?_
  unfold compStart
  show wpAny _ _ (ask >>= _) _ _ s
  refine wpAny_bind (wpAny_askSetting (wpAny_ite ?_))
  split
  · first
      | exact wpAny_bind (wpAny_pure (wpAny_pure (And.intro rfl h0)))
      | exact wpAny_pure (And.intro rfl h0)
  · first
      | exact wpAny_bind (wpAny_rule (wpAny_bind (wpAny_standAt (wpAny_bind (wpAny_mono h (fun it' s' h' => wpAny_pure (And.intro rfl h')) fun _ _ x => x)))))
      | (refine wpAny_bind (wpAny_rule ?_); show wpAny _ _ (standAt _ >>= _) _ _ s; exact wpAny_bind (wpAny_standAt (wpAny_bind (wpAny_mono h (fun it' s' h' => wpAny_pure (And.intro rfl h')) fun _ _ x => x))))
/-- the inner loop, no item of which passes the test -/
theorem inner2 {I : Addr} {fp wr : List Addr} {n : Nat} {P : Nat → Value → Prop} {St : Nat → Heap → Prop} {acc : Value} {m : Str → Option Value} (W : Walks prog w A I fp wr n P St) (hx : cenv.kindOf xx = some .local)
    (hp : (cenv.scope.kind == .class || (cenv.scope.kind == .module && cenv.locals != cenv.globals)) = false) (hCf : cenv.locals ∉ fp) (hst : St 0 s.heap) (hn : s.heap.Ns cenv.locals m)
    (htest : ∀ i v s₂ m₂ E', P i v → s₂.heap.Ns cenv.locals m₂ → m₂ xx = some v → (∀ b o, b ≠ cenv.locals → b ∉ wr → s.heap.get? b = some o → s₂.heap.get? b = some o) →
      wpAny (model prog w) A (isTrue T cenv (eval T cenv)) (fun ok s₃ => ok = false ∧ Keeps s₂ s₃) E' s₂)
    (hR : ∀ h' tk m', h'.Ns cenv.locals m' → (∀ b o, b ≠ cenv.locals → b ∉ wr → s.heap.get? b = some o → h'.get? b = some o) → R (.ok .next) { s with heap := h', toks := tk }) :
    codeAny (model prog w) A (.compLoop (e2 elt it0 T xp xx pp px pi scope pos) 1 (.ref I) acc cenv) R s := by
  have hCw : cenv.locals ∉ wr := fun h => hCf (W.sub _ h)
  refine codeAny_loop rfl (fun k s' => ∃ i h' tk m', s' = { s with heap := h', toks := tk } ∧ St i h' ∧ i ≤ n ∧ k = n + 1 - i ∧ h'.Ns cenv.locals m' ∧ ∀ b o, b ≠ cenv.locals → b ∉ wr → s.heap.get? b = some o → h'.get? b = some o) ?_ (n + 1)
    ⟨0, s.heap, s.toks, m, rfl, hst, Nat.zero_le _, rfl, hn, fun _ _ _ _ e => e⟩
  rintro k s' ⟨i, H, tk, m', rfl, hst', hi, rfl, hn', hk⟩
  show wpAny _ A ((compTurn (e2 elt it0 T xp xx pp px pi scope pos) 1 (.ref I) acc cenv).onRaise (fun x => do noteFrame x cenv; theTreesLotGoes x)) _ _ _
  refine wpAny_noted ?_
  rw [turn2_in]
  refine wpAny_bind (wpAny_standAt (wpAny_bind ?_))
  by_cases hlt : i < n
  · refine W.item i _ _ _ hlt hst' fun v h₁ tk₁ hP hst₁ hk₁ => ?_
    refine wpAny_bind (wpAny_of_eq (a := ()) rfl ?_)
    refine wpAny_bind (wpAny_assign_Name (wpAny_storeName_local hx (hn'.at' fun o e => hk₁ _ o hCw e) (fun h₂ hn₂ hs₂ => ?_) hp))
    have up₂ : ∀ b o, b ≠ cenv.locals → b ∉ wr → s.heap.get? b = some o → h₂.get? b = some o := fun b o hbC hbw e => hs₂.extBut b o hbC (hk₁ b o hbw (hk b o hbC hbw e))
    refine wpAny_bind (wpAny_tests_one (wpAny_mono (htest i v _ _ _ hP hn₂ (by simp) up₂) (fun ok s₃ h₃ => ?_) fun _ _ e => e))
    obtain ⟨rfl, h₃, tk₃, rfl, hk₃⟩ := h₃
    refine wpAny_pure ⟨rfl, n + 1 - (i + 1), by omega, i + 1, h₃, tk₃, _, rfl, ?_, hlt, rfl, hn₂.keeps hk₃, fun b o hbC hbw e => hk₃ b o (up₂ b o hbC hbw e)⟩
    exact W.frame _ _ _ hst₁ fun b hb o e => hk₃ b o (hs₂.extBut b o (fun q => hCf (q ▸ hb)) e)
  · have e : i = n := by omega
    subst e
    refine W.done _ _ _ hst' fun h₁ tk₁ hk₁ => ?_
    exact wpAny_pure (hR h₁ tk₁ m' (hn'.at' fun o e => hk₁ _ o hCw e) fun b o hbC hbw e => hk₁ b o hbw (hk b o hbC hbw e))
/-- the outer loop over a list of tuples -/
theorem outer2 {I ax : Addr} {items : Array Value} {acc : Value} {m : Str → Option Value} (hh : A.handled = none) (hne : ax ≠ I) (hcI : cenv.locals ≠ I) (hca : cenv.locals ≠ ax) (hkd : cenv.scope.kind = .function) (hxp : cenv.kindOf xp = some .local) (hxx : cenv.kindOf xx = some .local)
    (hdb : (xp == ("__debug__" : Str)) = false)
    (hit : s.heap.IsListIter I ax 0) (hl : s.heap.IsList ax items) (hn : s.heap.Ns cenv.locals m)
    (hitems : ∀ v ∈ items, ∃ tup its, v = .ref tup ∧ s.heap.IsTuple tup its ∧ tup ≠ cenv.locals ∧ tup ≠ I ∧ ∀ (i : Nat) (x : Value), its[i]? = some x → ∀ s₂ m₂ E', s₂.heap.Ns cenv.locals m₂ → m₂ xx = some x → (∀ b o, b ≠ cenv.locals → b ≠ I → s.heap.get? b = some o → s₂.heap.get? b = some o) →
      wpAny (model prog w) A (isTrue T cenv (eval T cenv)) (fun ok s₃ => ok = false ∧ Keeps s₂ s₃) E' s₂)
    (hR : ∀ h' tk m', h'.Ns cenv.locals m' → (∀ b o, b ≠ cenv.locals → b ≠ I → s.heap.get? b = some o → h'.get? b = some o) → R (.ok .next) { s with heap := h', toks := tk }) :
    codeAny (model prog w) A (.compLoop (e2 elt it0 T xp xx pp px pi scope pos) 0 (.ref I) acc cenv) R s := by
  have W := Walks.list (prog := prog) (w := w) hh I ax hne items
  have hp : (cenv.scope.kind == .class || (cenv.scope.kind == .module && cenv.locals != cenv.globals)) = false := by rw [hkd]; rfl
  have hCw : cenv.locals ∉ [I] := fun h => hcI (List.mem_singleton.mp h)
  have hCf : cenv.locals ∉ [I, ax] := fun h => by rcases List.mem_cons.mp h with q | q; exact hcI q; exact hca (List.mem_singleton.mp q)
  refine codeAny_loop rfl (fun k s' => ∃ i h' tk m', s' = { s with heap := h', toks := tk } ∧ (h'.IsListIter I ax i ∧ h'.IsList ax items) ∧ i ≤ items.size ∧ k = items.size + 1 - i ∧ h'.Ns cenv.locals m' ∧ ∀ b o, b ≠ cenv.locals → b ≠ I → s.heap.get? b = some o → h'.get? b = some o) ?_ (items.size + 1)
    ⟨0, s.heap, s.toks, m, rfl, ⟨hit, hl⟩, Nat.zero_le _, rfl, hn, fun _ _ _ _ e => e⟩
  rintro k s' ⟨i, H, tk, m', rfl, hst', hi, rfl, hn', hk⟩
  show wpAny _ A ((compTurn (e2 elt it0 T xp xx pp px pi scope pos) 0 (.ref I) acc cenv).onRaise (fun x => do noteFrame x cenv; theTreesLotGoes x)) _ _ _
  refine wpAny_noted ?_
  rw [turn2_out]
  refine wpAny_bind (wpAny_standAt (wpAny_bind ?_))
  by_cases hlt : i < items.size
  · refine W.item i _ _ _ hlt hst' fun v h₁ tk₁ hP hst₁ hk₁ => ?_
    have hmem : v ∈ items := by obtain ⟨h1, rfl⟩ := Array.getElem?_eq_some_iff.mp hP; exact Array.getElem_mem h1
    obtain ⟨tup, its, rfl, htup, htC, htI, htest⟩ := hitems v hmem
    refine wpAny_bind (wpAny_of_eq (a := ()) rfl ?_)
    refine wpAny_bind (wpAny_assign_Name (wpAny_storeName_local hxp (hn'.at' fun o e => hk₁ _ o hCw e) (fun h₂ hn₂ hs₂ => ?_) hp))
    have up₂ : ∀ b o, b ≠ cenv.locals → b ≠ I → s.heap.get? b = some o → h₂.get? b = some o := fun b o hbC hbI e => hs₂.extBut b o hbC (hk₁ b o (fun h => hbI (List.mem_singleton.mp h)) (hk b o hbC hbI e))
    refine wpAny_bind (wpAny_tests_nil ?_)
    refine wpAny_bind (wpAny_Name (wpAny_loadName_local hkd hxp hn₂ (v := .ref tup) (if_pos rfl) ?_) hdb)
    refine wpAny_bind (wpAny_standAt (wpAny_bind (wpAny_of_eq (a := Value.ref tup) rfl ?_)))
    have htup₂ : h₂.IsTuple tup its := by
      obtain ⟨o, ho, r⟩ := htup
      exact ⟨o, up₂ tup o htC htI ho, r⟩
    refine wpAny_bind (wpAny_holding (wpAny_pyIter_tuple htup₂ ?_))
    have htlt : tup < h₂.objs.size := by obtain ⟨o, ho, _⟩ := htup₂; exact Heap.lt_size ho
    have hClt : cenv.locals < h₂.objs.size := hn₂.lt
    have hn₃ := hn₂.push { cls := .type "tuple_iterator", data := .fields #[.ref tup, .int 0 0] }
    have htup₃ : (h₂.push { cls := .type "tuple_iterator", data := .fields #[.ref tup, .int 0 0] }).IsTuple tup its := by
      obtain ⟨o, ho, r⟩ := htup₂
      exact ⟨o, Heap.get?_push_of_some _ ho, r⟩
    have W1 := Walks.tuple (prog := prog) (w := w) (A := A) hh h₂.objs.size tup (Nat.ne_of_lt htlt) its
    have hit1 : (h₂.push { cls := .type "tuple_iterator", data := .fields #[.ref tup, .int 0 0] }).IsTupleIter h₂.objs.size tup 0 := ⟨_, Heap.get?_push_size _ rfl, rfl, rfl⟩
    have st₃ : (h₂.IsListIter I ax (i + 1) ∧ h₂.IsList ax items) := W.frame _ _ _ hst₁ fun b hb o e => hs₂.extBut b o (fun q => hCf (q ▸ hb)) e
    obtain ⟨⟨oi, hoi, _⟩, ⟨oa, hoa, _⟩⟩ := id st₃
    have hIlt : I < h₂.objs.size := Heap.lt_size hoi
    have halt : ax < h₂.objs.size := Heap.lt_size hoa
    have loop : ∀ (R' : Result → Shared → Prop) (tkk : Nat), (∀ h' tk m', h'.Ns cenv.locals m' → (∀ b o, b ≠ cenv.locals → b ∉ [h₂.objs.size] → (h₂.push { cls := .type "tuple_iterator", data := .fields #[.ref tup, .int 0 0] }).get? b = some o → h'.get? b = some o) → R' (.ok .next) { s with heap := h', toks := tk }) →
        codeAny (model prog w) A (.compLoop (e2 elt it0 T xp xx pp px pi scope pos) 1 (.ref h₂.objs.size) acc cenv) R' { s with heap := h₂.push { cls := .type "tuple_iterator", data := .fields #[.ref tup, .int 0 0] }, toks := tkk } := by
      intro R' tkk fin
      refine inner2 (s := { s with heap := h₂.push { cls := .type "tuple_iterator", data := .fields #[.ref tup, .int 0 0] }, toks := tkk }) W1 hxx hp
        (fun h => by rcases List.mem_cons.mp h with q | q; exact Nat.ne_of_lt hClt q; exact htC (List.mem_singleton.mp q).symm) ⟨hit1, htup₃⟩ hn₃ ?_ fin
      intro j x s₂ m₂ E' hx hn4 hm4 hk4
      exact htest j x hx s₂ m₂ E' hn4 hm4 fun b o hbC hbI e => hk4 b o hbC (fun h => Nat.ne_of_lt (Heap.lt_size (up₂ b o hbC hbI e)) (List.mem_singleton.mp h)) (Heap.get?_push_of_some _ (up₂ b o hbC hbI e))
    refine wpAny_bind (wpAny_runOwn ?_)
    show codeAny (model prog w) A _ _ _
    have keep₃ : ∀ {h' : Heap}, (∀ b o, b ≠ cenv.locals → b ∉ [h₂.objs.size] → (h₂.push { cls := .type "tuple_iterator", data := .fields #[.ref tup, .int 0 0] }).get? b = some o → h'.get? b = some o) → ∀ b o, b ≠ cenv.locals → h₂.get? b = some o → h'.get? b = some o :=
      fun hq b o hbC e => hq b o hbC (fun h => Nat.ne_of_lt (Heap.lt_size e) (List.mem_singleton.mp h)) (Heap.get?_push_of_some _ e)
    refine start2 (loop _ _ ?_) (wpAny_pyIter_tupleiter hit1 (loop _ _ ?_))
    all_goals
      intro h' tk' m'' hn5 hk5
      refine wpAny_pure ⟨rfl, items.size + 1 - (i + 1), by omega, i + 1, h', tk', _, rfl, ?_, hlt, rfl, hn5, fun b o hbC hbI e => keep₃ hk5 b o hbC (up₂ b o hbC hbI e)⟩
      exact W.frame _ _ _ st₃ fun b hb o e => keep₃ hk5 b o (fun q => hCf (q ▸ hb)) e
  · have e : i = items.size := by omega
    subst e
    refine W.done _ _ _ hst' fun h₁ tk₁ hk₁ => ?_
    exact wpAny_pure (hR h₁ tk₁ m' (hn'.at' fun o e => hk₁ _ o hCw e) fun b o hbC hbI e => hk₁ b o (fun h => hbI (List.mem_singleton.mp h)) (hk b o hbC hbI e))
end
end
section
open PySem PySem.W PyProof.Rows PySem.Spec PySem.Calls
set_option linter.unusedVariables false
section
variable {prog : Program} {w : World} {A : Around} {E : Value → Shared → Prop} {s : Shared} {h₀ : Heap} {L : Addr} {m : Str → Option Value} {env : Env}
/-- the source of a comprehension: a range with a step -/
def SrcS (prog : Program) (w : World) (A : Around) (h₀ : Heap) (L : Addr) (m : Str → Option Value) (env : Env) (elt : PySem.Expr) (x : Str) (scope : Scope) (cl : List (Str × Addr)) (Fin : Shared → List Value → List (Addr × Obj) → Prop) (xv : Value) (s₁ : Shared) : Prop :=
  ∃ r a b c t u v n news, xv = .ref r ∧ A.handled = none ∧ Fr h₀ L s₁.heap m ∧ News h₀ L s₁.heap news ∧ IsRange s₁.heap r a b c t u v ∧ Builtin.Range.small a b c = true ∧ Builtin.Range.rangeSize a b c = ((n : Nat) : Int) ∧ n ≤ sizeLine ∧
    ∀ s₂ : Shared, (∃ h, s₂ = { s₁ with heap := h }) → LCg.CompRest prog w A h₀ L m env elt x scope cl s₂ (fun _ => True) (fun i v => ∃ t, v = .int (a + (i : Int) * c) t) (Fin s₂) n 0 [] news
theorem step_st {I : Addr} {a c : Int} {n : Nat} : ∀ i (h h' : Heap) (o : Obj) (nw : List (Addr × Obj)), IsRangeIter h I (a + (i : Nat) * c) ((n : Int) - (i : Nat)) c → h.get? I = some o → h'.get? I = some o → (∀ b o, h₀.get? b = some o → h'.get? b = some o) → News h₀ L h' nw → True → IsRangeIter h' I (a + (i : Nat) * c) ((n : Int) - (i : Nat)) c :=
  fun i h h' o nw st e e' _ _ _ => by
    have st' : h.get? I = some _ := st
    show h'.get? I = some _
    rw [e', ← e]; exact st'
theorem step_walks {I : Addr} (hh : A.handled = none) (a c : Int) (n : Nat) : Walks prog w A I [I] [I] n (fun i v => ∃ t, v = .int (a + (i : Int) * c) t) (fun i h => IsRangeIter h I (a + (i : Nat) * c) ((n : Int) - (i : Nat)) c) :=
  let W : Walks prog w A I [I] [I] n (fun i v => i < n ∧ ∃ t, v = .int (a + i * c) t) (fun i h => IsRangeIter h I (a + (i : Nat) * c) ((n : Int) - (i : Nat)) c) := (Walks.range hh I a c n).bound
  { sub := W.sub, frame := W.frame, done := W.done, self := W.self,
    item := fun i s Q E hi st hQ => W.item i s Q E hi st fun v h' tk hP => hQ v h' tk hP.2 }
theorem ListComp_S {elt iter : PySem.Expr} {x : Str} {px : Pos} {scope : Scope} {cl : List (Str × Addr)} {pos : Pos} {Q : Value → Shared → Prop} (F₀ : Fr h₀ L s.heap m)
    (hclos : closureFor scope env = pure cl) (hcell : ∀ y ∈ scope.names, y.2 ≠ .cell) (hkind : scope.kind = .function)
    (hnames : ∀ y ∈ scope.names, y.2 = .local → scope.names.lookup y.1 = some .local) (hx : scope.names.lookup x = some .local)
    (h : wpAny (model prog w) A (eval iter env) (SrcS prog w A h₀ L m env elt x scope cl (fun s₂ => LCg.FinE h₀ L m s₂ Q)) E s)
    (hs : ∀ x, foldedSetIterable iter env x = pure x := by intro _; rfl) :
    wpAny (model prog w) A (eval (.ListComp elt [⟨.Name x px, iter, [], 0⟩] scope pos) env) Q E s := by
  rw [eval_ListComp]
  refine wpAny_comprehension_free (use := none) rfl hs hclos hkind hnames (wpAny_mono h (fun xv s₁ h₁ => ?_) fun _ _ e => e)
  obtain ⟨r, a, b, c, t, u, v, n, news, rfl, hh, F, N, hr, hsm, hn, hsz, R⟩ := h₁
  refine wpAny_pyIter_range hr hsm ?_
  have up : ∀ o : Obj, ∀ b' o', s₁.heap.get? b' = some o' → (s₁.heap.push o).get? b' = some o' := fun o _ _ e => Heap.get?_push_of_some _ e
  refine LCg.block_U (step_walks hh a c n) hsz (fun i h st => ⟨_, st⟩) step_st hcell hkind hx ?_ ?_ (F.keeps (up _)) (N.grown (up _)) (Nat.ne_of_lt F.ns.lt) (next_is_new F) (fun p hp => Nat.ne_of_lt (Heap.lt_size (N p hp).1)) trivial (R _ ⟨_, rfl⟩) ?_
  · show IsRangeIter _ _ _ _ _
    rw [hn]
    simpa using Heap.get?_push_size _ rfl
  · intro b' hb'
    rw [List.mem_singleton.mp hb']
    show s₁.heap.objs.size < (s₁.heap.push _).objs.size
    rw [Heap.size_push]
    exact Nat.lt_succ_self _
  · intro D C h tk m' ys news' F' N' o1 hn' hC₀ hD₀ hCL hDL hCD offC fin
    refine ⟨m', hn', fun h'' hs'' => fin D h'' tk (F'.change hs'' hCL hC₀) (fun p hp => ?_) o1⟩
    refine ⟨hs''.extBut _ _ ?_ (N' p hp).1, (N' p hp).2⟩
    rcases List.mem_cons.mp hp with rfl | hp
    · exact Ne.symm hCD
    · exact offC p hp
end
end
section
open PySem PySem.W PyProof.Rows PySem.Spec PySem.Calls
theorem nameC_B {M : Model} {A : Around} {E : Value → Shared → Prop} {s : Shared} {K : Frag} {g : Heap} {mg mb : Str → Option Value} {p : Program} {loose : List Str} {mean : ExcName → Option Value} {env : Env} {scope : Scope} {C : Addr}
    {x : Str} {pos : Pos} {v : Value} {Q : Value → Shared → Prop} (hk : ∀ b o, g.get? b = some o → s.heap.get? b = some o) (X : K.In g) (T : Top p loose mean mg mb g) (e : nsIn K mainGlobals x = some none) (hv : bootBuiltins x = some v) (hn : x ≠ "__name__") (h : Q v s)
    (hg : env.globals = mainGlobals) (hb : env.builtins = builtinsNs) (hkd : scope.kind = .function) (hx : (compEnv scope C env).kindOf x = some .globalImplicit) (hd : (x == ("__debug__" : Str)) = false) :
    wpAny M A (eval (.Name x pos) (compEnv scope C env)) Q E s := by
  refine Name_function_global hkd hx (loadGlobal_builtin (env := compEnv scope C env) (mg := mg) (mb := mb) ?_ (mg_none_of X T.g e) ?_ ((T.builtins x hn).trans hv) h) hd
  · show s.heap.Ns env.globals mg
    rw [hg]; exact T.g.keeps hk
  · show s.heap.Ns env.builtins mb
    rw [hb]; exact T.b.keeps hk
set_option maxRecDepth 100000 in
set_option maxHeartbeats 1000000 in
theorem test2 {w : World} {A : Around} {E : Value → Shared → Prop} {s : Shared} {g : Heap} {mg mb : Str → Option Value} {p : Program} {loose : List Str} {mean : ExcName → Option Value} {env : Env} {scope : Scope} {C : Addr} {m : Str → Option Value} {k : Int} {t : Tok} {p1 p2 p3 p4 p5 p6 p7 p8 p9 p10 : Pos}
    (hk : ∀ b o, g.get? b = some o → s.heap.get? b = some o) (X : (hd.heap_39 w.params).In g) (T : Top p loose mean mg mb g) (hg : env.globals = mainGlobals) (hb : env.builtins = builtinsNs) (hkd : scope.kind = .function)
    (hl : scope.names.lookup (Str.ofString "x") = some .local) (h1 : scope.names.lookup (Str.ofString "isinstance") = some .globalImplicit) (h2 : scope.names.lookup (Str.ofString "bool") = some .globalImplicit) (h3 : scope.names.lookup (Str.ofString "int") = some .globalImplicit)
    (hn : s.heap.Ns C m) (hm : m (Str.ofString "x") = some (.int k t)) :
    wpAny (model PR w) A (isTrue (.BoolOp .Or [.Call (.Name (Str.ofString "isinstance") p1) [.Name (Str.ofString "x") p2, .Name (Str.ofString "bool") p3] [] p4, .UnaryOp .Not (.Call (.Name (Str.ofString "isinstance") p5) [.Name (Str.ofString "x") p6, .Name (Str.ofString "int") p7] [] p8) p9] p10) (compEnv scope C env)
      (eval (.BoolOp .Or [.Call (.Name (Str.ofString "isinstance") p1) [.Name (Str.ofString "x") p2, .Name (Str.ofString "bool") p3] [] p4, .UnaryOp .Not (.Call (.Name (Str.ofString "isinstance") p5) [.Name (Str.ofString "x") p6, .Name (Str.ofString "int") p7] [] p8) p9] p10) (compEnv scope C env)))
      (fun ok s₃ => ok = false ∧ Keeps s s₃) E s := by
  w_on
  walk1
  walk1
  walk1
  refine nameC_B (v := .builtin "isinstance") hk X T (by k_is) (by decide +kernel) (by decide) ?_ hg hb hkd h1 (by decide)
  walk1
  walk1
  refine wpAny_Name (wpAny_loadName_local hkd hl hn hm ?_) (by decide)
  walk1
  refine nameC_B (v := .type "bool") hk X T (by k_is) (by decide +kernel) (by decide) ?_ hg hb hkd h2 (by decide)
  walk1
  walk1
  walk1
  rw [if_neg (by decide)]
  walk1
  walk1
  walk1
  walk1
  refine nameC_B (v := .builtin "isinstance") hk X T (by k_is) (by decide +kernel) (by decide) ?_ hg hb hkd h1 (by decide)
  walk1
  walk1
  refine wpAny_Name (wpAny_loadName_local hkd hl hn hm ?_) (by decide)
  walk1
  refine nameC_B (v := .type "int") hk X T (by k_is) (by decide +kernel) (by decide) ?_ hg hb hkd h3 (by decide)
  walk1
  walk1
  walk1
  rw [if_neg (by decide)]
  walk1
  exact ⟨rfl, _, _, rfl, fun _ _ e => e⟩
/-- the comprehension over pairs of ints that lets nothing pass -/
theorem comp2_eval {w : World} {A : Around} {E : Value → Shared → Prop} {s : Shared} {h₀ : Heap} {L : Addr} {m : Str → Option Value} {news : List (Addr × Obj)} {env : Env} {scope : Scope} {elt it0 T : PySem.Expr} {xp xx : Str} {pp px pi pos : Pos} {Q : Value → Shared → Prop} {ax : Addr} {items : Array Value}
    (hh : A.handled = none) (F : Fr h₀ L s.heap m) (N : News h₀ L s.heap news) (hit0 : ∀ Q' : Value → Shared → Prop, Q' (.ref ax) s → wpAny (model PR w) A (eval it0 env) Q' E s)
    (hfree : ∀ x ∈ scope.names, x.2 ≠ .free) (hcell : ∀ x ∈ scope.names, x.2 ≠ .cell) (hkind : scope.kind = .function) (hnames : ∀ x ∈ scope.names, x.2 = .local → scope.names.lookup x.1 = some .local)
    (hxp : scope.names.lookup xp = some .local) (hxx : scope.names.lookup xx = some .local) (hdb : (xp == ("__debug__" : Str)) = false) (hs : ∀ x, foldedSetIterable it0 env x = pure x)
    (hl : s.heap.IsList ax items) (hitems : ∀ v ∈ items, ∃ tup its, v = .ref tup ∧ s.heap.IsTuple tup its ∧ ∀ (i : Nat) (x : Value), its[i]? = some x → ∃ k t, x = .int k t)
    (htest : ∀ C k t s₂ m₂ E', s₂.heap.Ns C m₂ → m₂ xx = some (.int k t) → (∀ b o, s.heap.get? b = some o → s₂.heap.get? b = some o) → wpAny (model PR w) A (isTrue T (compEnv scope C env) (eval T (compEnv scope C env))) (fun ok s₃ => ok = false ∧ Keeps s₂ s₃) E' s₂)
    (h : ∀ D h' tk, Fr h₀ L h' m → News h₀ L h' ((D, listOf #[] 0) :: news) → (∀ p ∈ news, p.1 < D) → Q (.ref D) { s with heap := h', toks := tk }) :
    wpAny (model PR w) A (eval (e2 elt it0 T xp xx pp px pi scope pos) env) Q E s := by
  refine wpAny_ListComp hfree hkind hnames (hit0 _ ?_) hs
  refine wpAny_pyIter_list hl (wpAny_newObj_type (hd := by size_fits) (wpAny_newFunctionEnv hcell (by intro y hy; simp at hy) (fun h₁ hns₁ hsb₁ => ?_) hkind))
  dsimp only at hns₁ hsb₁ ⊢
  obtain ⟨ol, hol, hol'⟩ := id hl
  have hax : ax < s.heap.objs.size := Heap.lt_size hol
  generalize hH1 : s.heap.push { cls := .type "list_iterator", data := .fields #[.ref ax, .int 0 0] } = H1 at hns₁ hsb₁ ⊢
  have hD : H1.objs.size = s.heap.objs.size + 1 := by rw [← hH1, Heap.size_push]
  generalize hH2 : H1.push { cls := .type "list", dict := none, data := .seq ([] : List Value).toArray } = H2 at hns₁ hsb₁ ⊢
  have hC : H2.objs.size = s.heap.objs.size + 2 := by rw [← hH2, Heap.size_push, hD]
  have below : ∀ b, b < s.heap.objs.size → b ≠ H2.objs.size ∧ b ≠ s.heap.objs.size ∧ b ≠ H1.objs.size := fun b hb => by
    have hb' : @LT.lt Nat _ b s.heap.objs.size := hb
    exact ⟨neN (by omega), neN (by omega), neN (by omega)⟩
  have old : ∀ b o, s.heap.get? b = some o → h₁.get? b = some o := fun b o e =>
    hsb₁.extBut b o (below b (Heap.lt_size e)).1 (Heap.get?_push_of_some _ (hH2 ▸ Heap.get?_push_of_some _ (hH1 ▸ Heap.get?_push_of_some _ e)))
  have hit : h₁.IsListIter s.heap.objs.size ax 0 :=
    ⟨_, hsb₁.extBut _ _ (neN (by omega)) (Heap.get?_push_of_some _ (hH2 ▸ Heap.get?_push_of_some _ (hH1 ▸ Heap.get?_push_size _ rfl))), rfl, rfl⟩
  have hacc : h₁.get? H1.objs.size = some (listOf #[] 0) := hsb₁.extBut _ _ (neN (by omega)) (Heap.get?_push_of_some _ (hH2 ▸ Heap.get?_push_size _ rfl))
  have hl₁ : h₁.IsList ax items := ⟨ol, old _ _ hol, hol'⟩
  have fin : ∀ h' tk, (∀ b o, b ≠ H2.objs.size → b ≠ s.heap.objs.size → h₁.get? b = some o → h'.get? b = some o) → Q (.ref H1.objs.size) { s with heap := h', toks := tk } := fun h' tk hk => by
    have old' : ∀ b o, s.heap.get? b = some o → h'.get? b = some o := fun b o e => hk b o (below b (Heap.lt_size e)).1 (below b (Heap.lt_size e)).2.1 (old b o e)
    refine h _ h' tk ⟨F.ns.keeps old', fun b o e => old' b o (F.keep b o e), F.above⟩ (fun p hp => ?_) fun p hp => by
      have h9 : @LT.lt Nat _ p.1 s.heap.objs.size := Heap.lt_size (N p hp).1
      show @LT.lt Nat _ _ _
      omega
    rcases List.mem_cons.mp hp with rfl | hp
    · have hL := F.ns.lt
      have hL' : @LT.lt Nat _ L s.heap.objs.size := hL
      have hA : @LE.le Nat _ h₀.objs.size L := F.above
      refine ⟨hk _ _ (neN (by omega)) (neN (by omega)) hacc, neN (by omega), ?_⟩
      exact Heap.get?_none_of_le (by show @LE.le Nat _ _ _; omega)
    · exact ⟨old' _ _ (N p hp).1, (N p hp).2⟩
  have loop : ∀ s₂ : Shared, s₂ = { s with heap := h₁, toks := s.toks + ([] : List (Str × Value)).length } →
      codeAny (model PR w) A (.compLoop (e2 elt it0 T xp xx pp px pi scope pos) 0 (.ref s.heap.objs.size) (.ref H1.objs.size) (compEnv scope H2.objs.size env))
        (fun r s' => ∃ m, s'.heap.Ns (compEnv scope H2.objs.size env).locals m ∧ ∀ h', Heap.SameBut (compEnv scope H2.objs.size env).locals s'.heap h' →
          match r with | .ok _ => Q (.ref H1.objs.size) { s' with heap := h' } | .error x => wpAny (model PR w) A (passOn "comprehension.variables-let-go" x (compEnv scope H2.objs.size env)) Q E { s' with heap := h' }) s₂ := by
    rintro s₂ rfl
    refine outer2 (cenv := compEnv scope H2.objs.size env) hh (below ax hax).2.1 (neN (by show H2.objs.size ≠ _; omega)) (below ax hax).1.symm hkind hxp hxx hdb hit hl₁ hns₁ ?_ ?_
    · intro v hv
      obtain ⟨tup, its, rfl, ht, hints⟩ := hitems v hv
      obtain ⟨o, ho, hr⟩ := ht
      refine ⟨tup, its, rfl, ⟨o, old _ _ ho, hr⟩, (below tup (Heap.lt_size ho)).1, (below tup (Heap.lt_size ho)).2.1, ?_⟩
      intro i x hx s₂ m₂ E' hn₂ hm₂ hk₂
      obtain ⟨k, t, rfl⟩ := hints i x hx
      exact htest _ k t s₂ m₂ E' hn₂ hm₂ fun b o e => hk₂ b o (below b (Heap.lt_size e)).1 (below b (Heap.lt_size e)).2.1 (old b o e)
    · intro h' tk m' hn' hk'
      exact ⟨m', hn', fun h'' hs'' => fin h'' tk fun b o hbC hbI e => hs''.extBut b o hbC (hk' b o hbC hbI e)⟩
  exact codeAny_compStart_list (loop _ rfl) (wpAny_pyIter_listiter hit (loop _ rfl))
end
section
open PySem PySem.W PyProof.Rows PySem.Spec PySem.Calls
/-- a pair of ints -/
def IsPair (o : Obj) (p r : Int) : Prop := ∃ u v, o = pairO p r u v
/-- refs to pairs, and what they hold -/
inductive PairsAre (h : Heap) : List Value → List (Int × Int) → Prop
  | nil : PairsAre h [] []
  | cons {x : Addr} {o : Obj} {p r : Int} {vs : List Value} {ps : List (Int × Int)} (e : h.get? x = some o) (q : IsPair o p r) (t : PairsAre h vs ps) : PairsAre h (.ref x :: vs) ((p, r) :: ps)
def tupD (p : Int × Int) : PyData := .tuple [.int p.1, .int p.2]
theorem PairsAre.reads {h : Heap} {vs : List Value} {ps : List (Int × Int)} (H : PairsAre h vs ps) : ∃ as, ReadsAll h vs (ps.map tupD) as := by
  induction H with
  | nil => exact ⟨_, .nil⟩
  | cons e q _ ih =>
    obtain ⟨as, ih⟩ := ih
    obtain ⟨u, v, rfl⟩ := q
    exact ⟨_, .cons (.tuple e rfl rfl (.cons (.int _ _) (.cons (.int _ _) .nil))) ih⟩
theorem pairs_canLay : ∀ ps : List (Int × Int), PyData.canLayAll0 (ps.map tupD) = true
  | [] => by rw [List.map_nil]; rfl
  | p :: ps => by
    rw [List.map_cons, PyData.canLayAll0, pairs_canLay ps]
    rfl
theorem pairs_depth : ∀ ps : List (Int × Int), PyData.depthAll (ps.map tupD) ≤ 4
  | [] => by rw [List.map_nil]; decide
  | p :: ps => by
    have h1 := pairs_depth ps
    have h2 : (tupD p).depth ≤ 4 := by simp [tupD, PyData.depth, PyData.depthAll]
    rw [List.map_cons, PyData.depthAll]
    omega
theorem pairs_shaped (ps : List (Int × Int)) : SeqAt.shaped (.list (ps.map tupD)) = true := by
  have h1 := pairs_canLay ps
  have h2 := pairs_depth ps
  rw [SeqAt.shaped, Bool.and_eq_true]
  refine ⟨?_, decide_eq_true ?_⟩
  · rw [PyData.canLay0]; exact h1
  · rw [PyData.depth]; omega
theorem pairs_eqv : ∀ ps : List (Int × Int), PyData.eqvAll (ps.map tupD) (ps.map tupD) = true
  | [] => by rw [List.map_nil]; rfl
  | p :: ps => by
    rw [List.map_cons, PyData.eqvAll, pairs_eqv ps]
    simp [tupD, PyData.eqv, PyData.eqvAll]
theorem PairsAre.items {h : Heap} {vs : List Value} {ps : List (Int × Int)} (H : PairsAre h vs ps) : ∀ v ∈ vs.toArray, ∃ tup its, v = .ref tup ∧ h.IsTuple tup its ∧ ∀ (i : Nat) (y : Value), its[i]? = some y → ∃ k t, y = .int k t := by
  induction H with
  | nil => intro v hv; simp at hv
  | @cons x o p r vs ps e q _ ih =>
    intro v hv
    rw [List.mem_toArray] at hv
    rcases List.mem_cons.mp hv with rfl | hv
    · obtain ⟨u, v, rfl⟩ := q
      refine ⟨x, #[.int p u, .int r v], rfl, ⟨_, e, rfl, 0, rfl⟩, ?_⟩
      intro i y hy
      match i, hy with
      | 0, hy => exact ⟨_, _, (Option.some.inj hy).symm⟩
      | 1, hy => exact ⟨_, _, (Option.some.inj hy).symm⟩
      | i + 2, hy => simp at hy
    · exact ih v (List.mem_toArray.mpr hv)
section
variable {prog : Program} {w : World} {A : Around} {E : Value → Shared → Prop} {s : Shared} {Q : Value → Shared → Prop}
/-- two lists of like pairs do not differ -/
theorem ne_pairs {a b : Addr} {va vb : List Value} {ps : List (Int × Int)} (ha : s.heap.IsList a va.toArray) (hb : s.heap.IsList b vb.toArray) (pa : PairsAre s.heap va ps) (pb : PairsAre s.heap vb ps) (hu : A.units + 64 < cLine)
    (h : Q (.bool false) s) : wpAny (model prog w) A (compareOp .NotEq (.ref a) (.ref b)) Q E s := by
  obtain ⟨as, ra⟩ := pa.reads
  obtain ⟨bs, rb⟩ := pb.reads
  obtain ⟨oa, e1, e2, na, e3⟩ := ha
  obtain ⟨ob, f1, f2, nb, f3⟩ := hb
  refine ne_dataH (.list e1 e2 e3 ra) (.list f1 f2 f3 rb) (pairs_shaped ps) (pairs_shaped ps) hu ?_
  rw [PyData.eqv, pairs_eqv]
  exact h
end
/-- what is left of the body of the i-th def behind its first ten | five statements -/
def rest10 (i : Nat) : Option (List Stmt × Scope) :=
  match PR.main.body[i]? with
  | some (.FunctionDef _ _ (_ :: _ :: _ :: _ :: _ :: _ :: _ :: _ :: _ :: _ :: r) _ _ _ sc _ _ _) => some (r, sc)
  | _ => none
def rest5 (i : Nat) : Option (List Stmt × Scope) :=
  match PR.main.body[i]? with
  | some (.FunctionDef _ _ (_ :: _ :: _ :: _ :: _ :: r) _ _ _ sc _ _ _) => some (r, sc)
  | _ => none
theorem row_small {q : Int} {n W : Nat} (hW : 4 ≤ W) (hW2 : W ≤ 62) (hn : nOf q ≤ n) (h1 : n ≤ 1000 * W) : (nOf q + W - 1) / W ≤ 1024 ∧ W * ((nOf q + W - 1) / W) ≤ 1000000 := by
  have h2 : (nOf q + W - 1) / W ≤ 1001 := by
    apply Nat.le_of_lt_succ
    apply Nat.div_lt_of_lt_mul
    omega
  exact ⟨by omega, Nat.le_trans (Nat.mul_le_mul hW2 h2) (by decide)⟩
end
section
open PySem PySem.W PyProof.Rows
set_option linter.unusedVariables false
open Builtin.Int (intBits)
theorem mod_nat (a : Int) {b : Int} (hb : 0 < b) : ∃ e : Nat, a % b = (e : Int) ∧ (e : Int) < b :=
  ⟨(a % b).toNat, by have := Int.emod_nonneg a (show b ≠ 0 by omega); omega, by have := Int.emod_nonneg a (show b ≠ 0 by omega); have := Int.emod_lt_of_pos a hb; omega⟩
theorem top_ok {n : Nat} (hn : 1 ≤ n) (x : Int) : ∃ o : Int, 2 ^ (n - 1) + x % 2 ^ (n - 1) = o ∧ 2 ^ (n - 1) ≤ o ∧ o < 2 ^ n := by
  have hp := pw (n - 1)
  have h0 := Int.emod_nonneg x (show (2 : Int) ^ (n - 1) ≠ 0 by omega)
  have h1 := Int.emod_lt_of_pos x hp
  have e : (2 : Int) ^ n = 2 ^ (n - 1) * 2 := by rw [← Int.pow_succ]; congr 1; omega
  exact ⟨_, rfl, by omega, by omega⟩
theorem under_ok {B : Int} (hB : 0 < B) (x : Int) : ∃ f : Int, B - 1 - x % B = f ∧ 0 ≤ f ∧ f < B := by
  have h0 := Int.emod_nonneg x (show B ≠ 0 by omega)
  have h1 := Int.emod_lt_of_pos x hB
  exact ⟨_, rfl, by omega, by omega⟩
theorem bits_top {n : Nat} (hn : 1 ≤ n) {o : Int} (h1 : 2 ^ (n - 1) ≤ o) (h2 : o < 2 ^ n) : intBits o = n := by
  obtain ⟨a1, a2, a3⟩ := bits_pos (Int.lt_of_lt_of_le (pw (n - 1)) h1)
  apply Nat.le_antisymm
  · apply Nat.le_of_not_lt
    intro hlt
    have h5 : (2 : Int) ^ n ≤ 2 ^ (intBits o - 1) := by
      have := Nat.pow_le_pow_right (show 0 < 2 by decide) (show n ≤ intBits o - 1 by omega)
      exact_mod_cast this
    omega
  · apply Nat.le_of_not_lt
    intro hlt
    have h5 : (2 : Int) ^ intBits o ≤ 2 ^ (n - 1) := by
      have := Nat.pow_le_pow_right (show 0 < 2 by decide) (show intBits o ≤ n - 1 by omega)
      exact_mod_cast this
    omega
theorem bits_lt {k : Nat} {x : Int} (h0 : 0 ≤ x) (h : x < 2 ^ k) : intBits x ≤ k := by
  by_cases hx : x = 0
  · subst hx
    have : intBits 0 = 0 := by decide +kernel
    omega
  · obtain ⟨a1, a2, a3⟩ := bits_pos (show 0 < x by omega)
    apply Nat.le_of_not_lt
    intro hlt
    have h5 : (2 : Int) ^ k ≤ 2 ^ (intBits x - 1) := by
      have := Nat.pow_le_pow_right (show 0 < 2 by decide) (show k ≤ intBits x - 1 by omega)
      exact_mod_cast this
    omega
end
section
open PySem PySem.W PyProof.Rows PySem.Spec PySem.Calls
/-- a dividend that suits the divisor b -/
structure Okd (b a : Int) : Prop where
  a0 : 0 ≤ a
  n6 : nOf a ≤ 600
  fit : Fit a b
theorem okd_of {a b : Int} {k : Nat} (hb : 0 < b) (hn : nOf b ≤ 300) (hk : k ≤ 24 * nOf b) (hk6 : k ≤ 600) (ha : 0 ≤ a) (hl : a < 2 ^ k) : Okd b a := by
  obtain ⟨h1, _, _⟩ := bits_pos hb
  have h2 : nOf a ≤ k := bits_lt ha hl
  have h1' : 1 ≤ nOf b := h1
  have h3 : (nOf a + nOf b - 1) / nOf b ≤ 24 := by
    apply Nat.le_of_lt_succ
    apply Nat.div_lt_of_lt_mul
    omega
  exact ⟨ha, by omega, by omega, by omega, Nat.le_trans (Nat.mul_le_mul hn h3) (by decide)⟩
theorem up_ltS {b : Int} {k : Nat} (hb : 0 < b) : b * 2 ^ k < 2 ^ (nOf b + k) := by
  obtain ⟨_, _, h3⟩ := bits_pos hb
  rw [pow_add']
  exact Int.mul_lt_mul_of_pos_right h3 (pw k)
/-- _law_dividends at b, z -/
def Divs (w : World) : Prop :=
  ∀ {b z : Int} {t1 t2 : Tok}
    {dp un : Nat} {gd : Option (List Code)} {A₀ : Around} {s : Shared} {L : Addr} {h₀ base : Heap} {m mg mb : Str → Option Value} {rest : List (Addr × Obj)} {p : Program} {loose : List Str} {mean : ExcName → Option Value} {env : Env} {outer : List Env} {Q E : Value → Shared → Prop},
    0 < b → nOf b ≤ 300 →
    Cx w A₀ s L h₀ base m mg mb rest p loose mean env outer → dp + 5 < recursionLimit → un + 100 < cLine →
    (∀ l a1 a2 a3 a4 a5 u1 u2 u3 u4 u5 h' tk', Fr h₀ L h' m → News h₀ L h' ((l, listOf #[.int a1 u1, .int a2 u2, .int a3 u3, .int a4 u4, .int a5 u5] 0) :: rest) → AllNe l rest → Okd b a1 → Okd b a2 → Okd b a3 → Okd b a4 → Okd b a5 → Q (.ref l) { s with heap := h', toks := tk' }) →
    wpAny (model PR w) (arA dp un gd env outer) (call (.ref 82) [.int b t1, .int z t2]) Q E s
theorem powR {prog : Program} {w : World} {A : Around} {E : Value → Shared → Prop} {s : Shared} {k : Nat} {t u : Tok} {Q : Value → Shared → Prop} (hk : k ≤ 1000000) (h : ∀ x v tk, Q (.int x v) { s with toks := tk }) : wpAny (model prog w) A (binaryOp .Pow (.int 3 t) (.int (k : Int) u)) Q E s :=
  pow_int_small (by omega) (by omega) (by decide) (h _ _ _)
theorem minR {prog : Program} {w : World} {A : Around} {E : Value → Shared → Prop} {s : Shared} {h₀ : Heap} {L : Addr} {m : Str → Option Value} {news : List (Addr × Obj)} {x : Nat} {t u : Tok} {Q : Value → Shared → Prop} (hh : A.handled = none) (F : Fr h₀ L s.heap m) (N : News h₀ L s.heap news)
    (h : ∀ k v h' tk, k ≤ 600 → k ≤ x → Fr h₀ L h' m → News h₀ L h' news → Q (.int ((k : Nat) : Int) v) { s with heap := h', toks := tk }) : wpAny (model prog w) A (call (.builtin "min") [.int 600 t, .int (x : Int) u]) Q E s :=
  min_two_N hh F N fun h' tk F' N' => by
    by_cases q : (x : Int) < 600
    · rw [if_pos q]; exact h x _ h' tk (by omega) (Nat.le_refl _) F' N'
    · rw [if_neg q]; exact h 600 _ h' tk (Nat.le_refl _) (by omega) F' N'
end
section
open PySem PySem.W PyProof.Rows PySem.Spec PySem.Calls
/-- a dividend of at most K bits with its divisor, as _law_right takes them -/
structure Oka (K : Nat) (a b : Int) : Prop where
  a0 : 0 ≤ a
  b0 : 0 < b
  na : nOf a ≤ K
  nb : nOf b ≤ 8890
  fit : Fit a b
theorem oka_wide {n : Nat} {o a : Int} (h1 : 4100 ≤ n) (h2 : n ≤ 8199) (ho1 : 2 ^ (n - 1) ≤ o) (ho2 : o < 2 ^ n) (a0 : 0 ≤ a) (al : a < o * 2 ^ n) : Oka 16400 a o := by
  have hb0 : 0 < o := Int.lt_of_lt_of_le (pw (n - 1)) ho1
  have eb : nOf o = n := bits_top (by omega) ho1 ho2
  have ea : nOf a ≤ n + n := bits_lt a0 (by
    rw [pow_add']
    exact Int.lt_trans al (Int.mul_lt_mul_of_pos_right ho2 (pw n)))
  have hk : (nOf a + n - 1) / n ≤ 2 := by
    apply Nat.le_of_lt_succ
    apply Nat.div_lt_of_lt_mul
    omega
  refine ⟨a0, hb0, by omega, by omega, by omega, ?_, ?_⟩
  · rw [eb]; omega
  · rw [eb]; exact Nat.le_trans (Nat.mul_le_mul h2 hk) (by decide)
theorem Okd.oka {b a : Int} (h : Okd b a) (hb : 0 < b) (hn : nOf b ≤ 300) : Oka 600 a b := ⟨h.a0, hb, h.n6, by omega, h.fit⟩
/-- a divisor of at most 300 bits -/
theorem small_div {e1 e2 : Nat} (y : Int) (h1 : e1 < 300) (h2 : e2 < 300) : 0 < 2 ^ e1 + y % 2 ^ e2 ∧ nOf (2 ^ e1 + y % 2 ^ e2) ≤ 300 := by
  have p1 := pw e1
  have p2 := pw e2
  have m1 := Int.emod_nonneg y (show (2 : Int) ^ e2 ≠ 0 by omega)
  have m2 := Int.emod_lt_of_pos y p2
  have le : ∀ e : Nat, e < 300 → (2 : Int) ^ e ≤ 2 ^ 299 := fun e he => by
    have := Nat.pow_le_pow_right (show 0 < 2 by decide) (show e ≤ 299 by omega)
    exact_mod_cast this
  have l1 := le e1 h1
  have l2 := le e2 h2
  have e3 : (2 : Int) ^ 300 = 2 ^ 299 * 2 := Int.pow_succ 2 299
  refine ⟨by omega, bits_lt (by omega) ?_⟩
  rw [e3]
  omega
theorem news_swap {h₀ h : Heap} {L : Addr} {l r : List (Addr × Obj)} (N : News h₀ L h (l ++ r)) : News h₀ L h (r ++ l) := fun p hp => N p (List.mem_append.mpr (List.mem_append.mp hp).symm)
theorem TabF.off {c e : Addr} {oc oe : Obj} {rest : List (Addr × Obj)} (T : TabF c oc e oe rest) : TabF c oc e oe [] := ⟨T.ci, T.cd, T.c30, T.c37, T.e30, T.e37, T.ce, trivial, trivial, trivial, trivial⟩
def keep : List Bool → List (Addr × Obj) → List (Addr × Obj)
  | true :: bs, x :: l => x :: keep bs l
  | false :: bs, _ :: l => keep bs l
  | _, _ => []
theorem keep_mem {p : Addr × Obj} : ∀ (bs : List Bool) (l : List (Addr × Obj)), p ∈ keep bs l → p ∈ l
  | true :: bs, x :: l, h => by
    rcases List.mem_cons.mp (show p ∈ x :: keep bs l from h) with rfl | h
    · exact .head _
    · exact .tail _ (keep_mem bs l h)
  | false :: bs, x :: l, h => .tail _ (keep_mem bs l h)
  | [], _, h => by simp [keep] at h
  | true :: _, [], h => by simp [keep] at h
  | false :: _, [], h => by simp [keep] at h
/-- entries of the ledger that are not asked any more are left out -/
theorem keepN (bs : List Bool) {h₀ h : Heap} {L : Addr} {l : List (Addr × Obj)} (N : News h₀ L h l) : News h₀ L h (keep bs l) := pick N fun _ hp => keep_mem bs l hp
abbrev drop4 (l : List (Addr × Obj)) : List (Addr × Obj) := l.dropLast.dropLast.dropLast.dropLast
abbrev drop2 (l : List (Addr × Obj)) : List (Addr × Obj) := l.dropLast.dropLast
section
variable {w : World} {a b : Int} {W K : Nat} {t1 t2 t3 : Tok} {l : List (Addr × Obj)}
    {dp un : Nat} {gd : Option (List Code)} {A₀ : Around} {s : Shared} {L : Addr} {h₀ base : Heap} {m mg mb : Str → Option Value} {p : Program} {loose : List Str} {mean : ExcName → Option Value} {env : Env} {outer : List Env} {Q E : Value → Shared → Prop}
theorem right_one (H : RightX w tabsE) (B : Below A₀ base outer h₀) (F : Fr h₀ L s.heap m) (X : (hd.heap_39 w.params).In h₀) (N : News h₀ L s.heap l) (T : Top p loose mean mg mb h₀) (hf : env.frame = some L) (hke : env.scope.kind = .function)
    (O : Oka K a b) (hK : K ≤ 20000) (hW : 4 ≤ W) (hW2 : W ≤ 62) (hKW : K ≤ 1000 * W) (hl : drop2 l ++ [(37, tabObj #[]), (30, tabObj #[])] = l) (n30 : AllNe 30 (drop2 l)) (n37 : AllNe 37 (drop2 l)) (hd : dp + 50 < recursionLimit) (hu : un + 500 < cLine)
    (h : ∀ c oc e oe h' tk', TabF c oc e oe [] → AllNe 30 (drop2 l) → AllNe c (drop2 l) → AllNe 37 (drop2 l) → AllNe e (drop2 l) → Fr h₀ L h' m → News h₀ L h' (drop2 l ++ tabsF c oc e oe) → Q (.bool true) { s with heap := h', toks := tk' }) :
    wpAny (model PR w) (arA dp un gd env outer) (call (.ref 68) [.int a t1, .int b t2, .int (W : Int) t3]) Q E s := by
  refine H (rest := drop2 l) O.a0 O.b0 hW hW2 (Nat.le_trans O.na hK) (Nat.le_trans O.na hKW) O.nb O.fit (apart2 (x := (30, tabObj #[])) (y := (37, tabObj #[])) n30 n37) ⟨B, F, X, ?_, T, hf, hke⟩ hd hu ?_
  · rw [← hl] at N
    refine pick N fun q hq => ?_
    rcases List.mem_append.mp hq with hq | hq
    · refine List.mem_append_right _ ?_
      rcases List.mem_cons.mp hq with rfl | hq
      · exact .tail _ (.head _)
      · rw [List.mem_singleton.mp hq]; exact .head _
    · exact List.mem_append_left _ hq
  · intro c oc e oe h' tk' F' N' T'
    exact h c oc e oe h' tk' T'.off T'.n30 T'.nc T'.n37 T'.ne F' (news_swap N')
theorem right_next {c e : Addr} {oc oe : Obj} (H : RightX w (tabsF c oc e oe)) (_ : TabF c oc e oe []) (B : Below A₀ base outer h₀) (F : Fr h₀ L s.heap m) (X : (hd.heap_39 w.params).In h₀) (N : News h₀ L s.heap l) (T : Top p loose mean mg mb h₀) (hf : env.frame = some L) (hke : env.scope.kind = .function)
    (O : Oka K a b) (hK : K ≤ 20000) (hW : 4 ≤ W) (hW2 : W ≤ 62) (hKW : K ≤ 1000 * W) (hl : drop4 l ++ tabsF c oc e oe = l) (n30 : AllNe 30 (drop4 l)) (nc : AllNe c (drop4 l)) (n37 : AllNe 37 (drop4 l)) (ne : AllNe e (drop4 l)) (hd : dp + 50 < recursionLimit) (hu : un + 500 < cLine)
    (h : ∀ c oc e oe h' tk', TabF c oc e oe [] → AllNe 30 (drop4 l) → AllNe c (drop4 l) → AllNe 37 (drop4 l) → AllNe e (drop4 l) → Fr h₀ L h' m → News h₀ L h' (drop4 l ++ tabsF c oc e oe) → Q (.bool true) { s with heap := h', toks := tk' }) :
    wpAny (model PR w) (arA dp un gd env outer) (call (.ref 68) [.int a t1, .int b t2, .int (W : Int) t3]) Q E s := by
  refine H (rest := drop4 l) O.a0 O.b0 hW hW2 (Nat.le_trans O.na hK) (Nat.le_trans O.na hKW) O.nb O.fit (apart4 (x := (30, t30 c)) (y := (c, oc)) (z := (37, t37 e)) (u := (e, oe)) n30 nc n37 ne) ⟨B, F, X, news_swap (Eq.mp (congrArg (News h₀ L s.heap) hl.symm) N), T, hf, hke⟩ hd hu ?_
  intro c oc e oe h' tk' F' N' T'
  exact h c oc e oe h' tk' T'.off T'.n30 T'.nc T'.n37 T'.ne F' (news_swap N')
end
section
variable {prog : Program} {w : World} {A : Around} {E : Value → Shared → Prop} {s : Shared} {a : Int} {t u : Tok} {Q : Value → Shared → Prop} {n : Nat}
theorem mod7 (h : ∀ (e : Nat) v tk, e < 7 → Q (.int (e : Int) v) { s with toks := tk }) : wpAny (model prog w) A (binaryOp .Mod (.int a t) (.int 7 u)) Q E s :=
  modR (by decide) fun v tk => by
    obtain ⟨e, he, hl⟩ := mod_nat a (show (0 : Int) < 7 by decide)
    rw [he]; exact h e v tk (by omega)
theorem mod5 (h : ∀ (e : Nat) v tk, e < 5 → Q (.int (e : Int) v) { s with toks := tk }) : wpAny (model prog w) A (binaryOp .Mod (.int a t) (.int 5 u)) Q E s :=
  modR (by decide) fun v tk => by
    obtain ⟨e, he, hl⟩ := mod_nat a (show (0 : Int) < 5 by decide)
    rw [he]; exact h e v tk (by omega)
theorem mod300 (h : ∀ (e : Nat) v tk, e < 300 → 0 < (2 : Int) ^ e → Q (.int (e : Int) v) { s with toks := tk }) : wpAny (model prog w) A (binaryOp .Mod (.int a t) (.int 300 u)) Q E s :=
  modR (by decide) fun v tk => by
    obtain ⟨e, he, hl⟩ := mod_nat a (show (0 : Int) < 300 by decide)
    rw [he]; exact h e v tk (by omega) (pw e)
theorem add56 (h : ∀ v tk, Q (.int ((56 + n : Nat) : Int) v) { s with toks := tk }) : wpAny (model prog w) A (binaryOp .Add (.int 56 t) (.int (n : Int) u)) Q E s :=
  addR fun v tk => by rw [show (56 : Int) + (n : Int) = ((56 + n : Nat) : Int) by omega]; exact h v tk
theorem add4 (h : ∀ v tk, Q (.int ((4 + n : Nat) : Int) v) { s with toks := tk }) : wpAny (model prog w) A (binaryOp .Add (.int 4 t) (.int (n : Int) u)) Q E s :=
  addR fun v tk => by rw [show (4 : Int) + (n : Int) = ((4 + n : Nat) : Int) by omega]; exact h v tk
end
end
section
open PySem PySem.W PyProof.Rows PySem.Spec PySem.Calls
local macro_rules | `(tactic| walk_at "binaryOp Add int int") => `(tactic| first | (with_reducible refine add1R ?_; intro v' tk'; (try dsimp only)) | (with_reducible refine addNR ?_; intro v' tk'; (try dsimp only)) | (with_reducible refine addR ?_; intro v' tk'; (try dsimp only)))
local macro_rules | `(tactic| walk_at "binaryOp Sub int int") => `(tactic| first | (with_reducible refine sub1R (by omega) ?_; intro v' tk'; (try dsimp only)) | (with_reducible refine subNR (by omega) ?_; intro v' tk'; (try dsimp only)) | (with_reducible refine subR ?_; intro v' tk'; (try dsimp only)))
local macro_rules | `(tactic| walk_at "inplaceOp Add int int") => `(tactic| first | (with_reducible refine iadd1R ?_; intro v' tk'; (try dsimp only)) | (with_reducible refine iaddR ?_; intro v' tk'; (try dsimp only)))
local macro_rules | `(tactic| walk_at "inplaceOp Sub int int") => `(tactic| (with_reducible refine isubR ?_; intro v' tk'; (try dsimp only)))
local macro_rules | `(tactic| walk_at "unaryOp USub int") => `(tactic| (with_reducible refine negR ?_; intro v' tk'; (try dsimp only)))
local macro_rules | `(tactic| walk_at "unaryOp Invert int") => `(tactic| (with_reducible refine notR ?_; intro v' tk'; (try dsimp only)))
local macro_rules | `(tactic| walk_at "binaryOp RShift int int") => `(tactic| first | (with_reducible refine rsh1n ?_; intro v' tk'; (try dsimp only)) | (with_reducible refine rsh1 ?_; intro v' tk'; (try dsimp only)) | (with_reducible refine rsh ?_; intro v' tk'; (try dsimp only)) | (with_reducible refine stop ?_))
local macro_rules | `(tactic| walk_at "inplaceOp RShift int int") => `(tactic| first | (with_reducible refine irsh1 ?_; intro v' tk'; (try dsimp only)) | (with_reducible refine stop ?_))
local macro_rules | `(tactic| walk_at "binaryOp LShift int int") => `(tactic| first | (with_reducible refine lshOne (by omega) ?_; intro v' tk'; (try dsimp only)) | (with_reducible refine lsh (by assumption) (by omega) ?_; intro v' tk'; (try dsimp only)) | (with_reducible refine lsh1 (by assumption) (by omega) ?_; intro v' tk'; (try dsimp only)) | (with_reducible refine stop ?_))
local macro_rules | `(tactic| walk_at "inplaceOp LShift int int") => `(tactic| first | (with_reducible refine ilsh1 (by assumption) (by omega) ?_; intro v' tk'; (try dsimp only)) | (with_reducible refine stop ?_))
local macro_rules | `(tactic| walk_at "binaryOp Mult int int") => `(tactic| first | (with_reducible refine mulNR (by omega) ?_; intro v' tk'; (try dsimp only)) | (with_reducible refine mulR (by assumption) (by assumption) (by omega) ?_; intro v' tk'; (try dsimp only)) | (with_reducible refine stop ?_))
local macro_rules | `(tactic| walk_at "binaryOp BitAnd int int") => `(tactic| first | (with_reducible refine and1 ?_; intro v' tk'; (try dsimp only)) | (with_reducible refine andMask ?_; intro v' tk'; (try dsimp only)) | (with_reducible refine stop ?_))
local macro_rules | `(tactic| walk_at "binaryOp BitOr int int") => `(tactic| first | (with_reducible refine orLow (by assumption) (by assumption) (by assumption) ?_; intro v' tk'; (try dsimp only)) | (with_reducible refine stop ?_))
local macro_rules | `(tactic| walk_at "binaryOp FloorDiv int int") => `(tactic| first | (with_reducible refine floorNR (by omega) (by omega) ?_; intro v' tk'; (try dsimp only)) | (with_reducible refine floorR (by assumption) (by assumption) ?_; intro v' tk'; (try dsimp only)) | (with_reducible refine stop ?_))
local macro_rules | `(tactic| walk_at "binaryOp Mod int int") => `(tactic| first | (with_reducible refine modR (by assumption) ?_; intro v' tk'; (try dsimp only)) | (with_reducible refine stop ?_))
local macro_rules | `(tactic| walk_at "call builtin:int.bit_length") => `(tactic| (with_reducible refine bitlenR ?_; intro v' tk'; (try dsimp only)))
local macro_rules | `(tactic| walk_at "call builtin:divmod") => `(tactic| (with_reducible refine stop ?_))
local macro_rules | `(tactic| walk_at "exec While Compare") => `(tactic| (with_reducible refine stop ?_))
local macro_rules | `(tactic| walk_at "binaryOp Mult ref int") => `(tactic| (with_reducible refine stop ?_))
local macro_rules | `(tactic| walk_at "binaryOp BitXor int int") => `(tactic| first | (with_reducible refine xorR (by assumption) ?_; intro v' tk'; (try dsimp only)) | (with_reducible refine stop ?_))
local macro_rules | `(tactic| walk_at "call builtin:list.append") => `(tactic| (with_reducible refine stop ?_))
local macro_rules | `(tactic| walk_at "call builtin:list.reverse") => `(tactic| (with_reducible refine stop ?_))
local macro_rules | `(tactic| k_ne) => `(tactic| first | (refine neN ?_; refine' AllNe.get ?ha ?hm; (case ha => assumption); (case hm => k_mem)) | (refine neN ?_; refine' Ne.symm (AllNe.get ?ha ?hm); (case ha => assumption); (case hm => k_mem)) | fail "k_ne")
local macro_rules | `(tactic| walk_at "call builtin:max") => `(tactic| (with_reducible refine stop ?_))
local macro_rules | `(tactic| walk_at "InvEndN") => `(tactic| (with_reducible refine stop ?_))
local macro_rules | `(tactic| walk_at "compareOp NotEq ref ref") => `(tactic| (with_reducible refine stop ?_))
local macro_rules | `(tactic| walk_at "compareOp Eq ref ref") => `(tactic| (with_reducible refine stop ?_))
local macro_rules | `(tactic| walk_at "call builtin:list.extend") => `(tactic| (with_reducible refine stop ?_))
section
open PySem PySem.W PyProof.Rows PySem.Spec PySem.Calls
local macro_rules | `(tactic| walk_at "exec Raise some none") => `(tactic| (k_here; (with_reducible rename Fr _ _ _ _ => kF); k_dflt (refine' Raise_classB rfl excClass_ZeroDivisionError ?hself ?hx ?_; (case hself => (rw [isSubtype_type]; kernel_rfl)); (case hx => (refine' name_B kF ?k1 ?k2 ?k3 ?k4 ?k5 ?_; (case k1 => k_asm); (case k2 => k_asm); (case k3 => k_is); (case k4 => boot_by_name); (case k5 => decide); exact ⟨rfl, rfl⟩)); k_whole; intro hz ez NZ; (try dsimp only))))
section
variable {prog : Program} {w : World} {A A₀ : Around} {s : Shared} {K : Frag} {L : Addr} {h₀ base : Heap} {m mg mb : Str → Option Value} {news : List (Addr × Obj)} {p : Program} {loose : List Str} {mean : ExcName → Option Value}
/-- a def that may catch is entered from the law's own frame, whatever cells that frame has -/
theorem code_catch {env : Env} {R : Result → Shared → Prop} {name qual : Str} {params : Arguments} {body : List Stmt} {scope : Scope} {dV kV doc pm cdv ct oc : Value} {an od : Option Addr} {osl : Array (Option Value)} {f : Addr} {args : Args} {binds : List (Str × Value)}
    (B : Below A₀ base [] h₀) (F : Fr h₀ L s.heap m) (X₀ : K.In h₀) (N : News h₀ L s.heap news) (T : Top p loose mean mg mb h₀) (hA : A.frames = some [env]) (hf : env.frame = some L) (hke : env.scope.kind = .function)
    (ho : K.lookup f = some ⟨oc, od, .func (fnOf name qual params body scope dV kV doc pm an cdv ct), osl⟩) (hcd : codeIn K cdv qual = true) (hroom : A.depth < recursionLimit)
    (hbind : BindsTo s (fnOf name qual params body scope dV kV doc pm an cdv ct) args binds) (hloc : ∀ y ∈ binds, scope.names.lookup y.1 = some .local)
    (h : ∀ g L' h₁, Fr h₀ L g m → Fr g L' h₁ (fun y => binds.reverse.lookup y) → News g L' h₁ news → Below A base [env] g → K.In g → Top p loose mean mg mb g → KtsDicts ([env].filterMap (·.frame)) g →
      wpAny (model prog w) (A.deeper (envOf qual scope L' f cdv)) (execs body (envOf qual scope L' f cdv))
        (fun fl s' => LeaveS0 ([env].filterMap (·.frame)) h₀ L m g R (match fl with | .ret v => v | _ => .none) s')
        (fun e s' => wpAny (model prog w) (A.deeper (envOf qual scope L' f cdv)) (leaving (envOf qual scope L' f cdv) e) (fun _ s'' => R (.error e) s'') (fun e' s'' => R (.error e') s'') s')
        { s with heap := h₁, toks := s.toks + binds.length })
    (hco : scope.isCoroutine = false) (hgen : scope.isGenerator = false) (hk : scope.kind = .function)
    (hcell : ∀ x ∈ scope.names, x.2 ≠ .cell) : codeAny (model prog w) A (.call (.ref f) args) R s := by
  obtain ⟨FG, BG, st, _⟩ := groundX (R := R) B F N hA hf hke
  have X := X₀.keeps F.keep
  have only : ∀ b, b ∈ [env].filterMap (·.frame) → b = L := fun b hb => by simpa [hf] using hb
  obtain ⟨oL, es, ep, hLg, hLd, hLk, hLf⟩ := FG.ns
  refine codeAny_call_def (fd := fnOf name qual params body scope dV kV doc pm an cdv ct) (body := body) (binds := binds) hroom (X _ _ ho) rfl (T.nolimit.keeps F.keep) (codeRec_of X hcd) rfl hbind hcell hloc (fun h₁ hns hk₁ => ?_) hco hgen hk
  refine wpAny_mono (h _ s.heap.objs.size h₁ FG ⟨hns, fun b o e => hk₁ b o (of_hideAll _ e), Nat.le_of_eq (hideAll_size _ _)⟩
    (fun p hp => ⟨hk₁ _ _ (N p hp).1, Nat.ne_of_lt (Heap.lt_size (N p hp).1), hideAll_none _ (List.mem_map_of_mem hp)⟩) BG (X₀.keeps st) (T.keeps st) (fun b hb => only b hb ▸ ⟨oL, es, ep, hLg, hLd⟩)) (fun fl s' hl => ?_) fun _ _ y => y
  obtain ⟨g', L', m', news', TT, F', N', k⟩ := hl
  obtain ⟨sl, hs⟩ := TT.up hLg
  have nL₀ : h₀.get? L = none := kts_self F
  have Fx : Fr h₀ L s'.heap m := ⟨⟨_, es, ep, F'.keep _ _ hs, hLd, hLk, hLf⟩, fun b o e => F'.keep b o (TT.other b o (st b o e) fun q => by rw [only b q, nL₀] at e; cases e), F.above⟩
  refine k Fx fun q hq => ⟨(N' q hq).1, fun e => ?_, ?_⟩
  · have z := (N' q hq).2.2
    rw [e, hs] at z
    cases z
  · cases y : h₀.get? q.1 with
    | none => rfl
    | some o =>
      obtain ⟨sl', z⟩ := TT.up (st _ _ y)
      rw [(N' q hq).2.2] at z
      cases z
end
/-- _law_refused at a, called from the law's own frame -/
def Refs (w : World) : Prop :=
  ∀ {a : Int} {t1 : Tok}
    {dp un : Nat} {gd : Option (List Code)} {A₀ : Around} {s : Shared} {L : Addr} {h₀ base : Heap} {m mg mb : Str → Option Value} {rest : List (Addr × Obj)} {p : Program} {loose : List Str} {mean : ExcName → Option Value} {env : Env} {Q E : Value → Shared → Prop},
    Cx w A₀ s L h₀ base m mg mb rest p loose mean env [] → (hd.heap_39 w.params).In base → Top p loose mean mg mb base → dp + 5 < recursionLimit → un + 100 < cLine →
    (∀ h' tk', Fr h₀ L h' m → News h₀ L h' rest → Q (.bool true) { s with heap := h', toks := tk' }) →
    wpAny (model PR w) (arA dp un gd env []) (call (.ref 75) [.int a t1]) Q E s
set_option maxRecDepth 100000 in
set_option maxHeartbeats 1000000 in
theorem wf {w : World} : Refs w := by
  intro a t1 dp un gd A₀ s L h₀ base m mg mb rest p loose mean env Q E C XB TB hroom hun hret
  obtain ⟨B, F, X, N, T, hf, hke⟩ := C
  have hlim : recursionLimit = 1000 := rfl
  have hcl : cLine = 9900 := rfl
  w_on
  refine wpAny_call ?_
  k_dflt (refine' code_catch (binds := [(Str.ofString "a", .int a t1)]) B F X N T rfl hf hke ?k6 ?k7 ?k8 ?k9 ?kB ?_ ?c2 ?c3 ?c4 ?c5; (case k6 => k_is); (case k7 => k_is); (case k8 => (show dp < _; omega)); (case k9 => exact BindsTo.of_eq rfl); (case c5 => decide); (case kB => exact locs rfl); (case c2 => exact rfl); (case c3 => exact rfl); (case c4 => exact rfl); k_whole; intro g' L' h' FG' F' N' B' X' T' D'; (try dsimp only [List.length_cons, List.length_nil, List.reverse_cons, List.reverse_nil, List.nil_append, List.cons_append]); (try k_fold))
  k_steps
  (rename Fr _ _ _ _ => F1); (rename News _ _ _ _ => N1)
  k_dflt (refine wpAny_call ?_; refine' code_def B' F1 X' N1 T' rfl rfl rfl ?k6 ?k7 ?k8 ?k9 ?kB ?_ ?c2 ?c3 ?c4 ?c5; (case k6 => k_is); (case k7 => k_is); (case k8 => (show dp + 1 < _; omega)); (case k9 => exact BindsTo.of_eq rfl); (case c5 => decide); (case kB => exact locs rfl); (case c2 => exact rfl); (case c3 => exact rfl); (case c4 => exact rfl); k_whole; intro g2 L2 h2 FG2 F2 N2 B2 X2 T2; (try dsimp only [List.length_cons, List.length_nil, List.reverse_cons, List.reverse_nil, List.nil_append, List.cons_append]); (try k_fold))
  k_steps
  exact hret _ _ (by assumption) (pick (by assumption) (by kcj_all))
end
section
local macro_rules | `(tactic| walk_at "call ref") => `(tactic| (with_reducible refine stop ?_))
local macro_rules | `(tactic| walk_at "LeaveK") => `(tactic| (with_reducible refine stop ?_))
local macro_rules | `(tactic| walk_at "pyIter ref") => `(tactic| (with_reducible refine stop ?_))
local macro_rules | `(tactic| walk_at "UnrEnd") => `(tactic| (with_reducible refine stop ?_))
section
open PySem PySem.W PyProof.Rows PySem.Spec PySem.Calls
/-- what is left of the body of the i-th def behind its first statement -/
def rest1 (i : Nat) : Option (List Stmt × Scope) :=
  match PR.main.body[i]? with
  | some (.FunctionDef _ _ (_ :: r) _ _ _ sc _ _ _) => some (r, sc)
  | _ => none
/-- what holds ahead of each turn of the correction -/
def J3 (A b : Int) (tb : Tok) (n : Nat) (m : Str → Option Value) (nx : List (Addr × Obj)) : Prop :=
  ∃ q r v v', (∀ p ∈ [(Str.ofString "r", Value.int r v), (Str.ofString "q", Value.int q v'), (Str.ofString "b", Value.int b tb)], m p.1 = some p.2) ∧ nx = [] ∧ q * b + r = A ∧ r < b ∧ (-r).toNat = n
set_option maxRecDepth 100000 in
set_option maxHeartbeats 1000000 in
/-- _div3n2n behind its guess -/
theorem w3r {w : World} {body : List Stmt} {sc : Scope} (hast : rest1 3 = some (body, sc)) {a3 b b2 q0 r0 A : Int} {n : Nat} {ta tb tb2 tn tq tr : Tok}
    {dp un : Nat} {gd : Option (List Code)} {s : Shared} {L : Addr} {h₀ base : Heap} {m mg mb : Str → Option Value} {p : Program} {loose : List Str} {mean : ExcName → Option Value} {env : Env} {outer : List Env} {Q : Flow → Shared → Prop} {E : Value → Shared → Prop}
    (B : Below (arA dp un gd env outer) base (env :: outer) h₀) (F : Fr h₀ L s.heap m) (X : (hd.heap_39 w.params).In h₀) (T : Top p loose mean mg mb h₀)
    (hn2 : n ≤ 8900) (h30 : 0 ≤ a3) (h3 : a3 < 2 ^ n) (bb2 : Builtin.Int.intBits b2 ≤ 8900) (hb0 : 0 < b) (gr : 0 ≤ r0) (gbr : Builtin.Int.intBits r0 ≤ 17800) (gbq : Builtin.Int.intBits q0 ≤ 8901) (glt : r0 * 2 ^ n + a3 - q0 * b2 < b) (inv : q0 * b + (r0 * 2 ^ n + a3 - q0 * b2) = A)
    (hm : ∀ p ∈ [(Str.ofString "q", Value.int q0 tq), (Str.ofString "r", Value.int r0 tr), (Str.ofString "a3", Value.int a3 ta), (Str.ofString "b", Value.int b tb), (Str.ofString "b2", Value.int b2 tb2), (Str.ofString "n", Value.int (n : Int) tn)], m p.1 = some p.2)
    (hret : ∀ t u v h' tk' m', Fr h₀ L h' m' → News h₀ L h' [(t, pairO (A / b) (A % b) u v)] → Q (.ret (.ref t)) { s with heap := h', toks := tk' }) :
    wpAny (model PR w) ((arA dp un gd env outer).deeper (envOf (Str.ofString "_div3n2n") sc L 28 (.ref 27))) (execs body (envOf (Str.ofString "_div3n2n") sc L 28 (.ref 27))) Q E s := by
  conv at hast => lhs; whnf
  cases hast
  refine wpAny_mono (E := fun _ _ => False) ?_ (fun _ _ q => q) fun _ _ f => f.elim
  have N : News h₀ L s.heap [] := fun p hp => nomatch hp
  rw [← kn_eq hm] at F
  clear hm
  w_on
  k_steps
  refine Stop.mk ?_
  (rename Fr _ _ _ _ => F1); (rename News _ _ _ _ => N1)
  refine While_inv2 (J3 A b tb) (n₀ := _) (news := []) F1 (fun p hp => nomatch hp) ⟨_, _, _, _, List.forall_mem_cons.mpr ⟨rfl, List.forall_mem_cons.mpr ⟨rfl, List.forall_mem_cons.mpr ⟨rfl, List.forall_mem_nil _⟩⟩⟩, rfl, inv, glt, rfl⟩ ?_
  clear F1 N1
  rintro n1 m1 nx1 h1 tk1 F1 N1 ⟨q, r, v, v', hm1, rfl, hinv, hlt, hmeas⟩
  rw [← kn_eq hm1] at F1
  k_steps
  · (rename Fr _ _ _ _ => F2); (rename News _ _ _ _ => N2)
    exact ⟨_, _, _, _, _, rfl, F2, N2, (by omega : (-(r + b)).toNat < n1), _, _, _, _, List.forall_mem_cons.mpr ⟨rfl, List.forall_mem_cons.mpr ⟨rfl, List.forall_mem_cons.mpr ⟨rfl, List.forall_mem_nil _⟩⟩⟩, rfl, (by rw [Int.sub_mul]; omega), by omega, rfl⟩
  · obtain ⟨e1, e2⟩ := end_unique hb0 hinv (by omega) hlt
    subst e1 e2
    (rename Fr _ _ _ _ => F2); (rename News _ _ _ _ => N2)
    exact Stop.mk (hret _ _ _ _ _ _ F2 (news_head N2))
end
section
open PySem PySem.W PyProof.Rows PySem.Spec PySem.Calls
local macro_rules | `(tactic| walk_at "execs cons") => `(tactic| ((with_reducible show wpAny _ _ (execs (Stmt.Assign _ _ _ :: Stmt.While _ _ _ _ :: _) _) _ _ _); with_reducible refine stop ?_))
set_option maxRecDepth 100000 in
set_option maxHeartbeats 1000000 in
theorem w3 {w : World} {k : Nat} (H2 : Ok2 w k) : Ok3 w k := by
  intro a12 a3 b b1 b2 n t1 t2 t3 t4 t5 t6 hn1 hnk hn2 ha0 hab h30 h3 hb hb20 hb2 hb1l hb1u
  intro dp un gd A₀ s L h₀ base m mg mb rest p loose mean env outer Q E C hroom hun hret
  obtain ⟨B, F, X, N, T, hf, hke⟩ := C
  have hlim : recursionLimit = 1000 := rfl
  have hcl : cLine = 9900 := rfl
  w_on
  refine wpAny_call ?_
  k_dflt (refine' code_sub (sub := []) (rest := rest) (binds := [(Str.ofString "a12", .int a12 t1), (Str.ofString "a3", .int a3 t2), (Str.ofString "b", .int b t3), (Str.ofString "b1", .int b1 t4), (Str.ofString "b2", .int b2 t5), (Str.ofString "n", .int (n : Int) t6)]) ?k1 ?k2 ?k3 ?k4 ?kap ?k5 ?kA ?kF ?kK ?k6 ?k7 ?k8 ?k9 ?kB ?_ ?c2 ?c3 ?c4 ?c5; (case kA => exact rfl); (case kF => exact hf); (case kK => exact hke); (case k1 => exact B); (case k2 => exact F); (case k3 => exact X); (case k4 => exact N); (case k5 => exact T); (case kap => (intro _ _ h; exact nomatch h)); (case k6 => k_is); (case k7 => k_is); (case k8 => (show dp < _; omega)); (case k9 => exact BindsTo.of_eq rfl); (case c5 => decide); (case kB => exact locs rfl); (case c2 => exact rfl); (case c3 => exact rfl); (case c4 => exact rfl); k_whole; intro g' L' h' FG' F' N' B' X' T' hsub hrest; (try dsimp only [List.length_cons, List.length_nil, List.reverse_cons, List.reverse_nil, List.nil_append, List.cons_append]); (try k_fold))
  clear hsub
  have hp := pw n
  have bb1 : Builtin.Int.intBits b1 ≤ 8900 := Nat.le_trans (bits_of_lt (by have := pw (n-1); omega) hb1u) hn2
  have bb2 : Builtin.Int.intBits b2 ≤ 8900 := Nat.le_trans (bits_of_lt hb20 hb2) hn2
  have hb0 : 0 < b := by omega
  k_steps
  · have hc : a12 / 2 ^ n = b1 := by assumption
    have G := guess1 hn2 ha0 hab h30 h3 hb hb20 hb2 hb1l hb1u hc
    have inv := G.inv hb
    obtain ⟨gw, gr, gbr, gbq, glt, gq⟩ := G
    (rename Fr _ _ _ _ => F1)
    refine Stop.mk (w3r rfl B' F1 X' T' hn2 h30 h3 bb2 hb0 gr gbr gbq glt inv (List.forall_mem_cons.mpr ⟨rfl, List.forall_mem_cons.mpr ⟨rfl, List.forall_mem_cons.mpr ⟨rfl, List.forall_mem_cons.mpr ⟨rfl, List.forall_mem_cons.mpr ⟨rfl, List.forall_mem_cons.mpr ⟨rfl, List.forall_mem_nil _⟩⟩⟩⟩⟩⟩) ?_)
    intro t u v h1 tk1 m1 F2 N2
    exact leaveK_ F2 N2 fun kF kN => hret _ _ _ _ _ kF (hrest.news F2 (news_head kN)) (hrest.ne N2 (.head _))
  · have hc : ¬ a12 / 2 ^ n = b1 := by assumption
    obtain ⟨ha, G⟩ := guess2 hn1 hn2 ha0 hab h30 h3 hb hb20 hb2 hb1l hb1u hc
    have inv := G.inv hb
    obtain ⟨gw, gr, gbr, gbq, glt, gq⟩ := G
    (rename Fr _ _ _ _ => F1); (rename News _ _ _ _ => N1)
    refine Stop.mk (H2 hn1 hnk hn2 hb1l hb1u ha0 ha ⟨B', F1, X', N1, T', rfl, rfl⟩ (by show dp + 1 + _ < _; omega) (by show un + 3 + _ < _; omega) ?_)
    clear F1 N1
    intro t u v h1 tk F1 N1 l1
    dsimp only
    k_steps
    (rename Fr _ _ _ _ => F1)
    refine Stop.mk (w3r rfl B' F1 X' T' hn2 h30 h3 bb2 hb0 gr gbr gbq glt inv (List.forall_mem_cons.mpr ⟨rfl, List.forall_mem_cons.mpr ⟨rfl, List.forall_mem_cons.mpr ⟨rfl, List.forall_mem_cons.mpr ⟨rfl, List.forall_mem_cons.mpr ⟨rfl, List.forall_mem_cons.mpr ⟨rfl, List.forall_mem_nil _⟩⟩⟩⟩⟩⟩) ?_)
    intro t u v h1 tk1 m1 F2 N2
    exact leaveK_ F2 N2 fun kF kN => hret _ _ _ _ _ kF (hrest.news F2 (news_head kN)) (hrest.ne N2 (.head _))
end
section
open PySem PySem.W PyProof.Rows PySem.Spec PySem.Calls
/-- what is left of the body of the i-th def behind its first three statements -/
def rest3 (i : Nat) : Option (List Stmt × Scope) :=
  match PR.main.body[i]? with
  | some (.FunctionDef _ _ (_ :: _ :: _ :: r) _ _ _ sc _ _ _) => some (r, sc)
  | _ => none
set_option maxRecDepth 100000 in
set_option maxHeartbeats 1000000 in
/-- _div2n1n behind its padding -/
theorem w2r {w : World} {j : Nat} (H3 : Ok3 w j) {body : List Stmt} {sc : Scope} (hast : rest3 2 = some (body, sc)) {a b : Int} {n pad : Nat} {ta tb tn tp : Tok}
    {dp un : Nat} {gd : Option (List Code)} {s : Shared} {L : Addr} {h₀ base : Heap} {m mg mb : Str → Option Value} {p : Program} {loose : List Str} {mean : ExcName → Option Value} {env : Env} {outer : List Env} {Q : Flow → Shared → Prop} {E : Value → Shared → Prop}
    (B : Below (arA dp un gd env outer) base (env :: outer) h₀) (F : Fr h₀ L s.heap m) (X : (hd.heap_39 w.params).In h₀) (N : News h₀ L s.heap []) (T : Top p loose mean mg mb h₀)
    (S : Split a b n (n / 2)) (h1 : 1 ≤ n / 2) (h2 : n / 2 ≤ 4000 * 2 ^ j) (h3 : n / 2 ≤ 8900) (hroom : dp + 1 + (2 * j + 2) < recursionLimit) (hun : un + 3 + 8 * (2 * j + 2) < cLine)
    (hm : ∀ p ∈ [(Str.ofString "a", Value.int a ta), (Str.ofString "b", Value.int b tb), (Str.ofString "n", Value.int (n : Int) tn), (Str.ofString "pad", Value.int (pad : Int) tp)], m p.1 = some p.2)
    (hret : ∀ t u v h' tk' m', Fr h₀ L h' m' → News h₀ L h' [(t, pairO (a / b) (if pad = 0 then a % b else a % b / 2) u v)] → Q (.ret (.ref t)) { s with heap := h', toks := tk' }) :
    wpAny (model PR w) ((arA dp un gd env outer).deeper (envOf (Str.ofString "_div2n1n") sc L 21 (.ref 20))) (execs body (envOf (Str.ofString "_div2n1n") sc L 21 (.ref 20))) Q E s := by
  conv at hast => lhs; whnf
  cases hast
  rw [← kn_eq hm] at F
  clear hm
  obtain ⟨s1, s2, s3, s4, s5, s6, s7, s8, s9, s10, s11, s12, s13, s14, s15, s16, s17, s18, s19⟩ := S
  w_on
  k_steps
  (rename Fr _ _ _ _ => F1); (rename News _ _ _ _ => N1)
  generalize b / 2 ^ (n / 2) = b1 at F1 s5 s8 s9 ⊢
  generalize b % 2 ^ (n / 2) = b2 at F1 s5 s6 s7 ⊢
  generalize a / 2 ^ n = hi at s1 s2 s10 s11 s14 s15 s16 s17 s18 s19 ⊢
  generalize a / 2 ^ (n / 2) % 2 ^ (n / 2) = mi at s3 s4 s10 s11 s14 s15 s16 s17 s18 s19 ⊢
  refine Stop.mk (H3 h1 h2 h3 s1 s2 s3 s4 s5 s6 s7 s8 s9 ⟨B, F1, X, N1, T, rfl, rfl⟩ hroom hun ?_)
  clear F1 N1
  intro t u v h1' tk F1 N1 l1
  generalize (hi * 2 ^ (n / 2) + mi) / b = q1 at N1 s14 s17 s18
  generalize (hi * 2 ^ (n / 2) + mi) % b = r1 at N1 s10 s11 s15 s16 s18 s19
  dsimp only
  k_steps
  (rename Fr _ _ _ _ => F1); (rename News _ _ _ _ => N1)
  refine Stop.mk (H3 h1 h2 h3 s10 s11 s12 s13 s5 s6 s7 s8 s9 ⟨B, F1, X, N1, T, rfl, rfl⟩ hroom hun ?_)
  clear F1 N1
  intro t u v h1' tk F1 N1 l1
  generalize (r1 * 2 ^ (n / 2) + a % 2 ^ (n / 2)) / b = q2 at N1 s15 s16 s18
  rw [s19] at N1
  dsimp only
  by_cases hpad : pad = 0
  · k_steps
    · exfalso; omega
    · (rename Fr _ _ _ _ => F2); (rename News _ _ _ _ => N2)
      rw [s18] at N2
      exact Stop.mk (hret _ _ _ _ _ _ F2 (by rw [if_pos hpad]; exact news_head N2))
  · k_steps
    · (rename Fr _ _ _ _ => F2); (rename News _ _ _ _ => N2)
      rw [s18] at N2
      exact Stop.mk (hret _ _ _ _ _ _ F2 (by rw [if_neg hpad]; exact news_head N2))
    · exfalso; omega
end
section
open PySem PySem.W PyProof.Rows PySem.Spec PySem.Calls
local macro_rules | `(tactic| walk_at "execs cons") => `(tactic| ((with_reducible show wpAny _ _ (execs (Stmt.Assign _ _ _ :: Stmt.Assign _ _ _ :: Stmt.Assign _ _ _ :: Stmt.Assign _ _ _ :: Stmt.Assign _ _ _ :: _) _) _ _ _); with_reducible refine stop ?_))
set_option maxRecDepth 100000 in
set_option maxHeartbeats 1000000 in
theorem w2 {w : World} {k : Nat} (H3 : ∀ j, k = j + 1 → Ok3 w j) : Ok2 w k := by
  intro a b n t1 t2 t3 hn1 hnk hn2 hbl hbu ha0 hab
  intro dp un gd A₀ s L h₀ base m mg mb rest p loose mean env outer Q E C hroom hun hret
  obtain ⟨B, F, X, N, T, hf, hke⟩ := C
  have hlim : recursionLimit = 1000 := rfl
  have hcl : cLine = 9900 := rfl
  have hp := pw n
  have hp1 := pw (n - 1)
  have b0 : 0 < b := by omega
  have aN : a < 2 ^ (n + n) := by
    have := Int.mul_lt_mul_of_pos_right hbu hp
    rw [pow_add']
    omega
  have bbn : Builtin.Int.intBits b ≤ 8900 := Nat.le_trans (bits_of_lt (Int.le_of_lt b0) hbu) hn2
  have ban' : Builtin.Int.intBits a ≤ n + n := bits_of_lt ha0 aN
  have ban : Builtin.Int.intBits a ≤ 17800 := by omega
  w_on
  refine wpAny_call ?_
  k_dflt (refine' code_sub (sub := []) (rest := rest) (binds := [(Str.ofString "a", .int a t1), (Str.ofString "b", .int b t2), (Str.ofString "n", .int (n : Int) t3)]) ?k1 ?k2 ?k3 ?k4 ?kap ?k5 ?kA ?kF ?kK ?k6 ?k7 ?k8 ?k9 ?kB ?_ ?c2 ?c3 ?c4 ?c5; (case kA => exact rfl); (case kF => exact hf); (case kK => exact hke); (case k1 => exact B); (case k2 => exact F); (case k3 => exact X); (case k4 => exact N); (case k5 => exact T); (case kap => (intro _ _ h; exact nomatch h)); (case k6 => k_is); (case k7 => k_is); (case k8 => (show dp < _; omega)); (case k9 => exact BindsTo.of_eq rfl); (case c5 => decide); (case kB => exact locs rfl); (case c2 => exact rfl); (case c3 => exact rfl); (case c4 => exact rfl); k_whole; intro g' L' h' FG' F' N' B' X' T' hsub hrest; (try dsimp only [List.length_cons, List.length_nil, List.reverse_cons, List.reverse_nil, List.nil_append, List.cons_append]); (try k_fold))
  clear hsub
  k_steps
  · (rename Fr _ _ _ _ => F1); (rename News _ _ _ _ => N1)
    refine Stop.mk (divmodR F1 N1 b0 (by omega) ?_)
    clear F1 N1
    intro d v v' h1 tk F1 N1 l1
    dsimp only
    k_steps
    (rename Fr _ _ _ _ => F2); (rename News _ _ _ _ => N2)
    exact Stop.mk (leaveK_ F2 N2 fun kF kN => hret _ _ _ _ _ kF (hrest.news F2 (news_head kN)) (hrest.ne N2 (.head _)))
  · obtain ⟨j, rfl⟩ : ∃ j, k = j + 1 := ⟨k - 1, by
      have : k ≠ 0 := by rintro rfl; omega
      omega⟩
    have hk : 4000 * 2 ^ (j + 1) = 2 * (4000 * 2 ^ j) := by rw [Nat.pow_succ]; omega
    have S : Split (a * 2) (b * 2) (n + 1) ((n + 1) / 2) := by
      have e := pow_split hn1
      have e' : (2 : Int) ^ (n + 1) = 2 * 2 ^ n := by rw [Int.pow_succ]; omega
      refine split_of (by omega) (by omega) (by omega) (by rw [Nat.add_sub_cancel]; omega) (by omega) (by omega) ?_
      have : b * 2 * 2 ^ (n + 1) = 4 * (b * 2 ^ n) := by rw [e', Int.mul_assoc, ← Int.mul_assoc 2 2, Int.mul_comm b, Int.mul_assoc, Int.mul_comm _ b]; rfl
      omega
    (rename Fr _ _ _ _ => F1); (rename News _ _ _ _ => N1)
    refine Stop.mk (w2r (H3 j rfl) rfl B' F1 X' N1 T' S (by omega) (by omega) (by omega) (by omega) (by omega) (List.forall_mem_cons.mpr ⟨rfl, List.forall_mem_cons.mpr ⟨rfl, List.forall_mem_cons.mpr ⟨rfl, List.forall_mem_cons.mpr ⟨rfl, List.forall_mem_nil _⟩⟩⟩⟩) ?_)
    clear F1 N1
    intro t u v h1 tk1 m1 F2 N2
    rw [if_neg (by omega), twice_div a b b0, twice_mod] at N2
    exact leaveK_ F2 N2 fun kF kN => hret _ _ _ _ _ kF (hrest.news F2 (news_head kN)) (hrest.ne N2 (.head _))
  · obtain ⟨j, rfl⟩ : ∃ j, k = j + 1 := ⟨k - 1, by
      have : k ≠ 0 := by rintro rfl; omega
      omega⟩
    have hk : 4000 * 2 ^ (j + 1) = 2 * (4000 * 2 ^ j) := by rw [Nat.pow_succ]; omega
    have S : Split a b n (n / 2) := split_of (by omega) (by omega) (by omega) hbl hbu ha0 hab
    (rename Fr _ _ _ _ => F1); (rename News _ _ _ _ => N1)
    refine Stop.mk (w2r (H3 j rfl) rfl B' F1 X' N1 T' S (by omega) (by omega) (by omega) (by omega) (by omega) (List.forall_mem_cons.mpr ⟨rfl, List.forall_mem_cons.mpr ⟨rfl, List.forall_mem_cons.mpr ⟨rfl, List.forall_mem_cons.mpr ⟨rfl, List.forall_mem_nil _⟩⟩⟩⟩) ?_)
    clear F1 N1
    intro t u v h1 tk1 m1 F2 N2
    rw [if_pos (by omega)] at N2
    exact leaveK_ F2 N2 fun kF kN => hret _ _ _ _ _ kF (hrest.news F2 (news_head kN)) (hrest.ne N2 (.head _))
end
section
open PySem PySem.W PyProof.Rows PySem.Spec PySem.Calls
set_option maxRecDepth 100000 in
set_option maxHeartbeats 1000000 in
theorem wIn {w : World} {k : Nat} (IH : ∀ j, k = j + 1 → OkI w j) : OkI w k := by
  intro l f c' cI cA cN fo oc oI oA oN n nm qual params body scope doc pm ct cvs tq tn vs ns j x Lo Hi t1 t2 t3 dp un gd A₀ s L h₀ base m mg mb rest p loose mean env outer Q E I hvs hLH hH hnn hns hk hx0 hx hn1 hn2 C hap hroom hun hret
  have I0 := I
  obtain ⟨hfo, hast, hoc, hq, hI, hA, hN, hne⟩ := I
  obtain ⟨B, F, X, N, T, hf, hke⟩ := C
  have hlim : recursionLimit = 1000 := rfl
  have hcl : cLine = 9900 := rfl
  have hast' := hast
  conv at hast' => lhs; whnf
  cases hast'
  subst hfo
  w_on
  refine wpAny_call ?_
  k_dflt (refine' call_sub (sub := ledI l f c' cI cA cN vs j _ oc oI oA oN) (rest := rest) (binds := [(Str.ofString "x", .int x t1), (Str.ofString "L", .int (Lo : Int) t2), (Str.ofString "R", .int (Hi : Int) t3)]) B F N hap T.nolimit rfl hf hke (N _ (.tail _ (.head _))).1 rfl (codeRec_news N (.tail _ (.tail _ (.head _))) hoc hq) ?k8 ?k9 ?kB ?_ ?c5 ?c2 ?c3 ?c4; (case k8 => (show dp < _; omega)); (case k9 => exact BindsTo.of_eq rfl); (case kB => exact locs rfl); (case c2 => exact rfl); (case c3 => exact rfl); (case c4 => exact rfl); (case c5 => decide); k_whole; intro g' L' h' FG' F' N' B' st' l1 hrest)
  have X' := X.keeps st'
  have T' := T.keeps st'
  have CH : CodeHd g' 34 30 := codeHd_of_K X' (by kernel_rfl)
  k_lt l1
  (try dsimp only [List.length_cons, List.length_nil, List.reverse_cons, List.reverse_nil, List.nil_append, List.cons_append]); (try k_fold)
  refine fold_post fun QQ hQQ => ?_
  have hml := mid_len hLH hH
  have hMn : ((Lo + Hi) / 2 - Lo) * n ≤ 1000000 := Nat.le_trans (by rw [Nat.mul_comm]; exact Nat.mul_le_mul_left n hml.1) hnn
  have hUp := up_lt (n := n) (i := (Lo + Hi) / 2 - Lo) (j := Hi - (Lo + Hi) / 2) hx0 (by rw [hml.2.2]; exact hx)
  have bu : Builtin.Int.intBits (x / 2 ^ (((Lo + Hi) / 2 - Lo) * n)) ≤ 1000000 := Nat.le_trans (bits_of_lt hUp.1 hUp.2) (Nat.le_trans (Nat.mul_le_mul_left n hml.2.1) hnn)
  k_steps
  · (rename Fr _ _ _ _ => F1); (rename News _ _ _ _ => N1)
    refine ksa_set F1 N1 (.head ?_) hvs (by omega) (by omega) (by omega) ?_
    · intro p hp; simp only [List.mem_cons, List.not_mem_nil, or_false] at hp; obtain ⟨e1, e2, e3, e4, e5⟩ := hne; rcases hp with rfl | rfl | rfl | rfl | rfl <;> assumption
    clear F1 N1
    intro h1 F1 N1 i1 i2 i3
    dsimp only
    k_steps
    have hHi : Hi = Lo + 1 := by omega
    subst hHi
    have e1 : digs n (Lo + 1 - Lo) x = [x] := by
      rw [show Lo + 1 - Lo = 1 by omega] at hx ⊢
      exact digs_one hx0 (by rw [Nat.mul_one] at hx; exact hx)
    rw [Int.toNat_natCast, set_put (by omega), ← e1] at i1
    (rename Fr _ _ _ _ => F2); (rename News _ _ _ _ => N2)
    exact Stop.mk (hQQ _ _ <| leaveK_ F2 N2 fun kF kN => hret _ _ _ kF (hrest.news F2 kN) i1)
  · obtain ⟨j', rfl⟩ : ∃ j', k = j' + 1 := ⟨k - 1, by
      have : k ≠ 0 := by rintro rfl; omega
      omega⟩
    rw [Nat.pow_succ] at hk
    obtain ⟨m1, m2, m3, m4⟩ := mid_facts hLH (show Lo + 1 ≠ Hi by omega) hk
    clear hml
    generalize (Lo + Hi) / 2 = mid at *
    have m5 := Nat.le_of_lt m1
    have m6 := Nat.le_of_lt m2
    have m7 := Nat.le_trans m6 hH
    have hmid := Int.emod_nonneg x (show (2 : Int) ^ ((mid - Lo) * n) ≠ 0 by have := pw ((mid - Lo) * n); omega)
    have hmid2 := Int.emod_lt_of_pos x (pw ((mid - Lo) * n))
    (rename Fr _ _ _ _ => F1); (rename News _ _ _ _ => N1)
    refine Stop.mk (IH j' rfl (Lo := Lo) (Hi := mid) (rest := []) I0 hvs (by first | assumption | omega) (by first | assumption | omega) hnn hns (by first | assumption | omega) hmid (by rw [Nat.mul_comm n]; exact hmid2) hn1 hn2 ⟨B', F1, X', N1, T', rfl, rfl⟩ (fun _ h => nomatch h) (roomS hroom) (roomT hun) ?_)
    clear F1 N1
    intro vs1 h1 tk1 F1 N1 i1
    have q1 := put_len (ns := ns) (L := Lo) (ds := digs n (mid - Lo) (x % 2 ^ ((mid - Lo) * n))) (by rw [digs_len]; omega)
    rw [← q1] at hnn hns
    dsimp only
    k_steps
    (rename Fr _ _ _ _ => F1); (rename News _ _ _ _ => N1)
    refine Stop.mk (IH j' rfl (Lo := mid) (Hi := Hi) (rest := []) I0 i1 (by first | assumption | omega) (by first | assumption | omega) hnn hns (by first | assumption | omega) hUp.1 hUp.2 hn1 hn2 ⟨B', F1, X', N1, T', rfl, rfl⟩ (fun _ h => nomatch h) (roomS hroom) (roomT hun) ?_)
    clear F1 N1
    intro vs2 h2 tk2 F2 N2 i2
    rw [put_halves (by first | assumption | omega) (by first | assumption | omega) hH] at i2
    dsimp only
    k_steps
    (rename Fr _ _ _ _ => F2); (rename News _ _ _ _ => N2)
    exact Stop.mk (hQQ _ _ <| leaveK_ F2 N2 fun kF kN => hret _ _ _ kF (hrest.news F2 kN) i2)
end
section
open PySem PySem.W PyProof.Rows PySem.Spec PySem.Calls
local macro_rules | `(tactic| walk_at "nn") => `(tactic| (refine neN ?_; (try dsimp only); first | exact Nat.ne_of_gt (by simp only [*]) | exact Nat.ne_of_lt (by simp only [*]) | omega))
set_option maxRecDepth 100000 in
set_option maxHeartbeats 1000000 in
theorem wiE {w : World} (HI : OkI w 10) : DigE w := by
  intro a n t1 t2 dp un gd A₀ s L h₀ base m mg mb rest p loose mean env outer Q E ha0 hn1 hn2 hkd hnkd C hne hroom hun hret
  obtain ⟨B, F, X, N, T, hf, hke⟩ := C
  have hlim : recursionLimit = 1000 := rfl
  have hcl : cLine = 9900 := rfl
  have hbits : a < 2 ^ (n * ((Builtin.Int.intBits a + n - 1) / n)) := (lt_of_bits (dig_enough hn1)).2
  w_on
  refine wpAny_call ?_
  k_dflt (refine' code_subC (sub := [(30, tabObj #[])]) (rest := rest) (binds := [(Str.ofString "a", .int a t1), (Str.ofString "n", .int (n : Int) t2)]) B F X N (apart1 hne) T rfl hf hke ?k6 ?k7 ?k8 ?k9 ?kB ?kD ?_ ?c2 ?c3 ?c4; (case k6 => k_is); (case k7 => k_is); (case k8 => (show dp < _; omega)); (case k9 => exact BindsTo.of_eq rfl); (case kB => exact rfl); (case kD => decide +kernel); (case c2 => exact rfl); (case c3 => exact rfl); (case c4 => exact rfl); k_whole; intro g' L' h' tk' cells' FG' F' N' Y' B' X' T' l1 hrest)
  have CH : CodeHd g' 34 30 := codeHd_of_K X' (by kernel_rfl)
  k_lt l1
  k_cells Y'
  (try simp only [List.cons_append, List.nil_append] at N'); (try dsimp only); (try k_fold)
  refine fold_post fun QQ hQQ => ?_
  k_steps
  (rename Fr _ _ _ _ => F1); (rename News _ _ _ _ => N1)
  generalize hkk : (Builtin.Int.intBits a + n - 1) / n = kd at *
  refine Stop.mk (mulZ F1 N1 (.head _) (by omega) ?_)
  clear F1 N1
  intro d h1 F1 N1 l1
  k_lt l1
  dsimp only
  k_steps
  · (rename Fr _ _ _ _ => F1); (rename News _ _ _ _ => N1)
    refine lenR N1 (by k_mem) (intsAre_rep _ _ _) (by rw [List.length_replicate]; omega) ?_
    intro v tk
    rw [List.length_replicate]
    dsimp only
    k_steps
    refine Stop.mk (HI (Lo := 0) (Hi := kd) (l := d) (rest := [(30, t30 _)]) ⟨rfl, ?hast, by assumption, by assumption, by assumption, by assumption, by assumption, ?hn⟩ (intsAre_rep _ _ _) ?z1 ?z2 ?z3 ?z4 ?z5 ha0 ?z6 hn1 ?z7 ⟨B', F1, X', pick N1 (by kcj_all), T', rfl, rfl⟩ ?z8 (room1 hroom (by decide)) (room3 hun (by decide)) ?_)
    case hast => rfl
    case hn => exact ⟨(by walk_at "nn"), (by walk_at "nn"), (by walk_at "nn"), (by walk_at "nn"), (by walk_at "nn")⟩
    case z1 => exact Nat.pos_of_ne_zero (fun q => by have h1 := dig_enough (b := Builtin.Int.intBits a) hn1; rw [hkk, q, Nat.mul_zero] at h1; have := lt_of_bits h1; omega)
    case z2 => (rw [List.length_replicate]; exact Nat.le_refl _)
    case z3 => (rw [List.length_replicate]; exact hnkd)
    case z4 => (rw [List.length_replicate]; omega)
    case z5 => (show _ - 0 ≤ 1024; omega)
    case z6 => exact hbits
    case z7 => omega
    case z8 => (intro p hp; rw [List.mem_singleton.mp hp]; simp only [List.map_cons, List.map_nil, List.mem_cons, List.not_mem_nil, or_false, not_or]; exact ⟨(by walk_at "nn"), (by walk_at "nn"), (by walk_at "nn"), (by walk_at "nn"), (by walk_at "nn"), (by walk_at "nn")⟩)
    clear F1 N1
    intro vs1 h1 tk1 F1 N1 i1
    rw [Nat.sub_zero, put_all (by rw [digs_len, List.length_replicate])] at i1
    dsimp only
    k_steps
    (rename Fr _ _ _ _ => F2); (rename News _ _ _ _ => N2)
    refine Stop.mk (hQQ _ _ <| leaveK_ F2 N2 fun kF kN => ?_)
    have kP := hrest.news F2 (pickT (d := d) (o := listOf vs1.toArray 0) kN (by k_mem) (by k_mem) (by k_mem))
    refine hret _ _ _ _ _ _ kF kP i1 ?_ ⟨_, _, by assumption, by assumption⟩ ((by walk_at "nn")) (hrest.ne N2 (o := _) (by k_mem))
    exact allNe_app (l := [_, _]) ⟨(by walk_at "nn"), (by walk_at "nn"), trivial⟩ (hrest.ne N2 (o := _) (d := d) (by k_mem))
  · have e0 : kd = 0 := by
      rw [← hkk]
      have : Builtin.Int.intBits a = 0 := by rw [(by assumption : a = 0)]; rfl
      rw [this]; exact Nat.div_eq_of_lt (by omega)
    (rename Fr _ _ _ _ => F2); (rename News _ _ _ _ => N2)
    have i1 : ∀ v, IntsAre (List.replicate kd v) (digs n kd a) := by rw [e0]; exact fun _ => .nil
    refine Stop.mk (hQQ _ _ <| leaveK_ F2 N2 fun kF kN => ?_)
    have kP := hrest.news F2 (pickT (d := d) (o := listOf (List.replicate kd _).toArray 0) kN (by k_mem) (by k_mem) (by k_mem))
    refine hret _ _ _ _ _ _ kF kP (i1 _) ?_ ⟨_, _, by assumption, by assumption⟩ ((by walk_at "nn")) (hrest.ne N2 (o := _) (by k_mem))
    exact allNe_app (l := [_, _]) ⟨(by walk_at "nn"), (by walk_at "nn"), trivial⟩ (hrest.ne N2 (o := _) (d := d) (by k_mem))
set_option maxRecDepth 100000 in
set_option maxHeartbeats 1000000 in
theorem wiF {w : World} (HI : OkI w 10) : DigF w := by
  intro a n t1 t2 c oc dp un gd A₀ s L h₀ base m mg mb rest p loose mean env outer Q E ha0 hn1 hn2 hkd hnkd hc hc30 C hne hnc hroom hun hret
  obtain ⟨B, F, X, N, T, hf, hke⟩ := C
  obtain ⟨cvs, tq, hcd, hcq⟩ := hc
  have hc30' : @Ne Nat c 30 := hc30
  have hlim : recursionLimit = 1000 := rfl
  have hcl : cLine = 9900 := rfl
  have hbits : a < 2 ^ (n * ((Builtin.Int.intBits a + n - 1) / n)) := (lt_of_bits (dig_enough hn1)).2
  w_on
  refine wpAny_call ?_
  k_dflt (refine' code_subC (sub := [(30, t30 c), (c, oc)]) (rest := rest) (binds := [(Str.ofString "a", .int a t1), (Str.ofString "n", .int (n : Int) t2)]) B F X N (apart2 hne hnc) T rfl hf hke ?k6 ?k7 ?k8 ?k9 ?kB ?kD ?_ ?c2 ?c3 ?c4; (case k6 => k_is); (case k7 => k_is); (case k8 => (show dp < _; omega)); (case k9 => exact BindsTo.of_eq rfl); (case kB => exact rfl); (case kD => decide +kernel); (case c2 => exact rfl); (case c3 => exact rfl); (case c4 => exact rfl); k_whole; intro g' L' h' tk' cells' FG' F' N' Y' B' X' T' l1 hrest)
  have CH : CodeHd g' 34 30 := codeHd_of_K X' (by kernel_rfl)
  k_lt l1
  k_cells Y'
  (try simp only [List.cons_append, List.nil_append] at N'); (try dsimp only); (try k_fold)
  refine fold_post fun QQ hQQ => ?_
  k_steps
  (rename Fr _ _ _ _ => F1); (rename News _ _ _ _ => N1)
  generalize hkk : (Builtin.Int.intBits a + n - 1) / n = kd at *
  refine Stop.mk (mulZ F1 N1 (.head _) (by omega) ?_)
  clear F1 N1
  intro d h1 F1 N1 l1
  k_lt l1
  dsimp only
  k_steps
  · (rename Fr _ _ _ _ => F1); (rename News _ _ _ _ => N1)
    refine lenR N1 (by k_mem) (intsAre_rep _ _ _) (by rw [List.length_replicate]; omega) ?_
    intro v tk
    rw [List.length_replicate]
    dsimp only
    k_steps
    refine Stop.mk (HI (Lo := 0) (Hi := kd) (l := d) (rest := [(30, t30 _)]) ⟨rfl, ?hast, by assumption, by assumption, by assumption, by assumption, by assumption, ?hn⟩ (intsAre_rep _ _ _) ?z1 ?z2 ?z3 ?z4 ?z5 ha0 ?z6 hn1 ?z7 ⟨B', F1, X', pick N1 (by kcj_all), T', rfl, rfl⟩ ?z8 (room1 hroom (by decide)) (room3 hun (by decide)) ?_)
    case hast => rfl
    case hn => exact ⟨(by walk_at "nn"), (by walk_at "nn"), (by walk_at "nn"), (by walk_at "nn"), (by walk_at "nn")⟩
    case z1 => exact Nat.pos_of_ne_zero (fun q => by have h1 := dig_enough (b := Builtin.Int.intBits a) hn1; rw [hkk, q, Nat.mul_zero] at h1; have := lt_of_bits h1; omega)
    case z2 => (rw [List.length_replicate]; exact Nat.le_refl _)
    case z3 => (rw [List.length_replicate]; exact hnkd)
    case z4 => (rw [List.length_replicate]; omega)
    case z5 => (show _ - 0 ≤ 1024; omega)
    case z6 => exact hbits
    case z7 => omega
    case z8 => (intro p hp; rw [List.mem_singleton.mp hp]; simp only [List.map_cons, List.map_nil, List.mem_cons, List.not_mem_nil, or_false, not_or]; exact ⟨(by walk_at "nn"), (by walk_at "nn"), (by walk_at "nn"), (by walk_at "nn"), (by walk_at "nn"), (by walk_at "nn")⟩)
    clear F1 N1
    intro vs1 h1 tk1 F1 N1 i1
    rw [Nat.sub_zero, put_all (by rw [digs_len, List.length_replicate])] at i1
    dsimp only
    k_steps
    (rename Fr _ _ _ _ => F2); (rename News _ _ _ _ => N2)
    refine Stop.mk (hQQ _ _ <| leaveK_ F2 N2 fun kF kN => ?_)
    have kP := hrest.news F2 (pickT (d := d) (o := listOf vs1.toArray 0) kN (by k_mem) (by k_mem) (by k_mem))
    refine hret _ _ _ _ kF kP i1 ?_
    exact allNe_app (l := [_, _]) ⟨(by walk_at "nn"), (by walk_at "nn"), trivial⟩ (hrest.ne N2 (o := _) (d := d) (by k_mem))
  · have e0 : kd = 0 := by
      rw [← hkk]
      have : Builtin.Int.intBits a = 0 := by rw [(by assumption : a = 0)]; rfl
      rw [this]; exact Nat.div_eq_of_lt (by omega)
    (rename Fr _ _ _ _ => F2); (rename News _ _ _ _ => N2)
    have i1 : ∀ v, IntsAre (List.replicate kd v) (digs n kd a) := by rw [e0]; exact fun _ => .nil
    refine Stop.mk (hQQ _ _ <| leaveK_ F2 N2 fun kF kN => ?_)
    have kP := hrest.news F2 (pickT (d := d) (o := listOf (List.replicate kd _).toArray 0) kN (by k_mem) (by k_mem) (by k_mem))
    refine hret _ _ _ _ kF kP (i1 _) ?_
    exact allNe_app (l := [_, _]) ⟨(by walk_at "nn"), (by walk_at "nn"), trivial⟩ (hrest.ne N2 (o := _) (d := d) (by k_mem))
end
section
open PySem PySem.W PyProof.Rows PySem.Spec PySem.Calls
set_option maxRecDepth 100000 in
set_option maxHeartbeats 1000000 in
theorem wDn {w : World} {k : Nat} (IH : ∀ j, k = j + 1 → OkD w j) : OkD w k := by
  intro l f c' cI cA cN fo oc oI oA oN n nm qual params body scope doc pm ct cvs tq tn clos vs ns j Lo Hi t1 t2 dp un gd A₀ s L h₀ base m mg mb rest p loose mean env outer Q E I hvs hdig hLH hH hnn hns hk hn1 hn2 C hap hroom hun hret
  have I0 := I
  obtain ⟨hfo, hclos, hast, hoc, hq, hI, hA, hN⟩ := I
  obtain ⟨B, F, X, N, T, hf, hke⟩ := C
  have hlim : recursionLimit = 1000 := rfl
  have hcl : cLine = 9900 := rfl
  have hast' := hast
  conv at hast' => lhs; whnf
  cases hast'
  subst hfo hclos
  w_on
  refine wpAny_call ?_
  k_dflt (refine' call_sub (sub := ledD l f c' cI cA cN vs j _ oc oI oA oN) (rest := rest) (binds := [(Str.ofString "L", .int (Lo : Int) t1), (Str.ofString "R", .int (Hi : Int) t2)]) B F N hap T.nolimit rfl hf hke (N _ (.tail _ (.head _))).1 rfl (codeRec_news N (.tail _ (.tail _ (.head _))) hoc hq) ?k8 ?k9 ?kB ?_ ?c5 ?c2 ?c3 ?c4; (case k8 => (show dp < _; omega)); (case k9 => exact BindsTo.of_eq rfl); (case kB => exact locs rfl); (case c2 => exact rfl); (case c3 => exact rfl); (case c4 => exact rfl); (case c5 => decide); k_whole; intro g' L' h' FG' F' N' B' st' l1 hrest)
  have X' := X.keeps st'
  have T' := T.keeps st'
  have CH : CodeHd g' 41 37 := codeHd_of_K X' (by kernel_rfl)
  k_lt l1
  (try dsimp only [List.length_cons, List.length_nil, List.reverse_cons, List.reverse_nil, List.nil_append, List.cons_append]); (try k_fold)
  refine fold_post fun QQ hQQ => ?_
  have hml := mid_len hLH hH
  have hMn : ((Lo + Hi) / 2 - Lo) * n ≤ 1000000 := Nat.le_trans (by rw [Nat.mul_comm]; exact Nat.mul_le_mul_left n hml.1) hnn
  have hUp := num_range (slice_dig (Lo := (Lo + Hi) / 2) (Hi := Hi) hdig)
  rw [slice_len hH] at hUp
  have bu : Builtin.Int.intBits (numOf n (slice ns ((Lo + Hi) / 2) Hi)) ≤ 1000000 := Nat.le_trans (bits_of_lt hUp.1 hUp.2) (Nat.le_trans (Nat.mul_le_mul_left n hml.2.1) hnn)
  k_steps
  · (rename Fr _ _ _ _ => F2); (rename News _ _ _ _ => N2)
    have hHi : Hi = Lo + 1 := by omega
    subst hHi
    have e1 : numOf n (slice ns Lo (Lo + 1)) = ns.getD (Lo : Int).toNat 0 := by rw [slice_one (by omega), num_one, Int.toNat_natCast]
    rw [e1] at hret
    exact Stop.mk (hQQ _ _ <| leaveK_ F2 N2 fun kF kN => hret _ _ _ kF (hrest.news F2 kN))
  · obtain ⟨j', rfl⟩ : ∃ j', k = j' + 1 := ⟨k - 1, by
      have : k ≠ 0 := by rintro rfl; omega
      omega⟩
    rw [Nat.pow_succ] at hk
    obtain ⟨m1, m2, m3, m4⟩ := mid_facts hLH (show Lo + 1 ≠ Hi by omega) hk
    clear hml
    generalize (Lo + Hi) / 2 = mid at *
    have m5 := Nat.le_of_lt m1
    have m6 := Nat.le_of_lt m2
    have m7 := Nat.le_trans m6 hH
    (rename Fr _ _ _ _ => F1); (rename News _ _ _ _ => N1)
    refine Stop.mk (IH j' rfl (Lo := mid) (Hi := Hi) (rest := []) I0 hvs hdig (by first | assumption | omega) (by first | assumption | omega) hnn hns (by first | assumption | omega) hn1 hn2 ⟨B', F1, X', N1, T', rfl, rfl⟩ (fun _ h => nomatch h) (roomS hroom) (roomT hun) ?_)
    clear F1 N1
    intro v1 h1 tk1 F1 N1
    dsimp only
    k_steps
    (rename Fr _ _ _ _ => F1); (rename News _ _ _ _ => N1)
    refine Stop.mk (IH j' rfl (Lo := Lo) (Hi := mid) (rest := []) I0 hvs hdig (by first | assumption | omega) (by first | assumption | omega) hnn hns (by first | assumption | omega) hn1 hn2 ⟨B', F1, X', N1, T', rfl, rfl⟩ (fun _ h => nomatch h) (roomS hroom) (roomT hun) ?_)
    clear F1 N1
    intro v2 h2 tk2 F2 N2
    dsimp only
    k_steps
    (rename Fr _ _ _ _ => F2); (rename News _ _ _ _ => N2)
    rw [← num_join m5 (by first | assumption | omega) hH] at hret
    exact Stop.mk (hQQ _ _ <| leaveK_ F2 N2 fun kF kN => hret _ _ _ kF (hrest.news F2 kN))
end
section
open PySem PySem.W PyProof.Rows PySem.Spec PySem.Calls
set_option maxRecDepth 100000 in
set_option maxHeartbeats 1000000 in
theorem wdF {w : World} (HD : OkD w 10) : DecF w := by
  intro vs ns j n l t2 c oc dp un gd A₀ s L h₀ base m mg mb rest p loose mean env outer Q E hvs hdig hlen hnl hn1 hn2 hc hc37 hl37 hlc C hnl' hne hnc hroom hun hret
  obtain ⟨B, F, X, N, T, hf, hke⟩ := C
  obtain ⟨cvs, tq, hcd, hcq⟩ := hc
  have hc37' : @Ne Nat c 37 := hc37
  have hl37' : @Ne Nat l 37 := hl37
  have hlc' : @Ne Nat l c := hlc
  have hlim : recursionLimit = 1000 := rfl
  have hcl : cLine = 9900 := rfl
  w_on
  refine wpAny_call ?_
  k_dflt (refine' code_subC (sub := [(l, listOf vs.toArray j), (37, t37 c), (c, oc)]) (rest := rest) (binds := [(Str.ofString "digits", .ref l), (Str.ofString "n", .int (n : Int) t2)]) B F X N (apart3 hnl' hne hnc) T rfl hf hke ?k6 ?k7 ?k8 ?k9 ?kB ?kD ?_ ?c2 ?c3 ?c4; (case k6 => k_is); (case k7 => k_is); (case k8 => (show dp < _; omega)); (case k9 => exact BindsTo.of_eq rfl); (case kB => exact rfl); (case kD => decide +kernel); (case c2 => exact rfl); (case c3 => exact rfl); (case c4 => exact rfl); k_whole; intro g' L' h' tk' cells' FG' F' N' Y' B' X' T' l1 hrest)
  have CH : CodeHd g' 41 37 := codeHd_of_K X' (by kernel_rfl)
  k_lt l1
  k_cells Y'
  (try simp only [List.cons_append, List.nil_append] at N'); (try dsimp only); (try k_fold)
  refine fold_post fun QQ hQQ => ?_
  k_steps
  · (rename Fr _ _ _ _ => F1); (rename News _ _ _ _ => N1)
    refine Stop.mk (HD (Lo := 0) (Hi := ns.length) (l := l) (rest := [(37, t37 _)]) ⟨rfl, rfl, ?hast, by assumption, by assumption, by assumption, by assumption, by assumption⟩ hvs hdig (by omega) (Nat.le_refl _) hnl (by omega) (by show _ - 0 ≤ 1024; omega) hn1 (by omega) ⟨B', F1, X', pick N1 (by kcj_all), T', rfl, rfl⟩ ?z8 (room1 hroom (by decide)) (room3 hun (by decide)) ?_)
    case hast => rfl
    case z8 => (intro p hp; rw [List.mem_singleton.mp hp]; simp only [List.map_cons, List.map_nil, List.mem_cons, List.not_mem_nil, or_false, not_or]; exact ⟨neN (by omega), neN (by omega), neN (by omega), neN (by omega), neN (by omega), neN (by omega)⟩)
    clear F1 N1
    intro v1 h1 tk1 F1 N1
    rw [slice_all]
    dsimp only
    k_steps
    (rename Fr _ _ _ _ => F2); (rename News _ _ _ _ => N2)
    refine Stop.mk (hQQ _ _ <| leaveK_ F2 N2 fun kF kN => ?_)
    have kP := hrest.news F2 (pickU (d := l) (o := listOf vs.toArray j) kN (by k_mem) (by k_mem) (by k_mem))
    exact hret _ _ _ kF kP
  · (rename Fr _ _ _ _ => F2); (rename News _ _ _ _ => N2)
    have e0 : ns = [] := List.eq_nil_of_length_eq_zero (by omega)
    have e1 : numOf n ns = 0 := by rw [e0]; rfl
    rw [e1] at hret
    refine Stop.mk (hQQ _ _ <| leaveK_ F2 N2 fun kF kN => ?_)
    have kP := hrest.news F2 (pickU (d := l) (o := listOf vs.toArray j) kN (by k_mem) (by k_mem) (by k_mem))
    exact hret _ _ _ kF kP
set_option maxRecDepth 100000 in
set_option maxHeartbeats 1000000 in
theorem wdE {w : World} (HD : OkD w 10) : DecE w := by
  intro vs ns j n l t2 dp un gd A₀ s L h₀ base m mg mb rest p loose mean env outer Q E hvs hdig hlen hnl hn1 hn2 hl37 C hnl' hne hroom hun hret
  obtain ⟨B, F, X, N, T, hf, hke⟩ := C
  have hl37' : @Ne Nat l 37 := hl37
  have hlim : recursionLimit = 1000 := rfl
  have hcl : cLine = 9900 := rfl
  w_on
  refine wpAny_call ?_
  k_dflt (refine' code_subC (sub := [(l, listOf vs.toArray j), (37, tabObj #[])]) (rest := rest) (binds := [(Str.ofString "digits", .ref l), (Str.ofString "n", .int (n : Int) t2)]) B F X N (apart2 hnl' hne) T rfl hf hke ?k6 ?k7 ?k8 ?k9 ?kB ?kD ?_ ?c2 ?c3 ?c4; (case k6 => k_is); (case k7 => k_is); (case k8 => (show dp < _; omega)); (case k9 => exact BindsTo.of_eq rfl); (case kB => exact rfl); (case kD => decide +kernel); (case c2 => exact rfl); (case c3 => exact rfl); (case c4 => exact rfl); k_whole; intro g' L' h' tk' cells' FG' F' N' Y' B' X' T' l1 hrest)
  have CH : CodeHd g' 41 37 := codeHd_of_K X' (by kernel_rfl)
  k_lt l1
  k_cells Y'
  (try simp only [List.cons_append, List.nil_append] at N'); (try dsimp only); (try k_fold)
  refine fold_post fun QQ hQQ => ?_
  k_steps
  · (rename Fr _ _ _ _ => F1); (rename News _ _ _ _ => N1)
    refine Stop.mk (HD (Lo := 0) (Hi := ns.length) (l := l) (rest := [(37, t37 _)]) ⟨rfl, rfl, ?hast, by assumption, by assumption, by assumption, by assumption, by assumption⟩ hvs hdig (by omega) (Nat.le_refl _) hnl (by omega) (by show _ - 0 ≤ 1024; omega) hn1 (by omega) ⟨B', F1, X', pick N1 (by kcj_all), T', rfl, rfl⟩ ?z8 (room1 hroom (by decide)) (room3 hun (by decide)) ?_)
    case hast => rfl
    case z8 => (intro p hp; rw [List.mem_singleton.mp hp]; simp only [List.map_cons, List.map_nil, List.mem_cons, List.not_mem_nil, or_false, not_or]; exact ⟨neN (by omega), neN (by omega), neN (by omega), neN (by omega), neN (by omega), neN (by omega)⟩)
    clear F1 N1
    intro v1 h1 tk1 F1 N1
    rw [slice_all]
    dsimp only
    k_steps
    (rename Fr _ _ _ _ => F2); (rename News _ _ _ _ => N2)
    refine Stop.mk (hQQ _ _ <| leaveK_ F2 N2 fun kF kN => ?_)
    have kP := hrest.news F2 (pickU (d := l) (o := listOf vs.toArray j) kN (by k_mem) (by k_mem) (by k_mem))
    exact hret _ _ _ _ _ kF kP ⟨_, _, by assumption, by assumption⟩ (allNe_app (l := [_, _]) ⟨neN (by dsimp only; omega), neN (by dsimp only; omega), trivial⟩ (hrest.ne N2 (o := _) (by k_mem)))
  · (rename Fr _ _ _ _ => F2); (rename News _ _ _ _ => N2)
    have e0 : ns = [] := List.eq_nil_of_length_eq_zero (by omega)
    have e1 : numOf n ns = 0 := by rw [e0]; rfl
    rw [e1] at hret
    refine Stop.mk (hQQ _ _ <| leaveK_ F2 N2 fun kF kN => ?_)
    have kP := hrest.news F2 (pickU (d := l) (o := listOf vs.toArray j) kN (by k_mem) (by k_mem) (by k_mem))
    exact hret _ _ _ _ _ kF kP ⟨_, _, by assumption, by assumption⟩ (allNe_app (l := [_, _]) ⟨neN (by dsimp only; omega), neN (by dsimp only; omega), trivial⟩ (hrest.ne N2 (o := _) (by k_mem)))
end
section
open PySem PySem.W PyProof.Rows PySem.Spec PySem.Calls
def JP (a b : Int) (n K : Nat) (t2 tn : Tok) (ql : Addr) (tail : List (Addr × Obj)) (rs : List Int) (m : Str → Option Value) (news : List (Addr × Obj)) : Prop :=
  ∃ A r tr qs qv jn, (∀ p ∈ [(Str.ofString "r", Value.int r tr), (Str.ofString "q_digits", Value.ref ql), (Str.ofString "b", Value.int b t2), (Str.ofString "n", Value.int (n : Int) tn)], m p.1 = some p.2) ∧
    news = (ql, listOf qv.toArray jn) :: tail ∧ IntsAre qv qs ∧ Paper n b A r qs ∧ A * 2 ^ (n * rs.length) + numOf n rs.reverse = a ∧ Dig n rs ∧ qs.length + rs.length = K
/-- what is left of the body of the i-th def behind its first four | six statements -/
def rest4 (i : Nat) : Option (List Stmt × Scope) :=
  match PR.main.body[i]? with
  | some (.FunctionDef _ _ (_ :: _ :: _ :: _ :: r) _ _ _ sc _ _ _) => some (r, sc)
  | _ => none
def rest6 (i : Nat) : Option (List Stmt × Scope) :=
  match PR.main.body[i]? with
  | some (.FunctionDef _ _ (_ :: _ :: _ :: _ :: _ :: _ :: r) _ _ _ sc _ _ _) => some (r, sc)
  | _ => none
set_option maxRecDepth 100000 in
set_option maxHeartbeats 1000000 in
/-- _divmod_pos: its loop, and the row turned -/
theorem wpl {w : World} (H2 : Ok2 w 2) {body body2 : List Stmt} {sc sc2 : Scope} (hast : rest4 6 = some (body, sc)) (hast2 : rest6 6 = some (body2, sc2)) {a b : Int} {n K : Nat} {tb tn tr0 : Tok} {ad ql c z : Addr} {oc o7 oz : Obj} {vs : List Value} {ds : List Int} {j0 : Nat}
    {dp un : Nat} {gd : Option (List Code)} {s : Shared} {L : Addr} {h₀ base : Heap} {m mg mb : Str → Option Value} {p : Program} {loose : List Str} {mean : ExcName → Option Value} {env : Env} {outer : List Env} {Q : Flow → Shared → Prop}
    (B : Below (arA dp un gd env outer) base (env :: outer) h₀) (F : Fr h₀ L s.heap m) (X : (hd.heap_39 w.params).In h₀) (T : Top p loose mean mg mb h₀)
    (N : News h₀ L s.heap [(ql, listOf ([] : List Value).toArray j0), (ad, listOf vs.toArray 0), (30, t30 c), (c, oc), (37, o7), (z, oz)]) (nq : AllNe ql [(ad, listOf vs.toArray 0), (30, t30 c), (c, oc), (37, o7), (z, oz)])
    (hb0 : 0 < b) (hn1 : 1 ≤ n) (hbn : n ≤ 8900) (hbl : 2 ^ (n - 1) ≤ b) (hbu : b < 2 ^ n) (i1 : IntsAre vs ds) (hds : Dig n ds) (hnum : numOf n ds = a) (hlen : ds.length = K) (hK : K ≤ 1024) (hroom : dp + 20 < recursionLimit) (hun : un + 200 < cLine)
    (hm : ∀ p ∈ [(Str.ofString "r", Value.int 0 tr0), (Str.ofString "q_digits", Value.ref ql), (Str.ofString "b", Value.int b tb), (Str.ofString "n", Value.int (n : Int) tn), (Str.ofString "a_digits", Value.ref ad)], m p.1 = some p.2)
    (hret : ∀ vs2 ds2 tr j2 h' tk' m', IntsAre vs2 ds2 → Dig n ds2 → ds2.length = K → numOf n ds2 = a / b → (∀ p ∈ [(Str.ofString "r", Value.int (a % b) tr), (Str.ofString "q_digits", Value.ref ql), (Str.ofString "n", Value.int (n : Int) tn)], m' p.1 = some p.2) →
      Fr h₀ L h' m' → News h₀ L h' [(ql, listOf vs2.toArray j2), (ad, listOf vs.toArray 0), (30, t30 c), (c, oc), (37, o7), (z, oz)] →
      wpAny (model PR w) ((arA dp un gd env outer).deeper (envOf (Str.ofString "_divmod_pos") sc L 49 (.ref 48))) (execs body2 (envOf (Str.ofString "_divmod_pos") sc L 49 (.ref 48))) Q (fun _ _ => False) { s with heap := h', toks := tk' }) :
    wpAny (model PR w) ((arA dp un gd env outer).deeper (envOf (Str.ofString "_divmod_pos") sc L 49 (.ref 48))) (execs body (envOf (Str.ofString "_divmod_pos") sc L 49 (.ref 48))) Q (fun _ _ => False) s := by
  conv at hast => lhs; whnf
  cases hast
  conv at hast2 => lhs; whnf
  cases hast2
  rw [← kn_eq hm] at F
  clear hm
  w_on
  k_steps
  (rename Fr _ _ _ _ => F1); (rename News _ _ _ _ => N1)
  refine Stop.mk (iter_revUnr (vs := vs) (lo := listOf vs.toArray 0) (ax := ad) rfl F1 N1 (by first | k_offL | fail "off") (by k_mem) rfl rfl ?_)
  clear F1 N1
  refine rev_inv (JP a b n K _ _ _ _) ?turn ?done (IntsAre.rev i1) ⟨0, 0, _, [], [], _, List.forall_mem_cons.mpr ⟨rfl, List.forall_mem_cons.mpr ⟨rfl, List.forall_mem_cons.mpr ⟨rfl, List.forall_mem_cons.mpr ⟨rfl, List.forall_mem_nil _⟩⟩⟩⟩, rfl, .nil, Paper.start, ?h2, ?h3, ?h4⟩
  case h2 => (rw [Int.zero_mul, Int.zero_add, List.reverse_reverse]; exact hnum)
  case h3 => exact fun d hd => hds d (List.mem_reverse.mp hd)
  case h4 => (rw [List.length_nil, List.length_reverse, Nat.zero_add]; exact hlen)
  case turn =>
    rintro d t rs m news it h tk ⟨A, r, tr, qs, qv, jn, hm, rfl, iq, P, hA, hdg, hln⟩ hc F1 N1
    rw [← kn_eq hm] at F1
    have hr := P.r_range hb0
    have hst := step_range hb0 hr (hdg d (.head _))
    have br : Builtin.Int.intBits r ≤ 8900 := Nat.le_trans (bits_of_lt hr.1 (Int.lt_trans hr.2 hbu)) hbn
    k_steps
    refine Stop.mk (H2 hn1 (by show _ ≤ 16000; omega) hbn hbl hbu hst.1 hst.2 ⟨B, F1, X, N1, T, rfl, rfl⟩ (room1 hroom (by decide)) (room3 hun (by decide)) ?_)
    clear F1 N1
    intro t u v h1 tk F1 N1 l3
    dsimp only
    k_steps
    (rename Fr _ _ _ _ => F1); (rename News _ _ _ _ => N1)
    refine Stop.mk (append_K F1 N1 (by first | k_upd | fail "upd") ?_ (by rw [List.size_toArray, iq.length]; exact Nat.le_trans (by rw [List.length_cons] at hln; omega : qs.length ≤ 1024) (by decide)))
    clear F1 N1
    intro h2 F2 N2
    dsimp only
    k_steps
    (rename Fr _ _ _ _ => F2); (rename News _ _ _ _ => N2)
    rw [List.push_toArray] at N2
    refine Stop.mk ⟨_, _, _, _, rfl, F2, pick (l' := (_, it) :: (_, listOf (qv ++ [Value.int _ u]).toArray (jn + 1)) :: (ad, _) :: _) N2 ?s1, ?s2, .tail _ (.head _), _, _, _, _, _, _, List.forall_mem_cons.mpr ⟨rfl, List.forall_mem_cons.mpr ⟨rfl, List.forall_mem_cons.mpr ⟨rfl, List.forall_mem_cons.mpr ⟨rfl, List.forall_mem_nil _⟩⟩⟩⟩, rfl, IntsAre.snoc iq, P.turn hb0 (hdg d (.head _)), come_down hA, fun x hx => hdg x (.tail _ hx), by rw [List.length_append, List.length_singleton]; rw [List.length_cons] at hln; omega⟩
    case s1 => kcj_all
    case s2 => k_all
  case done =>
    rintro m news h tk ⟨A, r, tr, qs, qv, jn, hm, rfl, iq, P, hA, hdg, hln⟩ F1 N1
    rw [← kn_eq hm] at F1
    have eA : A = a := by simpa [numOf] using hA
    subst eA
    rw [List.length_nil, Nat.add_zero] at hln
    have i2 : IntsAre qv.reverse qs.reverse := IntsAre.rev iq
    k_steps
    (rename Fr _ _ _ _ => F1); (rename News _ _ _ _ => N1)
    refine Stop.mk (kl_reverse (its := qv.toArray) (l := qv.reverse) F1 N1 (by simp) (by first | k_upd | fail "upd") (by rw [iq.length]; exact Nat.le_trans (by omega : qs.length ≤ 1024) (by decide)) ?_)
    clear F1 N1
    intro h2 F2 N2
    dsimp only
    have hr := P.rest
    subst hr
    exact hret _ _ tr _ _ _ _ i2 (fun x hx => P.dig x (List.mem_reverse.mp hx)) (by rw [List.length_reverse]; exact hln) P.num (List.forall_mem_cons.mpr ⟨rfl, List.forall_mem_cons.mpr ⟨rfl, List.forall_mem_cons.mpr ⟨rfl, List.forall_mem_nil _⟩⟩⟩) F2 N2
end
section
open PySem PySem.W PyProof.Rows PySem.Spec PySem.Calls
/-- what stands between two turns of _divmod_pos's loop -/
local macro_rules | `(tactic| walk_at "execs cons") => `(tactic| ((with_reducible show wpAny _ _ (execs (Stmt.For _ _ _ _ _ :: _) _) _ _ _); with_reducible refine stop ?_))
set_option maxRecDepth 100000 in
set_option maxHeartbeats 1000000 in
theorem wpF {w : World} (H2 : Ok2 w 2) (HI : DigF w) (HD : DecF w) : PosF w := by
  intro a b t1 t2 c e oc oe dp un gd A₀ s L h₀ base m mg mb rest p loose mean env outer Q E ha0 hb0 hbn hk1 hk2 TF C hroom hun hret
  obtain ⟨B, F, X, N, T, hf, hke⟩ := C
  have TF0 := TF
  obtain ⟨hci, hcd, hc30, hc37, he30, he37, hce, hn30, hn37, hnc, hne⟩ := TF
  have hlim : recursionLimit = 1000 := rfl
  have hcl : cLine = 9900 := rfl
  obtain ⟨hn1, hbl, hbu⟩ := bits_pos hb0
  simp only [nOf] at hbn hk1 hk2
  w_on
  refine wpAny_call ?_
  k_dflt (refine' code_sub (sub := tabsF c oc e oe) (rest := rest) (binds := [(Str.ofString "a", .int a t1), (Str.ofString "b", .int b t2)]) B F X N TF0.apart T rfl hf hke ?k6 ?k7 ?k8 ?k9 ?kB ?_ ?c2 ?c3 ?c4 ?c5; (case k6 => k_is); (case k7 => k_is); (case k8 => (show dp < _; omega)); (case k9 => exact BindsTo.of_eq rfl); (case c5 => decide); (case kB => exact locs rfl); (case c2 => exact rfl); (case c3 => exact rfl); (case c4 => exact rfl); k_whole; intro g' L' h' FG' F' N' B' X' T' l1 hrest; (try dsimp only [List.length_cons, List.length_nil, List.reverse_cons, List.reverse_nil, List.nil_append, List.cons_append]); (try k_fold))
  k_lt l1
  k_steps
  (rename Fr _ _ _ _ => F1); (rename News _ _ _ _ => N1)
  refine Stop.mk (HI (rest := [(37, t37 e), (e, oe)]) ha0 hn1 (by omega) hk1 hk2 hci hc30 ⟨B', F1, X', N1, T', rfl, rfl⟩ ⟨(by show (37 : Nat) ≠ 30; decide), he30, trivial⟩ ⟨hc37.symm, hce.symm, trivial⟩ (room1 hroom (by decide)) (room3 hun (by decide)) ?_)
  clear F1 N1
  intro ad vs h1 tk1 F1 N1 i1 l2
  dsimp only
  k_steps
  (rename Fr _ _ _ _ => F1); (rename News _ _ _ _ => N1)
  have hds := digs_dig (Builtin.Int.intBits b) ((Builtin.Int.intBits a + Builtin.Int.intBits b - 1) / Builtin.Int.intBits b) a
  have hnum := num_digs (n := Builtin.Int.intBits b) (k := (Builtin.Int.intBits a + Builtin.Int.intBits b - 1) / Builtin.Int.intBits b) ha0 (lt_of_bits (dig_enough hn1)).2
  have hlen := digs_len (Builtin.Int.intBits b) ((Builtin.Int.intBits a + Builtin.Int.intBits b - 1) / Builtin.Int.intBits b) a
  generalize hG : digs (Builtin.Int.intBits b) ((Builtin.Int.intBits a + Builtin.Int.intBits b - 1) / Builtin.Int.intBits b) a = ds at *
  refine Stop.mk (wpAny_mono (E := fun _ _ => False) (wpl (z := e) (oz := oe) (o7 := t37 e) H2 rfl rfl B' F1 X' T' (pick N1 (by kcj_all)) ?nq hb0 hn1 hbn hbl hbu i1 hds hnum hlen hk1 hroom hun (List.forall_mem_cons.mpr ⟨rfl, List.forall_mem_cons.mpr ⟨rfl, List.forall_mem_cons.mpr ⟨rfl, List.forall_mem_cons.mpr ⟨rfl, List.forall_mem_cons.mpr ⟨rfl, List.forall_mem_nil _⟩⟩⟩⟩⟩) ?_) (fun _ _ q => q) fun _ _ f => f.elim)
  case nq => exact ⟨neN (by dsimp only; omega), neN (by dsimp only; omega), neN (by dsimp only; omega), neN (by dsimp only; omega), neN (by dsimp only; omega), trivial⟩
  clear F1 N1
  intro vs2 ds2 tr j2 h2 tk2 m2 i2 hd2 hl2 hnum2 hm2 F1 N1
  rw [← kn_eq hm2] at F1
  have hnl2 : ds2.length ≤ 1024 := by omega
  have hnl3 : Builtin.Int.intBits b * ds2.length ≤ 1000000 := by rw [hl2]; exact hk2
  k_steps
  (rename Fr _ _ _ _ => F1); (rename News _ _ _ _ => N1)
  refine Stop.mk (HD (rest := [(30, t30 c), (c, oc)]) i2 hd2 hnl2 hnl3 hn1 (by omega) hcd he37 (neN (by omega)) (neN (by omega)) ⟨B', F1, X', pick N1 (by kcj_all), T', rfl, rfl⟩ ⟨neN (by dsimp only; omega), neN (by dsimp only; omega), trivial⟩ ⟨(by show (30 : Nat) ≠ 37; decide), hc37, trivial⟩ ⟨he30.symm, hce, trivial⟩ (room1 hroom (by decide)) (room3 hun (by decide)) ?_)
  clear F1 N1
  intro v1 h1 tk1 F1 N1
  rw [hnum2]
  dsimp only
  k_steps
  (rename Fr _ _ _ _ => F2); (rename News _ _ _ _ => N2)
  refine Stop.mk (leaveK_ F2 N2 fun kF kN => hret _ _ _ _ _ kF (hrest.news F2 (pick (l' := (_, pairO _ _ _ _) :: tabsF c oc e oe) kN (by kcj_all))) (allNe_app (l := tabsF c oc e oe) ⟨neN (by dsimp only; omega), neN (by dsimp only; omega), neN (by dsimp only; omega), neN (by dsimp only; omega), trivial⟩ (hrest.ne N2 (.head _))))
set_option maxRecDepth 100000 in
set_option maxHeartbeats 1000000 in
theorem wpE {w : World} (H2 : Ok2 w 2) (HI : DigE w) (HD : DecE w) : PosE w := by
  intro a b t1 t2 dp un gd A₀ s L h₀ base m mg mb rest p loose mean env outer Q E ha0 hb0 hbn hk1 hk2 hn30 hn37 C hroom hun hret
  obtain ⟨B, F, X, N, T, hf, hke⟩ := C
  have hlim : recursionLimit = 1000 := rfl
  have hcl : cLine = 9900 := rfl
  obtain ⟨hn1, hbl, hbu⟩ := bits_pos hb0
  simp only [nOf] at hbn hk1 hk2
  w_on
  refine wpAny_call ?_
  k_dflt (refine' code_sub (sub := tabsE) (rest := rest) (binds := [(Str.ofString "a", .int a t1), (Str.ofString "b", .int b t2)]) B F X N (apart2 hn30 hn37) T rfl hf hke ?k6 ?k7 ?k8 ?k9 ?kB ?_ ?c2 ?c3 ?c4 ?c5; (case k6 => k_is); (case k7 => k_is); (case k8 => (show dp < _; omega)); (case k9 => exact BindsTo.of_eq rfl); (case c5 => decide); (case kB => exact locs rfl); (case c2 => exact rfl); (case c3 => exact rfl); (case c4 => exact rfl); k_whole; intro g' L' h' FG' F' N' B' X' T' l1 hrest; (try dsimp only [List.length_cons, List.length_nil, List.reverse_cons, List.reverse_nil, List.nil_append, List.cons_append]); (try k_fold))
  k_lt l1
  k_steps
  (rename Fr _ _ _ _ => F1); (rename News _ _ _ _ => N1)
  refine Stop.mk (HI (rest := [(37, tabObj #[])]) ha0 hn1 (by omega) hk1 hk2 ⟨B', F1, X', N1, T', rfl, rfl⟩ ⟨(by show (37 : Nat) ≠ 30; decide), trivial⟩ (room1 hroom (by decide)) (room3 hun (by decide)) ?_)
  clear F1 N1
  intro ad vs c oc h1 tk1 F1 N1 i1 l2 hci hc30 hc37'
  have hc37 : c ≠ 37 := fun q => hc37'.1 q.symm
  dsimp only
  k_steps
  (rename Fr _ _ _ _ => F1); (rename News _ _ _ _ => N1)
  have hds := digs_dig (Builtin.Int.intBits b) ((Builtin.Int.intBits a + Builtin.Int.intBits b - 1) / Builtin.Int.intBits b) a
  have hnum := num_digs (n := Builtin.Int.intBits b) (k := (Builtin.Int.intBits a + Builtin.Int.intBits b - 1) / Builtin.Int.intBits b) ha0 (lt_of_bits (dig_enough hn1)).2
  have hlen := digs_len (Builtin.Int.intBits b) ((Builtin.Int.intBits a + Builtin.Int.intBits b - 1) / Builtin.Int.intBits b) a
  generalize hG : digs (Builtin.Int.intBits b) ((Builtin.Int.intBits a + Builtin.Int.intBits b - 1) / Builtin.Int.intBits b) a = ds at *
  refine Stop.mk (wpAny_mono (E := fun _ _ => False) (wpl (z := c) (oz := oc) (o7 := tabObj #[]) H2 rfl rfl B' F1 X' T' (pick N1 (by kcj_all)) ?nq hb0 hn1 hbn hbl hbu i1 hds hnum hlen hk1 hroom hun (List.forall_mem_cons.mpr ⟨rfl, List.forall_mem_cons.mpr ⟨rfl, List.forall_mem_cons.mpr ⟨rfl, List.forall_mem_cons.mpr ⟨rfl, List.forall_mem_cons.mpr ⟨rfl, List.forall_mem_nil _⟩⟩⟩⟩⟩) ?_) (fun _ _ q => q) fun _ _ f => f.elim)
  case nq => exact ⟨neN (by dsimp only; omega), neN (by dsimp only; omega), neN (by dsimp only; omega), neN (by dsimp only; omega), neN (by dsimp only; omega), trivial⟩
  clear F1 N1
  intro vs2 ds2 tr j2 h2 tk2 m2 i2 hd2 hl2 hnum2 hm2 F1 N1
  rw [← kn_eq hm2] at F1
  have hnl2 : ds2.length ≤ 1024 := by omega
  have hnl3 : Builtin.Int.intBits b * ds2.length ≤ 1000000 := by rw [hl2]; exact hk2
  k_steps
  (rename Fr _ _ _ _ => F1); (rename News _ _ _ _ => N1)
  refine Stop.mk (HD (rest := [(30, t30 c), (c, oc)]) i2 hd2 hnl2 hnl3 hn1 (by omega) (neN (by omega)) ⟨B', F1, X', pick N1 (by kcj_all), T', rfl, rfl⟩ ⟨neN (by dsimp only; omega), neN (by dsimp only; omega), trivial⟩ ⟨(by show (30 : Nat) ≠ 37; decide), hc37, trivial⟩ (room1 hroom (by decide)) (room3 hun (by decide)) ?_)
  clear F1 N1
  intro v1 e oe h1 tk1 F1 N1 hcd hE
  rw [hnum2]
  dsimp only
  k_steps
  (rename Fr _ _ _ _ => F2); (rename News _ _ _ _ => N2)
  have hE' := hE
  obtain ⟨_, hE2, hE3, hE4, _⟩ := hE'
  refine Stop.mk (leaveK_ F2 N2 fun kF kN => hret _ _ _ c oc e oe _ _ kF (hrest.news F2 (pick (l' := (_, pairO _ _ _ _) :: tabsF c oc e oe) kN (by kcj_all))) (allNe_app (l := tabsF c oc e oe) ⟨neN (by dsimp only; omega), neN (by dsimp only; omega), neN (by dsimp only; omega), neN (by dsimp only; omega), trivial⟩ (hrest.ne N2 (.head _))) ⟨hci, hcd, hc30, hc37, fun q => hE3 q.symm, fun q => hE2 q.symm, hE4, hn30, hn37, hrest.ne N2 (o := oc) (by k_mem), hrest.ne N2 (o := oe) (by k_mem)⟩)
end
section
open PySem PySem.W PyProof.Rows PySem.Spec PySem.Calls
set_option maxRecDepth 100000 in
set_option maxHeartbeats 1000000 in
theorem dv0 {w : World} {a b : Int} (HP : PosF w) (ha : 0 ≤ a) (hb : 0 < b) (hF : Fit a b) : DvAt w a b (a / b) (a % b) 22 := by
  intro t1 t2 c e oc oe dp un gd A₀ s L h₀ base m mg mb rest p loose mean env outer Q E TF C hroom hun hret
  obtain ⟨B, F, X, N, T, hf, hke⟩ := C
  have hlim : recursionLimit = 1000 := rfl
  have hcl : cLine = 9900 := rfl
  w_on
  refine wpAny_call ?_
  k_dflt (refine' code_sub (sub := tabsF c oc e oe) (rest := rest) (binds := [(Str.ofString "a", .int a t1), (Str.ofString "b", .int b t2)]) B F X N TF.apart T rfl hf hke ?k6 ?k7 ?k8 ?k9 ?kB ?_ ?c2 ?c3 ?c4 ?c5; (case k6 => k_is); (case k7 => k_is); (case k8 => (show dp < _; omega)); (case k9 => exact BindsTo.of_eq rfl); (case c5 => decide); (case kB => exact locs rfl); (case c2 => exact rfl); (case c3 => exact rfl); (case c4 => exact rfl); k_whole; intro g' L' h' FG' F' N' B' X' T' l1 hrest; (try dsimp only [List.length_cons, List.length_nil, List.reverse_cons, List.reverse_nil, List.nil_append, List.cons_append]); (try k_fold))
  k_lt l1
  have TF' : TabF c oc e oe [] := ⟨TF.ci, TF.cd, TF.c30, TF.c37, TF.e30, TF.e37, TF.ce, trivial, trivial, trivial, trivial⟩
  k_steps
  · exfalso; omega
  (rename Fr _ _ _ _ => F1); (rename News _ _ _ _ => N1)
  refine Stop.mk (HP ha hb hF.bn hF.k1 hF.k2 (rest := []) TF' ⟨B', F1, X', N1, T', rfl, rfl⟩ (room1 hroom (by decide)) (room3 hun (by decide)) ?_)
  clear F1 N1
  intro t u v h1 tk F2 N2 hl
  dsimp only
  k_steps
  refine Stop.mk (leaveK_ F2 N2 fun kF kN => hret _ _ _ _ _ kF (hrest.news F2 kN) (allNe_app (l := tabsF c oc e oe) hl (hrest.ne N2 (.head _))))
set_option maxRecDepth 100000 in
set_option maxHeartbeats 1000000 in
theorem dv1 {w : World} {a b : Int} (HV : DvAt w (-a - 1) b ((-a - 1) / b) ((-a - 1) % b) 22) (ha : a < 0) (hb : 0 < b) : DvAt w a b (a / b) (a % b) 24 := by
  intro t1 t2 c e oc oe dp un gd A₀ s L h₀ base m mg mb rest p loose mean env outer Q E TF C hroom hun hret
  obtain ⟨B, F, X, N, T, hf, hke⟩ := C
  have hlim : recursionLimit = 1000 := rfl
  have hcl : cLine = 9900 := rfl
  w_on
  refine wpAny_call ?_
  k_dflt (refine' code_sub (sub := tabsF c oc e oe) (rest := rest) (binds := [(Str.ofString "a", .int a t1), (Str.ofString "b", .int b t2)]) B F X N TF.apart T rfl hf hke ?k6 ?k7 ?k8 ?k9 ?kB ?_ ?c2 ?c3 ?c4 ?c5; (case k6 => k_is); (case k7 => k_is); (case k8 => (show dp < _; omega)); (case k9 => exact BindsTo.of_eq rfl); (case c5 => decide); (case kB => exact locs rfl); (case c2 => exact rfl); (case c3 => exact rfl); (case c4 => exact rfl); k_whole; intro g' L' h' FG' F' N' B' X' T' l1 hrest; (try dsimp only [List.length_cons, List.length_nil, List.reverse_cons, List.reverse_nil, List.nil_append, List.cons_append]); (try k_fold))
  k_lt l1
  have TF' : TabF c oc e oe [] := ⟨TF.ci, TF.cd, TF.c30, TF.c37, TF.e30, TF.e37, TF.ce, trivial, trivial, trivial, trivial⟩
  k_steps
  · exfalso; omega
  (rename Fr _ _ _ _ => F1); (rename News _ _ _ _ => N1)
  refine Stop.mk (HV (rest := []) TF' ⟨B', F1, X', N1, T', rfl, rfl⟩ (room1 hroom (by decide)) (room3 hun (by decide)) ?_)
  clear F1 N1
  intro t u v h1 tk F1 N1 hl
  rw [List.append_nil] at N1 hl
  dsimp only
  k_steps
  (rename Fr _ _ _ _ => F2); (rename News _ _ _ _ => N2)
  rw [← (kbt_below a hb).1, show b + (-((-a - 1) % b) - 1) = a % b by rw [(kbt_below a hb).2]; omega] at N2
  refine Stop.mk (leaveK_ F2 N2 fun kF kN => hret _ _ _ _ _ kF (hrest.news F2 (pick (l' := (_, pairO _ _ _ _) :: tabsF c oc e oe) kN (by kcj_all))) (allNe_app (l := tabsF c oc e oe) ⟨neN (by dsimp only; omega), neN (by dsimp only; omega), neN (by dsimp only; omega), neN (by dsimp only; omega), trivial⟩ (hrest.ne N2 (.head _))))
set_option maxRecDepth 100000 in
set_option maxHeartbeats 1000000 in
theorem dv2 {w : World} {a b : Int} {q r : Int} (HV : DvAt w (-a) (-b) q r 24) (hb : b < 0) : DvAt w a b q (-r) 26 := by
  intro t1 t2 c e oc oe dp un gd A₀ s L h₀ base m mg mb rest p loose mean env outer Q E TF C hroom hun hret
  obtain ⟨B, F, X, N, T, hf, hke⟩ := C
  have hlim : recursionLimit = 1000 := rfl
  have hcl : cLine = 9900 := rfl
  w_on
  refine wpAny_call ?_
  k_dflt (refine' code_sub (sub := tabsF c oc e oe) (rest := rest) (binds := [(Str.ofString "a", .int a t1), (Str.ofString "b", .int b t2)]) B F X N TF.apart T rfl hf hke ?k6 ?k7 ?k8 ?k9 ?kB ?_ ?c2 ?c3 ?c4 ?c5; (case k6 => k_is); (case k7 => k_is); (case k8 => (show dp < _; omega)); (case k9 => exact BindsTo.of_eq rfl); (case c5 => decide); (case kB => exact locs rfl); (case c2 => exact rfl); (case c3 => exact rfl); (case c4 => exact rfl); k_whole; intro g' L' h' FG' F' N' B' X' T' l1 hrest; (try dsimp only [List.length_cons, List.length_nil, List.reverse_cons, List.reverse_nil, List.nil_append, List.cons_append]); (try k_fold))
  k_lt l1
  have TF' : TabF c oc e oe [] := ⟨TF.ci, TF.cd, TF.c30, TF.c37, TF.e30, TF.e37, TF.ce, trivial, trivial, trivial, trivial⟩
  k_steps
  · exfalso; omega
  (rename Fr _ _ _ _ => F1); (rename News _ _ _ _ => N1)
  refine Stop.mk (HV (rest := []) TF' ⟨B', F1, X', N1, T', rfl, rfl⟩ (room1 hroom (by decide)) (room3 hun (by decide)) ?_)
  clear F1 N1
  intro t u v h1 tk F1 N1 hl
  rw [List.append_nil] at N1 hl
  dsimp only
  k_steps
  (rename Fr _ _ _ _ => F2); (rename News _ _ _ _ => N2)
  refine Stop.mk (leaveK_ F2 N2 fun kF kN => hret _ _ _ _ _ kF (hrest.news F2 (pick (l' := (_, pairO _ _ _ _) :: tabsF c oc e oe) kN (by kcj_all))) (allNe_app (l := tabsF c oc e oe) ⟨neN (by dsimp only; omega), neN (by dsimp only; omega), neN (by dsimp only; omega), neN (by dsimp only; omega), trivial⟩ (hrest.ne N2 (.head _))))
end
section
open PySem PySem.W PyProof.Rows PySem.Spec PySem.Calls
/-- the guessed digit is taken down -/
def JW (R b D : Int) (fx : List (Str × Value)) (nx₀ : List (Addr × Obj)) (n : Nat) (m : Str → Option Value) (nx : List (Addr × Obj)) : Prop :=
  ∃ d td, (∀ p ∈ (Str.ofString "digit", Value.int d td) :: fx, m p.1 = some p.2) ∧ nx = nx₀ ∧ R / b ≤ d ∧ d ≤ D ∧ d.toNat = n
/-- what stands between two turns of _law_on_paper's loop -/
def JO (a b : Int) (W low c : Nat) (t1 t2 t3 tl : Tok) (rl : Addr) (i : Nat) (m : Str → Option Value) (news : List (Addr × Obj)) : Prop :=
  ∃ r tr q tq qs rv jn, (∀ p ∈ [(Str.ofString "rest", Value.int r tr), (Str.ofString "quotient", Value.int q tq), (Str.ofString "row", Value.ref rl), (Str.ofString "low", Value.int (low : Int) tl),
      (Str.ofString "a", Value.int a t1), (Str.ofString "b", Value.int b t2), (Str.ofString "width", Value.int (W : Int) t3)], m p.1 = some p.2) ∧
    news = [(rl, listOf rv.toArray jn)] ∧ IntsAre rv (dropz qs) ∧ Paper W b (a / 2 ^ ((c - i) * W)) r qs ∧ qs.length = i ∧ q = a / 2 ^ ((c - i) * W) / b
set_option maxRecDepth 100000 in
set_option maxHeartbeats 1000000 in
theorem wo {w : World} : Paps w := by
  intro a b W t1 t2 t3 dp un gd A₀ s L h₀ base m mg mb rest p loose mean env outer Q E ha0 hb0 hW1 hW2 hna hnb C hroom hun hret
  obtain ⟨B, F, X, N, T, hf, hke⟩ := C
  have hlim : recursionLimit = 1000 := rfl
  have hcl : cLine = 9900 := rfl
  simp only [nOf] at hna hnb
  have hW0 : (0 : Int) < (W : Int) := by omega
  have hWb : Builtin.Int.intBits (W : Int) ≤ 9000 := Nat.le_trans (bits_of_lt (k := 6) (by omega) (by show (W : Int) < 64; omega)) (by decide)
  w_on
  refine wpAny_call ?_
  k_dflt (refine' code_sub (sub := []) (rest := rest) (binds := [(Str.ofString "a", .int a t1), (Str.ofString "b", .int b t2), (Str.ofString "width", .int (W : Int) t3)]) B F X N (fun _ _ h => nomatch h) T rfl hf hke ?k6 ?k7 ?k8 ?k9 ?kB ?_ ?c2 ?c3 ?c4 ?c5; (case k6 => k_is); (case k7 => k_is); (case k8 => (show dp < _; omega)); (case k9 => exact BindsTo.of_eq rfl); (case c5 => decide); (case kB => exact locs rfl); (case c2 => exact rfl); (case c3 => exact rfl); (case c4 => exact rfl); k_whole; intro g' L' h' FG' F' N' B' X' T' l1 hrest; (try dsimp only [List.length_cons, List.length_nil, List.reverse_cons, List.reverse_nil, List.nil_append, List.cons_append]); (try k_fold))
  clear l1
  k_steps
  (rename Fr _ _ _ _ => F1); (rename News _ _ _ _ => N1)
  refine Stop.mk (maxZ rfl F1 N1 ?_)
  clear F1 N1
  intro v1 h1 tk1 F1 N1
  dsimp only
  k_steps
  (rename Fr _ _ _ _ => F1); (rename News _ _ _ _ => N1)
  refine Stop.mk (maxZ rfl F1 N1 ?_)
  clear F1 N1
  intro v2 h2 tk2 F1 N1
  dsimp only
  have hcm : (((Builtin.Int.intBits a : Int) - (Builtin.Int.intBits b : Int)) / (W : Int) + 1).toNat ≤ 6000 := by
    have : ((Builtin.Int.intBits a : Int) - (Builtin.Int.intBits b : Int)) / (W : Int) < 5001 := Int.ediv_lt_of_lt_mul hW0 (by omega)
    omega
  generalize hcome : (((Builtin.Int.intBits a : Int) - (Builtin.Int.intBits b : Int)) / (W : Int) + 1).toNat = come at *
  generalize hlow : ((Builtin.Int.intBits b : Int) - (W : Int) - 2).toNat = low at *
  k_steps
  (rename Fr _ _ _ _ => F1); (rename News _ _ _ _ => N1)
  have hlead := lead_lt ha0 hb0 hW0 hcome
  have hq0 := Int.ediv_eq_zero_of_lt hlead.1 hlead.2
  have hlow1 := low_le hb0 hlow
  have hlowb : Builtin.Int.intBits (b / 2 ^ low) ≤ 9000 := by
    have hbb := (lt_of_bits (Nat.le_refl (Builtin.Int.intBits b))).2
    exact Nat.le_trans (bits_of_lt (Int.le_of_lt hlow1) (Int.lt_of_le_of_lt (Int.ediv_le_self _ (Int.le_of_lt hb0)) hbb)) (by omega)
  refine Stop.mk (down_inv (JO a b W low come _ _ _ _ _) rfl (by assumption) (by omega) F1 N1 ⟨_, _, _, _, [], [], _, List.forall_mem_cons.mpr ⟨rfl, List.forall_mem_cons.mpr ⟨rfl, List.forall_mem_cons.mpr ⟨rfl, List.forall_mem_cons.mpr ⟨rfl, List.forall_mem_cons.mpr ⟨rfl, List.forall_mem_cons.mpr ⟨rfl, List.forall_mem_cons.mpr ⟨rfl, List.forall_mem_nil _⟩⟩⟩⟩⟩⟩⟩, rfl, .nil, ?hs, rfl, ?hz⟩ ?turn ?done)
  case hs => exact paper_start hlead.1 hlead.2
  case hz => exact hq0.symm
  case turn =>
    clear F1 N1
    rintro i t m news h tk own hi hoff ⟨r, tr, q, tq, qs, rv, jn, hm, rfl, iq, P, hln, hq⟩ F1 N1
    rw [← kn_eq hm] at F1
    have hr := P.r_range hb0
    have hbu := (lt_of_bits (Nat.le_refl (Builtin.Int.intBits b))).2
    have br : Builtin.Int.intBits r ≤ 8900 := Nat.le_trans (bits_of_lt hr.1 (Int.lt_trans hr.2 hbu)) hnb
    have hd : 0 ≤ a / 2 ^ ((come - 1 - i) * W) % 2 ^ W ∧ a / 2 ^ ((come - 1 - i) * W) % 2 ^ W < 2 ^ W := ⟨Int.emod_nonneg _ (by have := pw W; omega), Int.emod_lt_of_pos _ (pw W)⟩
    have hst := step_range hb0 hr hd
    have hq2 : 0 ≤ q ∧ q ≤ a := by
      rw [hq]
      have h1 := Int.ediv_nonneg ha0 (Int.le_of_lt (pw ((come - i) * W)))
      have h2 := Int.ediv_le_self (2 ^ ((come - i) * W)) ha0
      have h3 := Int.ediv_le_self b h1
      exact ⟨Int.ediv_nonneg h1 (Int.le_of_lt hb0), by omega⟩
    have bq : Builtin.Int.intBits q ≤ 20000 := Nat.le_trans (intBits_le_of_natAbs (by omega) (Nat.le_refl _)) hna
    generalize hdd : a / 2 ^ ((come - 1 - i) * W) % 2 ^ W = dd at *
    k_steps
    (rename Fr _ _ _ _ => F1); (rename News _ _ _ _ => N1)
    rw [hdd] at F1
    generalize hR : r * 2 ^ W + dd = R at *
    have hbb : Builtin.Int.intBits b ≤ 8900 := hnb
    have bR : Builtin.Int.intBits R ≤ 9100 := by
      have h1 := intBits_mul_le (x := b) (y := 2 ^ W) hnb (intBits_pow_le (x := 2) (m := 2) (by decide +kernel) W)
      exact Nat.le_trans (intBits_le_of_natAbs (y := b * 2 ^ W) (by omega) h1) (by omega)
    have hg := guess_ge hst.1 hb0 hlow1
    refine Stop.mk (While_inv2 (JW R b (R / 2 ^ low / (b / 2 ^ low)) [(Str.ofString "rest", Value.int R _), (Str.ofString "quotient", Value.int q tq), (Str.ofString "row", Value.ref _), (Str.ofString "low", Value.int (low : Int) v1), (Str.ofString "a", Value.int a t1), (Str.ofString "b", Value.int b t2), (Str.ofString "width", Value.int (W : Int) t3)] _) F1 N1 ⟨_, _, List.forall_mem_cons.mpr ⟨rfl, List.forall_mem_cons.mpr ⟨rfl, List.forall_mem_cons.mpr ⟨rfl, List.forall_mem_cons.mpr ⟨rfl, List.forall_mem_cons.mpr ⟨rfl, List.forall_mem_cons.mpr ⟨rfl, List.forall_mem_cons.mpr ⟨rfl, List.forall_mem_cons.mpr ⟨rfl, List.forall_mem_nil _⟩⟩⟩⟩⟩⟩⟩⟩, rfl, hg, Int.le_refl _, rfl⟩ ?_)
    clear F1 N1
    rintro n1 m1 nx1 h1 tk1 F1 N1 ⟨d, td, hm1, rfl, hd1, hd2, hd3⟩
    rw [← kn_eq hm1] at F1
    have hRb : 0 ≤ R / b := Int.ediv_nonneg hst.1 (Int.le_of_lt hb0)
    have hd0 : 0 ≤ d := Int.le_trans hRb hd1
    have hdR : d ≤ R := Int.le_trans hd2 (Int.le_trans (Int.ediv_le_self _ (Int.ediv_nonneg hst.1 (Int.le_of_lt (pw low)))) (Int.ediv_le_self _ hst.1))
    have bd : Builtin.Int.intBits d ≤ 9100 := intBits_le_of_natAbs (by omega) bR
    k_steps
    · (rename Fr _ _ _ _ => F2); (rename News _ _ _ _ => N2)
      have hbig := too_big hb0 (R := R) (d := d) (by assumption)
      exact ⟨_, _, _, _, _, rfl, F2, N2, (by omega : (d - 1).toNat < n1), _, _, List.forall_mem_cons.mpr ⟨rfl, List.forall_mem_cons.mpr ⟨rfl, List.forall_mem_cons.mpr ⟨rfl, List.forall_mem_cons.mpr ⟨rfl, List.forall_mem_cons.mpr ⟨rfl, List.forall_mem_cons.mpr ⟨rfl, List.forall_mem_cons.mpr ⟨rfl, List.forall_mem_cons.mpr ⟨rfl, List.forall_mem_nil _⟩⟩⟩⟩⟩⟩⟩⟩, rfl, by omega, by omega, rfl⟩
    · have hdq := fits hb0 (R := R) (d := d) (by assumption) hd1
      subst hdq
      (rename Fr _ _ _ _ => F2); (rename News _ _ _ _ => N2)
      refine Stop.mk (ne_intsK (isl (vs := rv) (j := jn) N2 (.tail _ (.head _))) iq (isl (vs := []) (j := 0) N2 (.head _)) .nil (by show un + 3 + 64 < _; omega) ?_)
      have hP := P.turn hb0 hd
      rw [hR, ← hdd, ← next_lead hi] at hP
      have hrr : R - R / b * b = R % b := by have := divmod_join R b; omega
      have hqq : q * 2 ^ W + R / b = a / 2 ^ ((come - (i + 1)) * W) / b := by rw [next_lead hi, hdd, (down (n := W) (d := dd) hb0 P.rest).1, hR, hq]
      rw [← hrr] at hP
      have hsn := dropz_snoc qs (R / b)
      k_steps
      · (rename Fr _ _ _ _ => F3); (rename News _ _ _ _ => N3)
        have hdz : dropz (qs ++ [R / b]) = dropz qs ++ [R / b] := by rw [hsn, if_neg (fun q => absurd q.2 (by assumption))]
        refine Stop.mk (append_K F3 (pick (l' := (_, listOf rv.toArray jn) :: own) N3 (fun p hp => .tail _ hp)) (.head (hoff.ne (.head _))) ?_ (by rw [List.size_toArray, iq.length]; exact Nat.le_trans (dropz_len qs) (Nat.le_trans (by omega : qs.length ≤ 6000) (by decide))))
        clear F3 N3
        intro h3 F3 N3
        dsimp only
        k_steps
        (rename Fr _ _ _ _ => F3); (rename News _ _ _ _ => N3)
        rw [List.push_toArray] at N3
        exact Stop.mk (InvEndN.intro F3 N3 (nx := [(_, listOf (rv ++ [Value.int (R / b) td]).toArray (jn + 1))]) ⟨_, _, _, _, qs ++ [R / b], rv ++ [Value.int (R / b) td], _, List.forall_mem_cons.mpr ⟨rfl, List.forall_mem_cons.mpr ⟨rfl, List.forall_mem_cons.mpr ⟨rfl, List.forall_mem_cons.mpr ⟨rfl, List.forall_mem_cons.mpr ⟨rfl, List.forall_mem_cons.mpr ⟨rfl, List.forall_mem_cons.mpr ⟨rfl, List.forall_mem_nil _⟩⟩⟩⟩⟩⟩⟩, rfl, by rw [hdz]; exact IntsAre.snoc iq, hP, by rw [List.length_append, hln]; rfl, hqq⟩ rfl (fun p hp => by rw [List.mem_singleton.mp hp]; exact .head _) (fun p hp => .tail _ hp))
      · (rename Fr _ _ _ _ => F3); (rename News _ _ _ _ => N3)
        have hz : dropz qs = [] := of_decide_eq_true (by assumption)
        have hdz : dropz (qs ++ [R / b]) = dropz qs := by rw [hsn, if_pos ⟨hz, by assumption⟩, hz]
        exact Stop.mk (InvEndN.intro F3 N3 (nx := [(_, listOf rv.toArray jn)]) ⟨_, _, _, _, qs ++ [R / b], rv, _, List.forall_mem_cons.mpr ⟨rfl, List.forall_mem_cons.mpr ⟨rfl, List.forall_mem_cons.mpr ⟨rfl, List.forall_mem_cons.mpr ⟨rfl, List.forall_mem_cons.mpr ⟨rfl, List.forall_mem_cons.mpr ⟨rfl, List.forall_mem_cons.mpr ⟨rfl, List.forall_mem_nil _⟩⟩⟩⟩⟩⟩⟩, rfl, by rw [hdz]; exact iq, hP, by rw [List.length_append, hln]; rfl, hqq⟩ rfl (fun p hp => by rw [List.mem_singleton.mp hp]; exact .tail _ (.head _)) (fun p hp => .tail _ (.tail _ hp)))
      · (rename Fr _ _ _ _ => F3); (rename News _ _ _ _ => N3)
        have hdz : dropz (qs ++ [R / b]) = dropz qs ++ [R / b] := by rw [hsn, if_neg (fun q => absurd q.1 (of_decide_eq_false (by assumption)))]
        refine Stop.mk (append_K F3 (pick (l' := (_, listOf rv.toArray jn) :: own) N3 (fun p hp => .tail _ hp)) (.head (hoff.ne (.head _))) ?_ (by rw [List.size_toArray, iq.length]; exact Nat.le_trans (dropz_len qs) (Nat.le_trans (by omega : qs.length ≤ 6000) (by decide))))
        clear F3 N3
        intro h3 F3 N3
        dsimp only
        k_steps
        (rename Fr _ _ _ _ => F3); (rename News _ _ _ _ => N3)
        rw [List.push_toArray] at N3
        exact Stop.mk (InvEndN.intro F3 N3 (nx := [(_, listOf (rv ++ [Value.int (R / b) td]).toArray (jn + 1))]) ⟨_, _, _, _, qs ++ [R / b], rv ++ [Value.int (R / b) td], _, List.forall_mem_cons.mpr ⟨rfl, List.forall_mem_cons.mpr ⟨rfl, List.forall_mem_cons.mpr ⟨rfl, List.forall_mem_cons.mpr ⟨rfl, List.forall_mem_cons.mpr ⟨rfl, List.forall_mem_cons.mpr ⟨rfl, List.forall_mem_cons.mpr ⟨rfl, List.forall_mem_nil _⟩⟩⟩⟩⟩⟩⟩, rfl, by rw [hdz]; exact IntsAre.snoc iq, hP, by rw [List.length_append, hln]; rfl, hqq⟩ rfl (fun p hp => by rw [List.mem_singleton.mp hp]; exact .head _) (fun p hp => .tail _ hp))
  case done =>
    clear F1 N1
    rintro m news h tk ⟨r, tr, q, tq, qs, rv, jn, hm, rfl, iq, P, hln, hq⟩ F1 N1
    rw [← kn_eq hm] at F1
    have e0 : a / 2 ^ ((come - come) * W) = a := by rw [Nat.sub_self, Nat.zero_mul, Int.pow_zero, Int.ediv_one]
    rw [e0] at P hq
    have hrow : (dropz qs).reverse = rowOf W (a / b) := by have := row_is (n := W) (by omega) P.dig; rw [P.num] at this; exact this
    have i2 : IntsAre rv.reverse (rowOf W (a / b)) := by rw [← hrow]; exact IntsAre.rev iq
    have hr := P.rest
    subst hr hq
    k_steps
    (rename Fr _ _ _ _ => F1); (rename News _ _ _ _ => N1)
    refine Stop.mk (kl_reverse (its := rv.toArray) (l := rv.reverse) F1 N1 (by simp) (by first | k_upd | fail "upd") (by rw [iq.length]; exact Nat.le_trans (dropz_len qs) (Nat.le_trans (by omega : qs.length ≤ 6000) (by decide))) ?_)
    clear F1 N1
    intro h2 F2 N2
    dsimp only
    k_steps
    (rename Fr _ _ _ _ => F2); (rename News _ _ _ _ => N2)
    exact Stop.mk (leaveK_ F2 N2 fun kF kN => hret _ _ _ _ _ _ _ _ kF (hrest.news F2 kN) i2 (allNe_app (l := [_]) ⟨neN (by dsimp only; omega), trivial⟩ (hrest.ne N2 (.head _))) (hrest.ne N2 (.tail _ (.head _))))
end
section
open PySem PySem.W PyProof.Rows PySem.Spec PySem.Calls
abbrev tabsR (c : Addr) (oc : Obj) (e : Addr) (oe : Obj) (l0 : Addr) (o0 : Obj) : List (Addr × Obj) := [(30, t30 c), (c, oc), (37, t37 e), (e, oe), (l0, o0)]
set_option maxRecDepth 100000 in
set_option maxHeartbeats 2000000 in
/-- _law_right from the comparison on -/
theorem wr3 {w : World} (HI : DigF w) (HD : DecF w) {body : List Stmt} {sc : Scope} (hast : rest10 10 = some (body, sc)) {q : Int} {W : Nat} {tq tw : Tok} {c e l0 tl dl : Addr} {oc oe : Obj} {vs0 va vb : List Value} {j0 : Nat} {ps : List (Int × Int)}
    {dp un : Nat} {gd : Option (List Code)} {s : Shared} {L : Addr} {h₀ base : Heap} {m mg mb : Str → Option Value} {p : Program} {loose : List Str} {mean : ExcName → Option Value} {env : Env} {outer : List Env} {Q : Flow → Shared → Prop} {E : Value → Shared → Prop}
    (B : Below (arA dp un gd env outer) base (env :: outer) h₀) (F : Fr h₀ L s.heap m) (X : (hd.heap_39 w.params).In h₀) (N : News h₀ L s.heap (tabsR c oc e oe l0 (listOf vs0.toArray j0))) (T : Top p loose mean mg mb h₀) (TF : TabF c oc e oe [(l0, listOf vs0.toArray j0)])
    (hq0 : 0 ≤ q) (hW1 : 4 ≤ W) (hW2 : W ≤ 62) (hs1 : (nOf q + W - 1) / W ≤ 1024) (hs2 : W * ((nOf q + W - 1) / W) ≤ 1000000) (i0 : IntsAre vs0 (rowOf W q))
    (ha : s.heap.IsList tl va.toArray) (hb : s.heap.IsList dl vb.toArray) (pa : PairsAre s.heap va ps) (pb : PairsAre s.heap vb ps) (hroom : dp + 30 < recursionLimit) (hun : un + 300 < cLine)
    (hm : ∀ p ∈ [(Str.ofString "told", Value.ref tl), (Str.ofString "due", Value.ref dl), (Str.ofString "q", Value.int q tq), (Str.ofString "width", Value.int (W : Int) tw), (Str.ofString "row", Value.ref l0)], m p.1 = some p.2)
    (hret : ∀ h' tk' m', Fr h₀ L h' m' → News h₀ L h' (tabsR c oc e oe l0 (listOf vs0.toArray j0)) → Q (.ret (.bool true)) { s with heap := h', toks := tk' }) :
    wpAny (model PR w) ((arA dp un gd env outer).deeper (envOf (Str.ofString "_law_right") sc L 68 (.ref 67))) (execs body (envOf (Str.ofString "_law_right") sc L 68 (.ref 67))) Q E s := by
  conv at hast => lhs; whnf
  cases hast
  have hlim : recursionLimit = 1000 := rfl
  have hcl : cLine = 9900 := rfl
  rw [← kn_eq hm] at F
  clear hm
  w_on
  k_steps
  refine Stop.mk (ne_pairs ha hb pa pb (room3 hun (by decide)) ?_)
  k_steps
  (rename Fr _ _ _ _ => F2); (rename News _ _ _ _ => N2)
  refine comp2_eval rfl F2 N2 (fun Q' hq => wpAny_Name (wpAny_loadName_local rfl rfl F2.ns rfl hq) (by decide)) (by decide) (by decide) rfl (by decide) rfl rfl (by decide) (fun _ => rfl) ha pa.items (fun C k t s₂ m₂ E' hn hm hk => test2 (fun b o e => hk b o (F2.keep b o e)) X T rfl rfl rfl rfl rfl rfl rfl hn hm) ?nx
  clear F2 N2 ha hb pa pb
  intro D h7 tk7 F2 N2 lD
  (try dsimp only)
  k_steps
  (rename Fr _ _ _ _ => F2); (rename News _ _ _ _ => N2)
  refine Stop.mk (ne_intsK (isl (vs := []) (j := 0) N2 (.tail _ (.head _))) .nil (isl (vs := []) (j := 0) N2 (.head _)) .nil (room3 hun (by decide)) ?_)
  rw [show (!decide (([] : List Int) = [])) = false by decide]
  replace N2 := pick (l' := tabsR c oc e oe l0 (listOf vs0.toArray j0)) N2 fun p hp => .tail _ (.tail _ hp)
  clear lD
  k_steps
  (rename Fr _ _ _ _ => F2); (rename News _ _ _ _ => N2)
  refine Stop.mk (HI (c := c) (oc := oc) (rest := [(37, t37 e), (e, oe), (l0, listOf vs0.toArray j0)]) hq0 (by omega) (by omega) hs1 hs2 TF.ci TF.c30 ⟨B, F2, X, pick N2 (by kcj_all), T, rfl, rfl⟩ ⟨(by show (37 : Nat) ≠ 30; decide), TF.e30, TF.n30⟩ ⟨(fun q => TF.c37 q.symm), (fun q => TF.ce q.symm), TF.nc⟩ (room1 hroom (by decide)) (room3 hun (by decide)) ?_)
  clear F2 N2
  intro dg vs8 h8 tk8 F2 N2 i8 l8
  dsimp only
  k_steps
  (rename Fr _ _ _ _ => F2); (rename News _ _ _ _ => N2)
  refine Stop.mk (HD (c := e) (oc := oe) (rest := [(30, t30 c), (c, oc), (l0, listOf vs0.toArray j0)]) i8 (digs_dig _ _ _) (by rw [digs_len]; exact hs1) (by rw [digs_len]; exact hs2) (by omega) (by omega) TF.cd TF.e37 (fun q => l8.2.2.1 q.symm) (fun q => l8.2.2.2.1 q.symm) ⟨B, F2, X, pick N2 (by kcj_all), T, rfl, rfl⟩ ⟨l8.1, l8.2.1, l8.2.2.2.2⟩ ⟨(by show (30 : Nat) ≠ 37; decide), TF.c37, TF.n37⟩ ⟨(fun q => TF.e30 q.symm), TF.ce, TF.ne⟩ (room1 hroom (by decide)) (room3 hun (by decide)) ?_)
  clear F2 N2
  intro v9 h9 tk9 F2 N2
  rw [num_digs hq0 (lt_of_bits (dig_enough (by omega))).2]
  dsimp only
  k_steps
  · (rename Fr _ _ _ _ => F2); (rename News _ _ _ _ => N2)
    refine Stop.mk (eq_intsK (isl (vs := vs8) (j := 0) N2 (by k_mem)) i8 (isl (vs := vs0) (j := j0) N2 (by k_mem)) i0 (room3 hun (by decide)) ?_)
    rw [show decide (digs W ((Builtin.Int.intBits q + W - 1) / W) q = rowOf W q) = true from decide_eq_true rfl]
    k_steps
    (rename Fr _ _ _ _ => F2); (rename News _ _ _ _ => N2)
    refine Stop.mk (hret _ _ _ F2 (pick N2 (by kcj_all)))
  · exact absurd rfl (by assumption)
end
section
open PySem PySem.W PyProof.Rows PySem.Spec PySem.Calls
local macro_rules | `(tactic| walk_at "execs cons") => `(tactic| ((with_reducible show wpAny _ _ (execs (Stmt.If _ _ _ _ :: Stmt.Assign _ _ _ :: Stmt.Return _ _ :: []) _) _ _ _); with_reducible refine stop ?_))
theorem twice_ok {a b : Int} {n : Nat} (hn : 1 ≤ n) (bl : 2 ^ (n - 1) ≤ b) (bu : b < 2 ^ n) (al : a < b * 2 ^ n) : 2 ^ (n + 1 - 1) ≤ b * 2 ∧ b * 2 < 2 ^ (n + 1) ∧ a * 2 < b * 2 * 2 ^ (n + 1) := by
  have e1 : (2 : Int) ^ (n + 1 - 1) = 2 ^ (n - 1) * 2 := by rw [show n + 1 - 1 = (n - 1) + 1 by omega, Int.pow_succ]
  have e2 : (2 : Int) ^ (n + 1) = 2 ^ n * 2 := Int.pow_succ 2 n
  have hp := pw n
  have e3 : b * 2 * (2 ^ n * 2) = 4 * (b * 2 ^ n) := by rw [Int.mul_assoc b 2, Int.mul_left_comm 2, ← Int.mul_assoc b, Int.mul_comm 4]; rfl
  have hb : 0 < b * 2 ^ n := Int.mul_pos (Int.lt_of_lt_of_le (pw (n - 1)) bl) hp
  rw [e1, e2, e3]
  exact ⟨by omega, by omega, by omega⟩
theorem half_le {a b : Int} {n : Nat} (hb : 0 < b) (hn : 1 ≤ n) (h : ¬ a < b * 2 ^ n) : ¬ a < b * 2 ^ ((n + n % 2) / 2) := by
  have h1 : (2 : Int) ^ ((n + n % 2) / 2) ≤ 2 ^ n := by
    have := Nat.pow_le_pow_right (show 0 < 2 by decide) (show (n + n % 2) / 2 ≤ n by omega)
    exact_mod_cast this
  have := Int.mul_le_mul_of_nonneg_left h1 (Int.le_of_lt hb)
  omega
theorem pairs_cons {h₀ h : Heap} {L : Addr} {news : List (Addr × Obj)} {x : Addr} {o : Obj} {p r : Int} {vs : List Value} {ps : List (Int × Int)} (N : News h₀ L h news) (hm : (x, o) ∈ news) (q : IsPair o p r) (t : PairsAre h vs ps) : PairsAre h (.ref x :: vs) ((p, r) :: ps) := .cons (N _ hm).1 q t
set_option maxRecDepth 100000 in
set_option maxHeartbeats 2000000 in
/-- _law_right behind the five answers -/
theorem wr2 {w : World} (H2 : Ok2 w 2) (H3 : Ok3 w 2) (HI : DigF w) (HD : DecF w) {body : List Stmt} {sc : Scope} (hast : rest5 10 = some (body, sc)) {a b : Int} {W : Nat} {ta tb tn tq tr tw : Tok} {c e l0 tl dl x1 x2 x3 x4 x5 y1 y2 y3 y4 y5 : Addr} {oc oe T1 T2 T3 T4 T5 U1 U2 U3 U4 U5 : Obj} {vs0 : List Value} {j0 : Nat} {p1 p2 p3 p4 p5 r1 r2 r3 r4 r5 : Int}
    {dp un : Nat} {gd : Option (List Code)} {s : Shared} {L : Addr} {h₀ base : Heap} {m mg mb : Str → Option Value} {p : Program} {loose : List Str} {mean : ExcName → Option Value} {env : Env} {outer : List Env} {Q : Flow → Shared → Prop} {E : Value → Shared → Prop}
    (B : Below (arA dp un gd env outer) base (env :: outer) h₀) (F : Fr h₀ L s.heap m) (X : (hd.heap_39 w.params).In h₀)
    (N : News h₀ L s.heap ([(dl, listOf #[.ref y1, .ref y2, .ref y3, .ref y4, .ref y5] 1), (tl, listOf #[.ref x1, .ref x2, .ref x3, .ref x4, .ref x5] 0), (x1, T1), (x2, T2), (x3, T3), (x4, T4), (x5, T5), (y1, U1), (y2, U2), (y3, U3), (y4, U4), (y5, U5)] ++ tabsR c oc e oe l0 (listOf vs0.toArray j0)))
    (T : Top p loose mean mg mb h₀) (TF : TabF c oc e oe [(l0, listOf vs0.toArray j0)])
    (nd : AllNe dl ([(tl, listOf #[.ref x1, .ref x2, .ref x3, .ref x4, .ref x5] 0), (x1, T1), (x2, T2), (x3, T3), (x4, T4), (x5, T5), (y1, U1), (y2, U2), (y3, U3), (y4, U4), (y5, U5), (30, t30 c), (c, oc), (37, t37 e), (e, oe), (l0, listOf vs0.toArray j0)]))
    (nt : AllNe tl ([(x1, T1), (x2, T2), (x3, T3), (x4, T4), (x5, T5), (y1, U1), (y2, U2), (y3, U3), (y4, U4), (y5, U5), (30, t30 c), (c, oc), (37, t37 e), (e, oe), (l0, listOf vs0.toArray j0)]))
    (f1 : IsPair T1 p1 r1) (f2 : IsPair T2 p2 r2) (f3 : IsPair T3 p3 r3) (f4 : IsPair T4 p4 r4) (f5 : IsPair T5 p5 r5) (g1 : IsPair U1 p1 r1) (g2 : IsPair U2 p2 r2) (g3 : IsPair U3 p3 r3) (g4 : IsPair U4 p4 r4) (g5 : IsPair U5 p5 r5)
    (ha0 : 0 ≤ a) (hb0 : 0 < b) (hna : Builtin.Int.intBits a ≤ 20000) (hbb : Builtin.Int.intBits b ≤ 8890) (hW1 : 4 ≤ W) (hW2 : W ≤ 62) (hs1 : (nOf (a / b) + W - 1) / W ≤ 1024) (hs2 : W * ((nOf (a / b) + W - 1) / W) ≤ 1000000) (i0 : IntsAre vs0 (rowOf W (a / b)))
    (hroom : dp + 30 < recursionLimit) (hun : un + 300 < cLine)
    (hm : ∀ p ∈ [(Str.ofString "a", Value.int a ta), (Str.ofString "b", Value.int b tb), (Str.ofString "n", Value.int ((Builtin.Int.intBits b : Nat) : Int) tn), (Str.ofString "told", Value.ref tl), (Str.ofString "due", Value.ref dl), (Str.ofString "q", Value.int (a / b) tq), (Str.ofString "r", Value.int (a % b) tr), (Str.ofString "width", Value.int (W : Int) tw), (Str.ofString "row", Value.ref l0)], m p.1 = some p.2)
    (hret : ∀ h' tk' m', Fr h₀ L h' m' → News h₀ L h' (tabsR c oc e oe l0 (listOf vs0.toArray j0)) → Q (.ret (.bool true)) { s with heap := h', toks := tk' }) :
    wpAny (model PR w) ((arA dp un gd env outer).deeper (envOf (Str.ofString "_law_right") sc L 68 (.ref 67))) (execs body (envOf (Str.ofString "_law_right") sc L 68 (.ref 67))) Q E s := by
  conv at hast => lhs; whnf
  cases hast
  have hlim : recursionLimit = 1000 := rfl
  have hcl : cLine = 9900 := rfl
  obtain ⟨hn1, hbl, hbu⟩ := bits_pos hb0
  have hq0 : 0 ≤ a / b := Int.ediv_nonneg ha0 (Int.le_of_lt hb0)
  have hrb : Builtin.Int.intBits (a % b) ≤ 8890 := Nat.le_trans (intBits_le_of_natAbs (x := a % b) (y := b) (by have := Int.emod_nonneg a (show b ≠ 0 by omega); have := Int.emod_lt_of_pos a hb0; omega) (Nat.le_refl _)) hbb
  rw [← kn_eq hm] at F
  clear hm
  replace N : News _ _ _ [(dl, listOf #[.ref y1, .ref y2, .ref y3, .ref y4, .ref y5] 1), (tl, listOf #[.ref x1, .ref x2, .ref x3, .ref x4, .ref x5] 0), (x1, T1), (x2, T2), (x3, T3), (x4, T4), (x5, T5), (y1, U1), (y2, U2), (y3, U3), (y4, U4), (y5, U5), (30, t30 c), (c, oc), (37, t37 e), (e, oe), (l0, listOf vs0.toArray j0)] := N
  w_on
  by_cases hal : a < b * 2 ^ Builtin.Int.intBits b
  rotate_left
  · have hhf := half_le hb0 hn1 hal
    k_steps
    (rename Fr _ _ _ _ => F2); (rename News _ _ _ _ => N2)
    refine Stop.mk (wr3 HI HD rfl B F2 X (pick N2 (by kcj_all)) T TF hq0 hW1 hW2 hs1 hs2 i0 (isl (j := _) N2 (by k_mem)) (isl (j := _) N2 (by k_mem)) (pairs_cons N2 (by k_mem) f1 (pairs_cons N2 (by k_mem) f2 (pairs_cons N2 (by k_mem) f3 (pairs_cons N2 (by k_mem) f4 (pairs_cons N2 (by k_mem) f5 .nil))))) (pairs_cons N2 (by k_mem) g1 (pairs_cons N2 (by k_mem) g2 (pairs_cons N2 (by k_mem) g3 (pairs_cons N2 (by k_mem) g4 (pairs_cons N2 (by k_mem) g5 .nil))))) (by omega) (by omega) (List.forall_mem_cons.mpr ⟨rfl, List.forall_mem_cons.mpr ⟨rfl, List.forall_mem_cons.mpr ⟨rfl, List.forall_mem_cons.mpr ⟨rfl, List.forall_mem_cons.mpr ⟨rfl, List.forall_mem_nil _⟩⟩⟩⟩⟩) fun h' tk' m' F' N' => hret h' tk' m' F' N')
  k_steps
  (rename Fr _ _ _ _ => F2); (rename News _ _ _ _ => N2)
  have htw := twice_ok hn1 hbl hbu hal
  refine Stop.mk (H2 hn1 (by omega) (by omega) hbl hbu ha0 hal ⟨B, F2, X, N2, T, rfl, rfl⟩ (room1 hroom (by decide)) (room3 hun (by decide)) ?_)
  clear F2 N2
  intro z1 w1 v1 h7 tk7 F2 N2 m1
  dsimp only
  k_steps
  (rename Fr _ _ _ _ => F2); (rename News _ _ _ _ => N2)
  refine Stop.mk (H2 (by omega) (by omega) (by omega) htw.1 htw.2.1 (by omega) htw.2.2 ⟨B, F2, X, N2, T, rfl, rfl⟩ (room1 hroom (by decide)) (room3 hun (by decide)) ?_)
  clear F2 N2
  rw [twice_div a b hb0, twice_mod']
  intro z2 w2 v2 h8 tk8 F2 N2 m2
  dsimp only
  k_steps
  (rename Fr _ _ _ _ => F2); (rename News _ _ _ _ => N2)
  refine Stop.mk ?_
  k_dflt (refine' kl_extend F2 N2 (.head _) ?e ?ne ?U ?d ?z ?y ?_; (case U => k_upd); (case e => kl_lit); (case ne => kl_some); (case d => kl_no); (case z => kl_room); (case y => kl_room))
  clear F2 N2
  intro h6 F2 N2
  dsimp only
  k_steps
  (rename Fr _ _ _ _ => F2); (rename News _ _ _ _ => N2)
  refine Stop.mk ?_
  k_dflt (refine' kl_extend F2 N2 (.head _) ?e ?ne ?U ?d ?z ?y ?_; (case U => k_upd); (case e => kl_lit); (case ne => kl_some); (case d => kl_no); (case z => kl_room); (case y => kl_room))
  clear F2 N2
  intro h6 F2 N2
  dsimp only
  k_steps
  rotate_right
  · (rename Fr _ _ _ _ => F2); (rename News _ _ _ _ => N2)
    refine Stop.mk (wr3 HI HD rfl B F2 X (pick N2 (by kcj_all)) T TF hq0 hW1 hW2 hs1 hs2 i0 (isl (j := _) N2 (by k_mem)) (isl (j := _) N2 (by k_mem)) (pairs_cons N2 (by k_mem) f1 (pairs_cons N2 (by k_mem) f2 (pairs_cons N2 (by k_mem) f3 (pairs_cons N2 (by k_mem) f4 (pairs_cons N2 (by k_mem) f5 (pairs_cons N2 (by k_mem) ⟨_, _, rfl⟩ (pairs_cons N2 (by k_mem) ⟨_, _, rfl⟩ .nil))))))) (pairs_cons N2 (by k_mem) g1 (pairs_cons N2 (by k_mem) g2 (pairs_cons N2 (by k_mem) g3 (pairs_cons N2 (by k_mem) g4 (pairs_cons N2 (by k_mem) g5 (pairs_cons N2 (by k_mem) ⟨_, _, rfl⟩ (pairs_cons N2 (by k_mem) ⟨_, _, rfl⟩ .nil))))))) (by omega) (by omega) (List.forall_mem_cons.mpr ⟨rfl, List.forall_mem_cons.mpr ⟨rfl, List.forall_mem_cons.mpr ⟨rfl, List.forall_mem_cons.mpr ⟨rfl, List.forall_mem_cons.mpr ⟨rfl, List.forall_mem_nil _⟩⟩⟩⟩⟩) fun h' tk' m' F' N' => hret h' tk' m' F' N')
  (rename Fr _ _ _ _ => F2); (rename News _ _ _ _ => N2)
  have h3 := three_pad hn1 hbl hbu ha0 (by assumption)
  refine Stop.mk (H3 (by omega) (by omega) (by omega) h3.hi0 h3.hib h3.lo0 h3.lo1 h3.bb h3.b20 h3.b21 h3.b1l h3.b1u ⟨B, F2, X, N2, T, rfl, rfl⟩ (room1 hroom (by decide)) (room3 hun (by decide)) ?_)
  clear F2 N2
  rw [h3.whole, scale_div a b _ hb0, scale_mod]
  intro z3 w3 v3 h9 tk9 F2 N2 m3
  dsimp only
  k_steps
  (rename Fr _ _ _ _ => F2); (rename News _ _ _ _ => N2)
  refine Stop.mk (append_K F2 N2 (by first | k_upd | fail "upd") ?_ (by simp [sizeLine]))
  clear F2 N2
  intro h6 F2 N2
  dsimp only
  k_steps
  (rename Fr _ _ _ _ => F2); (rename News _ _ _ _ => N2)
  refine Stop.mk (append_K F2 N2 (by first | k_upd | fail "upd") ?_ (by simp [sizeLine]))
  clear F2 N2
  intro h6 F2 N2
  dsimp only
  k_steps
  (rename Fr _ _ _ _ => F2); (rename News _ _ _ _ => N2)
  refine Stop.mk (wr3 HI HD rfl B F2 X (pick N2 (by kcj_all)) T TF hq0 hW1 hW2 hs1 hs2 i0 (isl (j := _) N2 (by k_mem)) (isl (j := _) N2 (by k_mem)) (pairs_cons N2 (by k_mem) f1 (pairs_cons N2 (by k_mem) f2 (pairs_cons N2 (by k_mem) f3 (pairs_cons N2 (by k_mem) f4 (pairs_cons N2 (by k_mem) f5 (pairs_cons N2 (by k_mem) ⟨_, _, rfl⟩ (pairs_cons N2 (by k_mem) ⟨_, _, rfl⟩ (pairs_cons N2 (by k_mem) ⟨_, _, rfl⟩ .nil)))))))) (pairs_cons N2 (by k_mem) g1 (pairs_cons N2 (by k_mem) g2 (pairs_cons N2 (by k_mem) g3 (pairs_cons N2 (by k_mem) g4 (pairs_cons N2 (by k_mem) g5 (pairs_cons N2 (by k_mem) ⟨_, _, rfl⟩ (pairs_cons N2 (by k_mem) ⟨_, _, rfl⟩ (pairs_cons N2 (by k_mem) ⟨_, _, rfl⟩ .nil)))))))) (by omega) (by omega) (List.forall_mem_cons.mpr ⟨rfl, List.forall_mem_cons.mpr ⟨rfl, List.forall_mem_cons.mpr ⟨rfl, List.forall_mem_cons.mpr ⟨rfl, List.forall_mem_cons.mpr ⟨rfl, List.forall_mem_nil _⟩⟩⟩⟩⟩) fun h' tk' m' F' N' => hret h' tk' m' F' N')
end
section
open PySem PySem.W PyProof.Rows PySem.Spec PySem.Calls
local macro_rules | `(tactic| walk_at "execs cons") => `(tactic| ((with_reducible show wpAny _ _ (execs (Stmt.If _ _ _ _ :: Stmt.Assign _ _ _ :: _ :: _ :: _ :: _) _) _ _ _); with_reducible refine stop ?_))
local macro_rules | `(tactic| walk_at "all ne") => `(tactic| (repeat' (first | exact True.intro | (refine And.intro ?_ ?_) | (refine neN ?_; (try dsimp only); omega) | k_ne)))
set_option maxRecDepth 100000 in
set_option maxHeartbeats 2000000 in
theorem wr {w : World} {sub0 : List (Addr × Obj)} (HO : Paps w) (HP : PosX w sub0) (H2 : Ok2 w 2) (H3 : Ok3 w 2) (HI : DigF w) (HD : DecF w)
    (V1 : ∀ {a b}, 0 ≤ a → 0 < b → Fit a b → DvAt w a b (a / b) (a % b) 22) (V1' : ∀ {a b}, 0 ≤ a → 0 < b → Fit a b → DvAt w a b (a / b) (a % b) 24) (V2 : ∀ {a b}, 0 ≤ a → 0 < b → Fit a b → DvAt w (-a) b (-a / b) (-a % b) 24) (dv2' : ∀ {a b q r}, DvAt w (-a) (-b) q r 24 → b < 0 → DvAt w a b q (-r) 26) : RightX w sub0 := by
  intro a b W t1 t2 t3 dp un gd A₀ s L h₀ base m mg mb rest p loose mean env outer Q E ha0 hb0 hW1 hW2 hna hnW hnb hF hap C hroom hun hret
  obtain ⟨B, F, X, N, T, hf, hke⟩ := C
  have hlim : recursionLimit = 1000 := rfl
  have hcl : cLine = 9900 := rfl
  simp only [nOf] at hna hnb hnW
  obtain ⟨hn1, hbl, hbu⟩ := bits_pos hb0
  have hbb : Builtin.Int.intBits b ≤ 8890 := hnb
  have D2 : DvAt w (-a) (-b) (a / b) (-(a % b)) 26 := dv2' (by rw [Int.neg_neg, Int.neg_neg]; exact V1' ha0 hb0 hF) (by omega)
  have D4 : DvAt w a (-b) (-a / b) (-(-a % b)) 26 := dv2' (by rw [Int.neg_neg]; exact V2 ha0 hb0 hF) (by omega)
  w_on
  refine wpAny_call ?_
  k_dflt (refine' code_sub (sub := sub0) (rest := rest) (binds := [(Str.ofString "a", .int a t1), (Str.ofString "b", .int b t2), (Str.ofString "width", .int (W : Int) t3)]) B F X N hap T rfl hf hke ?k6 ?k7 ?k8 ?k9 ?kB ?_ ?c2 ?c3 ?c4 ?c5; (case k6 => k_is); (case k7 => k_is); (case k8 => (show dp < _; omega)); (case k9 => exact BindsTo.of_eq rfl); (case c5 => decide); (case kB => exact locs rfl); (case c2 => exact rfl); (case c3 => exact rfl); (case c4 => exact rfl); k_whole; intro g' L' h' FG' F' N' B' X' T' l1 hrest; (try dsimp only [List.length_cons, List.length_nil, List.reverse_cons, List.reverse_nil, List.nil_append, List.cons_append]); (try k_fold))
  clear l1
  k_steps
  (rename Fr _ _ _ _ => F1); (rename News _ _ _ _ => N1)
  refine Stop.mk (HO ha0 hb0 hW1 hW2 hna (by show Builtin.Int.intBits b ≤ 8900; omega) ⟨B', F1, X', N1, T', rfl, rfl⟩ (room1 hroom (by decide)) (room3 hun (by decide)) ?_)
  clear F1 N1
  intro t0 l0 vs0 j0 u0 v0 h0 tk0 F1 N1 i0 lt0 ll0
  dsimp only
  k_steps
  (rename Fr _ _ _ _ => F1); (rename News _ _ _ _ => N1)
  refine Stop.mk (HP ha0 hb0 hF (rest := [(l0, listOf vs0.toArray j0)]) (fun p hp => by rw [List.mem_singleton.mp hp]; exact ll0) ⟨B', F1, X', pick N1 (fun p hp => (List.mem_append.mp hp).elim (fun h => .tail _ (.tail _ h)) fun h => .tail _ (by rw [List.mem_singleton.mp h]; exact .head _)), T', rfl, rfl⟩ (room1 hroom (by decide)) (room3 hun (by decide)) ?_)
  clear F1 N1
  intro x1 u1 v1 c oc e oe h1 tk1 F1 N1 l1 TF
  dsimp only
  replace N1 := news_rot N1
  have TF1 := TF.cons (o := pairO (a / b) (a % b) u1 v1) l1
  k_steps
  (rename Fr _ _ _ _ => F1); (rename News _ _ _ _ => N1)
  refine Stop.mk (V1 ha0 hb0 hF TF1 ⟨B', F1, X', N1, T', rfl, rfl⟩ (room1 hroom (by decide)) (room3 hun (by decide)) ?_)
  clear F1 N1
  intro x2 u2 v2 h2 tk2 F1 N1 l2
  dsimp only
  replace N1 := news_rot N1
  have TF2 := TF1.cons (o := pairO (a / b) (a % b) u2 v2) l2
  k_steps
  (rename Fr _ _ _ _ => F1); (rename News _ _ _ _ => N1)
  refine Stop.mk (D2 TF2 ⟨B', F1, X', N1, T', rfl, rfl⟩ (room1 hroom (by decide)) (room3 hun (by decide)) ?_)
  clear F1 N1
  intro x3 u3 v3 h3 tk3 F1 N1 l3
  dsimp only
  replace N1 := news_rot N1
  have TF3 := TF2.cons (o := pairO (a / b) (-(a % b)) u3 v3) l3
  k_steps
  (rename Fr _ _ _ _ => F1); (rename News _ _ _ _ => N1)
  refine Stop.mk (V2 ha0 hb0 hF TF3 ⟨B', F1, X', N1, T', rfl, rfl⟩ (room1 hroom (by decide)) (room3 hun (by decide)) ?_)
  clear F1 N1
  intro x4 u4 v4 h4 tk4 F1 N1 l4
  dsimp only
  replace N1 := news_rot N1
  have TF4 := TF3.cons (o := pairO (-a / b) (-a % b) u4 v4) l4
  k_steps
  (rename Fr _ _ _ _ => F1); (rename News _ _ _ _ => N1)
  refine Stop.mk (D4 TF4 ⟨B', F1, X', N1, T', rfl, rfl⟩ (room1 hroom (by decide)) (room3 hun (by decide)) ?_)
  clear F1 N1
  intro x5 u5 v5 h5 tk5 F1 N1 l5
  dsimp only
  have hrb : Builtin.Int.intBits (a % b) ≤ 8890 := Nat.le_trans (intBits_le_of_natAbs (x := a % b) (y := b) (by have := Int.emod_nonneg a (show b ≠ 0 by omega); have := Int.emod_lt_of_pos a hb0; omega) (Nat.le_refl _)) hnb
  have hq0 : 0 ≤ a / b := Int.ediv_nonneg ha0 (Int.le_of_lt hb0)
  have hsm := row_small (q := a / b) hW1 hW2 (intBits_le_of_natAbs (x := a / b) (y := a) (by have := Int.ediv_le_self b ha0; omega) (Nat.le_refl _)) hnW
  simp only [tabsF, List.cons_append, List.nil_append] at N1 l1 l2 l3 l4 l5
  k_steps
  · have hr0 : a % b = 0 := by assumption
    (rename Fr _ _ _ _ => F2); (rename News _ _ _ _ => N2)
    rw [(neg_div0 hb0 hr0).1, (neg_div0 hb0 hr0).2, Int.neg_zero] at N2
    refine Stop.mk ?_
    k_dflt (refine' kl_extend F2 N2 (.head _) ?e ?ne ?U ?d ?z ?y ?_; (case U => k_upd); (case e => kl_lit); (case ne => kl_some); (case d => kl_no); (case z => kl_room); (case y => kl_room))
    clear F2 N2
    intro h6 F2 N2
    dsimp only
    k_steps
    (rename Fr _ _ _ _ => F2); (rename News _ _ _ _ => N2)
    refine Stop.mk (wr2 H2 H3 HI HD rfl B' F2 X' (pick N2 (by kcj_all)) T' TF ?nd ?nt ⟨_, _, rfl⟩ ⟨_, _, rfl⟩ ⟨_, _, rfl⟩ ⟨_, _, rfl⟩ ⟨_, _, rfl⟩ ⟨_, _, rfl⟩ ⟨_, _, rfl⟩ ⟨_, _, rfl⟩ ⟨_, _, rfl⟩ ⟨_, _, rfl⟩ ha0 hb0 hna hbb hW1 hW2 hsm.1 hsm.2 i0 (by omega) (by omega) (List.forall_mem_cons.mpr ⟨rfl, List.forall_mem_cons.mpr ⟨rfl, List.forall_mem_cons.mpr ⟨rfl, List.forall_mem_cons.mpr ⟨rfl, List.forall_mem_cons.mpr ⟨rfl, List.forall_mem_cons.mpr ⟨rfl, List.forall_mem_cons.mpr ⟨rfl, List.forall_mem_cons.mpr ⟨rfl, List.forall_mem_cons.mpr ⟨rfl, List.forall_mem_nil _⟩⟩⟩⟩⟩⟩⟩⟩⟩) ?_)
    case nd => walk_at "all ne"
    case nt => walk_at "all ne"
    clear F2 N2
    intro h9 tk9 m9 F2 N2
    exact leaveK_ F2 N2 fun kF kN => hret c oc e oe _ _ kF (hrest.news F2 (pick kN (by kcj_all))) ⟨TF.ci, TF.cd, TF.c30, TF.c37, TF.e30, TF.e37, TF.ce, hrest.ne N2 (o := t30 c) (by k_mem), hrest.ne N2 (o := t37 e) (by k_mem), hrest.ne N2 (o := oc) (by k_mem), hrest.ne N2 (o := oe) (by k_mem)⟩
  · have hr0 : ¬ a % b = 0 := by assumption
    (rename Fr _ _ _ _ => F2); (rename News _ _ _ _ => N2)
    rw [(neg_div1 hb0 hr0).1, (neg_div1 hb0 hr0).2, Int.neg_sub] at N2
    refine Stop.mk ?_
    k_dflt (refine' kl_extend F2 N2 (.head _) ?e ?ne ?U ?d ?z ?y ?_; (case U => k_upd); (case e => kl_lit); (case ne => kl_some); (case d => kl_no); (case z => kl_room); (case y => kl_room))
    clear F2 N2
    intro h6 F2 N2
    dsimp only
    k_steps
    (rename Fr _ _ _ _ => F2); (rename News _ _ _ _ => N2)
    refine Stop.mk (wr2 H2 H3 HI HD rfl B' F2 X' (pick N2 (by kcj_all)) T' TF ?nd ?nt ⟨_, _, rfl⟩ ⟨_, _, rfl⟩ ⟨_, _, rfl⟩ ⟨_, _, rfl⟩ ⟨_, _, rfl⟩ ⟨_, _, rfl⟩ ⟨_, _, rfl⟩ ⟨_, _, rfl⟩ ⟨_, _, rfl⟩ ⟨_, _, rfl⟩ ha0 hb0 hna hbb hW1 hW2 hsm.1 hsm.2 i0 (by omega) (by omega) (List.forall_mem_cons.mpr ⟨rfl, List.forall_mem_cons.mpr ⟨rfl, List.forall_mem_cons.mpr ⟨rfl, List.forall_mem_cons.mpr ⟨rfl, List.forall_mem_cons.mpr ⟨rfl, List.forall_mem_cons.mpr ⟨rfl, List.forall_mem_cons.mpr ⟨rfl, List.forall_mem_cons.mpr ⟨rfl, List.forall_mem_cons.mpr ⟨rfl, List.forall_mem_nil _⟩⟩⟩⟩⟩⟩⟩⟩⟩) ?_)
    case nd => walk_at "all ne"
    case nt => walk_at "all ne"
    clear F2 N2
    intro h9 tk9 m9 F2 N2
    exact leaveK_ F2 N2 fun kF kN => hret c oc e oe _ _ kF (hrest.news F2 (pick kN (by kcj_all))) ⟨TF.ci, TF.cd, TF.c30, TF.c37, TF.e30, TF.e37, TF.ce, hrest.ne N2 (o := t30 c) (by k_mem), hrest.ne N2 (o := t37 e) (by k_mem), hrest.ne N2 (o := oc) (by k_mem), hrest.ne N2 (o := oe) (by k_mem)⟩
end
section
open PySem PySem.W PyProof.Rows PySem.Spec PySem.Calls
local macro_rules | `(tactic| walk_at "binaryOp Pow int int") => `(tactic| (with_reducible refine stop ?_))
local macro_rules | `(tactic| walk_at "call builtin:min") => `(tactic| (with_reducible refine stop ?_))
set_option maxRecDepth 100000 in
set_option maxHeartbeats 1000000 in
theorem ws {w : World} : Divs w := by
  intro b z t1 t2 dp un gd A₀ s L h₀ base m mg mb rest p loose mean env outer Q E hb0 hn C hroom hun hret
  obtain ⟨B, F, X, N, T, hf, hke⟩ := C
  have hlim : recursionLimit = 1000 := rfl
  have hcl : cLine = 9900 := rfl
  have hnb : Builtin.Int.intBits b ≤ 300 := hn
  w_on
  refine wpAny_call ?_
  k_dflt (refine' code_sub (sub := []) (rest := rest) (binds := [(Str.ofString "b", .int b t1), (Str.ofString "z", .int z t2)]) B F X N (fun _ _ => List.not_mem_nil) T rfl hf hke ?k6 ?k7 ?k8 ?k9 ?kB ?_ ?c2 ?c3 ?c4 ?c5; (case k6 => k_is); (case k7 => k_is); (case k8 => (show dp < _; omega)); (case k9 => exact BindsTo.of_eq rfl); (case c5 => decide); (case kB => exact locs rfl); (case c2 => exact rfl); (case c3 => exact rfl); (case c4 => exact rfl); k_whole; intro g' L' h' FG' F' N' B' X' T' l1 hrest; (try dsimp only [List.length_cons, List.length_nil, List.reverse_cons, List.reverse_nil, List.nil_append, List.cons_append]); (try k_fold))
  clear l1
  k_steps
  refine Stop.mk (powR (k := 378) (by omega) ?_)
  intro x3 v3 tk3
  dsimp only
  k_steps
  refine Stop.mk (mulNR (n := 24) (k := Builtin.Int.intBits b) (by omega) ?_)
  intro v4 tk4
  dsimp only
  k_steps
  (rename Fr _ _ _ _ => F2); (rename News _ _ _ _ => N2)
  refine Stop.mk (minR rfl F2 N2 ?_)
  clear F2 N2
  intro k v5 h5 tk5 hk6 hk24 F2 N2
  dsimp only
  have hpk := pw k
  have htwo : 0 < b * 2 ^ Builtin.Int.intBits b := Int.mul_pos hb0 (pw _)
  have hthree : 0 < b * 2 ^ ((Builtin.Int.intBits b + 1) / 2) := Int.mul_pos hb0 (pw _)
  k_steps
  (rename Fr _ _ _ _ => F2); (rename News _ _ _ _ => N2)
  have m1 := Int.emod_nonneg (x3 + z) (show (2 : Int) ^ k ≠ 0 by omega)
  have m2 := Int.emod_lt_of_pos (x3 + z) hpk
  have m3 := Int.emod_nonneg z (show b * 2 ^ Builtin.Int.intBits b ≠ 0 by omega)
  have m4 := Int.emod_lt_of_pos z htwo
  have m5 := Int.emod_nonneg z (show b * 2 ^ ((Builtin.Int.intBits b + 1) / 2) ≠ 0 by omega)
  have m6 := Int.emod_lt_of_pos z hthree
  have m7 := Int.emod_nonneg z (show b ≠ 0 by omega)
  have m8 := Int.emod_lt_of_pos z hb0
  have u1 := up_ltS (k := Builtin.Int.intBits b) hb0
  have u2 := up_ltS (k := (Builtin.Int.intBits b + 1) / 2) hb0
  obtain ⟨q1, q2, q3⟩ := bits_pos hb0
  simp only [nOf] at u1 u2
  refine Stop.mk (leaveK_ F2 N2 fun kF kN => hret _ _ _ _ _ _ _ _ _ _ _ _ _ kF (hrest.news F2 kN) (hrest.ne N2 (.head _))
    (okd_of (k := k) hb0 hn hk24 hk6 m1 m2) (okd_of (k := Builtin.Int.intBits b + Builtin.Int.intBits b) hb0 hn (by simp only [nOf]; omega) (by omega) (by omega) (by omega))
    (okd_of (k := Builtin.Int.intBits b + (Builtin.Int.intBits b + 1) / 2) hb0 hn (by simp only [nOf]; omega) (by omega) (by omega) (by omega))
    (okd_of (k := Builtin.Int.intBits b + (Builtin.Int.intBits b + 1) / 2) hb0 hn (by simp only [nOf]; omega) (by omega) (by omega) (by omega))
    (okd_of (k := Builtin.Int.intBits b) hb0 hn (by simp only [nOf]; omega) (by omega) m7 (by omega)))
end
section
open PySem PySem.W PyProof.Rows PySem.Spec PySem.Calls
theorem ok2All {w : World} (k : Nat) : Ok2 w k := by
  induction k with
  | zero =>
    refine @w2 w 0 ?_
    intro j h
    omega
  | succ k ih =>
    refine @w2 w (k + 1) ?_
    intro j h
    have e : k = j := by omega
    subst e
    exact @w3 w k @ih
theorem ok3All {w : World} (k : Nat) : Ok3 w k := by
  exact @w3 w k (@ok2All w k)
theorem okIAll {w : World} (k : Nat) : OkI w k := by
  induction k with
  | zero =>
    refine @wIn w 0 ?_
    intro j h
    omega
  | succ k ih =>
    refine @wIn w (k + 1) ?_
    intro j h
    have e : k = j := by omega
    subst e
    exact @ih
theorem okDAll {w : World} (k : Nat) : OkD w k := by
  induction k with
  | zero =>
    refine @wDn w 0 ?_
    intro j h
    omega
  | succ k ih =>
    refine @wDn w (k + 1) ?_
    intro j h
    have e : k = j := by omega
    subst e
    exact @ih
theorem posF {w : World} : PosF w := by
  exact @wpF w (@ok2All w 2) (@wiF w (@okIAll w 10)) (@wdF w (@okDAll w 10))
theorem posE {w : World} : PosE w := by
  exact @wpE w (@ok2All w 2) (@wiE w (@okIAll w 10)) (@wdE w (@okDAll w 10))
theorem DvAt.more {w : World} {a b q r : Int} {k j : Nat} (H : DvAt w a b q r k) (hj : k ≤ j) : DvAt w a b q r j := by
  intro t1 t2 c e oc oe dp un gd A₀ s L h₀ base m mg mb rest p loose mean env outer Q E TF C h1 h2 hret
  exact H TF C (by omega) (by omega) hret
theorem dvPos {w : World} {a b : Int} (ha : 0 ≤ a) (hb : 0 < b) (hF : Fit a b) : DvAt w a b (a / b) (a % b) 22 := by
  exact @dv0 w a b (@posF w) ha hb hF
theorem dvPos' {w : World} {a b : Int} (ha : 0 ≤ a) (hb : 0 < b) (hF : Fit a b) : DvAt w a b (a / b) (a % b) 24 := by
  exact @DvAt.more w a b _ _ 22 24 (@dvPos w a b ha hb hF) (by omega)
theorem dvNeg {w : World} {a b : Int} (ha : 0 ≤ a) (hb : 0 < b) (hF : Fit a b) : DvAt w (-a) b (-a / b) (-a % b) 24 := by
  by_cases h : a = 0
  · subst h
    rw [show (-0 : Int) = 0 by omega]
    exact dvPos' ha hb hF
  · have H := @dvPos w (- -a - 1) b (by omega) hb (hF.mono (by omega))
    exact dv1 @H (by omega) hb
theorem rightX {w : World} {sub0 : List (Addr × Obj)} (HP : PosX w sub0) : RightX w sub0 := by
  exact @wr w sub0 (@wo w) HP (@ok2All w 2) (@ok3All w 2) (@wiF w (@okIAll w 10)) (@wdF w (@okDAll w 10)) (@dvPos w) (@dvPos' w) (@dvNeg w) (@dv2 w)
theorem rightE {w : World} : RightX w tabsE := by
  exact @rightX w _ (@posX_E w (@posE w))
theorem rightF {w : World} {c e : Addr} {oc oe : Obj} (T : TabF c oc e oe []) : RightX w (tabsF c oc e oe) := by
  exact @rightX w _ (@posX_F w c e oc oe (@posF w) T)
end
section
open PySem PySem.W PyProof.Rows PySem.Spec PySem.Calls
/-- the body of the law's third loop, and the law's scope -/
def loopOf (i j : Nat) : Option (List Stmt × Scope) :=
  match PR.main.body[i]? with
  | some (.FunctionDef _ _ b _ _ _ sc _ _ _) =>
    (match b[j]? with
    | some (.For _ _ bd _ _) => some (bd, sc)
    | _ => none)
  | _ => none
section
variable {prog : Program} {w : World} {A : Around} {E : Value → Shared → Prop} {s : Shared} {env : Env} {h₀ : Heap} {x : Str} {body : List Stmt} {Q : Flow → Shared → Prop}
/-- a loop over a made list by what holds between its turns -/
theorem list_inv {I : Addr} {lp : Addr × Obj} (J : List Value → (Str → Option Value) → List (Addr × Obj) → Prop)
    (turn : ∀ v r m news it h tk, J (v :: r) m news → it.cls = .type "list_iterator" → Fr h₀ env.locals h (fun y => if y = x then some v else m y) → News h₀ env.locals h ((I, it) :: news) →
      wpAny (model prog w) A (execs body env) (UnrPost h₀ env.locals { s with heap := h, toks := tk } I it (fun m' n' => lp ∈ n' ∧ J r m' n') Q) E { s with heap := h, toks := tk })
    (done : ∀ m news h tk, J [] m news → Fr h₀ env.locals h m → News h₀ env.locals h news → Q .next { s with heap := h, toks := tk }) :
    ∀ (r : List Value) {m news}, J r m news → ListRest prog w A E h₀ env x body Q s I lp r m news
  | [], m, news, hJ => ListRest.zero fun h tk F N => done m news h tk hJ F N
  | v :: r, m, news, hJ => ListRest.succ fun it h tk hc F N => wpAny_mono (turn v r m news it h tk hJ hc F N) (fun f s₂ p => by
      have fin : ∀ {s₂}, UnrEnd h₀ env.locals { s with heap := h, toks := tk } I it (fun m' n' => lp ∈ n' ∧ J r m' n') s₂ → UnrEnd h₀ env.locals { s with heap := h, toks := tk } I it (fun m' n' => lp ∈ n' ∧ ListRest prog w A E h₀ env x body Q s I lp r m' n') s₂ :=
        fun ⟨h', tk', m', news', e, F', N', off, hl, hj⟩ => ⟨h', tk', m', news', e, F', N', off, hl, list_inv J turn done r hj⟩
      cases f with
      | ret v => exact p
      | brk => exact p
      | next => exact fin p
      | cont => exact fin p) fun _ _ e => e
end
/-- what holds between the turns of the innermost loop -/
def JT (I : Addr) (b : Int) (tb : Tok) (D : Addr) (ll : List (Addr × Obj)) (r : List Value) (m : Str → Option Value) (news : List (Addr × Obj)) : Prop :=
  ∃ c oc e oe, (∀ p ∈ [(Str.ofString "b", Value.int b tb), (Str.ofString "draws", Value.ref D)], m p.1 = some p.2) ∧ news = ll ++ tabsF c oc e oe ∧ TabF c oc e oe [] ∧ AllNe 30 ll ∧ AllNe c ll ∧ AllNe 37 ll ∧ AllNe e ll ∧ AllNe I ll ∧ AllNe I (tabsF c oc e oe) ∧ ∀ v ∈ r, ∃ a t, v = .int a t ∧ Oka 600 a b
local macro_rules | `(tactic| walk_at "binaryOp Mod int int") => `(tactic| first | (with_reducible refine mod7 ?_; intro e' v' tk' he'; (try dsimp only)) | (with_reducible refine mod5 ?_; intro e' v' tk' he'; (try dsimp only)) | (with_reducible refine mod300 ?_; intro e' v' tk' he' hp'; (try dsimp only)))
local macro_rules | `(tactic| walk_at "binaryOp Add int int") => `(tactic| first | (with_reducible refine add56 ?_; intro v' tk'; (try dsimp only)) | (with_reducible refine add4 ?_; intro v' tk'; (try dsimp only)))
local macro_rules | `(tactic| walk_at "all ne") => `(tactic| (repeat' (first | exact True.intro | (refine And.intro ?_ ?_) | k_ne | (refine neN ?_; (try dsimp only); omega))))
abbrev drawO (d0 d1 d2 d3 d4 d5 : Int) (q0 q1 q2 q3 q4 q5 : Tok) : Obj := listOf #[.int d0 q0, .int d1 q1, .int d2 q2, .int d3 q3, .int d4 q4, .int d5 q5] 6
abbrev led5 (i1 i2 i3 i4 D : Addr) (o1 o2 o3 o4 dr : Obj) : List (Addr × Obj) := [(i1, o1), (i2, o2), (i3, o3), (i4, o4), (D, dr)]
set_option maxRecDepth 100000 in
set_option maxHeartbeats 2000000 in
theorem wt {w : World} {body : List Stmt} {sc : Scope} (hast : loopOf 13 10 = some (body, sc)) {L fa : Addr} {cd : Value} {x y z d0 d1 d2 d3 d4 d5 : Int} {tx ty tz q0 q1 q2 q3 q4 q5 : Tok} {i1 i2 i3 i4 D c e : Addr} {o1 o2 o3 o4 oc oe : Obj}
    {s : Shared} {h₀ base : Heap} {m mg mb : Str → Option Value} {p : Program} {loose : List Str} {mean : ExcName → Option Value} {Q : Flow → Shared → Prop} {E : Value → Shared → Prop}
    (B : Below callerA base [] h₀) (F : Fr h₀ L s.heap m) (X : (hd.heap_39 w.params).In h₀) (T : Top p loose mean mg mb h₀)
    (N : News h₀ L s.heap (led5 i1 i2 i3 i4 D o1 o2 o3 o4 (drawO d0 d1 d2 d3 d4 d5 q0 q1 q2 q3 q4 q5) ++ tabsF c oc e oe)) (TF : TabF c oc e oe [])
    (n30 : AllNe 30 (led5 i1 i2 i3 i4 D o1 o2 o3 o4 (drawO d0 d1 d2 d3 d4 d5 q0 q1 q2 q3 q4 q5))) (nc : AllNe c (led5 i1 i2 i3 i4 D o1 o2 o3 o4 (drawO d0 d1 d2 d3 d4 d5 q0 q1 q2 q3 q4 q5))) (n37 : AllNe 37 (led5 i1 i2 i3 i4 D o1 o2 o3 o4 (drawO d0 d1 d2 d3 d4 d5 q0 q1 q2 q3 q4 q5))) (ne : AllNe e (led5 i1 i2 i3 i4 D o1 o2 o3 o4 (drawO d0 d1 d2 d3 d4 d5 q0 q1 q2 q3 q4 q5)))
    (hm : ∀ p ∈ [(Str.ofString "x", Value.int x tx), (Str.ofString "y", Value.int y ty), (Str.ofString "z", Value.int z tz), (Str.ofString "draws", Value.ref D)], m p.1 = some p.2)
    (h : ∀ c oc e oe h' tk' m', TabF c oc e oe [] → AllNe 30 (led5 i1 i2 i3 i4 D o1 o2 o3 o4 (drawO d0 d1 d2 d3 d4 d5 q0 q1 q2 q3 q4 q5)) → AllNe c (led5 i1 i2 i3 i4 D o1 o2 o3 o4 (drawO d0 d1 d2 d3 d4 d5 q0 q1 q2 q3 q4 q5)) → AllNe 37 (led5 i1 i2 i3 i4 D o1 o2 o3 o4 (drawO d0 d1 d2 d3 d4 d5 q0 q1 q2 q3 q4 q5)) → AllNe e (led5 i1 i2 i3 i4 D o1 o2 o3 o4 (drawO d0 d1 d2 d3 d4 d5 q0 q1 q2 q3 q4 q5)) →
      (∀ p ∈ [(Str.ofString "draws", Value.ref D)], m' p.1 = some p.2) → Fr h₀ L h' m' → News h₀ L h' (led5 i1 i2 i3 i4 D o1 o2 o3 o4 (drawO d0 d1 d2 d3 d4 d5 q0 q1 q2 q3 q4 q5) ++ tabsF c oc e oe) → Q .next { s with heap := h', toks := tk' }) :
    wpAny (model PR w) (callerA.deeper (envOfC (Str.ofString "law") sc L fa cd)) (execs body (envOfC (Str.ofString "law") sc L fa cd)) Q E s := by
  conv at hast => lhs; whnf
  cases hast
  refine wpAny_mono (E := fun _ _ => False) ?_ (fun _ _ q => q) fun _ _ f => f.elim
  rw [← kn_eq hm] at F
  replace N : News _ _ _ [(i1, o1), (i2, o2), (i3, o3), (i4, o4), (D, drawO d0 d1 d2 d3 d4 d5 q0 q1 q2 q3 q4 q5), (30, t30 c), (c, oc), (37, t37 e), (e, oe)] := N
  w_on
  k_steps
  (rename Fr _ _ _ _ => F1); (rename News _ _ _ _ => N1)
  refine Stop.mk ?_
  refine' ws (small_div _ ?b1 ?b2).1 (small_div _ ?b1 ?b2).2 ⟨B, F1, X, N1, T, rfl, rfl⟩ ?d1 ?d2 ?_
  case b1 => assumption
  case b2 => assumption
  case d1 => decide
  case d2 => decide
  clear F1 N1
  intro l a1 a2 a3 a4 a5 u1 u2 u3 u4 u5 h1 tk1 F1 N1 nl k1 k2 k3 k4 k5
  dsimp only
  have p1 := Okd.oka k1 (small_div _ (by assumption) (by assumption)).1 (small_div _ (by assumption) (by assumption)).2
  have p2 := Okd.oka k2 (small_div _ (by assumption) (by assumption)).1 (small_div _ (by assumption) (by assumption)).2
  have p3 := Okd.oka k3 (small_div _ (by assumption) (by assumption)).1 (small_div _ (by assumption) (by assumption)).2
  have p4 := Okd.oka k4 (small_div _ (by assumption) (by assumption)).1 (small_div _ (by assumption) (by assumption)).2
  have p5 := Okd.oka k5 (small_div _ (by assumption) (by assumption)).1 (small_div _ (by assumption) (by assumption)).2
  clear k1 k2 k3 k4 k5
  refine iter_listUnr (vs := [.int a1 u1, .int a2 u2, .int a3 u3, .int a4 u4, .int a5 u5]) (lo := listOf #[.int a1 u1, .int a2 u2, .int a3 u3, .int a4 u4, .int a5 u5] 0) rfl F1 N1 (.head _) rfl rfl ?_
  intro I hI
  have hI' := hI
  k_lt hI'
  have nI : AllNe I ((l, listOf #[.int a1 u1, .int a2 u2, .int a3 u3, .int a4 u4, .int a5 u5] 0) :: led5 i1 i2 i3 i4 D o1 o2 o3 o4 (drawO d0 d1 d2 d3 d4 d5 q0 q1 q2 q3 q4 q5)) := by walk_at "all ne"
  have nI2 : AllNe I (tabsF c oc e oe) := by walk_at "all ne"
  have nl2 : AllNe l (tabsF c oc e oe) := nl.2.2.2.2.2
  clear nl hI hI' F1 N1 hm
  refine list_inv (JT I _ _ D ((l, listOf #[.int a1 u1, .int a2 u2, .int a3 u3, .int a4 u4, .int a5 u5] 0) :: led5 i1 i2 i3 i4 D o1 o2 o3 o4 (drawO d0 d1 d2 d3 d4 d5 q0 q1 q2 q3 q4 q5))) ?turn ?done _ ⟨c, oc, e, oe, List.forall_mem_cons.mpr ⟨rfl, List.forall_mem_cons.mpr ⟨rfl, List.forall_mem_nil _⟩⟩, rfl, TF, ⟨nl2.1.symm, n30⟩, ⟨nl2.2.1.symm, nc⟩, ⟨nl2.2.2.1.symm, n37⟩, ⟨nl2.2.2.2.1.symm, ne⟩, nI, nI2, ?ok⟩
  case ok =>
    intro v hv
    simp only [List.mem_cons, List.not_mem_nil, or_false] at hv
    rcases hv with rfl | rfl | rfl | rfl | rfl
    · exact ⟨_, _, rfl, p1⟩
    · exact ⟨_, _, rfl, p2⟩
    · exact ⟨_, _, rfl, p3⟩
    · exact ⟨_, _, rfl, p4⟩
    · exact ⟨_, _, rfl, p5⟩
  case turn =>
    clear nI nI2 nl2 n30 nc n37 ne TF p1 p2 p3 p4 p5
    rintro v r m news it h tk ⟨c, oc, e, oe, hm, rfl, TF, n30, nc, n37, ne, nI, nI2, hr⟩ hc F1 N1
    obtain ⟨a, t, rfl, O⟩ := hr v (.head _)
    rw [← kn_eq hm] at F1
    replace N1 : News _ _ _ [(I, it), (l, listOf #[.int a1 u1, .int a2 u2, .int a3 u3, .int a4 u4, .int a5 u5] 0), (i1, o1), (i2, o2), (i3, o3), (i4, o4), (D, drawO d0 d1 d2 d3 d4 d5 q0 q1 q2 q3 q4 q5), (30, t30 c), (c, oc), (37, t37 e), (e, oe)] := N1
    k_steps
    (rename Fr _ _ _ _ => F1); (rename News _ _ _ _ => N1)
    refine Stop.mk ?_
    refine' right_next (rightF TF) TF B F1 X N1 T rfl rfl O ?k1 ?k2 ?k3 ?k4 rfl ⟨fun q => nI2.1 q.symm, n30⟩ ⟨fun q => nI2.2.1 q.symm, nc⟩ ⟨fun q => nI2.2.2.1 q.symm, n37⟩ ⟨fun q => nI2.2.2.2.1 q.symm, ne⟩ ?d1 ?d2 ?_
    case k1 => decide
    case k2 => omega
    case k3 => omega
    case k4 => omega
    case d1 => decide
    case d2 => decide
    clear F1 N1 nc ne n30 n37 nI2
    intro c' oc' e' oe' h2 tk2 TF' n30 nc n37 ne F1 N1
    simp only [drop4, List.dropLast, List.cons_append, List.nil_append, tabsF] at N1 n30 nc n37 ne
    dsimp only
    k_steps
    (rename Fr _ _ _ _ => F1); (rename News _ _ _ _ => N1)
    have nI2 : AllNe I (tabsF c' oc' e' oe') := ⟨fun q => n30.1 q.symm, fun q => nc.1 q.symm, fun q => n37.1 q.symm, fun q => ne.1 q.symm, trivial⟩
    refine Stop.mk ⟨_, _, _, _, rfl, F1, N1, fun p hp => AllNe.get (o := p.2) (allNe_app nI nI2) hp, .head _, c', oc', e', oe', List.forall_mem_cons.mpr ⟨rfl, List.forall_mem_cons.mpr ⟨rfl, List.forall_mem_nil _⟩⟩, rfl, TF', n30.2, nc.2, n37.2, ne.2, nI, nI2, fun v hv => hr v (.tail _ hv)⟩
  case done =>
    clear nI nI2 nl2 n30 nc n37 ne TF p1 p2 p3 p4 p5
    rintro m news h1 tk ⟨c, oc, e, oe, hm, rfl, TF, n30, nc, n37, ne, nI, nI2, hr⟩ F1 N1
    dsimp only
    k_steps
    exact h c oc e oe _ _ _ TF n30.2 nc.2 n37.2 ne.2 (fun p hp => hm p (.tail _ hp)) F1 (pick N1 fun p hp => .tail _ hp)
end
end
section
open PySem PySem.W PyProof.Rows PySem.Spec PySem.Calls
local macro_rules | `(tactic| walk_at "all ne") => `(tactic| (repeat' (first | exact True.intro | (refine And.intro ?_ ?_) | k_ne | (refine neN ?_; (try dsimp only); omega))))
local macro_rules | `(tactic| walk_at "call ref") => `(tactic| ((with_reducible show wpAny _ _ (call (Value.ref 68) _) _ _ _); (rename TabF _ _ _ _ _ => tF); (rename Fr _ _ _ _ => fR); (rename News _ _ _ _ => nR); (rename Below _ _ _ _ => bR); (rename Frag.In _ _ => xR); (rename Top _ _ _ _ _ _ => tR); k_dflt (refine' right_next (rightF tF) tF bR fR xR nR tR rfl rfl ?ok ?k1 ?k2 ?k3 ?k4 rfl ?n30 ?nc ?n37 ?ne ?d1 ?d2 ?_; (case ok => assumption); (case k1 => decide); (case k2 => omega); (case k3 => omega); (case k4 => omega); (case n30 => walk_at "all ne"); (case nc => walk_at "all ne"); (case n37 => walk_at "all ne"); (case ne => walk_at "all ne"); (case d1 => decide); (case d2 => decide); clear fR nR tF; intro c' oc' e' oe' hR tkR tF' n30' nc' n37' ne' fR' nR'; (simp only [drop4, List.dropLast, List.cons_append, List.nil_append, tabsF] at nR' n30' nc' n37' ne'); (try dsimp only))))
local macro_rules | `(tactic| walk_at "execs cons") => `(tactic| ((with_reducible show wpAny _ _ (execs (Stmt.Assign _ _ _ :: Stmt.For _ _ _ _ _ :: []) _) _ _ _); with_reducible refine stop ?_))
set_option maxRecDepth 100000 in
set_option maxHeartbeats 8000000 in
/-- the law's third loop and its end -/
theorem wl4 {w : World} {body : List Stmt} {sc : Scope} (hast : rest10 13 = some (body, sc)) {L fa : Addr} {cd : Value} {d0 d1 d2 d3 d4 d5 : Int} {q0 q1 q2 q3 q4 q5 : Tok} {D₃ : Addr}
    {s : Shared} {h₀ : Heap} {m mg mb : Str → Option Value} {p : Program} {loose : List Str} {mean : ExcName → Option Value} {Q : Flow → Shared → Prop} {E : Value → Shared → Prop}
    (B : Below callerA h₀ [] h₀) (F : Fr h₀ L s.heap m) (X : (hd.heap_39 w.params).In h₀) (T : Top p loose mean mg mb h₀) {c e : Addr} {oc oe : Obj}
    (N : News h₀ L s.heap [(D₃, drawO d0 d1 d2 d3 d4 d5 q0 q1 q2 q3 q4 q5), (30, t30 c), (c, oc), (37, t37 e), (e, oe)]) (tF : TabF c oc e oe []) (n30 : AllNe 30 [(D₃, drawO d0 d1 d2 d3 d4 d5 q0 q1 q2 q3 q4 q5)]) (nc : AllNe c [(D₃, drawO d0 d1 d2 d3 d4 d5 q0 q1 q2 q3 q4 q5)]) (n37 : AllNe 37 [(D₃, drawO d0 d1 d2 d3 d4 d5 q0 q1 q2 q3 q4 q5)]) (ne : AllNe e [(D₃, drawO d0 d1 d2 d3 d4 d5 q0 q1 q2 q3 q4 q5)])
    (hm : ∀ p ∈ [(Str.ofString "draws", Value.ref D₃)], m p.1 = some p.2)
    (hret : ∀ c e h' tk' m', Fr h₀ L h' m' → News h₀ L h' [(30, t30 c), (37, t37 e)] → Q (.ret (.bool true)) { s with heap := h', toks := tk' }) :
    wpAny (model PR w) (callerA.deeper (envOfC (Str.ofString "law") sc L fa cd)) (execs body (envOfC (Str.ofString "law") sc L fa cd)) Q E s := by
  conv at hast => lhs; whnf
  cases hast
  refine wpAny_mono (E := fun _ _ => False) ?_ (fun _ _ q => q) fun _ _ f => f.elim
  rw [← kn_eq hm] at F
  clear hm
  w_on
  k_steps
  (rename Fr _ _ _ _ => F3); (rename News _ _ _ _ => N3); (rename Below _ _ _ _ => BL); (rename Frag.In _ _ => XL); (rename Top _ _ _ _ _ _ => TL)
  refine Stop.mk ?_
  refine wt rfl BL F3 XL TL N3 tF ?n30 ?nc ?n37 ?ne (List.forall_mem_cons.mpr ⟨rfl, List.forall_mem_cons.mpr ⟨rfl, List.forall_mem_cons.mpr ⟨rfl, List.forall_mem_cons.mpr ⟨rfl, List.forall_mem_nil _⟩⟩⟩⟩) ?_
  case n30 => walk_at "all ne"
  case nc => walk_at "all ne"
  case n37 => walk_at "all ne"
  case ne => walk_at "all ne"
  clear F3 N3 tF
  intro c1 oc1 e1 oe1 h5 tk5 m5 tF n30 nc n37 ne hm5 F3 N3
  rw [← kn_eq hm5] at F3
  simp only [led5, tabsF, List.cons_append, List.nil_append] at N3 n30 nc n37 ne
  dsimp only
  k_steps
  (rename Fr _ _ _ _ => F3); (rename News _ _ _ _ => N3)
  (rename Below _ _ _ _ => BL); (rename Frag.In _ _ => XL); (rename Top _ _ _ _ _ _ => TL)
  refine Stop.mk ?_
  refine wt rfl BL F3 XL TL N3 tF ?n30 ?nc ?n37 ?ne (List.forall_mem_cons.mpr ⟨rfl, List.forall_mem_cons.mpr ⟨rfl, List.forall_mem_cons.mpr ⟨rfl, List.forall_mem_cons.mpr ⟨rfl, List.forall_mem_nil _⟩⟩⟩⟩) ?_
  case n30 => walk_at "all ne"
  case nc => walk_at "all ne"
  case n37 => walk_at "all ne"
  case ne => walk_at "all ne"
  clear F3 N3 tF n30 nc n37 ne
  intro c2 oc2 e2 oe2 h6 tk6 m6 tF n30 nc n37 ne hm6 F3 N3
  simp only [led5, tabsF, List.cons_append, List.nil_append] at N3 n30 nc n37 ne
  dsimp only
  k_steps
  (rename Fr _ _ _ _ => F3); (rename News _ _ _ _ => N3)
  exact hret _ _ _ _ _ F3 (pick N3 (by kcj_all))
end
section
open PySem PySem.W PyProof.Rows PySem.Spec PySem.Calls
local macro_rules | `(tactic| walk_at "call ref") => `(tactic| (with_reducible refine stop ?_))
local macro_rules | `(tactic| walk_at "call ref") => `(tactic| ((with_reducible show wpAny _ _ (call (Value.ref 75) _) _ _ _); (rename Fr _ _ _ _ => fR); (rename News _ _ _ _ => nR); (rename Below _ _ _ _ => bR); (rename Frag.In _ _ => xR); (rename Top _ _ _ _ _ _ => tR); k_dflt (refine' wf ⟨bR, fR, xR, nR, tR, rfl, rfl⟩ xR tR ?r1 ?r2 ?_; (case r1 => decide); (case r2 => decide); clear fR nR; intro hR tkR fR' nR'; (try dsimp only))))
local macro_rules | `(tactic| walk_at "all ne") => `(tactic| (repeat' (first | exact True.intro | (refine And.intro ?_ ?_) | k_ne | (refine neN ?_; (try dsimp only); omega))))
local macro_rules | `(tactic| walk_at "call ref") => `(tactic| ((with_reducible show wpAny _ _ (call (Value.ref 68) _) _ _ _); (rename TabF _ _ _ _ _ => tF); (rename Fr _ _ _ _ => fR); (rename News _ _ _ _ => nR); (rename Below _ _ _ _ => bR); (rename Frag.In _ _ => xR); (rename Top _ _ _ _ _ _ => tR); k_dflt (refine' right_next (rightF tF) tF bR fR xR nR tR rfl rfl ?ok ?k1 ?k2 ?k3 ?k4 rfl ?n30 ?nc ?n37 ?ne ?d1 ?d2 ?_; (case ok => assumption); (case k1 => decide); (case k2 => omega); (case k3 => omega); (case k4 => omega); (case n30 => walk_at "all ne"); (case nc => walk_at "all ne"); (case n37 => walk_at "all ne"); (case ne => walk_at "all ne"); (case d1 => decide); (case d2 => decide); clear fR nR tF; intro c' oc' e' oe' hR tkR tF' n30' nc' n37' ne' fR' nR'; (simp only [drop4, List.dropLast, List.cons_append, List.nil_append, tabsF] at nR' n30' nc' n37' ne'); (try dsimp only))))
local macro_rules | `(tactic| walk_at "binaryOp Mod int int") => `(tactic| first | (with_reducible refine mod7 ?_; intro e' v' tk' he'; (try dsimp only)) | (with_reducible refine mod5 ?_; intro e' v' tk' he'; (try dsimp only)) | (with_reducible refine mod300 ?_; intro e' v' tk' he' hp'; (try dsimp only)))
local macro_rules | `(tactic| walk_at "binaryOp Add int int") => `(tactic| first | (with_reducible refine add56 ?_; intro v' tk'; (try dsimp only)) | (with_reducible refine add4 ?_; intro v' tk'; (try dsimp only)))
local macro_rules | `(tactic| walk_at "execs cons") => `(tactic| ((with_reducible show wpAny _ _ (execs (Stmt.For _ _ _ _ _ :: Stmt.Return _ _ :: []) _) _ _ _); with_reducible refine stop ?_))
def rest8 (i : Nat) : Option (List Stmt × Scope) :=
  match PR.main.body[i]? with
  | some (.FunctionDef _ _ (_ :: _ :: _ :: _ :: _ :: _ :: _ :: _ :: r) _ _ _ sc _ _ _) => some (r, sc)
  | _ => none
set_option maxRecDepth 100000 in
set_option maxHeartbeats 8000000 in
/-- the law's loops -/
theorem wl3 {w : World} {body : List Stmt} {sc : Scope} (hast : rest8 13 = some (body, sc)) {L fa : Addr} {cd : Value} {d0 d1 d2 d3 d4 d5 : Int} {q0 q1 q2 q3 q4 q5 : Tok} {D₃ : Addr}
    {s : Shared} {h₀ : Heap} {m mg mb : Str → Option Value} {p : Program} {loose : List Str} {mean : ExcName → Option Value} {Q : Flow → Shared → Prop} {E : Value → Shared → Prop} {fu o de st : Int} {t1 t2 t3 t4 : Tok}
    (B : Below callerA h₀ [] h₀) (F : Fr h₀ L s.heap m) (X : (hd.heap_39 w.params).In h₀) (T : Top p loose mean mg mb h₀)
    (N : News h₀ L s.heap [(D₃, drawO d0 d1 d2 d3 d4 d5 q0 q1 q2 q3 q4 q5), (37, tabObj #[]), (30, tabObj #[])]) (n37 : @Ne Nat 37 D₃) (n30 : @Ne Nat 30 D₃) (O1 : Oka 16400 fu o) (O2 : Oka 16400 de st)
    (hm : ∀ p ∈ [(Str.ofString "dense", Value.int de t1), (Str.ofString "full", Value.int fu t2), (Str.ofString "steep", Value.int st t3), (Str.ofString "ones", Value.int o t4), (Str.ofString "draws", Value.ref D₃)], m p.1 = some p.2)
    (hret : ∀ c e h' tk' m', Fr h₀ L h' m' → News h₀ L h' [(30, t30 c), (37, t37 e)] → Q (.ret (.bool true)) { s with heap := h', toks := tk' }) :
    wpAny (model PR w) (callerA.deeper (envOfC (Str.ofString "law") sc L fa cd)) (execs body (envOfC (Str.ofString "law") sc L fa cd)) Q E s := by
  conv at hast => lhs; whnf
  cases hast
  refine wpAny_mono (E := fun _ _ => False) ?_ (fun _ _ q => q) fun _ _ f => f.elim
  rw [← kn_eq hm] at F
  clear hm
  w_on
  k_steps
  (rename Fr _ _ _ _ => F3); (rename News _ _ _ _ => N3); (rename Below _ _ _ _ => BL); (rename Frag.In _ _ => XL); (rename Top _ _ _ _ _ _ => TL)
  replace N3 := keepN [true, true, true, true, false, true, true, true] N3
  simp only [keep] at N3
  refine Stop.mk ?_
  refine right_one rightE BL F3 XL N3 TL rfl rfl O1 (by decide) (by omega) (by omega) (by omega) rfl ?n30 ?n37 ?d1 ?d2 ?_
  case n30 => walk_at "all ne"
  case n37 => walk_at "all ne"
  case d1 => decide
  case d2 => decide
  clear F3 N3
  intro c oc e oe h4 tk4 TF n30 nc n37 ne F3 N3
  simp only [drop2, List.dropLast, List.cons_append, List.nil_append, tabsF] at N3 n30 nc n37 ne
  dsimp only
  k_steps
  (rename Fr _ _ _ _ => F3); (rename News _ _ _ _ => N3); (rename TabF _ _ _ _ _ => tF); (rename Below _ _ _ _ => BL); (rename Frag.In _ _ => XL); (rename Top _ _ _ _ _ _ => TL)
  replace N3 := keepN [false, false, false, true, true, true, true, true] N3
  simp only [keep] at N3
  refine Stop.mk (wl4 rfl BL F3 XL TL N3 tF ?n30 ?nc ?n37 ?ne (List.forall_mem_cons.mpr ⟨rfl, List.forall_mem_nil _⟩) hret)
  case n30 => walk_at "all ne"
  case nc => walk_at "all ne"
  case n37 => walk_at "all ne"
  case ne => walk_at "all ne"
end
section
open PySem PySem.W PyProof.Rows PySem.Spec PySem.Calls
local macro_rules | `(tactic| walk_at "binaryOp Pow int int") => `(tactic| (with_reducible refine stop ?_))
local macro_rules | `(tactic| walk_at "execs cons") => `(tactic| ((with_reducible show wpAny _ _ (execs (Stmt.For _ _ _ _ _ :: Stmt.For _ _ _ _ _ :: Stmt.For _ _ _ _ _ :: _) _) _ _ _); with_reducible refine stop ?_))
def rest2 (i : Nat) : Option (List Stmt × Scope) :=
  match PR.main.body[i]? with
  | some (.FunctionDef _ _ (_ :: _ :: r) _ _ _ sc _ _ _) => some (r, sc)
  | _ => none
set_option maxRecDepth 100000 in
set_option maxHeartbeats 8000000 in
/-- the law behind its draws -/
theorem wl2 {w : World} {body : List Stmt} {sc : Scope} (hast : rest2 13 = some (body, sc)) {L fa : Addr} {cd : Value} {d0 d1 d2 d3 d4 d5 : Int} {q0 q1 q2 q3 q4 q5 : Tok} {D₃ : Addr}
    {s : Shared} {h₀ : Heap} {m mg mb : Str → Option Value} {p : Program} {loose : List Str} {mean : ExcName → Option Value} {Q : Flow → Shared → Prop} {E : Value → Shared → Prop}
    (B : Below callerA h₀ [] h₀) (F : Fr h₀ L s.heap m) (X : (hd.heap_39 w.params).In h₀) (T : Top p loose mean mg mb h₀)
    (N : News h₀ L s.heap [(D₃, drawO d0 d1 d2 d3 d4 d5 q0 q1 q2 q3 q4 q5), (37, tabObj #[]), (30, tabObj #[])]) (n37 : @Ne Nat 37 D₃) (n30 : @Ne Nat 30 D₃)
    (hm : ∀ p ∈ [(Str.ofString "draws", Value.ref D₃)], m p.1 = some p.2)
    (hret : ∀ c e h' tk' m', Fr h₀ L h' m' → News h₀ L h' [(30, t30 c), (37, t37 e)] → Q (.ret (.bool true)) { s with heap := h', toks := tk' }) :
    wpAny (model PR w) (callerA.deeper (envOfC (Str.ofString "law") sc L fa cd)) (execs body (envOfC (Str.ofString "law") sc L fa cd)) Q E s := by
  conv at hast => lhs; whnf
  cases hast
  refine wpAny_mono (E := fun _ _ => False) ?_ (fun _ _ q => q) fun _ _ f => f.elim
  rw [← kn_eq hm] at F
  clear hm
  w_on
  k_steps
  refine Stop.mk (modR (by decide) ?_)
  intro v' tk'
  dsimp only
  obtain ⟨e0, he0, hl0⟩ := mod_nat ([d0, d1, d2, d3, d4, d5].getD (Int.toNat 0) 0) (show (0 : Int) < 4100 by decide)
  rw [he0]
  clear he0
  refine addR ?_
  intro v' tk'
  rw [show (4100 : Int) + (e0 : Int) = ((4100 + e0 : Nat) : Int) by omega]
  obtain ⟨n, hn⟩ : ∃ n : Nat, 4100 + e0 = n := ⟨_, rfl⟩
  have hn1 : 4100 ≤ n := by omega
  have hn2 : n ≤ 8199 := by omega
  rw [hn]
  clear hn hl0
  have hpn := pw (n - 1)
  k_steps
  (rename Fr _ _ _ _ => F2); (rename News _ _ _ _ => N2)
  obtain ⟨o, ho1, ho2, ho3⟩ := top_ok (n := n) (by omega) ([d0, d1, d2, d3, d4, d5].getD (Int.toNat 1) 0)
  obtain ⟨st, hs1, hs2, hs3⟩ := top_ok (n := n) (by omega) (2 ^ (n / 2) - 1 - [d0, d1, d2, d3, d4, d5].getD (Int.toNat 3) 0)
  rw [ho1, hs1] at F2
  rw [ho1]
  clear ho1 hs1
  have hob : Builtin.Int.intBits o ≤ 8199 := Nat.le_trans (bits_lt (by omega) ho3) hn2
  have hsb : Builtin.Int.intBits st ≤ 8199 := Nat.le_trans (bits_lt (by omega) hs3) hn2
  have hoB : 0 < o * 2 ^ n := Int.mul_pos (by omega) (pw n)
  have hsB : 0 < st * 2 ^ n := Int.mul_pos (by omega) (pw n)
  refine Stop.mk (lsh hob (by omega) ?_)
  intro v' tk'
  dsimp only
  k_steps
  refine Stop.mk (mulNR (n := n) (k := 63) (by omega) ?_)
  intro v' tk'
  dsimp only
  k_steps
  refine Stop.mk (floorNR (n := n * 63) (k := 50) (by omega) (by omega) ?_)
  intro v' tk'
  dsimp only
  k_steps
  refine Stop.mk (powR (by omega) ?_)
  intro x3 v' tk'
  dsimp only
  k_steps
  obtain ⟨fu, hf1, hf2, hf3⟩ := under_ok hoB ([d0, d1, d2, d3, d4, d5].getD (Int.toNat 2) 0)
  obtain ⟨de, hd1, hd2, hd3⟩ := under_ok hsB (x3 + [d0, d1, d2, d3, d4, d5].getD (Int.toNat 4) 0)
  (rename Fr _ _ _ _ => F3); (rename News _ _ _ _ => N3)
  rw [hf1, hd1] at F3
  clear hf1 hd1
  exact Stop.mk (wl3 rfl B F3 X T N3 n37 n30 (oka_wide hn1 hn2 ho2 ho3 hf2 hf3) (oka_wide hn1 hn2 hs2 hs3 hd2 hd3) (List.forall_mem_cons.mpr ⟨rfl, List.forall_mem_cons.mpr ⟨rfl, List.forall_mem_cons.mpr ⟨rfl, List.forall_mem_cons.mpr ⟨rfl, List.forall_mem_cons.mpr ⟨rfl, List.forall_mem_nil _⟩⟩⟩⟩⟩) hret)
end
section
open PySem PySem.W PyProof.Rows PySem.Spec PySem.Calls
local macro_rules | `(tactic| walk_at "eval ListComp") => `(tactic| (with_reducible refine stop ?_))
local macro_rules | `(tactic| walk_at "CompSrc") => `(tactic| (with_reducible refine stop ?_))
local macro_rules | `(tactic| walk_at "call builtin:sum") => `(tactic| (with_reducible refine stop ?_))
local macro_rules | `(tactic| walk_at "CompEnd") => `(tactic| (with_reducible refine stop ?_))
local macro_rules | `(tactic| walk_at "KPfDone") => `(tactic| (with_reducible refine stop ?_))
local macro_rules | `(tactic| walk_at "execs cons") => `(tactic| ((with_reducible show wpAny _ _ (execs (Stmt.Assign _ _ _ :: Stmt.Assign _ _ _ :: Stmt.Assign _ _ _ :: Stmt.Assign _ _ _ :: Stmt.Assign _ _ _ :: Stmt.Assign _ _ _ :: Stmt.For _ _ _ _ _ :: _) _) _ _ _); with_reducible refine stop ?_))
def pickAt (ns : List Int) (j : Int) : Int := ns.getD j.toNat 0
def stepKs (a c : Int) (n : Nat) : List Int := (List.range n).map (fun i : Nat => a + (i : Int) * c)
def nK (len : Nat) (k : Int) : Nat := (Builtin.Range.rangeSize k len 6).toNat
def drawG (ns : List Int) (k : Int) : Int := ((stepKs k 6 (nK ns.length k)).map (pickAt ns)).sum
theorem nK_eq {len : Nat} {k : Int} : Builtin.Range.rangeSize k len 6 = ((nK len k : Nat) : Int) := by
  rw [nK, Int.toNat_of_nonneg]
  unfold Builtin.Range.rangeSize
  rw [if_pos (by decide)]
  split
  · omega
  · decide
theorem nK_le {len : Nat} {k : Int} (h0 : 0 ≤ k) : nK len k ≤ len := by
  rw [nK]
  unfold Builtin.Range.rangeSize
  rw [if_pos (by decide)]
  split
  · omega
  · omega
theorem nK_lt {len : Nat} {k : Int} {i : Nat} (h0 : 0 ≤ k) (hi : i < nK len k) : k + (i : Int) * 6 < len := by
  rw [nK] at hi
  unfold Builtin.Range.rangeSize at hi
  rw [if_pos (by decide)] at hi
  split at hi
  · omega
  · omega
theorem stepKs_len (a c : Int) (n : Nat) : (stepKs a c n).length = n := by simp [stepKs]
theorem stepKs_at {a c : Int} {n i : Nat} {v : Value} (hi : i < n) (hv : ∃ t, v = .int (a + (i : Int) * c) t) : ∃ k t, (stepKs a c n)[i]? = some k ∧ v = .int k t := by
  obtain ⟨t, e⟩ := hv
  exact ⟨_, t, by simp [stepKs, hi], e⟩
theorem mem_stepKs {a c j : Int} {n : Nat} (h : j ∈ stepKs a c n) : ∃ i : Nat, i < n ∧ j = a + (i : Int) * c := by
  obtain ⟨i, hi, e⟩ := List.mem_map.mp h
  exact ⟨i, List.mem_range.mp hi, e.symm⟩
theorem small_six {a b : Int} (ha : 0 ≤ a) (ha' : a < 1000) (hb : 0 ≤ b) (hb' : b < 1000) : Builtin.Range.small a b 6 = true := by
  have h6 : (6 : Int) > 0 := by decide
  unfold Builtin.Range.small Builtin.Range.rangeSize
  rw [if_pos h6]
  simp only [Builtin.Range.rangeFitsLong, Bool.and_eq_true, Bool.or_eq_true, decide_eq_true_eq, beq_iff_eq, h6, if_true]
  by_cases h : a < b
  · rw [if_pos h]; omega
  · rw [if_neg h]; omega
set_option maxRecDepth 100000 in
set_option maxHeartbeats 8000000 in
theorem wl : PySem.Challenge.rw_lo0014_01.Holds := by
  w_on
  refine hd ?_
  k_go0
  (all_goals try k_fold)
  refine fold_post fun QQ hQQ => ?_
  k_steps
  (rename Fr _ _ _ _ => F2); (rename News _ _ _ _ => N2); (rename IsRange _ _ _ _ _ _ _ _ => hR); (rename IntsAre _ _ => hW)
  obtain ⟨ns, hW', hlen⟩ : ∃ ns, IntsAre _ ns ∧ ns.length ≤ 24 := ⟨_, hW, by first | (simp; done) | (simp; omega) | fail "len"⟩
  clear hW
  refine Stop.mk (LCg.CompSrc.range (n := 6) rfl F2 N2 hR (by decide) (by decide) (by decide) ?_)
  clear F2 N2
  intro g'
  refine' kcf_range (drawG ns) (fun k' t' I' oI' C' oC' D' m' ys' h' tk' E' hlo' hhi' hC' hx' F' N' off' ne' hMark' => ?_) ?_
  · have off9 := off'
    simp only [LCg.Off3, and_true] at off'
    dsimp only
    (try k_fold)
    k_steps
    (rename Fr _ _ _ _ => F2); (rename News _ _ _ _ => N2)
    refine Stop.mk ?_
    refine ListComp_S F2 (by with_unfolding_all rfl) (by decide) (by rfl) (by decide) (by rfl) ?_
    k_steps
    (rename Fr _ _ _ _ => F3); (rename News _ _ _ _ => N3); (rename IsRange _ _ _ _ _ _ _ _ => hR2)

    have e1 : nK ns.length k' ≤ sizeLine := Nat.le_trans (nK_le hlo') (Nat.le_trans hlen (by decide))
    have e2 : Builtin.Range.small k' (ns.length : Int) 6 = true := small_six hlo' (by omega) (by omega) (by omega)
    refine ⟨_, _, _, _, _, _, _, nK ns.length k', _, rfl, rfl, F3, N3, hR2, e2, nK_eq, e1, ?_⟩
    rintro s₂ ⟨g2, rfl⟩
    refine kcf_rest (ks := stepKs k' 6 (nK ns.length k')) (pickAt ns) (stepKs_len _ _ _) (fun i v hi hv => stepKs_at hi hv) (fun k₂ t₂ I₂ oI₂ C₂ oC₂ D₂ m₂ ys₂ h₂ tk₂ E₂ hk₂ hC₂ hx₂ F₂ N₂ off₂ ne₂ mk₂ => ?_) ?_
    · have off0 := off₂
      simp only [LCg.Off3, and_true] at off₂
      dsimp only
      (try k_fold)
      walk1
      walk1
      walk1
      obtain ⟨i, hi, rfl⟩ := mem_stepKs hk₂
      refine item_list_ints (isl (vs := _) (j := 0) N₂ (by k_mem)) hW' (by omega) (nK_lt hlo' hi) (by have := nK_lt hlo' hi; omega) ?_
      intro t₃
      exact ⟨_, _, _, rfl, F₂, N₂, off0, trivial, rfl, _, rfl⟩
    · intro ys₃ hy₃ D₃ h₃ tk₃ F₃ N₃ off₃
      dsimp only
      k_steps
      (rename Fr _ _ _ _ => F4); (rename News _ _ _ _ => N4)
      refine Stop.mk (LSm.sum_ints F4 N4 rfl (isl (vs := ys₃) (j := ys₃.length) N4 (.head _)) hy₃ ?_)
      intro h₅ tk₅ t₅ F5 N5
      exact LCg.CompEnd.intro F5 N5 _ (fun p hp => .tail _ hp) off9 trivial ⟨rfl, _, rfl⟩
  · intro ys₃ hy₃ D₃ h₃ tk₃ F₃ N₃ off₃
    have hy4 : IntsAre ys₃ [drawG ns 0, drawG ns 1, drawG ns 2, drawG ns 3, drawG ns 4, drawG ns 5] := hy₃
    clear hy₃
    generalize drawG ns 0 = d0 at hy4
    generalize drawG ns 1 = d1 at hy4
    generalize drawG ns 2 = d2 at hy4
    generalize drawG ns 3 = d3 at hy4
    generalize drawG ns 4 = d4 at hy4
    generalize drawG ns 5 = d5 at hy4
    rcases hy4 with _ | ⟨_, q0, hy4⟩
    rcases hy4 with _ | ⟨_, q1, hy4⟩
    rcases hy4 with _ | ⟨_, q2, hy4⟩
    rcases hy4 with _ | ⟨_, q3, hy4⟩
    rcases hy4 with _ | ⟨_, q4, hy4⟩
    rcases hy4 with _ | ⟨_, q5, hy4⟩
    rcases hy4 with _ | _
    replace N₃ : News _ _ _ ((D₃, listOf #[.int d0 q0, .int d1 q1, .int d2 q2, .int d3 q3, .int d4 q4, .int d5 q5] 6) :: _) := N₃
    simp only [LCg.Off1, and_true] at off₃
    dsimp only
    k_steps
    (rename Fr _ _ _ _ => F3); (rename News _ _ _ _ => N3); (rename Below _ _ _ _ => BL); (rename Frag.In _ _ => XL); (rename Top _ _ _ _ _ _ => TL)
    replace N3 := keepN [true, false, false, true, true] N3
    simp only [keep] at N3
    refine Stop.mk (wl2 rfl BL F3 XL TL N3 off₃.2.2.1 off₃.2.2.2 (List.forall_mem_cons.mpr ⟨rfl, List.forall_mem_nil _⟩) ?_)
    clear F3 N3
    intro c e h4 tk4 m4 F3 N3
    refine hQQ _ _ ?_
    dsimp only
    k_steps
end
end
end Mine
theorem PySem.Challenge.cw_lo0014_01_holds : PySem.Challenge.rw_lo0014_01.Holds :=
  Mine.wl
