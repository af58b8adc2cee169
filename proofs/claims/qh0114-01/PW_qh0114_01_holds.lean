import PyProof.Rows.All
import Wide.All
import OpenK.AllK
import Wide.FinOn
import PySem.Challenge.RW_qh0114_01
set_option Elab.async false
set_option rowWalk.seconds 0

section
open PySem PySem.W PyProof.Rows
set_option Elab.async false
set_option maxRecDepth 100000
set_option maxHeartbeats 8000000
namespace Mine
open_top hd for PySem.Challenge.rw_qh0114_01
end Mine
end

example : True := by
  w_top off
  trivial

section
open PySem PySem.W PySem.Calls PyProof.Rows
set_option Elab.async false
set_option maxRecDepth 100000
namespace Mine

section
variable {prog : Program} {w : World} {A A₀ : Around} {s : Shared} {K : Frag} {L : Addr} {h₀ base : Heap} {m mg mb : Str → Option Value} {news : List (Addr × Obj)} {p : Program} {loose : List Str} {mean : ExcName → Option Value}

/-- what the caller has again when a callee that keeps all comes back -/
theorem back {h₁ : Heap} {L : Addr} {s : Shared} {m : Str → Option Value} {news : List (Addr × Obj)} {h₀ : Heap} (F : Fr h₀ L s.heap m) (N : News h₀ L s.heap news)
    (k : ∀ b o, s.heap.get? b = some o → h₁.get? b = some o) : Fr h₀ L h₁ m ∧ News h₀ L h₁ news :=
  ⟨⟨F.ns.keeps k, fun b o e => k b o (F.keep b o e), F.above⟩, fun q hq => ⟨k _ _ (N q hq).1, (N q hq).2⟩⟩

/-- a def is entered with an empty ledger of its own, the caller's whole heap as its ground -/
theorem code_pure {env : Env} {outer : List Env} {R : Result → Shared → Prop} {name qual : Str} {params : Arguments} {body : List Stmt} {scope : Scope} {dV kV doc pm cdv ct oc : Value} {an od : Option Addr} {osl : Array (Option Value)} {f : Addr} {args : Args} {binds : List (Str × Value)}
    (B : Below A₀ base outer h₀) (F : Fr h₀ L s.heap m) (X₀ : K.In h₀) (N : News h₀ L s.heap news) (T : Top p loose mean mg mb h₀) (hA : A.frames = some (env :: outer)) (hf : env.frame = some L) (hke : env.scope.kind = .function)
    (ho : K.lookup f = some ⟨oc, od, .func (fnOf name qual params body scope dV kV doc pm an cdv ct), osl⟩) (hcd : codeIn K cdv qual = true) (hroom : A.depth < recursionLimit)
    (hbind : BindsTo s (fnOf name qual params body scope dV kV doc pm an cdv ct) args binds) (hloc : ∀ y ∈ binds, scope.names.lookup y.1 = some .local)
    (h : ∀ g L' h₁, Fr g L' h₁ (fun y => binds.reverse.lookup y) → News g L' h₁ [] → Below A base (env :: outer) g → K.In g → Top p loose mean mg mb g →
      (∀ b o, s.heap.get? b = some o → g.get? b = some o) →
      wpAny (model prog w) (A.deeper (envOf qual scope L' f cdv)) (execs body (envOf qual scope L' f cdv))
        (fun fl s' => R (.ok (.ret (match fl with | .ret v => v | _ => .none))) s')
        (fun e s' => wpAny (model prog w) (A.deeper (envOf qual scope L' f cdv)) (leaving (envOf qual scope L' f cdv) e) (fun _ s'' => R (.error e) s'') (fun e' s'' => R (.error e') s'') s')
        { s with heap := h₁, toks := s.toks + binds.length })
    (hco : scope.isCoroutine = false) (hgen : scope.isGenerator = false) (hk : scope.kind = .function)
    (hcell : ∀ x ∈ scope.names, x.2 ≠ .cell) : codeAny (model prog w) A (.call (.ref f) args) R s := by
  have B₁ := pushX B F hf hke
  refine codeAny_call_def (fd := fnOf name qual params body scope dV kV doc pm an cdv ct) (body := body) (binds := binds) hroom ((X₀.keeps F.keep) _ _ ho) rfl (T.nolimit.keeps F.keep) (codeRec_of (X₀.keeps F.keep) hcd) rfl hbind hcell hloc (fun h₁ hns hk₁ => ?_) hco hgen hk
  exact h s.heap s.heap.objs.size h₁ ⟨hns, hk₁, Nat.le_refl _⟩ News.nil ⟨hA, B₁.stays, B₁.frames⟩ (X₀.keeps F.keep) (T.keeps F.keep) fun _ _ e => e

/-- the same for a def with cells -/
theorem code_pureC {env : Env} {outer : List Env} {R : Result → Shared → Prop} {name qual : Str} {params : Arguments} {body : List Stmt} {scope : Scope} {dV kV doc pm cdv ct oc : Value} {an od : Option Addr} {osl : Array (Option Value)} {f : Addr} {args : Args} {binds : List (Str × Value)}
    (B : Below A₀ base outer h₀) (F : Fr h₀ L s.heap m) (X₀ : K.In h₀) (N : News h₀ L s.heap news) (T : Top p loose mean mg mb h₀) (hA : A.frames = some (env :: outer)) (hf : env.frame = some L) (hke : env.scope.kind = .function)
    (ho : K.lookup f = some ⟨oc, od, .func (fnOf name qual params body scope dV kV doc pm an cdv ct), osl⟩) (hcd : codeIn K cdv qual = true) (hroom : A.depth < recursionLimit)
    (hbind : BindsTo s (fnOf name qual params body scope dV kV doc pm an cdv ct) args binds) (hkind : (binds.all fun y => scope.names.lookup y.1 == some .local || scope.names.lookup y.1 == some .cell) = true)
    (hnd : ((cellsFrom 0 scope.names []).map (·.1)).Nodup)
    (h : ∀ g L' h₁ tk cells, Fr g L' h₁ (bindL (envOfC qual scope L' f cdv).kindOf binds fun _ => none) → News g L' h₁ cells →
      CellsAre (bindC (envOfC qual scope L' f cdv).kindOf binds fun _ => none) (cellsFrom (L' + 1) scope.names []) cells → Below A base (env :: outer) g → K.In g → Top p loose mean mg mb g →
      (∀ b o, s.heap.get? b = some o → g.get? b = some o) →
      wpAny (model prog w) (A.deeper (envOfC qual scope L' f cdv)) (execs body (envOfC qual scope L' f cdv))
        (fun fl s' => R (.ok (.ret (match fl with | .ret v => v | _ => .none))) s')
        (fun e s' => wpAny (model prog w) (A.deeper (envOfC qual scope L' f cdv)) (leaving (envOfC qual scope L' f cdv) e) (fun _ s'' => R (.error e) s'') (fun e' s'' => R (.error e') s'') s')
        { s with heap := h₁, toks := tk })
    (hco : scope.isCoroutine = false) (hgen : scope.isGenerator = false) (hk : scope.kind = .function) : codeAny (model prog w) A (.call (.ref f) args) R s := by
  have B₁ := pushX B F hf hke
  refine codeAny_call_function hroom ((X₀.keeps F.keep) _ _ ho) rfl hco hgen rfl (codeRec_of (X₀.keeps F.keep) hcd) (hbind _ _ _ _ ?_)
  refine wpAny_newFunctionEnv_cells hk (kindsX hkind _) fun env' he s' x => ?_
  subst he
  refine ⟨(T.nolimit.keeps F.keep).keeps x.toInCall.keep, codeAny_func ?_⟩
  obtain ⟨h₁, tk, rfl, _⟩ := x.done
  have hk₁ := x.toInCall.keep
  obtain ⟨cells, NC, Y⟩ := Cl.news (h₀ := s.heap) (Nat.le_refl _) fun n c hm => ⟨x.cell n c (lookup_of_mem_nodup (cellsFrom_names scope.names 0 (s.heap.objs.size + 1) [] [] rfl ▸ hnd) hm), x.above n c hm⟩
  exact h s.heap s.heap.objs.size h₁ tk cells ⟨x.toInCall.ns, hk₁, Nat.le_refl _⟩ NC Y ⟨hA, B₁.stays, B₁.frames⟩ (X₀.keeps F.keep) (T.keeps F.keep) fun _ _ e => e
end
end Mine
end

section
open PySem PySem.W
namespace Mine

theorem xor_mod2 (a b : Nat) : (a ^^^ b) % 2 = (a + b) % 2 := by
  have h := Nat.testBit_xor (x := a) (y := b) (i := 0)
  simp only [Nat.testBit_zero] at h
  rcases Nat.mod_two_eq_zero_or_one a with e | e <;> rcases Nat.mod_two_eq_zero_or_one b with f | f <;> rcases Nat.mod_two_eq_zero_or_one (a ^^^ b) with g | g <;> simp [e, f, g] at h <;> omega
theorem and_mod2 (a b : Nat) : (a &&& b) % 2 = (a % 2) * (b % 2) := by
  have h := Nat.testBit_and a b 0
  simp only [Nat.testBit_zero] at h
  rcases Nat.mod_two_eq_zero_or_one a with e | e <;> rcases Nat.mod_two_eq_zero_or_one b with f | f <;> rcases Nat.mod_two_eq_zero_or_one (a &&& b) with g | g <;> simp [e, f, g] at h ⊢
theorem bits_le (a b : Nat) : (a &&& b) % 2 ≤ a % 2 ∧ (a &&& b) % 2 ≤ b % 2 ∧ a % 2 + b % 2 ≤ (a &&& b) % 2 + 1 := by
  rw [and_mod2]
  rcases Nat.mod_two_eq_zero_or_one a with e | e <;> rcases Nat.mod_two_eq_zero_or_one b with f | f <;> rw [e, f] <;> decide
theorem xor_and_add : ∀ (n a b : Nat), a ≤ n → a + b = (a ^^^ b) + 2 * (a &&& b) := by
  intro n
  induction n with
  | zero => intro a b h; have : a = 0 := by omega
            subst this; simp
  | succ n ih =>
    intro a b h
    have h1 := ih (a / 2) (b / 2) (by omega)
    rw [← Nat.xor_div_two, ← Nat.and_div_two] at h1
    have h4 := xor_mod2 a b
    obtain ⟨h5, h6, h7⟩ := bits_le a b
    clear h ih
    generalize a ^^^ b = x at *
    generalize a &&& b = y at *
    omega
theorem bitAnd_nat (a b : Nat) : Builtin.bitAnd (a : Int) (b : Int) = ((a &&& b : Nat) : Int) := by
  simp [Builtin.bitAnd]
theorem bitOr_nat (a b : Nat) : Builtin.bitOr (a : Int) (b : Int) = ((a ||| b : Nat) : Int) := by
  have e1 : ¬ (0 : Int) ≤ Builtin.bitNot (a : Int) := by simp only [Builtin.bitNot]; omega
  have e2 : ¬ (0 : Int) ≤ Builtin.bitNot (b : Int) := by simp only [Builtin.bitNot]; omega
  have e3 : ∀ x : Int, Builtin.bitNot (Builtin.bitNot x) = x := by intro x; simp only [Builtin.bitNot]; omega
  unfold Builtin.bitOr Builtin.bitAnd
  simp [e1, e2, e3]
theorem bitXor_nat (a b : Nat) : Builtin.bitXor (a : Int) (b : Int) = ((a ^^^ b : Nat) : Int) := by
  rw [PyProof.Rows.bitXor_and, bitAnd_nat]
  have := xor_and_add a a b (Nat.le_refl _)
  omega
theorem fdiv_nat (a : Nat) (b : Nat) : Int.fdiv (a : Int) (b : Int) = ((a / b : Nat) : Int) := by
  rw [Int.fdiv_eq_ediv_of_nonneg _ (by omega)]; rfl
theorem fmod_nat (a : Nat) (b : Nat) : Int.fmod (a : Int) (b : Int) = ((a % b : Nat) : Int) := by
  rw [Int.fmod_eq_emod_of_nonneg _ (by omega)]; rfl
theorem and_one (a : Nat) : a &&& 1 = a % 2 := Nat.and_one_is_mod a
end Mine
end

section
open PySem PySem.W PySem.Calls PyProof.Rows
open Sem (wp)
open AutoSeq1 (wpAny_loadPart')
set_option Elab.async false
set_option maxRecDepth 100000
namespace Mine

set_option maxHeartbeats 1000000 in
theorem meets_enumB (b : Array UInt8) (t : Tok) :
    Meets (Builtin.«enumerate.__new__» ⟨[.type "enumerate", .bytes b t], []⟩) (fun _ R s =>
      R (.ok (.ret (.ref (s.heap.push { cls := .type "bytes_iterator", data := .fields #[.bytes b t, .int 0 0] }).objs.size)))
        { s with heap := (s.heap.push { cls := .type "bytes_iterator", data := .fields #[.bytes b t, .int 0 0] }).push { cls := .type "enumerate", data := .fields #[.none, .bool false, .ref s.heap.objs.size, rawInt 0, .none, .none] } }) :=
  .of_wp fun prog w A R s h => by
    obtain ⟨hp, g, d, tk, os⟩ := s
    have hsub := sub_enumerate
    wp_walk
    refine wpAny_stack_any fun st => wpAny_pure ?_
    split
    · rename_i c _ _ _ _ _
      cases (c == Value.type "enumerate")
      · wp_walk using KBw.pyIter_bytes
        exact ⟨_, rfl, h⟩
      · wp_walk using KBw.pyIter_bytes
        exact ⟨_, rfl, h⟩
    · wp_walk using KBw.pyIter_bytes
      exact ⟨_, rfl, h⟩

section
variable {prog : Program} {w : World} {A : Around} {E : Value → Shared → Prop} {s : Shared}

theorem call_enumB {b : Array UInt8} {t : Tok} {Q : Value → Shared → Prop}
    (h : ∀ h', IsEnum h' (s.heap.objs.size + 1) s.heap.objs.size 0 .none → KBw.IsBytesIter h' s.heap.objs.size b t 0 → h'.objs.size = s.heap.objs.size + 2 →
      (∀ a o, s.heap.get? a = some o → h'.get? a = some o) → Q (.ref (s.heap.objs.size + 1)) { s with heap := h' }) :
    wpAny (model prog w) A (call (.type "enumerate") [.bytes b t]) Q E s := by
  refine callType_new F.called_enumerate (by decide) (F.typeCall_enumerate_1 _) (F.newCall_enumerate_1 _) (fun obj => F.args_object_init_2 obj _) F.entry_enumerate_new
    (meets_enumB b t) ?_
  have hz : (s.heap.push { cls := .type "bytes_iterator", data := .fields #[.bytes b t, .int 0 0] }).objs.size = s.heap.objs.size + 1 := Heap.size_push ..
  show _ ∧ _
  rw [hz]
  have he : IsEnum ((s.heap.push { cls := .type "bytes_iterator", data := .fields #[.bytes b t, .int 0 0] }).push
      { cls := .type "enumerate", data := .fields #[.none, .bool false, .ref s.heap.objs.size, rawInt 0, .none, .none] }) (s.heap.objs.size + 1) s.heap.objs.size 0 .none := by
    have := Heap.get?_push_size (s.heap.push { cls := .type "bytes_iterator", data := .fields #[.bytes b t, .int 0 0] })
      (o := { cls := .type "enumerate", data := .fields #[.none, .bool false, .ref s.heap.objs.size, rawInt 0, .none, .none] }) rfl
    rw [hz] at this; exact this
  refine ⟨⟨_, he, rfl⟩, h _ he ⟨_, Heap.get?_push_of_some _ (Heap.get?_push_size _ rfl), rfl, rfl⟩ (by rw [Heap.size_push, hz]) fun b o y => Heap.get?_push_of_some _ (Heap.get?_push_of_some _ y)⟩

theorem nextOfB_item {it : Addr} {b : Array UInt8} {t : Tok} {i : Nat} {c : UInt8} {Q : Value → Shared → Prop} (hit : KBw.IsBytesIter s.heap it b t i) (hx : b[i]? = some c)
    (hQ : ∀ h', KBw.IsBytesIter h' it b t (i + 1) → Heap.SameBut it s.heap h' → Q (.int (c.toNat : Int) s.toks) { s with heap := h', toks := s.toks + 1 }) :
    wpAny (model prog w) A (Builtin.SmallTypes.nextOf (.ref it)) Q E s := by
  obtain ⟨o, ho, hc, hd⟩ := id hit
  unfold Builtin.SmallTypes.nextOf
  refine wpAny_bind (wpAny_callSpecial?_slot (name := PySem.Str.ofString "__next__") (KBw.iter_typeIs hit) KBw.slot_next
    (wpAny_call_entry KBw.slot_next (KBw.iter_typeIs hit) KBw.entry_next ?_ (KBw.args_next _)))
  show wpAny _ _ (field (.ref it) 0 >>= _) _ _ s
  refine wpAny_bind (wpAny_field ho hd (x := .bytes b t) rfl ?_)
  show wpAny _ _ (if (Value.bytes b t == Value.none) = true then _ else _) _ _ s
  rw [if_neg (show ¬ ((Value.bytes b t == Value.none) = true) from Bool.false_ne_true)]
  show wpAny _ _ (field (.ref it) 1 >>= _) _ _ s
  refine wpAny_bind (wpAny_field ho hd (x := .int i 0) rfl ?_)
  refine wpAny_bind (wpAny_of_eq (a := b) rfl ?_)
  simp only [Int.toNat_natCast, hx]
  refine wpAny_bind (wpAny_setField ho hd (by simp) (wpAny_bind (wpAny_mkInt (wpAny_pure ⟨_, rfl, wpAny_pure (hQ _ ?_ (Heap.SameBut.update ..))⟩))))
  exact ⟨_, Heap.get?_update_self _ ho (Obj.isFreed_of_fields (Obj.data_mapFields hd _)), (Obj.cls_mapFields ..).trans hc, by
    rw [Obj.data_mapFields hd]; simp [rawInt]⟩

theorem nextOfB_end {it : Addr} {b : Array UInt8} {t : Tok} {i : Nat} {Q : Value → Shared → Prop} (hh : A.handled = none) (hit : KBw.IsBytesIter s.heap it b t i) (hx : b[i]? = none)
    (hE : ∀ h' e, Heap.ExtBut it s.heap h' → (∃ o, h'.get? e = some o ∧ o.cls = .type "StopIteration") → E (.ref e) { s with heap := h' }) :
    wpAny (model prog w) A (Builtin.SmallTypes.nextOf (.ref it)) Q E s := by
  obtain ⟨o, ho, hc, hd⟩ := id hit
  unfold Builtin.SmallTypes.nextOf
  refine wpAny_bind (wpAny_callSpecial?_slot (name := PySem.Str.ofString "__next__") (KBw.iter_typeIs hit) KBw.slot_next
    (wpAny_call_entry KBw.slot_next (KBw.iter_typeIs hit) KBw.entry_next ?_ (KBw.args_next _)))
  show wpAny _ _ (field (.ref it) 0 >>= _) _ _ s
  refine wpAny_bind (wpAny_field ho hd (x := .bytes b t) rfl ?_)
  show wpAny _ _ (if (Value.bytes b t == Value.none) = true then _ else _) _ _ s
  rw [if_neg (show ¬ ((Value.bytes b t == Value.none) = true) from Bool.false_ne_true)]
  show wpAny _ _ (field (.ref it) 1 >>= _) _ _ s
  refine wpAny_bind (wpAny_field ho hd (x := .int i 0) rfl ?_)
  refine wpAny_bind (wpAny_of_eq (a := b) rfl ?_)
  simp only [Int.toNat_natCast, hx]
  refine wpAny_bind (wpAny_rule (wpAny_bind (wpAny_setField ho hd (by simp) ?_)))
  show wpAny _ _ (newExc (.type "StopIteration") [] >>= _) _ _ _
  refine wpAny_bind ?_
  simp only [newExc, newTuple]
  refine wpAny_bind (wpAny_newObj_type ?_ (by size_fits))
  refine wpAny_bind (m := firstArgMember _ _) (wpAny_of_eq (a := Value.none) (by first | rfl | (simp only [firstArgMember]; rfl)) ?_)
  refine wpAny_newObj_type ?_ (by size_fits)
  simp only [raiseNew]
  refine wpAny_bind (wpAny_handled ?_)
  first | rw [show A.in1.handled = none from hh] | rw [hh]
  refine wpAny_bind (wpAny_pure (wpAny_throw ?_))
  exact hE _ _ (((Heap.SameBut.update ..).extBut.push _).push _) ⟨_, Heap.get?_push_size _ rfl, rfl⟩
end

theorem drawsB {prog : Program} {w : World} {A : Around} (hh : A.handled = none) (it : Addr) (b : Array UInt8) (t : Tok) :
    Draws prog w A it [it] b.size (fun i v => ∃ c u, b[i]? = some c ∧ v = .int (c.toNat : Int) u) (fun i h => KBw.IsBytesIter h it b t i) where
  live := fun _ _ st => let ⟨o, ho, _⟩ := st; ⟨o, ho⟩
  frame := fun _ _ _ st hk => let ⟨o, ho, r⟩ := st; ⟨o, hk it (by simp) o ho, r⟩
  item := fun i s Q E hi st hQ => by
    refine nextOfB_item st (c := b[i]) (by simp [hi]) fun h' hit' hs' => ?_
    exact hQ _ h' (s.toks + 1) ⟨_, _, by simp [hi], rfl⟩ hit' hs'
  done := fun s Q E st hE => nextOfB_end hh st (by simp) hE

/-- the values of a comprehension over the enumerated octets -/
noncomputable def enVals (g : Nat → Nat → Int) (b : Array UInt8) (n : Nat) : List Int := (List.range n).map fun i => g i (b[i]?.getD 0).toNat

section
variable {prog : Program} {w : World} {A : Around} {E : Value → Shared → Prop} {s : Shared} {env : Env}

noncomputable def SrcEn (g : Nat → Nat → Int) (N : Nat) (Q : Value → Shared → Prop) (xv : Value) (s₁ : Shared) : Prop :=
  ∃ (e it : Addr) (b : Array UInt8) (t : Tok), xv = .ref e ∧ IsEnum s₁.heap e it 0 .none ∧ KBw.IsBytesIter s₁.heap it b t 0 ∧ e ≠ it ∧ b.size ≤ N ∧
    ∀ D h' tk ys, (∀ a o, a ≠ e → a ≠ it → s₁.heap.get? a = some o → h'.get? a = some o) → s₁.heap.objs.size ≤ D → h'.get? D = some (LCg.lst ys) → IntsAre ys (enVals g b b.size) → Q (.ref D) { s₁ with heap := h', toks := tk }

theorem comp_enum {elt iter : Expr} {x x₂ : Str} {px px₂ tp : Pos} {k0 : Nat} {scope : Scope} {cl : List (Str × Addr)} {pos : Pos} {N : Nat} (hN : N ≤ 100000) (g : Nat → Nat → Int) {Q : Value → Shared → Prop} (hh : A.handled = none)
    (hclos : closureFor scope env = pure cl) (hcell : ∀ y ∈ scope.names, y.2 ≠ .cell) (hkind : scope.kind = .function)
    (hnames : ∀ y ∈ scope.names, y.2 = .local → scope.names.lookup y.1 = some .local) (hx : scope.names.lookup x = some .local) (hx₂ : scope.names.lookup x₂ = some .local) (hxx : x ≠ x₂)
    (hel : ∀ (C : Addr) (m₂ : Str → Option Value) (s : Shared) (i c : Nat) (t t' : Tok) (Q : Value → Shared → Prop) (E : Value → Shared → Prop), s.heap.Ns C m₂ → m₂ x = some (.int i t) → m₂ x₂ = some (.int c t') → i < N → c < 256 →
      (∀ t'' tk, Q (.int (g i c) t'') { s with toks := tk }) → wpAny (model prog w) A (eval elt (compEnvC scope cl C env)) Q E s)
    (h : wpAny (model prog w) A (eval iter env) (SrcEn g N Q) E s)
    (hs : ∀ x, foldedSetIterable iter env x = pure x := by intro _; rfl) :
    wpAny (model prog w) A (eval (.ListComp elt [⟨.Tuple [.Name x px, .Name x₂ px₂] k0 tp, iter, [], 0⟩] scope pos) env) Q E s := by
  rw [eval_ListComp]
  refine wpAny_comprehension_free (use := none) rfl hs hclos hkind hnames (wpAny_mono h (fun xv s₁ h₁ => ?_) fun _ _ e => e)
  obtain ⟨e, it, b, t, rfl, he, hit, hei, hbN, hQ⟩ := h₁
  have W := WalksT.enumerateD (prog := prog) (w := w) (drawsB (A := A.in1) hh it b t) e hei (by simp [hei]) (by simp)
  refine wpAny_pyIter_enum he ?_
  refine wpAny_newObj_type (wpAny_newFunctionEnv hcell (by intro y hy; simp at hy) (fun h₁ hns₁ hsb₁ => ?_) hkind)
  dsimp only at hns₁ hsb₁ ⊢
  generalize hH2 : s₁.heap.push { cls := .type "list", dict := none, data := .seq ([] : List Value).toArray } = H2 at hns₁ hsb₁ ⊢
  have hC : H2.objs.size = s₁.heap.objs.size + 1 := by rw [← hH2, Heap.size_push]
  have hDC : s₁.heap.objs.size ≠ H2.objs.size := by omega
  have hel' : @LT.lt Nat _ e s₁.heap.objs.size := Heap.lt_size he
  have hil : @LT.lt Nat _ it s₁.heap.objs.size := by obtain ⟨o, ho, _⟩ := hit; exact Heap.lt_size ho
  have old : ∀ a o, s₁.heap.get? a = some o → h₁.get? a = some o := fun a o q => hsb₁.extBut a o (by have : @LT.lt Nat _ a s₁.heap.objs.size := Heap.lt_size q; k_ne) (Heap.get?_push_of_some _ (hH2 ▸ Heap.get?_push_of_some _ q))
  have hacc : h₁.get? s₁.heap.objs.size = some (LCg.lst []) := hsb₁.extBut _ _ hDC (Heap.get?_push_of_some _ (hH2 ▸ Heap.get?_push_size _ rfl))
  have loop : ∀ s₃ : Shared, s₃ = { s₁ with heap := h₁, toks := s₁.toks + ([] : List (Str × Value)).length } →
      codeAny (model prog w) A (.compLoop (.ListComp elt [⟨.Tuple [.Name x px, .Name x₂ px₂] k0 tp, iter, [], 0⟩] scope pos) 0 (.ref e) (.ref s₁.heap.objs.size) (compEnvC scope cl H2.objs.size env))
        (compPost (model prog w) A E none Q (.ref s₁.heap.objs.size) H2.objs.size) s₃ := by
    rintro s₃ rfl
    refine LCp.codeAny_compLoop_pair
      (fun k s' => ∃ h' tk i ys m', s' = { s₁ with heap := h', toks := tk } ∧ i ≤ b.size ∧ k = b.size + 1 - i ∧ (∃ old, IsEnum h' e it (i : Nat) old) ∧ KBw.IsBytesIter h' it b t i ∧ h'.Ns H2.objs.size m' ∧
        h'.get? s₁.heap.objs.size = some (LCg.lst ys) ∧ IntsAre ys (enVals g b i) ∧ ∀ a o, a ≠ e → a ≠ it → s₁.heap.get? a = some o → h'.get? a = some o) ?_ (b.size + 1)
      ⟨h₁, _, 0, [], _, rfl, Nat.zero_le _, rfl, ⟨_, old _ _ he⟩, (let ⟨o, ho, r⟩ := hit; ⟨o, old _ _ ho, r⟩), hns₁, hacc, .nil, fun a o _ _ q => old a o q⟩
    rintro k s' ⟨h', tk, i, ys, m', rfl, hi, rfl, ⟨old', he'⟩, hit', hn', hD', hys, hk'⟩
    by_cases hlt : i < b.size
    · refine W.item i _ _ _ hlt ⟨⟨_, he'⟩, hit'⟩ fun T vals h₂ tk₂ hP hT hTup hMid hk₂ => ?_
      obtain ⟨t₁, v, ⟨c, u, hcx, rfl⟩, rfl⟩ := hP
      refine W.go _ _ _ i T _ _ _ hMid fun h₃ hst₃ hk₃ => ?_
      have hTw := W.apart _ _ _ hMid
      have hCl : H2.objs.size < h'.objs.size := hn'.lt
      have hDl : s₁.heap.objs.size < h'.objs.size := Heap.lt_size hD'
      have hTC : T ≠ H2.objs.size := by have : @LE.le Nat _ h'.objs.size T := hT; k_ne
      have hTD : T ≠ s₁.heap.objs.size := by have : @LE.le Nat _ h'.objs.size T := hT; k_ne
      have ew : ∀ a : Nat, a < s₁.heap.objs.size + 2 → s₁.heap.objs.size ≤ a → a ∉ [e, it] := fun a _ h2 hm => by
        rcases List.mem_cons.mp hm with q | hm
        · have q' : @Eq Nat a e := q
          omega
        · have q' : @Eq Nat a it := List.mem_singleton.mp hm
          omega
      have k3 : ∀ a o, a ∉ [e, it] → h'.get? a = some o → h₃.get? a = some o := fun a o ha q => hk₃ a o ha (hk₂ a o ha q)
      have hT3 : h₃.IsTuple T #[.int (i : Nat) t₁, .int (c.toNat : Int) u] := by
        obtain ⟨o, ho, r⟩ := hTup
        exact ⟨o, hk₃ T o hTw ho, r⟩
      refine wpAny_assign_Tuple hh hT3 rfl rfl fun h₄ he₄ => ?_
      have k4 : ∀ a o, h₃.get? a = some o → h₄.get? a = some o := fun a o q => he₄ a o (Nat.ne_of_lt (Heap.lt_size q)) q
      have hn₄ : h₄.Ns H2.objs.size m' := hn'.at' fun o q => k4 _ o (k3 _ o (ew _ (by omega) (by omega)) q)
      show wpAny _ A (do holding [_] (assign (.Name x px) (compEnvC scope cl H2.objs.size env) _); do holding [] (assign (.Name x₂ px₂) (compEnvC scope cl H2.objs.size env) _); pure ()) _ _ _
      refine wpAny_bind (wpAny_holding (wpAny_assign_Name (wpAny_storeName_local (lookup_relabel_local hx) hn₄ (fun h₅ hn₅ hs₅ => ?_) (by simp [compEnvC, relabel, hkind]))))
      refine wpAny_bind (wpAny_holding (wpAny_assign_Name (wpAny_storeName_local (lookup_relabel_local hx₂) hn₅ (fun h₆ hn₆ hs₆ => wpAny_pure ?_) (by simp [compEnvC, relabel, hkind]))))
      have k6 : ∀ a o, a ≠ H2.objs.size → h₃.get? a = some o → h₆.get? a = some o := fun a o ha q => hs₆.extBut a o ha (hs₅.extBut a o ha (k4 a o q))
      refine hel H2.objs.size _ _ i c.toNat t₁ u _ _ hn₆ (by simp [hxx]) (by simp) (Nat.lt_of_lt_of_le hlt hbN) (UInt8.toNat_lt c) fun t'' tk'' => ?_
      have hD6 : h₆.get? s₁.heap.objs.size = some (LCg.lst ys) := k6 _ _ hDC (k3 _ _ (ew _ (by omega) (by omega)) hD')
      have hyl : ys.length = i := by rw [hys.length]; simp [enVals]
      refine append_at (hsz := by show ys.toArray.size ≤ sizeLine; rw [List.size_toArray, hyl, sizeLine_eq]; omega) hD6 fun h₇ hs₇ hD₇ => ?_
      have eC : e ≠ H2.objs.size := by k_ne
      have iC : it ≠ H2.objs.size := by k_ne
      have eD : e ≠ s₁.heap.objs.size := by k_ne
      have iD : it ≠ s₁.heap.objs.size := by k_ne
      refine ⟨b.size + 1 - (i + 1), by omega, h₇, _, i + 1, ys ++ [_], _, rfl, hlt, rfl, ?_, ?_, hn₆.sameBut hs₇ (Ne.symm hDC), hD₇.trans (congrArg some (LCg.lst_snoc ys _)), ?_, fun a o h1 h2 q => ?_⟩
      · obtain ⟨⟨o', q⟩, _⟩ := hst₃
        exact ⟨o', hs₇.extBut _ _ eD (k6 _ _ eC q)⟩
      · obtain ⟨_, o', q, r⟩ := hst₃
        exact ⟨o', hs₇.extBut _ _ iD (k6 _ _ iC q), r⟩
      · have e1 : enVals g b (i + 1) = enVals g b i ++ [g i c.toNat] := by
          unfold enVals
          rw [List.range_succ, List.map_append, List.map_cons, List.map_nil, hcx]
          rfl
        rw [e1]
        exact IntsAre.append hys (.cons _ _ .nil)
      · have hl : @LT.lt Nat _ a s₁.heap.objs.size := Heap.lt_size q
        exact hs₇.extBut _ _ (by k_ne) (k6 _ _ (by k_ne) (k3 a o (by simp [h1, h2]) (hk' a o h1 h2 q)))
    · obtain rfl : i = b.size := Nat.le_antisymm hi (Nat.not_lt.mp hlt)
      refine W.done _ _ _ ⟨⟨_, he'⟩, hit'⟩ fun h₂ tk₂ hk₂ => ?_
      have ew : ∀ a : Nat, s₁.heap.objs.size ≤ a → a ∉ [e, it] := fun a h2 hm => by
        rcases List.mem_cons.mp hm with q | hm
        · have q' : @Eq Nat a e := q
          omega
        · have q' : @Eq Nat a it := List.mem_singleton.mp hm
          omega
      refine ⟨m', hn'.at' fun o q => hk₂ _ o (ew _ (by omega)) q, fun h₃ hs₃ => ?_⟩
      refine hQ _ h₃ tk₂ ys (fun a o h1 h2 q => ?_) (Nat.le_refl _) ?_ hys
      · have hl : @LT.lt Nat _ a s₁.heap.objs.size := Heap.lt_size q
        exact hs₃.extBut _ _ (by k_ne) (hk₂ a o (by simp [h1, h2]) (hk' a o h1 h2 q))
      · exact hs₃.extBut _ _ hDC (hk₂ _ _ (ew _ (Nat.le_refl _)) hD')
  exact codeAny_compStart_list (loop _ rfl) (W.self 0 _ _ _ ⟨⟨_, old _ _ he⟩, (let ⟨o, ho, r⟩ := hit; ⟨o, old _ _ ho, r⟩)⟩ (loop _ rfl))
end
end Mine
end

section
open PySem PySem.W PySem.Calls PyProof.Rows
set_option Elab.async false
set_option maxRecDepth 100000
namespace Mine
section
variable {prog : Program} {w : World} {A : Around} {E : Value → Shared → Prop} {s : Shared} {env : Env}

theorem sum_any {l : Addr} {vs : List Value} {ns : List Int} {Q : Value → Shared → Prop} (hh : A.handled = none) (hl : s.heap.IsList l vs.toArray) (hi : IntsAre vs ns)
    (h : ∀ h' tk t', (∀ b o, s.heap.get? b = some o → h'.get? b = some o) → Q (.int ns.sum t') { s with heap := h', toks := tk }) :
    wpAny (model prog w) A (call (.builtin "sum") [.ref l]) Q E s := by
  obtain ⟨xs, e⟩ := hi.allInts.items
  rw [e] at hl
  refine sum_intListG hh hl fun h' tk t' hk => ?_
  have h1 := h h' tk t' hk
  have h2 : ns = numsOf (intItems xs).toList := by rw [← e]; exact hi.numsOf.symm
  rw [nums_intItems] at h2
  rw [preSum_eq, List.take_of_length_le (by simp), ← h2]; exact h1

theorem el_mul {env' : Env} {o k : Str} {p1 p2 p3 p4 p5 : Pos} {m₂ : Str → Option Value} {i c : Nat} {t t' : Tok} {Q : Value → Shared → Prop} (hk : env'.scope.kind = .function) (lo : env'.kindOf o = some .local) (lk : env'.kindOf k = some .local)
    (hn : s.heap.Ns env'.locals m₂) (hi : m₂ k = some (.int i t)) (hc : m₂ o = some (.int c t')) (hb : i < 10) (hc2 : c < 256) (d1 : (o == ("__debug__" : Str)) = false) (d2 : (k == ("__debug__" : Str)) = false)
    (h : ∀ t'' tk, Q (.int ((c : Int) * 256 ^ i) t'') { s with toks := tk }) :
    wpAny (model prog w) A (eval (.BinOp (.Name o p1) .Mult (.BinOp (.Constant (.int 256) 0 p2) .Pow (.Name k p3) p4) p5) env') Q E s := by
  refine wpAny_BinOp (wpAny_Name (wpAny_loadName_local hk lo hn hc ?_) d1)
  refine wpAny_BinOp (wpAny_Constant_int (wpAny_Name (wpAny_loadName_local (s := { s with toks := s.toks + 1 }) hk lk hn hi ?_) d2))
  refine pow_int_small (by omega) (by omega) (by decide) ?_
  refine PyProof.Rows.mul_int ?_ ?_
  · exact h _ _
  · have h1 : Builtin.Int.intBits ((c : Nat) : Int) ≤ 8 := intBits_le_iff.mpr (by rw [Int.natAbs_natCast]; exact hc2)
    have h2 : Builtin.Int.intBits ((256 : Int) ^ (((i : Nat) : Int)).toNat) ≤ 9 * ((i : Nat) : Int).toNat + 1 := intBits_pow_le (by decide) _
    exact IntMulOk.of_le h1 h2 (by omega)

theorem srcEn_of {h₀ H hE : Heap} {L : Addr} {m : Str → Option Value} {news : List (Addr × Obj)} {g : Nat → Nat → Int} {N : Nat} {b : Array UInt8} {t : Tok} {Q : Value → Shared → Prop} {tk₀ : Nat}
    (F : Fr h₀ L H m) (Nw : News h₀ L H news) (he : IsEnum hE (H.objs.size + 1) H.objs.size 0 .none) (hi : KBw.IsBytesIter hE H.objs.size b t 0) (hz : hE.objs.size = H.objs.size + 2)
    (hk : ∀ a o, H.get? a = some o → hE.get? a = some o) (hb : b.size ≤ N)
    (h : ∀ D h' tk ys, Fr h₀ L h' m → News h₀ L h' ((D, LCg.lst ys) :: news) → (∀ p ∈ news, p.1 < D) → IntsAre ys (enVals g b b.size) → Q (.ref D) { s with heap := h', toks := tk }) :
    SrcEn g N Q (.ref (H.objs.size + 1)) { s with heap := hE, toks := tk₀ } := by
  refine ⟨_, _, b, t, rfl, he, hi, Nat.succ_ne_self _, hb, fun D h' tk ys keep hD hl hI => ?_⟩
  have hD' : @LE.le Nat _ (H.objs.size + 2) D := by
    have : @LE.le Nat _ hE.objs.size D := hD
    omega
  have old : ∀ a o, H.get? a = some o → h'.get? a = some o := fun a o q => by
    have hl : @LT.lt Nat _ a H.objs.size := Heap.lt_size q
    exact keep a o (by k_ne) (by k_ne) (hk a o q)
  have hLl : @LT.lt Nat _ L H.objs.size := F.ns.lt
  refine h D h' tk ys ⟨F.ns.keeps old, fun a o q => old a o (F.keep a o q), F.above⟩ (fun p hp => ?_) (fun p hp => ?_) hI
  · rcases List.mem_cons.mp hp with rfl | hp
    · refine ⟨hl, ?_, ?_⟩
      · show D ≠ L
        k_ne
      · show h₀.get? D = none
        cases q : h₀.get? D with
        | none => rfl
        | some o =>
          have : @LT.lt Nat _ D H.objs.size := Heap.lt_size (F.keep D o q)
          omega
    · exact ⟨old _ _ (Nw p hp).1, (Nw p hp).2⟩
  · have : @LT.lt Nat _ p.1 H.objs.size := Heap.lt_size (Nw p hp).1
    show @LT.lt Nat _ p.1 D
    omega
end
end Mine
end

section
open PySem PySem.W PySem.Calls PyProof.Rows PyProof.V PySem.Spec
set_option Elab.async false
set_option maxRecDepth 100000
namespace Mine
section
variable {prog : Program} {w : World} {A : Around} {E : Value → Shared → Prop} {s : Shared} {env : Env} {h₀ : Heap} {x : PySem.Str} {body : List Stmt} {Q : Flow → Shared → Prop}

/-- a loop over any range, counted by its turns -/
theorem m_range {σ : Type} {r : Addr} {a₀ b₀ st : Int} {t₀ u₀ v₀ : Tok} {n : Nat} {m₀ : PySem.Str → Option Value} (Led : σ → List (Addr × Obj)) (ps : σ → List (PySem.Str × Value)) (Facts : σ → Prop) (stored : List PySem.Str) (P : List Int → σ → Prop) (c₀ : σ)
    (hh : A.handled = none) (hr : IsRange s.heap r a₀ b₀ st t₀ u₀ v₀) (hsmall : Builtin.Range.small a₀ b₀ st = true) (hn : Builtin.Range.rangeSize a₀ b₀ st = (n : Int)) (F : Fr h₀ env.locals s.heap m₀) (N : News h₀ env.locals s.heap (Led c₀)) (hf : Facts c₀) (hk : ∀ p ∈ ps c₀, m₀ p.1 = some p.2) (hp : P [] c₀)
    (turn : ∀ (c : σ) (pre : List Int) (k : Int) t (u : PySem.Str → Option Value) h tk own, k = a₀ + (pre.length : Int) * st → pre.length < n → OwnOff own ((Led c₀).map (·.1)) → Facts c → P pre c →
      Fr h₀ env.locals h (fun y => if y = x then some (.int k t) else kstB (fun z => if stored.contains z then u z else m₀ z) (ps c) y) → News h₀ env.locals h (Led c ++ own) →
      wpAny (model prog w) A (execs body env) (InvPostN h₀ env.locals (KstS Led ps Facts x stored m₀ P (pre ++ [k])) own ((Led c₀).map (·.1)) { s with heap := h, toks := tk } Q) E { s with heap := h, toks := tk })
    (done : ∀ (c : σ) (u : PySem.Str → Option Value) h tk (pre : List Int), pre.length = n → Facts c → P pre c → Fr h₀ env.locals h (fun y => if y = x then u y else kstB (fun z => if stored.contains z then u z else m₀ z) (ps c) y) → News h₀ env.locals h (Led c) → Q .next { s with heap := h, toks := tk }) :
    wpAny (model prog w) A (pyIter (.ref r)) (fun it s₂ => LoopAtV prog w A h₀ env x body Q E it s₂) E s := by
  refine wpAny_pyIter_range hr hsmall ?_
  let ks : List Int := (List.range n).map fun (i : Nat) => a₀ + (i : Int) * st
  have hks : ks.length = n := by simp [ks]
  have W : Walks prog w A s.heap.objs.size [s.heap.objs.size] [s.heap.objs.size] n (fun i v => i < n ∧ ∃ t, v = .int (a₀ + i * st) t)
      (fun i h => IsRangeIter h s.heap.objs.size (a₀ + (i : Nat) * st) ((n : Int) - (i : Nat)) st) := (Walks.range hh _ a₀ st n).bound
  refine loop_invN (fun i m nx => KstS Led ps Facts x stored m₀ P (ks.take i) m nx) W ?_ ?_ ?_ ?_ (by show IsRangeIter _ _ _ _ _; rw [hn]; simpa using Heap.get?_push_size _ rfl) (F.push _) (fun p hp => ⟨Heap.get?_push_of_some _ (N p hp).1, (N p hp).2⟩) ⟨c₀, rfl, hf, hk, fun _ _ _ _ => rfl, by simpa using hp⟩ ?_ ?_
  · intro hm
    exact absurd F.ns.lt ((List.mem_singleton.mp hm) ▸ Nat.lt_irrefl _)
  · intro b hb
    rw [List.mem_singleton.mp hb]
    exact next_is_new F
  · intro p hp hI
    exact absurd (Heap.lt_size (N p hp).1) ((List.mem_singleton.mp hI) ▸ Nat.lt_irrefl _)
  · intro p hp hI
    exact absurd (Heap.lt_size (N p hp).1) ((List.mem_singleton.mp hI) ▸ Nat.lt_irrefl _)
  · rintro i v m₁ nx h tk own hi ⟨_, t, rfl⟩ _ hoff ⟨c, rfl, hf', h1, h2, hp'⟩ F₁ N₁
    have hk' : ks[i]? = some (a₀ + (i : Int) * st) := by simp [ks, hi]
    have hs : ks.take (i + 1) = ks.take i ++ [a₀ + (i : Int) * st] := by simp [List.take_add_one, hk']
    have hlen : (ks.take i).length = i := by rw [List.length_take, hks]; omega
    rw [hs]
    exact turn c _ _ t m₁ h tk own (by rw [hlen]) (by rw [hlen]; exact hi) hoff hf' hp' (kst_fr h1 h2 F₁) N₁
  · rintro m₁ nx h tk ⟨c, rfl, hf', h1, h2, hp'⟩ F₁ N₁
    have hl : ks.take n = ks := List.take_of_length_le (Nat.le_of_eq hks)
    rw [hl] at hp'
    exact done c m₁ h tk ks hks hf' hp' (kst_frOut h1 h2 F₁) N₁
end
end Mine
end

section
open PySem PySem.W PySem.Calls PyProof.Rows PySem.Builtin
set_option Elab.async false
set_option maxRecDepth 100000
namespace Mine

theorem slot_bjoin : Slot "bytes" "join" "bytes.join" :=
  .of (owner := "bytes") (n := "join") (by rw [typeLookup_type, builtinLookup_eq_fast]; kernel_rfl) (by decide +kernel) (by decide +kernel) (by decide +kernel)
    (by first | exact .inl (by decide +kernel) | exact .inr (by decide +kernel)) (by rw [isSubtype_type]; kernel_rfl)
theorem type_bjoin : typeOf (.builtin "bytes.join") = pure (.type "method_descriptor") := by show builtinType _ = _; rw [builtinType_eq_fast]; kernel_rfl
theorem entry_bjoin : entryFor table "bytes.join" = some Builtin.«bytes.join» := by first | exact entryFor_of_tree (by kernel_rfl) | exact entryFor_of_fast (by kernel_rfl)
theorem args_bjoin (a b : Value) : argsOk "bytes.join" ⟨[a, b], []⟩ := by unfold argsOk; kernel_rfl
theorem noRefB {b : Array UInt8} {t : Tok} : ∀ a, Value.bytes b t = .ref a → False := fun _ h => nomatch h

theorem take_eq {id : String} {b : Array UInt8} {t : Tok} : Bytes.takeBuffer? id (.bytes b t) 0 = pure (some (b, none)) := by
  unfold Bytes.takeBuffer?
  rw [KBy.special_eq KBy.look_buffer, KBy.own_buffer]
  show ((Bytes.buffer? id (.bytes b t) ((0 : Int) == Bytes.fullReadOnly)) >>= fun r => pure (r.map (·, none))) = _
  rw [show ((0 : Int) == Bytes.fullReadOnly) = false from by decide +kernel, KBy.buffer_eq]
  rfl
theorem takeQ_eq {id : String} {b : Array UInt8} {t : Tok} : Bytes.takeBufferQuiet? id (.bytes b t) 0 = pure (some (b, none)) := by
  unfold Bytes.takeBufferQuiet?
  rw [take_eq]
  rfl

inductive BA : List Value → List (Array UInt8) → Prop
  | nil : BA [] []
  | cons (b : Array UInt8) (t : Tok) {vs : List Value} {bs : List (Array UInt8)} : BA vs bs → BA (.bytes b t :: vs) (b :: bs)
theorem BA.length : ∀ {vs : List Value} {bs : List (Array UInt8)}, BA vs bs → vs.length = bs.length
  | _, _, .nil => rfl
  | _, _, .cons _ _ h => congrArg (· + 1) h.length
theorem BA.get {vs : List Value} {bs : List (Array UInt8)} (h : BA vs bs) : ∀ (i : Nat) (b : Array UInt8), bs[i]? = some b → ∃ t, vs[i]? = some (Value.bytes b t) := by
  induction h with
  | nil => intro i b e; simp at e
  | cons b t h ih =>
    intro i b' e
    cases i with
    | zero => simp at e; subst e; exact ⟨t, by simp⟩
    | succ i => simpa using ih i b' (by simpa using e)
theorem BA.append : ∀ {vs ws : List Value} {bs cs : List (Array UInt8)}, BA vs bs → BA ws cs → BA (vs ++ ws) (bs ++ cs)
  | _, _, _, _, .nil, h => h
  | _, _, _, _, .cons b t h, h' => .cons b t (h.append h')
theorem BA.take : ∀ {vs : List Value} {bs : List (Array UInt8)} (n : Nat), BA vs bs → BA (vs.take n) (bs.take n)
  | _, _, 0, _ => by simpa using .nil
  | _, _, _ + 1, .nil => .nil
  | _, _, n + 1, .cons b t h => .cons b t (h.take n)
theorem BA.drop : ∀ {vs : List Value} {bs : List (Array UInt8)} (n : Nat), BA vs bs → BA (vs.drop n) (bs.drop n)
  | _, _, 0, h => h
  | _, _, _ + 1, .nil => .nil
  | _, _, n + 1, .cons _ _ h => h.drop n

noncomputable def catB (bs : List (Array UInt8)) : Array UInt8 := bs.foldl (· ++ ·) #[]
theorem joined_go : ∀ (parts : List (Array UInt8)) (k : Nat) (out : Array UInt8), (parts.zipIdx k).foldl (fun out (p : Array UInt8 × Nat) => (if p.2 > 0 then out ++ #[] else out) ++ p.1) out = parts.foldl (· ++ ·) out
  | [], _, _ => rfl
  | p :: r, k, out => by
    rw [List.zipIdx_cons, List.foldl_cons, List.foldl_cons]
    have : (if k > 0 then out ++ #[] else out) = out := by split <;> simp
    rw [this]
    exact joined_go r (k + 1) _
theorem joined_nil (parts : List (Array UInt8)) : Bytes.joined #[] parts = catB parts := joined_go parts 0 #[]
theorem catB_size : ∀ (bs : List (Array UInt8)) (out : Array UInt8), (bs.foldl (· ++ ·) out).size = bs.foldl (fun n b => n + b.size) out.size
  | [], _ => rfl
  | b :: r, out => by rw [List.foldl_cons, catB_size r, Array.size_append, List.foldl_cons]

section
variable {M : Model} {prog : Program} {w : World} {A : Around} {E : Value → Shared → Prop} {s : Shared}
theorem joinLetGo_none : ∀ (taken : List (Value × Option Value)) (keep : List Value), (∀ p ∈ taken, p.2 = none) → ∀ {s : Shared} {Q : Unit → Shared → Prop}, Q () s → wpAny M A (Bytes.joinLetGo taken keep) Q E s
  | [], _, _, _, _, h => wpAny_pure h
  | (x, w) :: r, keep, hn, _, _, h => by
    have hw : w = none := hn (x, w) (.head _)
    subst hw
    unfold Bytes.joinLetGo
    exact wpAny_bind (wpAny_letGo (joinLetGo_none r keep (fun p hp => hn p (.tail _ hp)) h))

theorem m1_ne {α : Type} (items : Array Value) (f : Value → α) (g : Array Value → α) (ne : ∀ x, items ≠ #[x]) : Bytes.joinM.match_1 (fun _ => α) items f g = g items := by
  unfold Bytes.joinM.match_1
  by_cases h : items.size = 1
  · obtain ⟨l⟩ := items
    match l, h with
    | [x], _ => exact absurd rfl (ne x)
  · rw [dif_neg h]
theorem m1_one {α : Type} (x : Value) (f : Value → α) (g : Array Value → α) : Bytes.joinM.match_1 (fun _ => α) #[x] f g = f x := rfl
theorem bjoin_tree {l : Addr} {vs : List Value} {bs : List (Array UInt8)} {t : Tok} {Q : Value → Shared → Prop} (hl : s.heap.IsList l vs.toArray) (hv : BA vs bs) (hz : (catB bs).size ≤ 1000000)
    (h : ∀ t' k, Q (.bytes (catB bs) t') { s with toks := k }) :
    wpAny M A (Builtin.«bytes.join» ⟨[.bytes #[] t, .ref l], []⟩) (fun fin s' => ∃ v, fin = .done (.ret v) ∧ Q v s') E s := by
  obtain ⟨o, ho, hc, n, hd⟩ := id hl
  unfold Builtin.«bytes.join» Bytes.joinM
  refine wpAny_bind (wpAny_of_eq (a := (Value.bytes #[] t, Value.ref l)) rfl ?_)
  dsimp only
  rw [if_pos (by rfl)]
  refine wpAny_bind ?_
  unfold Bytes.joinItems
  refine wpAny_bind (wpAny_typeOf (T := "list") ⟨o, ho, hc⟩ ?_)
  rw [if_pos (by rfl)]
  refine wpAny_pure ?_
  refine wpAny_bind (wpAny_seqItems ho hd ?_)
  dsimp only
  rw [if_pos (by rfl)]
  by_cases h1 : ∃ b t', vs = [Value.bytes b t']
  · obtain ⟨b, t', rfl⟩ := h1
    cases hv with
    | cons b t' hr =>
      cases hr
      rw [m1_one]
      refine wpAny_bind (wpAny_typeOf (typeIs_bytes _ _ _) ?_)
      rw [if_pos (by rfl)]
      refine wpAny_bind (wpAny_rule (wpAny_pure ⟨_, rfl, ?_⟩))
      have := h t' s.toks
      simpa [catB] using this
  have ne : ∀ x, vs.toArray ≠ #[x] := by
    intro x hx
    have hvs : vs = [x] := by simpa using congrArg Array.toList hx
    subst hvs
    cases hv with
    | cons b t' hr => exact h1 ⟨b, t', rfl⟩
  rw [m1_ne _ _ _ ne, Std.Legacy.Range.forIn_eq_forIn_range']
  have hlen := hv.length
  have onH : ∀ b u, (Value.bytes b u).onHeap = false := fun _ _ => rfl
  refine wpAny_bind (wpAny_forIn_list _ (fun rest st s' => ∃ i, i ≤ vs.length ∧ rest = List.range' i (vs.length - i) ∧ st.1.toList = bs.take i ∧ (∀ p ∈ st.2, p.2 = none ∧ p.1.onHeap = false) ∧ s' = s) _ ?_ ?_ _ _ ?_)
  · rintro x rest ⟨parts, taken⟩ s' ⟨i, hi, hr, hp, ht, rfl⟩
    have hlt : i < vs.length := by
      rcases Nat.lt_or_ge i vs.length with q | q
      · exact q
      · rw [Nat.sub_eq_zero_of_le q] at hr; simp at hr
    obtain ⟨k, hk⟩ : ∃ k, vs.length - i = k + 1 := ⟨vs.length - i - 1, by omega⟩
    rw [hk, List.range'_succ] at hr
    obtain ⟨rfl, rfl⟩ := List.cons.inj hr
    dsimp only
    refine wpAny_bind (wpAny_seqItems ho hd ?_)
    dsimp only
    obtain ⟨b, hb⟩ : ∃ b, bs[x]? = some b := ⟨bs[x]'(by omega), by simp⟩
    obtain ⟨u, hu⟩ := hv.get x b hb
    have hx : vs.toArray.getD x Value.none = Value.bytes b u := by
      rw [Array.getD_eq_getD_getElem?, List.getElem?_toArray, hu]; rfl
    have hany : (Bytes.Kind.bytes == Bytes.Kind.bytearray || taken.any fun x => x.fst.onHeap) = false := by
      rw [Bool.or_eq_false_iff]
      refine ⟨rfl, ?_⟩
      rw [List.any_eq_false]
      intro p hp'
      rw [(ht p hp').2]; decide
    rw [if_neg (by rw [hany]; exact Bool.false_ne_true), hx]
    refine wpAny_bind (wpAny_holding (wpAny_of_eq takeQ_eq ?_))
    dsimp only
    refine wpAny_bind (wpAny_seqItems ho hd ?_)
    dsimp only
    rw [if_neg (by simp)]
    refine wpAny_pure ⟨x + 1, hlt, ?_, ?_, ?_, rfl⟩
    · have : vs.length - (x + 1) = k := by omega
      rw [this]
    · rw [Array.toList_push, hp, List.take_add_one, hb]; rfl
    · intro p hp'
      rcases List.mem_append.mp hp' with q | q
      · exact ht p q
      · rw [List.mem_singleton.mp q]; exact ⟨rfl, onH _ _⟩
  · rintro ⟨parts, taken⟩ s' ⟨i, hi, hr, hp, ht, rfl⟩
    have hi' : i = vs.length := by
      have := congrArg List.length hr
      simp at this
      omega
    have hp' : parts.toList = bs := by rw [hp, hi', hlen, List.take_length]
    dsimp only
    refine wpAny_bind (wpAny_of_eq (a := (#[] : Array UInt8)) rfl ?_)
    have hz' : Array.foldl (fun x1 x2 => x1 + x2.size) ((#[] : Array UInt8).size * (parts.size - 1)) parts = (catB bs).size := by
      have e0 : (#[] : Array UInt8).size * (parts.size - 1) = 0 := by simp
      rw [e0, ← Array.foldl_toList, hp']
      exact (catB_size bs #[]).symm
    rw [hz', if_neg (by rw [KBy.tooLong_not (by omega)]; exact Bool.false_ne_true), hp', joined_nil]
    refine wpAny_bind (wpAny_mkBytes ?_ (by rw [sizeLine_eq]; omega))
    refine wpAny_bind (wpAny_holding (wpAny_point ?_))
    refine wpAny_bind (joinLetGo_none _ _ (fun p hp => (ht p hp).1) ?_)
    exact wpAny_pure ⟨_, rfl, h _ _⟩
  · refine ⟨0, Nat.zero_le _, ?_, ?_, ?_, rfl⟩
    · simp [Std.Legacy.Range.size]
    · simp
    · intro p hp; simp at hp

theorem call_bjoin {l : Addr} {vs : List Value} {bs : List (Array UInt8)} {t : Tok} {Q : Value → Shared → Prop} (hl : s.heap.IsList l vs.toArray) (hv : BA vs bs) (hz : (catB bs).size ≤ 1000000)
    (h : ∀ t' k, Q (.bytes (catB bs) t') { s with toks := k }) : wpAny (model prog w) A (call (.builtin "bytes.join") [.bytes #[] t, .ref l]) Q E s :=
  wpAny_call_entry slot_bjoin (typeIs_bytes _ _ _) entry_bjoin (bjoin_tree hl hv hz h) (args_bjoin _ _)
theorem meth_bjoin {b : Array UInt8} {t : Tok} {pl : Sem Bool} {Q : Value × List Value → Shared → Prop} (h : Q (.builtin "bytes.join", [.bytes b t]) s) : wpAny M A (getMethod (.bytes b t) "join" pl) Q E s :=
  getMethod_builtin (typeIs_bytes _ _ _) FB.plainAttrs_bytes slot_bjoin type_bjoin (fun a e => nomatch e) h
end
end Mine
end

section
open PySem PySem.W PySem.Calls PyProof.Rows
set_option Elab.async false
set_option maxRecDepth 100000
namespace Mine
noncomputable def LedPost (h₀ : Heap) (L : Addr) (J : (Str → Option Value) → List (Addr × Obj) → Prop) (own : List (Addr × Obj)) (s : Shared) (Q : Flow → Shared → Prop) (f : Flow) (s₃ : Shared) : Prop :=
  match f with
  | .ret v => Q (.ret v) s₃
  | .brk => Q .next s₃
  | _ => ∃ h' tk' m' rest', s₃ = { s with heap := h', toks := tk' } ∧ Fr h₀ L h' m' ∧ News h₀ L h' (rest' ++ own) ∧ J m' rest'
end Mine
end

section
open PySem PySem.W PySem.Calls PyProof.Rows
set_option Elab.async false
set_option maxRecDepth 100000
namespace Mine
section
variable {prog : Program} {w : World} {A : Around} {E : Value → Shared → Prop} {s : Shared} {env : Env} {h₀ : Heap} {L : Addr} {x : PySem.Str} {px : Pos} {body : List Stmt} {Q : Flow → Shared → Prop}

/-- a loop over a made list, its name a cell or a local: what a turn keeps is said of the frame's map and the ledger -/
theorem for_led {l : Addr} {vs : List Value} {k0 : Nat} {rest₀ : List (Addr × Obj)} {m₀ : Str → Option Value} (J : Nat → (Str → Option Value) → List (Addr × Obj) → Prop)
    (hh : A.handled = none) (F : Fr h₀ L s.heap m₀) (N : News h₀ L s.heap ((l, listOf vs.toArray k0) :: rest₀)) (hj : J 0 m₀ rest₀)
    (turn : ∀ i v m rest I oI h tk, vs[i]? = some v → J i m rest → Fr h₀ L h m → News h₀ L h (rest ++ [(I, oI), (l, listOf vs.toArray k0)]) → AllLt I ((l, listOf vs.toArray k0) :: rest₀) →
      wpAny (model prog w) A (assign (.Name x px) env v) (fun _ s₂ => wpAny (model prog w) A (execs body env) (LedPost h₀ L (J (i + 1)) [(I, oI), (l, listOf vs.toArray k0)] s Q) (fun _ _ => False) s₂) (fun _ _ => False) { s with heap := h, toks := tk })
    (apart : ∀ i m rest, J i m rest → rest.map (·.1) = rest₀.map (·.1))
    (done : ∀ m rest h tk, J vs.length m rest → Fr h₀ L h m → News h₀ L h rest → Q .next { s with heap := h, toks := tk }) :
    wpAny (model prog w) A (pyIter (.ref l)) (fun it s₂ => codeAny (model prog w) A (.forLoop (.Name x px) it body [] env) (fun r s' => match r with | .ok f => Q f s' | .error e => cameBackBy (model prog w) A env E e s') s₂) E s := by
  have hl : s.heap.IsList l vs.toArray := ⟨_, (N _ (.head _)).1, rfl, k0, rfl⟩
  have hlt : @LT.lt Nat _ l s.heap.objs.size := Heap.lt_size (N _ (.head _)).1
  have hne : l ≠ s.heap.objs.size := by k_ne
  have W := Walks.list (prog := prog) (w := w) hh s.heap.objs.size l hne vs.toArray
  have hall : AllLt s.heap.objs.size ((l, listOf vs.toArray k0) :: rest₀) := allLt_of fun p hp => Heap.lt_size (N p hp).1
  have hI₀ : h₀.get? s.heap.objs.size = none := next_is_new F
  have hLI : L ≠ s.heap.objs.size := Nat.ne_of_lt F.ns.lt
  have offI : ∀ (r : List (Addr × Obj)), r.map (·.1) = rest₀.map (·.1) → ∀ p ∈ r, p.1 ≠ s.heap.objs.size := fun r hr p hp => by
    have : p.1 ∈ rest₀.map (·.1) := hr ▸ List.mem_map_of_mem hp
    obtain ⟨q, hq, e⟩ := List.mem_map.mp this
    have := Heap.lt_size (N q (.tail _ hq)).1
    rw [← e]
    exact Nat.ne_of_lt this
  refine wpAny_pyIter_list hl ?_
  refine codeAny_forLoop_any (fun k s' => ∃ h' tk i m rest, s' = { s with heap := h', toks := tk } ∧ i ≤ vs.length ∧ k = vs.length + 1 - i ∧ h'.IsListIter s.heap.objs.size l i ∧ Fr h₀ L h' m ∧ News h₀ L h' (rest ++ [(l, listOf vs.toArray k0)]) ∧ J i m rest) ?_ (vs.length + 1)
    ⟨_, s.toks, 0, m₀, rest₀, rfl, Nat.zero_le _, rfl, ⟨_, Heap.get?_push_size _ rfl, rfl, rfl⟩, F.push _, fun p hp => ?_, hj⟩
  · rintro k s' ⟨h', tk, i, m, rest, rfl, hi, rfl, hit, F', N', hJ⟩
    have hadr := apart i m rest hJ
    have hlN : (l, listOf vs.toArray k0) ∈ rest ++ [(l, listOf vs.toArray k0)] := List.mem_append_right _ (.head _)
    have hl' : h'.IsList l vs.toArray := ⟨_, (N' _ hlN).1, rfl, k0, rfl⟩
    have moved : ∀ {h₂ : Heap}, (∀ b o, b ∉ [s.heap.objs.size] → h'.get? b = some o → h₂.get? b = some o) → Fr h₀ L h₂ m ∧ News h₀ L h₂ (rest ++ [(l, listOf vs.toArray k0)]) := fun {h₂} hk =>
      ⟨⟨F'.ns.at' fun o q => hk _ o (by simpa using hLI) q, fun b o q => hk b o (by
          intro hm
          rw [List.mem_singleton.mp hm, hI₀] at q
          cases q) (F'.keep b o q), F'.above⟩, fun p hp => by
        refine ⟨hk _ _ ?_ (N' p hp).1, (N' p hp).2⟩
        rw [List.mem_singleton]
        rcases List.mem_append.mp hp with q | q
        · exact offI rest hadr p q
        · rw [List.mem_singleton.mp q]; exact hne⟩
    by_cases hlt' : i < vs.length
    · refine W.item i _ _ _ (by simpa using hlt') ⟨hit, hl'⟩ fun v h₂ tk₂ hv hst hk => ?_
      have hv' : vs[i]? = some v := by simpa using hv
      obtain ⟨F₂, N₂⟩ := moved hk
      obtain ⟨oI, hoI, hrI⟩ := id hst.1
      have N₃ : News h₀ L h₂ (rest ++ [(s.heap.objs.size, oI), (l, listOf vs.toArray k0)]) := fun p hp => by
        rcases List.mem_append.mp hp with q | q
        · exact N₂ p (List.mem_append_left _ q)
        · rcases List.mem_cons.mp q with rfl | q
          · exact ⟨hoI, Ne.symm hLI, hI₀⟩
          · exact N₂ p (List.mem_append_right _ q)
      refine wpAny_mono (show wpAny _ _ (letOwnedTupleGo (.Name x px) (.ref s.heap.objs.size) v) (fun _ s₂ => s₂ = _) (fun _ _ => False) _ from wpAny_pure rfl) (fun _ s₂ e => ?_) fun _ _ e => e.elim
      subst e
      refine wpAny_mono (turn i v m rest _ oI h₂ tk₂ hv' hJ F₂ N₃ hall) (fun _ s₂ q => wpAny_mono q (fun f s₃ r => ?_) fun _ _ e => e.elim) fun _ _ e => e.elim
      have fin : (∃ h' tk' m' rest', s₃ = { s with heap := h', toks := tk' } ∧ Fr h₀ L h' m' ∧ News h₀ L h' (rest' ++ [(s.heap.objs.size, oI), (l, listOf vs.toArray k0)]) ∧ J (i + 1) m' rest') →
          ∃ m, m < vs.length + 1 - i ∧ ∃ h' tk i_1 m_1 rest, s₃ = { s with heap := h', toks := tk } ∧ i_1 ≤ vs.length ∧ m = vs.length + 1 - i_1 ∧ h'.IsListIter s.heap.objs.size l i_1 ∧ Fr h₀ L h' m_1 ∧ News h₀ L h' (rest ++ [(l, listOf vs.toArray k0)]) ∧ J i_1 m_1 rest := by
        rintro ⟨h₄, tk₄, m₄, rest₄, rfl, F₄, N₄, J₄⟩
        refine ⟨vs.length + 1 - (i + 1), by omega, h₄, tk₄, i + 1, m₄, rest₄, rfl, hlt', rfl, ⟨oI, (N₄ _ (List.mem_append_right _ (.head _))).1, hrI⟩, F₄, fun p hp => ?_, J₄⟩
        rcases List.mem_append.mp hp with q | q
        · exact N₄ p (List.mem_append_left _ q)
        · exact N₄ p (List.mem_append_right _ (.tail _ q))
      cases f with
      | ret v => exact r
      | brk => exact r
      | next => exact fin r
      | cont => exact fin r
    · obtain rfl : i = vs.length := Nat.le_antisymm hi (Nat.not_lt.mp hlt')
      refine W.done _ _ _ ⟨by simpa using hit, hl'⟩ fun h₂ tk₂ hk => wpAny_execs_nil ?_
      obtain ⟨F₂, N₂⟩ := moved hk
      exact done m rest h₂ tk₂ hJ F₂ fun p hp => N₂ p (List.mem_append_left _ hp)
  · have hp' : p ∈ (l, listOf vs.toArray k0) :: rest₀ := by
      rcases List.mem_append.mp hp with q | q
      · exact .tail _ q
      · rw [List.mem_singleton.mp q]; exact .head _
    exact ⟨Heap.get?_push_of_some _ (N p hp').1, (N p hp').2⟩
end
end Mine
end

section
open PySem PySem.W PySem.Calls PyProof.Rows
set_option Elab.async false
set_option maxRecDepth 100000
namespace Mine
theorem isi_bytes {prog : Program} {w : World} {A : Around} {E : Value → Shared → Prop} {s : Shared} {b : Array UInt8} {t : Tok} {Q : Value → Shared → Prop} (h : Q (.bool true) s) : wpAny (model prog w) A (call (.builtin "isinstance") [.bytes b t, .type "bytes"]) Q E s :=
  call_isinstance_yes (Tx := "bytes") rfl PySem.F.isi_meta_bytes PySem.F.sub_bytes_bytes h
end Mine
end

section
open PySem PySem.W PySem.Calls PyProof.Rows
set_option Elab.async false
set_option maxRecDepth 100000
set_option maxHeartbeats 8000000
namespace Mine

theorem in_snoc {ns : List Int} {x : Int} (h : KBa.In ns) (hx : 0 ≤ x ∧ x < 256) : KBa.In (ns ++ [x]) := fun n hn => (List.mem_append.mp hn).elim (h n) fun q => (List.mem_singleton.mp q) ▸ hx
theorem byte_in (c : UInt8) : 0 ≤ ((c.toNat : Nat) : Int) ∧ ((c.toNat : Nat) : Int) < 256 := by
  have := UInt8.toNat_lt c
  omega
theorem ints_snoc {vs : List Value} {ns : List Int} {n : Int} {t : Tok} (h : IntsAre vs ns) : IntsAre (vs ++ [.int n t]) (ns ++ [n]) := by
  induction h with
  | nil => exact .cons _ _ .nil
  | cons a b _ ih => exact .cons a b ih
theorem absQ {prog : Program} {w : World} {A : Around} {t : Sem Flow} {Q : Flow → Shared → Prop} {E : Value → Shared → Prop} {s : Shared} (h : ∀ Qo : Flow → Shared → Prop, (∀ f s', Q f s' → Qo f s') → wpAny (model prog w) A t Qo E s) : wpAny (model prog w) A t Q E s := h Q fun _ _ h => h
theorem room1 {a D k N : Nat} (h : a + D < N) (hk : Nat.ble k D = true) : a + k < N := by
  have := Nat.le_of_ble_eq_true hk
  omega
theorem room2 {a D j k N : Nat} (h : a + D < N) (hk : Nat.ble (j + k) D = true) : a + j + k < N := by
  have := Nat.le_of_ble_eq_true hk
  omega
noncomputable def Ctr (w : World) (mean : ExcName → Option Value) (mg mb : Str → Option Value) (D U : Nat) (f : Addr) (vs : List Value) (kw : List (Str × Value)) (P : Value → Prop) : Prop :=
  ∀ (dp un : Nat) (gd : Option (List Code)) (cn : Str) (cs : Scope) (a : Addr) (ccd : Value) (cl : List (Str × Addr)) (outer : List Env) (A₀ : Around) (base h₀ : Heap) (L : Addr) (m : Str → Option Value) (news : List (Addr × Obj)) (s : Shared) (Q E : Value → Shared → Prop),
    Below A₀ base outer h₀ → Fr h₀ L s.heap m → (hd.heap_39 w.params).In h₀ → News h₀ L s.heap news →
    Top hd.view_39 (looseW hd.view_39 [Str.ofString "bytes_types", Str.ofString "a2b_base64", Str.ofString "b2a_base64", Str.ofString "b64encode", Str.ofString "b64decode"]) mean mg mb h₀ →
    cs.kind = .function → dp + D < recursionLimit → un + U < cLine →
    (∀ v h' tk', P v → Fr h₀ L h' m → News h₀ L h' news → Q v { s with heap := h', toks := tk' }) →
    wpAny (model PySem.Challenge.rw_qh0114_01.row.prog w) (ktrTop dp un gd cn cs L a ccd cl outer) (call (.ref f) vs kw) Q E s

section
variable {w : World} {mean : ExcName → Option Value} {mg mb : Str → Option Value} {D U : Nat} {f : Addr} {vs : List Value} {kw : List (Str × Value)} {P : Value → Prop}
  {dp un : Nat} {gd : Option (List Code)} {cn : Str} {cs : Scope} {a : Addr} {ccd : Value} {cl : List (Str × Addr)} {outer : List Env} {A₀ : Around} {base h₀ : Heap} {L : Addr} {m : Str → Option Value} {news : List (Addr × Obj)} {s : Shared} {Q E : Value → Shared → Prop}
theorem Ctr.use (C : Ctr w mean mg mb D U f vs kw P) (B : Below A₀ base outer h₀) (F : Fr h₀ L s.heap m) (X : (hd.heap_39 w.params).In h₀) (N : News h₀ L s.heap news)
    (T : Top hd.view_39 (looseW hd.view_39 [Str.ofString "bytes_types", Str.ofString "a2b_base64", Str.ofString "b2a_base64", Str.ofString "b64encode", Str.ofString "b64decode"]) mean mg mb h₀)
    (hk : cs.kind = .function) (hd : dp + D < recursionLimit) (hu : un + U < cLine)
    (h : ∀ v h' tk', P v → Fr h₀ L h' m → News h₀ L h' news → Q v { s with heap := h', toks := tk' }) :
    wpAny (model PySem.Challenge.rw_qh0114_01.row.prog w) (ktrTop dp un gd cn cs L a ccd cl outer) (call (.ref f) vs kw) Q E s :=
  C dp un gd cn cs a ccd cl outer A₀ base h₀ L m news s Q E B F X N T hk hd hu h
end

section
variable {w : World} {mean : ExcName → Option Value} {mg mb : Str → Option Value} {D U : Nat} {f : Addr} {vs : List Value} {kw : List (Str × Value)} {P : Value → Prop}
theorem ctr_of {name qual : Str} {params : Arguments} {body : List Stmt} {scope : Scope} {dV kV doc pm cdv ct oc : Value} {an od : Option Addr} {osl : Array (Option Value)} {binds : List (Str × Value)}
    (ho : (hd.heap_39 w.params).lookup f = some ⟨oc, od, .func (fnOf name qual params body scope dV kV doc pm an cdv ct), osl⟩) (hcd : codeIn (hd.heap_39 w.params) cdv qual = true)
    (hbind : ∀ s : Shared, (hd.heap_39 w.params).In s.heap → BindsTo s (fnOf name qual params body scope dV kV doc pm an cdv ct) ⟨vs, kw⟩ binds) (hloc : ∀ y ∈ binds, scope.names.lookup y.1 = some .local)
    (h : ∀ (dp un : Nat) (gd : Option (List Code)) (cn : Str) (cs : Scope) (a : Addr) (ccd : Value) (cl : List (Str × Addr)) (outer : List Env) (base : Heap) (L : Addr) (s : Shared) (g : Heap) (L' : Addr) (h₁ : Heap) (Q : Flow → Shared → Prop),
      Fr g L' h₁ (fun y => binds.reverse.lookup y) → News g L' h₁ [] → Below (ktrTop dp un gd cn cs L a ccd cl outer) base (envX cn cs L a ccd cl :: outer) g → (hd.heap_39 w.params).In g →
      Top hd.view_39 (looseW hd.view_39 [Str.ofString "bytes_types", Str.ofString "a2b_base64", Str.ofString "b2a_base64", Str.ofString "b64encode", Str.ofString "b64decode"]) mean mg mb g →
      cs.kind = .function → dp + D < recursionLimit → un + U < cLine →
      (∀ v m' h' tk', Fr g L' h' m' → P v → Q (.ret v) { s with heap := h', toks := tk' }) →
      wpAny (model PySem.Challenge.rw_qh0114_01.row.prog w) ((ktrTop dp un gd cn cs L a ccd cl outer).deeper (envOf qual scope L' f cdv)) (execs body (envOf qual scope L' f cdv)) Q (fun _ _ => False) { s with heap := h₁, toks := s.toks + binds.length })
    (hco : scope.isCoroutine = false) (hgen : scope.isGenerator = false) (hk : scope.kind = .function)
    (hcell : ∀ x ∈ scope.names, x.2 ≠ .cell) : Ctr w mean mg mb D U f vs kw P := by
  intro dp un gd cn cs a ccd cl outer A₀ base h₀ L m news s Q E B F X N T hkc hd hu hret
  refine wpAny_call ?_
  refine code_pure (env := envX cn cs L a ccd cl) B F X N T rfl rfl hkc ho hcd (show dp < recursionLimit by omega) (hbind s (X.keeps F.keep)) hloc (fun g L' h₁ F' N' B' X' T' keep => ?_) hco hgen hk hcell
  refine wpAny_mono (h dp un gd cn cs a ccd cl outer base L s g L' h₁ (fun fl s' => match fl with | .ret v => Q v s' | _ => False) F' N' B' X' T' hkc hd hu fun v m' h' tk' F'' hp => ?_) (fun fl s' hq => ?_) fun _ _ e => e.elim
  · have := back F N (h₁ := h') fun b o e => F''.keep b o (keep b o e)
    exact hret v h' tk' hp this.1 this.2
  · cases fl with
    | ret v => exact hq
    | _ => exact hq.elim

theorem ctr_ofC {name qual : Str} {params : Arguments} {body : List Stmt} {scope : Scope} {dV kV doc pm cdv ct oc : Value} {an od : Option Addr} {osl : Array (Option Value)} {binds : List (Str × Value)}
    (ho : (hd.heap_39 w.params).lookup f = some ⟨oc, od, .func (fnOf name qual params body scope dV kV doc pm an cdv ct), osl⟩) (hcd : codeIn (hd.heap_39 w.params) cdv qual = true)
    (hbind : ∀ s : Shared, (hd.heap_39 w.params).In s.heap → BindsTo s (fnOf name qual params body scope dV kV doc pm an cdv ct) ⟨vs, kw⟩ binds)
    (hkind : (binds.all fun y => scope.names.lookup y.1 == some .local || scope.names.lookup y.1 == some .cell) = true) (hnd : ((cellsFrom 0 scope.names []).map (·.1)).Nodup)
    (h : ∀ (dp un : Nat) (gd : Option (List Code)) (cn : Str) (cs : Scope) (a : Addr) (ccd : Value) (cl : List (Str × Addr)) (outer : List Env) (base : Heap) (L : Addr) (s : Shared) (g : Heap) (L' : Addr) (h₁ : Heap) (tk : Nat) (cells : List (Addr × Obj)) (Q : Flow → Shared → Prop),
      Fr g L' h₁ (bindL (envOfC qual scope L' f cdv).kindOf binds fun _ => none) → News g L' h₁ cells → CellsAre (bindC (envOfC qual scope L' f cdv).kindOf binds fun _ => none) (cellsFrom (L' + 1) scope.names []) cells →
      Below (ktrTop dp un gd cn cs L a ccd cl outer) base (envX cn cs L a ccd cl :: outer) g → (hd.heap_39 w.params).In g →
      Top hd.view_39 (looseW hd.view_39 [Str.ofString "bytes_types", Str.ofString "a2b_base64", Str.ofString "b2a_base64", Str.ofString "b64encode", Str.ofString "b64decode"]) mean mg mb g →
      cs.kind = .function → dp + D < recursionLimit → un + U < cLine →
      (∀ v m' h' tk', Fr g L' h' m' → P v → Q (.ret v) { s with heap := h', toks := tk' }) →
      wpAny (model PySem.Challenge.rw_qh0114_01.row.prog w) ((ktrTop dp un gd cn cs L a ccd cl outer).deeper (envOfC qual scope L' f cdv)) (execs body (envOfC qual scope L' f cdv)) Q (fun _ _ => False) { s with heap := h₁, toks := tk })
    (hco : scope.isCoroutine = false) (hgen : scope.isGenerator = false) (hk : scope.kind = .function) : Ctr w mean mg mb D U f vs kw P := by
  intro dp un gd cn cs a ccd cl outer A₀ base h₀ L m news s Q E B F X N T hkc hd hu hret
  refine wpAny_call ?_
  refine code_pureC (env := envX cn cs L a ccd cl) B F X N T rfl rfl hkc ho hcd (show dp < recursionLimit by omega) (hbind s (X.keeps F.keep)) hkind hnd (fun g L' h₁ tk cells F' N' Y' B' X' T' keep => ?_) hco hgen hk
  refine wpAny_mono (h dp un gd cn cs a ccd cl outer base L s g L' h₁ tk cells (fun fl s' => match fl with | .ret v => Q v s' | _ => False) F' N' Y' B' X' T' hkc hd hu fun v m' h' tk' F'' hp => ?_) (fun fl s' hq => ?_) fun _ _ e => e.elim
  · have := back F N (h₁ := h') fun b o e => F''.keep b o (keep b o e)
    exact hret v h' tk' hp this.1 this.2
  · cases fl with
    | ret v => exact hq
    | _ => exact hq.elim
end

end Mine
end

section
open Mine PySem PySem.W PySem.Calls PyProof.Rows
local macro_rules | `(tactic| k_room) => `(tactic| ktr_room)
local macro_rules | `(tactic| k_units) => `(tactic| first | exact Nat.le_of_ble_eq_true rfl | ktr_units)
local macro_rules | `(tactic| walk_at $s:str) => `(tactic| k_extra $s)

section
open PySem PySem.W PySem.Calls PyProof.Rows
set_option Elab.async false
set_option maxRecDepth 100000
set_option maxHeartbeats 8000000
namespace Mine

example : (fun (_ : OpenLaw) (_ : Params → Frag) => True) PySem.Challenge.rw_qh0114_01 hd.heap_39 := by
  k_fill; trivial


noncomputable def genStep (c : Nat) : Nat := if c % 2 = 1 then c / 2 ^^^ 3988292384 else c / 2
noncomputable def genIt : Nat → Nat → Nat
  | 0, c => c
  | n + 1, c => genStep (genIt n c)

theorem gen_odd {c : Int} {x : Nat} {pre : List Int} {k : Int} (h : c = ((genIt pre.length x : Nat) : Int)) (hb : Builtin.bitAnd c 1 ≠ 0) :
    Builtin.bitXor (c.fdiv (2 ^ Int.toNat 1)) 3988292384 = ((genIt (pre ++ [k]).length x : Nat) : Int) := by
  subst h
  have e : (pre ++ [k]).length = pre.length + 1 := by simp
  rw [e, genIt, genStep]
  have h1 : Builtin.bitAnd ((genIt pre.length x : Nat) : Int) ((1 : Nat) : Int) ≠ 0 := hb
  rw [bitAnd_nat, and_one] at h1
  have h2 : genIt pre.length x % 2 = 1 := by omega
  rw [if_pos h2]
  show Builtin.bitXor (((genIt pre.length x : Nat) : Int).fdiv ((2 : Nat) : Int)) ((3988292384 : Nat) : Int) = _
  rw [fdiv_nat, bitXor_nat]
theorem gen_even {c : Int} {x : Nat} {pre : List Int} {k : Int} (h : c = ((genIt pre.length x : Nat) : Int)) (hb : Builtin.bitAnd c 1 = 0) :
    c.fdiv (2 ^ Int.toNat 1) = ((genIt (pre ++ [k]).length x : Nat) : Int) := by
  subst h
  have e : (pre ++ [k]).length = pre.length + 1 := by simp
  rw [e, genIt, genStep]
  have h1 : Builtin.bitAnd ((genIt pre.length x : Nat) : Int) ((1 : Nat) : Int) = 0 := hb
  rw [bitAnd_nat, and_one] at h1
  have h2 : ¬ genIt pre.length x % 2 = 1 := by omega
  rw [if_neg h2]
  show ((genIt pre.length x : Nat) : Int).fdiv ((2 : Nat) : Int) = _
  rw [fdiv_nat]

theorem gen_ctr (w : World) (mean : ExcName → Option Value) (mg mb : Str → Option Value) (x : Int) (hx : 0 ≤ x) (tk : Tok) : Ctr w mean mg mb 2 20 109 [.int x tk] [] (fun v => ∃ t, v = .int (genIt 8 x.toNat : Nat) t) := by
  k_with_none
  k_with "steps" => repeat' ((fail_if_success (with_reducible show wpAny _ _ (pyIter _) _ _ _)); first | (k_unfold; (try dsimp only)) | walk1 | (dsimp only; walk1) | fail "no step")
  k_with "exec For" => (k_here; (rename Fr _ _ _ _ => lF'); (with_unfolding_all refine' For_invVF lF' ?hole1k1 ?hole1k2 ?_; (case hole1k1 => exact rfl); (case hole1k2 => exact rfl); k_whole))
  k_with "exec For Name Call cons nil" => (k_here; (rename Fr _ _ _ _ => lF'); (with_unfolding_all refine' For_invVF lF' ?hole2k1 ?hole2k2 ?_; (case hole2k1 => exact rfl); (case hole2k2 => exact rfl); k_whole))
  k_with "exec For Name Name cons nil" => (k_here; (rename Fr _ _ _ _ => lF'); (with_unfolding_all refine' For_invVF lF' ?hole3k1 ?hole3k2 ?_; (case hole3k1 => exact rfl); (case hole3k2 => exact rfl); k_whole))
  k_with "call type:type" => (k_here; (with_reducible show wpAny _ _ (call _ [Value.bytes _ _]) _ _ _); refine call_type_of (Tx := "bytes") rfl (by decide +kernel) ?_)
  k_with "kba_in" => first | assumption | (refine in_snoc ?_ ?_; (focus (first | k_extra "kba_in" | kba_in)); (first | exact byte_in _ | decide | omega))
  k_with "kba_ints" => first | assumption | (refine ints_snoc ?_; (first | k_extra "kba_ints" | kba_listInts))
  k_with "call type:bytes" => (k_here; (with_reducible show wpAny _ _ (call (Value.type "bytes") [Value.ref _]) _ _ _); (rename News _ _ _ _ => nE'); (simp only [List.push_toArray] at nE'); k_dflt (refine' KBa.make_K ?hole7kbaF nE' ?hole7kbah ?hole7kbal ?hole7kbai ?hole7kbar ?hole7kban ?_; (case hole7kbaF => k_asm); (case hole7kbah => rfl); (case hole7kbal => exact News.isList nE' (by k_mem)); (case hole7kbai => first | k_extra "kba_ints" | kba_listInts); (case hole7kbar => first | k_extra "kba_in" | kba_in); (case hole7kban => kba_size)); intro _ _ _ F' N' kbaIn)
  k_with "binaryOp FloorDiv int int" => (k_here; first | (with_reducible refine floordiv_int (powN_ne (b := 256) (by decide) _) ?_ (Or.inl (pow256_py ?hole8kbp)); (case hole8kbp => omega)) | (with_reducible refine floordiv_int (powN_ne (b := 64) (by decide) _) ?_ (Or.inl (pow64_py ?hole8kbp)); (case hole8kbp => omega)))
  k_with "call builtin:len" => (k_here; (with_reducible show wpAny _ _ (call (Value.builtin "len") [Value.bytes _ _]) _ _ _); refine len_B ?hole9kl ?_; (case hole9kl => first | exact Nat.le_trans (Small.le (by assumption)) (by decide) | omega))
  obtain ⟨n, rfl⟩ : ∃ n : Nat, x = (n : Int) := ⟨x.toNat, by omega⟩
  rw [Int.toNat_natCast]
  k_dflt (refine' ctr_of (binds := [(Str.ofString "crc", .int n tk)]) ?k6 ?k7 ?k9 ?kB ?_ ?c2 ?c3 ?c4 ?c5; (case k6 => k_is); (case k7 => k_is); (case k9 => intro s _; exact BindsTo.of_eq rfl); (case kB => exact locs rfl); (case c5 => decide); (case c2 => exact rfl); (case c3 => exact rfl); (case c4 => exact rfl); k_whole)
  intro dp un gd cn cs a ccd cl outer base L s g L' h₁ Q F' N' B' X' T' hkc hD hU ret
  k_extra "steps"
  (k_with "state" => first | exact rfl | exact gen_odd (by assumption) (by assumption) | exact gen_even (by assumption) (by assumption))
  k_state_short (fun pre c => c = ((genIt pre.length n : Nat) : Int)) "crc"
  · k_extra "steps"
    all_goals kst_close
  · k_extra "steps"
    exact ret _ _ _ _ (by assumption) ⟨_, by rw [kInv]; rfl⟩
end Mine
end

section
open PySem PySem.W PySem.Calls PyProof.Rows
set_option Elab.async false
set_option maxRecDepth 100000
set_option maxHeartbeats 8000000
namespace Mine

example : (fun (_ : OpenLaw) (_ : Params → Frag) => True) PySem.Challenge.rw_qh0114_01 hd.heap_39 := by
  k_fill; trivial

theorem powN_ne {b : Int} (hb : 0 < b) (n : Nat) : b ^ n ≠ 0 := Int.ne_of_gt (pow_pos_of hb n)
theorem powN_py {x : Int} {b e : Nat} (hb : b = 2 ^ e) {k : Int} (h : (e : Int) * k < 9000) (hk : 0 ≤ k ∨ e ≤ 100) : Builtin.divisionGoesByPylong x ((b : Int) ^ k.toNat) = false := by
  refine PyProof.noPylong_of_log2 ?_
  have e1 : ((b : Int) ^ k.toNat).natAbs = 2 ^ (e * k.toNat) := by
    rw [Int.natAbs_pow, Int.natAbs_natCast, hb, ← Nat.pow_mul]
  rw [e1]
  refine (Nat.log2_lt (Nat.ne_of_gt (Nat.two_pow_pos _))).mpr ?_
  refine Nat.pow_lt_pow_right (by decide) ?_
  by_cases h0 : 0 ≤ k
  · obtain ⟨n, rfl⟩ : ∃ n : Nat, k = (n : Int) := ⟨k.toNat, by omega⟩
    rw [Int.toNat_natCast]
    have h' : ((e * n : Nat) : Int) < 9000 := by rw [Int.natCast_mul]; exact h
    omega
  · rw [Int.toNat_of_nonpos (by omega)]; omega
theorem pow256_py {x k : Int} (h : k < 1000) : Builtin.divisionGoesByPylong x (256 ^ k.toNat) = false := powN_py (b := 256) (e := 8) rfl (by omega) (.inr (by decide))
theorem pow64_py {x k : Int} (h : k < 1000) : Builtin.divisionGoesByPylong x (64 ^ k.toNat) = false := powN_py (b := 64) (e := 6) rfl (by omega) (.inr (by decide))
structure Small (b : Array UInt8) : Prop where
  le : b.size ≤ 100000
theorem len_B {prog : Program} {w : World} {A : Around} {E : Value → Shared → Prop} {s : Shared} {b : Array UInt8} {t : Tok} {Q : Value → Shared → Prop} (hfit : b.size ≤ 1099511627776)
    (h : Q (.int (b.size : Nat) (s.toks + 1)) { s with toks := s.toks + 1 + 1 }) : wpAny (model prog w) A (call (.builtin "len") [.bytes b t]) Q E s := by
  refine KBw.len_K (ks := KBw.bInts b) rfl (by rw [KBw.ints_length]; exact hfit) ?_
  rw [KBw.ints_length]; exact h
noncomputable def stOf (c : Nat) (row : List Nat) : Nat := row.foldl (fun c o => genIt 8 (c ^^^ o)) c
noncomputable def sumOf (row : List Nat) : Nat := 4294967295 - stOf 4294967295 row
noncomputable def nats (ks : List Int) : List Nat := ks.map Int.toNat
noncomputable def oct (b : Array UInt8) : List Nat := b.toList.map UInt8.toNat

theorem bitXor_nonneg {a b : Int} (ha : 0 ≤ a) (hb : 0 ≤ b) : 0 ≤ Builtin.bitXor a b := by
  obtain ⟨n, rfl⟩ : ∃ n : Nat, a = (n : Int) := ⟨a.toNat, by omega⟩
  obtain ⟨k, rfl⟩ : ∃ k : Nat, b = (k : Int) := ⟨b.toNat, by omega⟩
  rw [bitXor_nat]; omega
theorem sum_turn {c n : Int} {pre : List Int} (h : c = ((stOf 4294967295 (nats pre) : Nat) : Int)) (hn : 0 ≤ n) :
    ((genIt 8 (Builtin.bitXor c n).toNat : Nat) : Int) = ((stOf 4294967295 (nats (pre ++ [n])) : Nat) : Int) := by
  subst h
  obtain ⟨k, rfl⟩ : ∃ k : Nat, n = (k : Int) := ⟨n.toNat, by omega⟩
  rw [bitXor_nat, Int.toNat_natCast]
  simp [stOf, nats, List.foldl_append]

theorem nats_ints (b : List UInt8) : nats (List.map (fun c => ((c.toNat : Nat) : Int)) b) = b.map UInt8.toNat := by
  simp [nats]

theorem sum_ctr (w : World) (mean : ExcName → Option Value) (mg mb : Str → Option Value) (b : Array UInt8) (tk : Tok) : Ctr w mean mg mb 4 40 116 [.bytes b tk] [] (fun v => ∃ t, v = .int (4294967295 - (stOf 4294967295 (oct b) : Nat)) t) := by
  k_with_none
  k_with "steps" => repeat' ((fail_if_success (with_reducible show wpAny _ _ (pyIter _) _ _ _)); first | (k_unfold; (try dsimp only)) | walk1 | (dsimp only; walk1) | fail "no step")
  k_with "exec For" => (k_here; (rename Fr _ _ _ _ => lF'); (with_unfolding_all refine' For_invVF lF' ?hole1k1 ?hole1k2 ?_; (case hole1k1 => exact rfl); (case hole1k2 => exact rfl); k_whole))
  k_with "exec For Name Call cons nil" => (k_here; (rename Fr _ _ _ _ => lF'); (with_unfolding_all refine' For_invVF lF' ?hole2k1 ?hole2k2 ?_; (case hole2k1 => exact rfl); (case hole2k2 => exact rfl); k_whole))
  k_with "exec For Name Name cons nil" => (k_here; (rename Fr _ _ _ _ => lF'); (with_unfolding_all refine' For_invVF lF' ?hole3k1 ?hole3k2 ?_; (case hole3k1 => exact rfl); (case hole3k2 => exact rfl); k_whole))
  k_with "call type:type" => (k_here; (with_reducible show wpAny _ _ (call _ [Value.bytes _ _]) _ _ _); refine call_type_of (Tx := "bytes") rfl (by decide +kernel) ?_)
  k_with "kba_in" => first | assumption | (refine in_snoc ?_ ?_; (focus (first | k_extra "kba_in" | kba_in)); (first | exact byte_in _ | decide | omega))
  k_with "kba_ints" => first | assumption | (refine ints_snoc ?_; (first | k_extra "kba_ints" | kba_listInts))
  k_with "call type:bytes" => (k_here; (with_reducible show wpAny _ _ (call (Value.type "bytes") [Value.ref _]) _ _ _); (rename News _ _ _ _ => nE'); (simp only [List.push_toArray] at nE'); k_dflt (refine' KBa.make_K ?hole7kbaF nE' ?hole7kbah ?hole7kbal ?hole7kbai ?hole7kbar ?hole7kban ?_; (case hole7kbaF => k_asm); (case hole7kbah => rfl); (case hole7kbal => exact News.isList nE' (by k_mem)); (case hole7kbai => first | k_extra "kba_ints" | kba_listInts); (case hole7kbar => first | k_extra "kba_in" | kba_in); (case hole7kban => kba_size)); intro _ _ _ F' N' kbaIn)
  k_with "binaryOp FloorDiv int int" => (k_here; first | (with_reducible refine floordiv_int (powN_ne (b := 256) (by decide) _) ?_ (Or.inl (pow256_py ?hole8kbp)); (case hole8kbp => omega)) | (with_reducible refine floordiv_int (powN_ne (b := 64) (by decide) _) ?_ (Or.inl (pow64_py ?hole8kbp)); (case hole8kbp => omega)))
  k_with "call builtin:len" => (k_here; (with_reducible show wpAny _ _ (call (Value.builtin "len") [Value.bytes _ _]) _ _ _); refine len_B ?hole9kl ?_; (case hole9kl => first | exact Nat.le_trans (Small.le (by assumption)) (by decide) | omega))
  k_with "call ref" => (k_here; (k_dflt (refine' Ctr.use (gen_ctr _ _ _ _ _ (by first | omega | exact bitXor_nonneg (by omega) (by omega)) _) ?hole10k1 ?hole10k2 ?hole10k3 ?hole10k4 ?hole10k5 ?hole10kK ?hole10kd ?hole10ku ?_; (case hole10k1 => k_asm); (case hole10k2 => k_asm); (case hole10k3 => k_asm); (case hole10k4 => k_asm); (case hole10k5 => k_asm); (case hole10kK => first | exact rfl | assumption); (case hole10kd => first | exact Nat.le_of_ble_eq_true rfl | exact room1 (by assumption) rfl | exact room2 (by assumption) rfl | ktr_room); (case hole10ku => first | exact Nat.le_of_ble_eq_true rfl | exact room1 (by assumption) rfl | exact room2 (by assumption) rfl | ktr_units); k_whole); intro _ _ _ hv' _ _; (first | (obtain ⟨_, hv'⟩ := hv'; subst hv') | subst hv'); (try k_sweep)))
  k_dflt (refine' ctr_of (binds := [(Str.ofString "row", .bytes b tk)]) ?k6 ?k7 ?k9 ?kB ?_ ?c2 ?c3 ?c4 ?c5; (case k6 => k_is); (case k7 => k_is); (case k9 => intro s _; exact BindsTo.of_eq rfl); (case kB => exact locs rfl); (case c5 => decide); (case c2 => exact rfl); (case c3 => exact rfl); (case c4 => exact rfl); k_whole)
  intro dp un gd cn cs a ccd cl outer base L s g L' h₁ Q F' N' B' X' T' hkc hD hU ret
  k_extra "steps"
  (k_with "state" => first | exact rfl | exact sum_turn (by assumption) (by assumption))
  k_state (fun pre c => c = ((stOf 4294967295 (nats pre) : Nat) : Int)) "crc"
  · k_extra "steps"
  · k_extra "steps"
    exact ret _ _ _ _ (by assumption) ⟨_, by rw [kInv, nats_ints]; rfl⟩

noncomputable def onIt : Nat → Nat → Nat
  | 0, c => c
  | n + 1, c => genIt 8 (onIt n c)
theorem on_turn {c k : Int} {x : Nat} {pre : List Int} (h : c = ((onIt pre.length x : Nat) : Int)) : ((genIt 8 c.toNat : Nat) : Int) = ((onIt (pre ++ [k]).length x : Nat) : Int) := by
  subst h
  rw [Int.toNat_natCast]
  simp [onIt]
theorem rangeKs_len0 (n : Nat) : (rangeKs 0 (((n : Nat) : Int) - 0).toNat).length = n := by rw [rangeKs_length]; omega

theorem on_ctr (w : World) (mean : ExcName → Option Value) (mg mb : Str → Option Value) (x n : Int) (hx : 0 ≤ x) (hn : 0 ≤ n ∧ n ≤ 100000) (tk tn : Tok) : Ctr w mean mg mb 4 40 123 [.int x tk, .int n tn] [] (fun v => ∃ t, v = .int (onIt n.toNat x.toNat : Nat) t) := by
  k_with_none
  k_with "steps" => repeat' ((fail_if_success (with_reducible show wpAny _ _ (pyIter _) _ _ _)); first | (k_unfold; (try dsimp only)) | walk1 | (dsimp only; walk1) | fail "no step")
  k_with "exec For" => (k_here; (rename Fr _ _ _ _ => lF'); (with_unfolding_all refine' For_invVF lF' ?hole1k1 ?hole1k2 ?_; (case hole1k1 => exact rfl); (case hole1k2 => exact rfl); k_whole))
  k_with "exec For Name Call cons nil" => (k_here; (rename Fr _ _ _ _ => lF'); (with_unfolding_all refine' For_invVF lF' ?hole2k1 ?hole2k2 ?_; (case hole2k1 => exact rfl); (case hole2k2 => exact rfl); k_whole))
  k_with "exec For Name Name cons nil" => (k_here; (rename Fr _ _ _ _ => lF'); (with_unfolding_all refine' For_invVF lF' ?hole3k1 ?hole3k2 ?_; (case hole3k1 => exact rfl); (case hole3k2 => exact rfl); k_whole))
  k_with "call type:type" => (k_here; (with_reducible show wpAny _ _ (call _ [Value.bytes _ _]) _ _ _); refine call_type_of (Tx := "bytes") rfl (by decide +kernel) ?_)
  k_with "kba_in" => first | assumption | (refine in_snoc ?_ ?_; (focus (first | k_extra "kba_in" | kba_in)); (first | exact byte_in _ | decide | omega))
  k_with "kba_ints" => first | assumption | (refine ints_snoc ?_; (first | k_extra "kba_ints" | kba_listInts))
  k_with "call type:bytes" => (k_here; (with_reducible show wpAny _ _ (call (Value.type "bytes") [Value.ref _]) _ _ _); (rename News _ _ _ _ => nE'); (simp only [List.push_toArray] at nE'); k_dflt (refine' KBa.make_K ?hole7kbaF nE' ?hole7kbah ?hole7kbal ?hole7kbai ?hole7kbar ?hole7kban ?_; (case hole7kbaF => k_asm); (case hole7kbah => rfl); (case hole7kbal => exact News.isList nE' (by k_mem)); (case hole7kbai => first | k_extra "kba_ints" | kba_listInts); (case hole7kbar => first | k_extra "kba_in" | kba_in); (case hole7kban => kba_size)); intro _ _ _ F' N' kbaIn)
  k_with "binaryOp FloorDiv int int" => (k_here; first | (with_reducible refine floordiv_int (powN_ne (b := 256) (by decide) _) ?_ (Or.inl (pow256_py ?hole8kbp)); (case hole8kbp => omega)) | (with_reducible refine floordiv_int (powN_ne (b := 64) (by decide) _) ?_ (Or.inl (pow64_py ?hole8kbp)); (case hole8kbp => omega)))
  k_with "call builtin:len" => (k_here; (with_reducible show wpAny _ _ (call (Value.builtin "len") [Value.bytes _ _]) _ _ _); refine len_B ?hole9kl ?_; (case hole9kl => first | exact Nat.le_trans (Small.le (by assumption)) (by decide) | omega))
  k_with "call ref" => (k_here; (k_dflt (refine' Ctr.use (gen_ctr _ _ _ _ _ (by first | omega | exact bitXor_nonneg (by omega) (by omega)) _) ?hole10k1 ?hole10k2 ?hole10k3 ?hole10k4 ?hole10k5 ?hole10kK ?hole10kd ?hole10ku ?_; (case hole10k1 => k_asm); (case hole10k2 => k_asm); (case hole10k3 => k_asm); (case hole10k4 => k_asm); (case hole10k5 => k_asm); (case hole10kK => first | exact rfl | assumption); (case hole10kd => first | exact Nat.le_of_ble_eq_true rfl | exact room1 (by assumption) rfl | exact room2 (by assumption) rfl | ktr_room); (case hole10ku => first | exact Nat.le_of_ble_eq_true rfl | exact room1 (by assumption) rfl | exact room2 (by assumption) rfl | ktr_units); k_whole); intro _ _ _ hv' _ _; (first | (obtain ⟨_, hv'⟩ := hv'; subst hv') | subst hv'); (try k_sweep)))
  obtain ⟨x, rfl⟩ : ∃ k : Nat, x = (k : Int) := ⟨x.toNat, by omega⟩
  obtain ⟨n, rfl⟩ : ∃ k : Nat, n = (k : Int) := ⟨n.toNat, by omega⟩
  rw [Int.toNat_natCast, Int.toNat_natCast]
  k_dflt (refine' ctr_of (binds := [(Str.ofString "crc", .int x tk), (Str.ofString "count", .int n tn)]) ?k6 ?k7 ?k9 ?kB ?_ ?c2 ?c3 ?c4 ?c5; (case k6 => k_is); (case k7 => k_is); (case k9 => intro s _; exact BindsTo.of_eq rfl); (case kB => exact locs rfl); (case c5 => decide); (case c2 => exact rfl); (case c3 => exact rfl); (case c4 => exact rfl); k_whole)
  intro dp un gd cn cs a ccd cl outer base L s g L' h₁ Q F' N' B' X' T' hkc hD hU ret
  k_extra "steps"
  (k_with "state" => first | exact rfl | exact on_turn (by assumption))
  k_state (fun pre c => c = ((onIt pre.length x : Nat) : Int)) "crc"
  · k_extra "steps"
  · k_extra "steps"
    exact ret _ _ _ _ (by assumption) ⟨_, by rw [kInv, rangeKs_len0]⟩

noncomputable def backStep (c : Nat) : Nat := if 2147483648 ≤ c then (c ^^^ 3988292384) * 2 + 1 else c * 2
noncomputable def backIt : Nat → Nat → Nat
  | 0, c => c
  | n + 1, c => backStep (backIt n c)
theorem back_lt {c : Nat} (h : c < 4294967296) : backStep c < 4294967296 := by
  unfold backStep
  split
  · have h1 : (c ^^^ 3988292384) / 2 ^ 31 = c / 2 ^ 31 ^^^ 3988292384 / 2 ^ 31 := Nat.xor_div_two_pow
    have h2 : c / 2 ^ 31 = 1 := by omega
    rw [h2] at h1
    have h3 : (1 ^^^ 3988292384 / 2 ^ 31 : Nat) = 0 := by decide
    rw [h3] at h1
    omega
  · omega
theorem backIt_lt {c : Nat} (h : c < 4294967296) : ∀ n, backIt n c < 4294967296
  | 0 => h
  | n + 1 => back_lt (backIt_lt h n)
theorem back_hi {c k : Int} {x : Nat} {pre : List Int} (h : c = ((backIt pre.length x : Nat) : Int)) (hc : 2 ^ Int.toNat 31 ≤ c) :
    Builtin.bitXor c 3988292384 * 2 + 1 = ((backIt (pre ++ [k]).length x : Nat) : Int) := by
  subst h
  have e : (pre ++ [k]).length = pre.length + 1 := by simp
  have hc' : (2147483648 : Int) ≤ ((backIt pre.length x : Nat) : Int) := hc
  rw [e, backIt, backStep, if_pos (by omega)]
  have := bitXor_nat (backIt pre.length x) 3988292384
  have e2 : Builtin.bitXor ((backIt pre.length x : Nat) : Int) 3988292384 = _ := this
  rw [e2]; omega
theorem back_lo {c k : Int} {x : Nat} {pre : List Int} (h : c = ((backIt pre.length x : Nat) : Int)) (hc : ¬ 2 ^ Int.toNat 31 ≤ c) :
    c * 2 = ((backIt (pre ++ [k]).length x : Nat) : Int) := by
  subst h
  have e : (pre ++ [k]).length = pre.length + 1 := by simp
  have hc' : ¬ (2147483648 : Int) ≤ ((backIt pre.length x : Nat) : Int) := hc
  rw [e, backIt, backStep, if_neg (by omega)]; omega

theorem back_ctr (w : World) (mean : ExcName → Option Value) (mg mb : Str → Option Value) (x n : Int) (hx : 0 ≤ x ∧ x < 4294967296) (hn : 0 ≤ n ∧ n ≤ 100000) (tk tn : Tok) : Ctr w mean mg mb 2 20 130 [.int x tk, .int n tn] [] (fun v => ∃ t, v = .int (backIt (8 * n.toNat) x.toNat : Nat) t) := by
  k_with_none
  k_with "steps" => repeat' ((fail_if_success (with_reducible show wpAny _ _ (pyIter _) _ _ _)); first | (k_unfold; (try dsimp only)) | walk1 | (dsimp only; walk1) | fail "no step")
  k_with "exec For" => (k_here; (rename Fr _ _ _ _ => lF'); (with_unfolding_all refine' For_invVF lF' ?hole1k1 ?hole1k2 ?_; (case hole1k1 => exact rfl); (case hole1k2 => exact rfl); k_whole))
  k_with "exec For Name Call cons nil" => (k_here; (rename Fr _ _ _ _ => lF'); (with_unfolding_all refine' For_invVF lF' ?hole2k1 ?hole2k2 ?_; (case hole2k1 => exact rfl); (case hole2k2 => exact rfl); k_whole))
  k_with "exec For Name Name cons nil" => (k_here; (rename Fr _ _ _ _ => lF'); (with_unfolding_all refine' For_invVF lF' ?hole3k1 ?hole3k2 ?_; (case hole3k1 => exact rfl); (case hole3k2 => exact rfl); k_whole))
  k_with "call type:type" => (k_here; (with_reducible show wpAny _ _ (call _ [Value.bytes _ _]) _ _ _); refine call_type_of (Tx := "bytes") rfl (by decide +kernel) ?_)
  k_with "kba_in" => first | assumption | (refine in_snoc ?_ ?_; (focus (first | k_extra "kba_in" | kba_in)); (first | exact byte_in _ | decide | omega))
  k_with "kba_ints" => first | assumption | (refine ints_snoc ?_; (first | k_extra "kba_ints" | kba_listInts))
  k_with "call type:bytes" => (k_here; (with_reducible show wpAny _ _ (call (Value.type "bytes") [Value.ref _]) _ _ _); (rename News _ _ _ _ => nE'); (simp only [List.push_toArray] at nE'); k_dflt (refine' KBa.make_K ?hole7kbaF nE' ?hole7kbah ?hole7kbal ?hole7kbai ?hole7kbar ?hole7kban ?_; (case hole7kbaF => k_asm); (case hole7kbah => rfl); (case hole7kbal => exact News.isList nE' (by k_mem)); (case hole7kbai => first | k_extra "kba_ints" | kba_listInts); (case hole7kbar => first | k_extra "kba_in" | kba_in); (case hole7kban => kba_size)); intro _ _ _ F' N' kbaIn)
  k_with "binaryOp FloorDiv int int" => (k_here; first | (with_reducible refine floordiv_int (powN_ne (b := 256) (by decide) _) ?_ (Or.inl (pow256_py ?hole8kbp)); (case hole8kbp => omega)) | (with_reducible refine floordiv_int (powN_ne (b := 64) (by decide) _) ?_ (Or.inl (pow64_py ?hole8kbp)); (case hole8kbp => omega)))
  k_with "call builtin:len" => (k_here; (with_reducible show wpAny _ _ (call (Value.builtin "len") [Value.bytes _ _]) _ _ _); refine len_B ?hole9kl ?_; (case hole9kl => first | exact Nat.le_trans (Small.le (by assumption)) (by decide) | omega))
  k_with "call ref" => (k_here; (k_dflt (refine' Ctr.use (gen_ctr _ _ _ _ _ (by first | omega | exact bitXor_nonneg (by omega) (by omega)) _) ?hole10k1 ?hole10k2 ?hole10k3 ?hole10k4 ?hole10k5 ?hole10kK ?hole10kd ?hole10ku ?_; (case hole10k1 => k_asm); (case hole10k2 => k_asm); (case hole10k3 => k_asm); (case hole10k4 => k_asm); (case hole10k5 => k_asm); (case hole10kK => first | exact rfl | assumption); (case hole10kd => first | exact Nat.le_of_ble_eq_true rfl | exact room1 (by assumption) rfl | exact room2 (by assumption) rfl | ktr_room); (case hole10ku => first | exact Nat.le_of_ble_eq_true rfl | exact room1 (by assumption) rfl | exact room2 (by assumption) rfl | ktr_units); k_whole); intro _ _ _ hv' _ _; (first | (obtain ⟨_, hv'⟩ := hv'; subst hv') | subst hv'); (try k_sweep)))
  obtain ⟨x, rfl⟩ : ∃ k : Nat, x = (k : Int) := ⟨x.toNat, by omega⟩
  obtain ⟨n, rfl⟩ : ∃ k : Nat, n = (k : Int) := ⟨n.toNat, by omega⟩
  rw [Int.toNat_natCast, Int.toNat_natCast]
  have hx' : x < 4294967296 := by omega
  k_dflt (refine' ctr_of (binds := [(Str.ofString "crc", .int x tk), (Str.ofString "count", .int n tn)]) ?k6 ?k7 ?k9 ?kB ?_ ?c2 ?c3 ?c4 ?c5; (case k6 => k_is); (case k7 => k_is); (case k9 => intro s _; exact BindsTo.of_eq rfl); (case kB => exact locs rfl); (case c5 => decide); (case c2 => exact rfl); (case c3 => exact rfl); (case c4 => exact rfl); k_whole)
  intro dp un gd cn cs a ccd cl outer base L s g L' h₁ Q F' N' B' X' T' hkc hD hU ret
  k_extra "steps"
  (k_with "state" => first | exact rfl | exact back_hi (by assumption) (by assumption) | exact back_lo (by assumption) (by assumption))
  k_state (fun pre c => c = ((backIt pre.length x : Nat) : Int)) "crc"
  · have hlt := backIt_lt hx' kPre.length
    rw [← Int.ofNat_lt, ← kInv] at hlt
    k_extra "steps"
  · k_extra "steps"
    exact ret _ _ _ _ (by assumption) ⟨_, by rw [kInv, rangeKs_length, show ((8 * (n : Int) - 0).toNat) = 8 * n by omega]⟩
end Mine
end

section
open PySem PySem.W PySem.Calls PyProof.Rows
set_option Elab.async false
set_option maxRecDepth 100000
set_option maxHeartbeats 8000000
namespace Mine

example : (fun (_ : OpenLaw) (_ : Params → Frag) => True) PySem.Challenge.rw_qh0114_01 hd.heap_39 := by
  k_fill; trivial

theorem buf_ctr (w : World) (mean : ExcName → Option Value) (mg mb : Str → Option Value) (b : Array UInt8) (tk : Tok) : Ctr w mean mg mb 2 20 56 [.bytes b tk] [] (fun v => v = .bytes b tk) := by
  k_with_none
  k_with "steps" => repeat' ((fail_if_success (with_reducible show wpAny _ _ (pyIter _) _ _ _)); first | (k_unfold; (try dsimp only)) | walk1 | (dsimp only; walk1) | fail "no step")
  k_with "exec For" => (k_here; (rename Fr _ _ _ _ => lF'); (with_unfolding_all refine' For_invVF lF' ?hole1k1 ?hole1k2 ?_; (case hole1k1 => exact rfl); (case hole1k2 => exact rfl); k_whole))
  k_with "exec For Name Call cons nil" => (k_here; (rename Fr _ _ _ _ => lF'); (with_unfolding_all refine' For_invVF lF' ?hole2k1 ?hole2k2 ?_; (case hole2k1 => exact rfl); (case hole2k2 => exact rfl); k_whole))
  k_with "exec For Name Name cons nil" => (k_here; (rename Fr _ _ _ _ => lF'); (with_unfolding_all refine' For_invVF lF' ?hole3k1 ?hole3k2 ?_; (case hole3k1 => exact rfl); (case hole3k2 => exact rfl); k_whole))
  k_with "call type:type" => (k_here; (with_reducible show wpAny _ _ (call _ [Value.bytes _ _]) _ _ _); refine call_type_of (Tx := "bytes") rfl (by decide +kernel) ?_)
  k_with "kba_in" => first | assumption | (refine in_snoc ?_ ?_; (focus (first | k_extra "kba_in" | kba_in)); (first | exact byte_in _ | decide | omega))
  k_with "kba_ints" => first | assumption | (refine ints_snoc ?_; (first | k_extra "kba_ints" | kba_listInts))
  k_with "call type:bytes" => (k_here; (with_reducible show wpAny _ _ (call (Value.type "bytes") [Value.ref _]) _ _ _); (rename News _ _ _ _ => nE'); (simp only [List.push_toArray] at nE'); k_dflt (refine' KBa.make_K ?hole7kbaF nE' ?hole7kbah ?hole7kbal ?hole7kbai ?hole7kbar ?hole7kban ?_; (case hole7kbaF => k_asm); (case hole7kbah => rfl); (case hole7kbal => exact News.isList nE' (by k_mem)); (case hole7kbai => first | k_extra "kba_ints" | kba_listInts); (case hole7kbar => first | k_extra "kba_in" | kba_in); (case hole7kban => kba_size)); intro _ _ _ F' N' kbaIn)
  k_with "binaryOp FloorDiv int int" => (k_here; first | (with_reducible refine floordiv_int (powN_ne (b := 256) (by decide) _) ?_ (Or.inl (pow256_py ?hole8kbp)); (case hole8kbp => omega)) | (with_reducible refine floordiv_int (powN_ne (b := 64) (by decide) _) ?_ (Or.inl (pow64_py ?hole8kbp)); (case hole8kbp => omega)))
  k_with "call builtin:len" => (k_here; (with_reducible show wpAny _ _ (call (Value.builtin "len") [Value.bytes _ _]) _ _ _); refine len_B ?hole9kl ?_; (case hole9kl => first | exact Nat.le_trans (Small.le (by assumption)) (by decide) | omega))
  k_dflt (refine' ctr_of (binds := [(Str.ofString "data", .bytes b tk)]) ?k6 ?k7 ?k9 ?kB ?_ ?c2 ?c3 ?c4 ?c5; (case k6 => k_is); (case k7 => k_is); (case k9 => intro s _; exact BindsTo.of_eq rfl); (case kB => exact locs rfl); (case c5 => decide); (case c2 => exact rfl); (case c3 => exact rfl); (case c4 => exact rfl); k_whole)
  intro dp un gd cn cs a ccd cl outer base L s g L' h₁ Q F' N' B' X' T' hkc hD hU ret
  k_extra "steps"
  exact ret _ _ _ _ (by assumption) rfl

theorem truth_ctr (w : World) (mean : ExcName → Option Value) (mg mb : Str → Option Value) : Ctr w mean mg mb 2 20 63 [.bool false] [] (fun v => v = .bool false) := by
  k_with_none
  k_with "steps" => repeat' ((fail_if_success (with_reducible show wpAny _ _ (pyIter _) _ _ _)); first | (k_unfold; (try dsimp only)) | walk1 | (dsimp only; walk1) | fail "no step")
  k_with "exec For" => (k_here; (rename Fr _ _ _ _ => lF'); (with_unfolding_all refine' For_invVF lF' ?hole1k1 ?hole1k2 ?_; (case hole1k1 => exact rfl); (case hole1k2 => exact rfl); k_whole))
  k_with "exec For Name Call cons nil" => (k_here; (rename Fr _ _ _ _ => lF'); (with_unfolding_all refine' For_invVF lF' ?hole2k1 ?hole2k2 ?_; (case hole2k1 => exact rfl); (case hole2k2 => exact rfl); k_whole))
  k_with "exec For Name Name cons nil" => (k_here; (rename Fr _ _ _ _ => lF'); (with_unfolding_all refine' For_invVF lF' ?hole3k1 ?hole3k2 ?_; (case hole3k1 => exact rfl); (case hole3k2 => exact rfl); k_whole))
  k_with "call type:type" => (k_here; (with_reducible show wpAny _ _ (call _ [Value.bytes _ _]) _ _ _); refine call_type_of (Tx := "bytes") rfl (by decide +kernel) ?_)
  k_with "kba_in" => first | assumption | (refine in_snoc ?_ ?_; (focus (first | k_extra "kba_in" | kba_in)); (first | exact byte_in _ | decide | omega))
  k_with "kba_ints" => first | assumption | (refine ints_snoc ?_; (first | k_extra "kba_ints" | kba_listInts))
  k_with "call type:bytes" => (k_here; (with_reducible show wpAny _ _ (call (Value.type "bytes") [Value.ref _]) _ _ _); (rename News _ _ _ _ => nE'); (simp only [List.push_toArray] at nE'); k_dflt (refine' KBa.make_K ?hole7kbaF nE' ?hole7kbah ?hole7kbal ?hole7kbai ?hole7kbar ?hole7kban ?_; (case hole7kbaF => k_asm); (case hole7kbah => rfl); (case hole7kbal => exact News.isList nE' (by k_mem)); (case hole7kbai => first | k_extra "kba_ints" | kba_listInts); (case hole7kbar => first | k_extra "kba_in" | kba_in); (case hole7kban => kba_size)); intro _ _ _ F' N' kbaIn)
  k_with "binaryOp FloorDiv int int" => (k_here; first | (with_reducible refine floordiv_int (powN_ne (b := 256) (by decide) _) ?_ (Or.inl (pow256_py ?hole8kbp)); (case hole8kbp => omega)) | (with_reducible refine floordiv_int (powN_ne (b := 64) (by decide) _) ?_ (Or.inl (pow64_py ?hole8kbp)); (case hole8kbp => omega)))
  k_with "call builtin:len" => (k_here; (with_reducible show wpAny _ _ (call (Value.builtin "len") [Value.bytes _ _]) _ _ _); refine len_B ?hole9kl ?_; (case hole9kl => first | exact Nat.le_trans (Small.le (by assumption)) (by decide) | omega))
  k_dflt (refine' ctr_of (binds := [(Str.ofString "x", .bool false)]) ?k6 ?k7 ?k9 ?kB ?_ ?c2 ?c3 ?c4 ?c5; (case k6 => k_is); (case k7 => k_is); (case k9 => intro s _; exact BindsTo.of_eq rfl); (case kB => exact locs rfl); (case c5 => decide); (case c2 => exact rfl); (case c3 => exact rfl); (case c4 => exact rfl); k_whole)
  intro dp un gd cn cs a ccd cl outer base L s g L' h₁ Q F' N' B' X' T' hkc hD hU ret
  k_extra "steps"
  exact ret _ _ _ _ (by assumption) rfl

end Mine
end

section
open PySem PySem.W PySem.Calls PyProof.Rows
set_option Elab.async false
set_option maxRecDepth 100000
set_option maxHeartbeats 8000000
namespace Mine

example : (fun (_ : OpenLaw) (_ : Params → Frag) => True) PySem.Challenge.rw_qh0114_01 hd.heap_39 := by
  k_fill; trivial


noncomputable def tab : List UInt8 := [65, 66, 67, 68, 69, 70, 71, 72, 73, 74, 75, 76, 77, 78, 79, 80, 81, 82, 83, 84, 85, 86, 87, 88, 89, 90, 97, 98, 99,
    100, 101, 102, 103, 104, 105, 106, 107, 108, 109, 110, 111, 112, 113, 114, 115, 116, 117, 118, 119, 120, 121, 122,
    48, 49, 50, 51, 52, 53, 54, 55, 56, 57, 43, 47]
noncomputable def sg (i : Nat) : Nat := (tab.getD i 0).toNat
noncomputable def b2aStep (σ : Nat × Nat × List Nat) (o : Nat) : Nat × Nat × List Nat :=
  let lc := (σ.1 * 256 + o) % 65536
  if σ.2.1 = 0 then (lc, 2, σ.2.2 ++ [sg (lc / 4 % 64)])
  else if σ.2.1 = 2 then (lc, 4, σ.2.2 ++ [sg (lc / 16 % 64)])
  else (lc, 0, σ.2.2 ++ [sg (lc / 64 % 64), sg (lc % 64)])
noncomputable def b2aSt (row : List Nat) : Nat × Nat × List Nat := row.foldl b2aStep (0, 0, [])

noncomputable def B2aInv (pre : List Int) (lc lb : Int) (out : List Int) : Prop :=
  lc = (((b2aSt (nats pre)).1 : Nat) : Int) ∧ lb = (((b2aSt (nats pre)).2.1 : Nat) : Int) ∧ out = (b2aSt (nats pre)).2.2.map (fun (x : Nat) => (x : Int)) ∧ out.length ≤ 2 * pre.length

theorem b2a_start : B2aInv [] 0 0 [] := ⟨rfl, rfl, rfl, Nat.le_refl _⟩
theorem b2aSt_snoc (row : List Nat) (o : Nat) : b2aSt (row ++ [o]) = b2aStep (b2aSt row) o := by simp [b2aSt, List.foldl_append]
theorem b2a_ok : ∀ (row : List Nat) (σ : Nat × Nat × List Nat), σ.1 < 65536 ∧ (σ.2.1 = 0 ∨ σ.2.1 = 2 ∨ σ.2.1 = 4) → (row.foldl b2aStep σ).1 < 65536 ∧ ((row.foldl b2aStep σ).2.1 = 0 ∨ (row.foldl b2aStep σ).2.1 = 2 ∨ (row.foldl b2aStep σ).2.1 = 4)
  | [], _, h => h
  | o :: r, σ, h => by
    refine b2a_ok r _ ?_
    unfold b2aStep
    dsimp only
    split
    · exact ⟨Nat.mod_lt _ (by decide), .inr (.inl rfl)⟩
    · split
      · exact ⟨Nat.mod_lt _ (by decide), .inr (.inr rfl)⟩
      · exact ⟨Nat.mod_lt _ (by decide), .inl rfl⟩
theorem b2a_lb {pre : List Int} {lc lb : Int} {out : List Int} (h : B2aInv pre lc lb out) : lb = 0 ∨ lb = 2 ∨ lb = 4 := by
  have := (b2a_ok (nats pre) (0, 0, []) ⟨by decide, .inl rfl⟩).2
  have h2 := h.2.1
  unfold b2aSt at h2
  omega
theorem b2a_lc {pre : List Int} {lc lb : Int} {out : List Int} (h : B2aInv pre lc lb out) : 0 ≤ lc ∧ lc < 65536 := by
  have := (b2a_ok (nats pre) (0, 0, []) ⟨by decide, .inl rfl⟩).1
  have h2 := h.1
  unfold b2aSt at h2
  omega

theorem idx63 (x : Int) : 0 ≤ Builtin.bitAnd x 63 ∧ Builtin.bitAnd x 63 < 64 := by
  have := bitAnd_range x (y := 63) (by decide)
  omega
theorem idx3 (x : Int) : 0 ≤ Builtin.bitAnd x 3 * 2 ^ Int.toNat 4 ∧ Builtin.bitAnd x 3 * 2 ^ Int.toNat 4 < 64 := by
  have := bitAnd_range x (y := 3) (by decide)
  have e : (2 : Int) ^ Int.toNat 4 = 16 := by decide
  rw [e]; omega
theorem idx15 (x : Int) : 0 ≤ Builtin.bitAnd x 15 * 2 ^ Int.toNat 2 ∧ Builtin.bitAnd x 15 * 2 ^ Int.toNat 2 < 64 := by
  have := bitAnd_range x (y := 15) (by decide)
  have e : (2 : Int) ^ Int.toNat 2 = 4 := by decide
  rw [e]; omega

theorem b2a_val (a o : Nat) (ho : o < 256) : Builtin.bitAnd (Builtin.bitOr ((a : Int) * 2 ^ Int.toNat 8) (o : Int)) 65535 = (((a * 256 + o) % 65536 : Nat) : Int) := by
  have e : (a : Int) * 2 ^ Int.toNat 8 = ((a * 256 : Nat) : Int) := by
    have : (2 : Int) ^ Int.toNat 8 = 256 := by decide
    rw [this]; omega
  have e2 : a * 256 ||| o = a * 256 + o := by
    have := Nat.two_pow_add_eq_or_of_lt (i := 8) (b := o) ho a
    rw [Nat.mul_comm a 256]
    exact this.symm
  rw [e, bitOr_nat, e2, bitAnd_m16]
  omega
theorem b2a_idx (x k : Nat) : (Builtin.bitAnd (Int.fdiv (x : Int) (2 ^ k)) 63).toNat = x / 2 ^ k % 64 := by
  have e : (2 : Int) ^ k = ((2 ^ k : Nat) : Int) := by simp
  rw [e, fdiv_nat, bitAnd_m6]
  omega
theorem nats_snoc (pre : List Int) (n : Nat) : nats (pre ++ [(n : Int)]) = nats pre ++ [n] := by simp [nats]
theorem b2a_t0 {pre : List Int} {n lc : Int} {out : List Int} (h : B2aInv pre lc 0 out) (h0 : 0 ≤ n) (h1 : n < 256) :
    B2aInv (pre ++ [n]) (Builtin.bitAnd (Builtin.bitOr (lc * 2 ^ Int.toNat 8) n) 65535) (0 + 8 - 6)
      (out ++ [(((tab.getD (Builtin.bitAnd (Int.fdiv (Builtin.bitAnd (Builtin.bitOr (lc * 2 ^ Int.toNat 8) n) 65535) (2 ^ (0 + 8 - 6 : Int).toNat)) 63).toNat 0).toNat : Nat) : Int)]) := by
  obtain ⟨n, rfl⟩ : ∃ k : Nat, n = (k : Int) := ⟨n.toNat, by omega⟩
  obtain ⟨e1, e2, e3, e4⟩ := h
  subst e1
  rw [b2a_val _ _ (by omega), b2a_idx]
  have hz : (b2aSt (nats pre)).2.1 = 0 := by omega
  unfold B2aInv
  rw [nats_snoc, b2aSt_snoc, b2aStep]
  simp only [hz, if_true]
  refine ⟨by first | rfl | trivial, rfl, ?_, ?_⟩
  · rw [e3, List.map_append]; rfl
  · simp only [List.length_append, List.length_cons, List.length_nil]; omega
theorem b2a_t2 {pre : List Int} {n lc : Int} {out : List Int} (h : B2aInv pre lc 2 out) (h0 : 0 ≤ n) (h1 : n < 256) :
    B2aInv (pre ++ [n]) (Builtin.bitAnd (Builtin.bitOr (lc * 2 ^ Int.toNat 8) n) 65535) (2 + 8 - 6)
      (out ++ [(((tab.getD (Builtin.bitAnd (Int.fdiv (Builtin.bitAnd (Builtin.bitOr (lc * 2 ^ Int.toNat 8) n) 65535) (2 ^ (2 + 8 - 6 : Int).toNat)) 63).toNat 0).toNat : Nat) : Int)]) := by
  obtain ⟨n, rfl⟩ : ∃ k : Nat, n = (k : Int) := ⟨n.toNat, by omega⟩
  obtain ⟨e1, e2, e3, e4⟩ := h
  subst e1
  rw [b2a_val _ _ (by omega), b2a_idx]
  have hz : (b2aSt (nats pre)).2.1 = 2 := by omega
  unfold B2aInv
  rw [nats_snoc, b2aSt_snoc, b2aStep]
  simp only [hz, if_true, if_neg (show ¬ (2 : Nat) = 0 by decide)]
  refine ⟨by first | rfl | trivial, rfl, ?_, ?_⟩
  · rw [e3, List.map_append]; rfl
  · simp only [List.length_append, List.length_cons, List.length_nil]; omega
theorem b2a_t4 {pre : List Int} {n lc : Int} {out : List Int} (h : B2aInv pre lc 4 out) (h0 : 0 ≤ n) (h1 : n < 256) :
    B2aInv (pre ++ [n]) (Builtin.bitAnd (Builtin.bitOr (lc * 2 ^ Int.toNat 8) n) 65535) (4 + 8 - 6 - 6)
      (out ++ [(((tab.getD (Builtin.bitAnd (Int.fdiv (Builtin.bitAnd (Builtin.bitOr (lc * 2 ^ Int.toNat 8) n) 65535) (2 ^ (4 + 8 - 6 : Int).toNat)) 63).toNat 0).toNat : Nat) : Int)] ++
        [(((tab.getD (Builtin.bitAnd (Int.fdiv (Builtin.bitAnd (Builtin.bitOr (lc * 2 ^ Int.toNat 8) n) 65535) (2 ^ (4 + 8 - 6 - 6 : Int).toNat)) 63).toNat 0).toNat : Nat) : Int)]) := by
  obtain ⟨n, rfl⟩ : ∃ k : Nat, n = (k : Int) := ⟨n.toNat, by omega⟩
  obtain ⟨e1, e2, e3, e4⟩ := h
  subst e1
  rw [b2a_val _ _ (by omega), b2a_idx, b2a_idx]
  have hz : (b2aSt (nats pre)).2.1 = 4 := by omega
  unfold B2aInv
  rw [nats_snoc, b2aSt_snoc, b2aStep]
  simp only [hz, if_neg (show ¬ (4 : Nat) = 0 by decide), if_neg (show ¬ (4 : Nat) = 2 by decide)]
  refine ⟨by first | rfl | trivial, rfl, ?_, ?_⟩
  · rw [e3, List.map_append, List.append_assoc]
    show _ = _ ++ [((sg (((b2aSt (nats pre)).1 * 256 + n) % 65536 / 64 % 64) : Nat) : Int), ((sg (((b2aSt (nats pre)).1 * 256 + n) % 65536 % 64) : Nat) : Int)]
    have q : ((4 + 8 - 6 - 6 : Int).toNat) = 0 := by decide
    rw [q, Nat.pow_zero, Nat.div_one]
    rfl
  · simp only [List.length_append, List.length_cons, List.length_nil]; omega

noncomputable def b2aFin (σ : Nat × Nat × List Nat) : List Nat :=
  if σ.2.1 = 2 then σ.2.2 ++ [sg (σ.1 % 4 * 16), 61, 61] else if σ.2.1 = 4 then σ.2.2 ++ [sg (σ.1 % 16 * 4), 61] else σ.2.2
noncomputable def arr (l : List Nat) : Array UInt8 := byteArr (l.map fun (x : Nat) => (x : Int))
theorem sg_lt (i : Nat) : sg i < 256 := UInt8.toNat_lt _
theorem b2a_outlt : ∀ (row : List Nat) (σ : Nat × Nat × List Nat), (∀ x ∈ σ.2.2, x < 256) → ∀ x ∈ (row.foldl b2aStep σ).2.2, x < 256
  | [], _, h => h
  | o :: r, σ, h => by
    refine b2a_outlt r _ ?_
    unfold b2aStep
    dsimp only
    split
    · intro x hx
      rcases List.mem_append.mp hx with hx | hx
      · exact h x hx
      · rw [List.mem_singleton.mp hx]; exact sg_lt _
    · split
      · intro x hx
        rcases List.mem_append.mp hx with hx | hx
        · exact h x hx
        · rw [List.mem_singleton.mp hx]; exact sg_lt _
      · intro x hx
        rcases List.mem_append.mp hx with hx | hx
        · exact h x hx
        · rcases List.mem_cons.mp hx with rfl | hx
          · exact sg_lt _
          · rw [List.mem_singleton.mp hx]; exact sg_lt _
theorem b2a_in {pre : List Int} {lc lb : Int} {out : List Int} (h : B2aInv pre lc lb out) : KBa.In out := by
  intro n hn
  rw [h.2.2.1] at hn
  obtain ⟨x, hx, rfl⟩ := List.mem_map.mp hn
  have := b2a_outlt (nats pre) (0, 0, []) (fun _ h => nomatch h) x hx
  omega
theorem b2a_cap {pre : List Int} {lc lb : Int} {out : List Int} {n : Nat} (h : B2aInv pre lc lb out) (hl : pre.length < n) (hn : n ≤ 100000) : out.length ≤ 200000 := by
  have := h.2.2.2
  omega
theorem b2a_and {pre : List Int} {lc lb : Int} {out : List Int} (_h : B2aInv pre lc lb out) : (0 ≤ Builtin.bitAnd lc 3 ∧ Builtin.bitAnd lc 3 ≤ 3) ∧ (0 ≤ Builtin.bitAnd lc 15 ∧ Builtin.bitAnd lc 15 ≤ 15) :=
  ⟨bitAnd_range lc (by decide), bitAnd_range lc (by decide)⟩
theorem bex {a b : Array UInt8} {t : Tok} (e : a = b) : ∃ t', Value.bytes a t = Value.bytes b t' := ⟨t, by rw [e]⟩
theorem b2a_e0 {b : Array UInt8} {lc : Int} {out : List Int} (h : B2aInv (List.map (fun c => ((c.toNat : Nat) : Int)) b.toList) lc 0 out) : byteArr out = arr (b2aFin (b2aSt (oct b))) := by
  obtain ⟨e1, e2, e3, e4⟩ := h
  rw [nats_ints] at e1 e2 e3
  have hz : (b2aSt (oct b)).2.1 = 0 := by unfold oct; omega
  rw [b2aFin, if_neg (by omega), if_neg (by omega), arr, e3]
  rfl
theorem b2a_e2 {b : Array UInt8} {lc : Int} {out : List Int} (h : B2aInv (List.map (fun c => ((c.toNat : Nat) : Int)) b.toList) lc 2 out) :
    byteArr (out ++ [(((tab.getD (Builtin.bitAnd lc 3 * 2 ^ Int.toNat 4).toNat 0).toNat : Nat) : Int)] ++ [61] ++ [61]) = arr (b2aFin (b2aSt (oct b))) := by
  obtain ⟨e1, e2, e3, e4⟩ := h
  rw [nats_ints] at e1 e2 e3
  have hz : (b2aSt (oct b)).2.1 = 2 := by unfold oct; omega
  rw [b2aFin, if_pos hz, arr, e3]
  have q : (Builtin.bitAnd lc 3 * 2 ^ Int.toNat 4).toNat = (b2aSt (oct b)).1 % 4 * 16 := by
    rw [bitAnd_m2, e1]
    have : (2 : Int) ^ Int.toNat 4 = 16 := by decide
    rw [this]; unfold oct; omega
  rw [q, List.map_append, List.append_assoc, List.append_assoc]
  rfl
theorem b2a_e4 {b : Array UInt8} {lc : Int} {out : List Int} (h : B2aInv (List.map (fun c => ((c.toNat : Nat) : Int)) b.toList) lc 4 out) :
    byteArr (out ++ [(((tab.getD (Builtin.bitAnd lc 15 * 2 ^ Int.toNat 2).toNat 0).toNat : Nat) : Int)] ++ [61]) = arr (b2aFin (b2aSt (oct b))) := by
  obtain ⟨e1, e2, e3, e4⟩ := h
  rw [nats_ints] at e1 e2 e3
  have hz : (b2aSt (oct b)).2.1 = 4 := by unfold oct; omega
  rw [b2aFin, if_neg (by omega), if_pos hz, arr, e3]
  have q : (Builtin.bitAnd lc 15 * 2 ^ Int.toNat 2).toNat = (b2aSt (oct b)).1 % 16 * 4 := by
    rw [bitAnd_m4, e1]
    have : (2 : Int) ^ Int.toNat 2 = 4 := by decide
    rw [this]; unfold oct; omega
  rw [q, List.map_append, List.append_assoc]
  rfl

theorem b2a_ctr (w : World) (mean : ExcName → Option Value) (mg mb : Str → Option Value) (b : Array UInt8) (tk : Tok) (hb : Small b) : Ctr w mean mg mb 6 60 86 [.bytes b tk] [(Str.ofString "newline", .bool false)] (fun v => ∃ t, v = .bytes (arr (b2aFin (b2aSt (oct b)))) t) := by
  k_with_none
  k_with "steps" => repeat' ((fail_if_success (with_reducible show wpAny _ _ (pyIter _) _ _ _)); first | (k_unfold; (try dsimp only)) | walk1 | (dsimp only; walk1) | fail "no step")
  k_with "exec For" => (k_here; (rename Fr _ _ _ _ => lF'); (with_unfolding_all refine' For_invVF lF' ?hole1k1 ?hole1k2 ?_; (case hole1k1 => exact rfl); (case hole1k2 => exact rfl); k_whole))
  k_with "exec For Name Call cons nil" => (k_here; (rename Fr _ _ _ _ => lF'); (with_unfolding_all refine' For_invVF lF' ?hole2k1 ?hole2k2 ?_; (case hole2k1 => exact rfl); (case hole2k2 => exact rfl); k_whole))
  k_with "exec For Name Name cons nil" => (k_here; (rename Fr _ _ _ _ => lF'); (with_unfolding_all refine' For_invVF lF' ?hole3k1 ?hole3k2 ?_; (case hole3k1 => exact rfl); (case hole3k2 => exact rfl); k_whole))
  k_with "call type:type" => (k_here; (with_reducible show wpAny _ _ (call _ [Value.bytes _ _]) _ _ _); refine call_type_of (Tx := "bytes") rfl (by decide +kernel) ?_)
  k_with "kba_in" => first | assumption | (refine in_snoc ?_ ?_; (focus (first | k_extra "kba_in" | kba_in)); (first | exact byte_in _ | decide | omega))
  k_with "kba_ints" => first | assumption | (refine ints_snoc ?_; (first | k_extra "kba_ints" | kba_listInts))
  k_with "call type:bytes" => (k_here; (with_reducible show wpAny _ _ (call (Value.type "bytes") [Value.ref _]) _ _ _); (rename News _ _ _ _ => nE'); (simp only [List.push_toArray] at nE'); k_dflt (refine' KBa.make_K ?hole7kbaF nE' ?hole7kbah ?hole7kbal ?hole7kbai ?hole7kbar ?hole7kban ?_; (case hole7kbaF => k_asm); (case hole7kbah => rfl); (case hole7kbal => exact News.isList nE' (by k_mem)); (case hole7kbai => first | k_extra "kba_ints" | kba_listInts); (case hole7kbar => first | k_extra "kba_in" | kba_in); (case hole7kban => kba_size)); intro _ _ _ F' N' kbaIn)
  k_with "binaryOp FloorDiv int int" => (k_here; first | (with_reducible refine floordiv_int (powN_ne (b := 256) (by decide) _) ?_ (Or.inl (pow256_py ?hole8kbp)); (case hole8kbp => omega)) | (with_reducible refine floordiv_int (powN_ne (b := 64) (by decide) _) ?_ (Or.inl (pow64_py ?hole8kbp)); (case hole8kbp => omega)))
  k_with "call builtin:len" => (k_here; (with_reducible show wpAny _ _ (call (Value.builtin "len") [Value.bytes _ _]) _ _ _); refine len_B ?hole9kl ?_; (case hole9kl => first | exact Nat.le_trans (Small.le (by assumption)) (by decide) | omega))
  k_with "call ref" => (k_here; (k_dflt (refine' Ctr.use (buf_ctr _ _ _ _ _ _) ?hole10k1 ?hole10k2 ?hole10k3 ?hole10k4 ?hole10k5 ?hole10kK ?hole10kd ?hole10ku ?_; (case hole10k1 => k_asm); (case hole10k2 => k_asm); (case hole10k3 => k_asm); (case hole10k4 => k_asm); (case hole10k5 => k_asm); (case hole10kK => first | exact rfl | assumption); (case hole10kd => first | exact Nat.le_of_ble_eq_true rfl | exact room1 (by assumption) rfl | exact room2 (by assumption) rfl | ktr_room); (case hole10ku => first | exact Nat.le_of_ble_eq_true rfl | exact room1 (by assumption) rfl | exact room2 (by assumption) rfl | ktr_units); k_whole); intro _ _ _ hv' _ _; (first | (obtain ⟨_, hv'⟩ := hv'; subst hv') | subst hv'); (try k_sweep)))
  k_with "call ref" => (k_here; (k_dflt (refine' Ctr.use (truth_ctr _ _ _ _) ?hole11k1 ?hole11k2 ?hole11k3 ?hole11k4 ?hole11k5 ?hole11kK ?hole11kd ?hole11ku ?_; (case hole11k1 => k_asm); (case hole11k2 => k_asm); (case hole11k3 => k_asm); (case hole11k4 => k_asm); (case hole11k5 => k_asm); (case hole11kK => first | exact rfl | assumption); (case hole11kd => first | exact Nat.le_of_ble_eq_true rfl | exact room1 (by assumption) rfl | exact room2 (by assumption) rfl | ktr_room); (case hole11ku => first | exact Nat.le_of_ble_eq_true rfl | exact room1 (by assumption) rfl | exact room2 (by assumption) rfl | ktr_units); k_whole); intro _ _ _ hv' _ _; (first | (obtain ⟨_, hv'⟩ := hv'; subst hv') | subst hv'); (try k_sweep)))
  k_with "subscriptTail" => (k_here; (with_reducible show wpAny _ _ (subscriptTail _ _ (Value.bytes _ _) (Value.int _ _)) _ _ _); first | refine KBy.item_N (by decide) (idx63 _).1 (idx63 _).2 ?_ | refine KBy.item_N (by decide) (idx3 _).1 (idx3 _).2 ?_ | refine KBy.item_N (by decide) (idx15 _).1 (idx15 _).2 ?_)
  k_dflt (refine' ctr_of (binds := [(Str.ofString "data", .bytes b tk), (Str.ofString "newline", .bool false)]) ?k6 ?k7 ?k9 ?kB ?_ ?c2 ?c3 ?c4 ?c5; (case k6 => k_is); (case k7 => k_is); (case k9 => intro s _; exact BindsTo.of_eq rfl); (case kB => exact locs rfl); (case c5 => decide); (case c2 => exact rfl); (case c3 => exact rfl); (case c4 => exact rfl); k_whole)
  intro dp un gd cn cs a ccd cl outer base L s g L' h₁ Q F' N' B' X' T' hkc hD hU ret
  k_extra "steps"
  (k_with "state" => first | exact b2a_start | exact b2a_t0 (by assumption) (by assumption) (by assumption) | exact b2a_t2 (by assumption) (by assumption) (by assumption) | exact b2a_t4 (by assumption) (by assumption) (by assumption))
  have hnil : IntsAre [] [] := .nil
  k_state (fun pre lc lb out => B2aInv pre lc lb out) "leftchar" "leftbits" "out"
  · have hlc := b2a_lc kInv
    have hcap := b2a_cap (n := b.size) kInv (by assumption) hb.le
    rcases b2a_lb kInv with h | h | h
    all_goals (subst h; refine absQ fun Qo hQo => ?_; k_extra "steps"; refine hQo _ _ ?_; k_extra "steps")
  · have hlen := kInv.2.2.2
    have hsz : b.toList.length ≤ 100000 := by simpa using hb.le
    have hin := b2a_in kInv
    have hand := b2a_and kInv
    rcases b2a_lb kInv with h | h | h
    · subst h
      k_extra "steps"
      refine ret _ _ _ _ (by assumption) ?_
      exact bex (b2a_e0 kInv)
    · subst h
      k_extra "steps"
      refine ret _ _ _ _ (by assumption) ?_
      exact bex (b2a_e2 kInv)
    · subst h
      k_extra "steps"
      refine ret _ _ _ _ (by assumption) ?_
      exact bex (b2a_e4 kInv)

end Mine
end

section
open PySem PySem.W PySem.Calls PyProof.Rows
set_option Elab.async false
set_option maxRecDepth 100000
set_option maxHeartbeats 8000000
namespace Mine

example : (fun (_ : OpenLaw) (_ : Params → Frag) => True) PySem.Challenge.rw_qh0114_01 hd.heap_39 := by
  k_fill; trivial


theorem enc_ctr (w : World) (mean : ExcName → Option Value) (mg mb : Str → Option Value) (b : Array UInt8) (tk : Tok) (hb : Small b) : Ctr w mean mg mb 8 80 94 [.bytes b tk] [] (fun v => ∃ t, v = .bytes (arr (b2aFin (b2aSt (oct b)))) t) := by
  k_with_none
  k_with "steps" => repeat' ((fail_if_success (with_reducible show wpAny _ _ (pyIter _) _ _ _)); first | (k_unfold; (try dsimp only)) | walk1 | (dsimp only; walk1) | fail "no step")
  k_with "exec For" => (k_here; (rename Fr _ _ _ _ => lF'); (with_unfolding_all refine' For_invVF lF' ?hole1k1 ?hole1k2 ?_; (case hole1k1 => exact rfl); (case hole1k2 => exact rfl); k_whole))
  k_with "exec For Name Call cons nil" => (k_here; (rename Fr _ _ _ _ => lF'); (with_unfolding_all refine' For_invVF lF' ?hole2k1 ?hole2k2 ?_; (case hole2k1 => exact rfl); (case hole2k2 => exact rfl); k_whole))
  k_with "exec For Name Name cons nil" => (k_here; (rename Fr _ _ _ _ => lF'); (with_unfolding_all refine' For_invVF lF' ?hole3k1 ?hole3k2 ?_; (case hole3k1 => exact rfl); (case hole3k2 => exact rfl); k_whole))
  k_with "call type:type" => (k_here; (with_reducible show wpAny _ _ (call _ [Value.bytes _ _]) _ _ _); refine call_type_of (Tx := "bytes") rfl (by decide +kernel) ?_)
  k_with "kba_in" => first | assumption | (refine in_snoc ?_ ?_; (focus (first | k_extra "kba_in" | kba_in)); (first | exact byte_in _ | decide | omega))
  k_with "kba_ints" => first | assumption | (refine ints_snoc ?_; (first | k_extra "kba_ints" | kba_listInts))
  k_with "call type:bytes" => (k_here; (with_reducible show wpAny _ _ (call (Value.type "bytes") [Value.ref _]) _ _ _); (rename News _ _ _ _ => nE'); (simp only [List.push_toArray] at nE'); k_dflt (refine' KBa.make_K ?hole7kbaF nE' ?hole7kbah ?hole7kbal ?hole7kbai ?hole7kbar ?hole7kban ?_; (case hole7kbaF => k_asm); (case hole7kbah => rfl); (case hole7kbal => exact News.isList nE' (by k_mem)); (case hole7kbai => first | k_extra "kba_ints" | kba_listInts); (case hole7kbar => first | k_extra "kba_in" | kba_in); (case hole7kban => kba_size)); intro _ _ _ F' N' kbaIn)
  k_with "binaryOp FloorDiv int int" => (k_here; first | (with_reducible refine floordiv_int (powN_ne (b := 256) (by decide) _) ?_ (Or.inl (pow256_py ?hole8kbp)); (case hole8kbp => omega)) | (with_reducible refine floordiv_int (powN_ne (b := 64) (by decide) _) ?_ (Or.inl (pow64_py ?hole8kbp)); (case hole8kbp => omega)))
  k_with "call builtin:len" => (k_here; (with_reducible show wpAny _ _ (call (Value.builtin "len") [Value.bytes _ _]) _ _ _); refine len_B ?hole9kl ?_; (case hole9kl => first | exact Nat.le_trans (Small.le (by assumption)) (by decide) | omega))
  k_with "call ref" => (k_here; (k_dflt (refine' Ctr.use (b2a_ctr _ _ _ _ _ _ (by assumption)) ?hole10k1 ?hole10k2 ?hole10k3 ?hole10k4 ?hole10k5 ?hole10kK ?hole10kd ?hole10ku ?_; (case hole10k1 => k_asm); (case hole10k2 => k_asm); (case hole10k3 => k_asm); (case hole10k4 => k_asm); (case hole10k5 => k_asm); (case hole10kK => first | exact rfl | assumption); (case hole10kd => first | exact Nat.le_of_ble_eq_true rfl | exact room1 (by assumption) rfl | exact room2 (by assumption) rfl | ktr_room); (case hole10ku => first | exact Nat.le_of_ble_eq_true rfl | exact room1 (by assumption) rfl | exact room2 (by assumption) rfl | ktr_units); k_whole); intro _ _ _ hv' _ _; (first | (obtain ⟨_, hv'⟩ := hv'; subst hv') | subst hv'); (try k_sweep)))
  k_dflt (refine' ctr_of (binds := [(Str.ofString "s", .bytes b tk), (Str.ofString "altchars", .none)]) ?k6 ?k7 ?k9 ?kB ?_ ?c2 ?c3 ?c4 ?c5; (case k6 => k_is); (case k7 => k_is); (case k9 => intro s X; exact binds_K X rfl (by k_is) rfl rfl rfl); (case kB => exact locs rfl); (case c5 => decide); (case c2 => exact rfl); (case c3 => exact rfl); (case c4 => exact rfl); k_whole)
  intro dp un gd cn cs a ccd cl outer base L s g L' h₁ Q F' N' B' X' T' hkc hD hU ret
  k_extra "steps"
  exact ret _ _ _ _ (by assumption) ⟨_, rfl⟩

noncomputable def b64v (c : Int) : Int := if 65 ≤ c ∧ c ≤ 90 then c - 65 else if 97 ≤ c ∧ c ≤ 122 then c - 71 else if 48 ≤ c ∧ c ≤ 57 then c + 4 else if c = 43 then 62 else if c = 47 then 63 else 64
theorem v65 {c : Int} {t : Tok} (h1 : 65 ≤ c) (h2 : c ≤ 90) : ∃ t', Value.int (c - 65) t = Value.int (b64v c) t' := ⟨t, by rw [b64v, if_pos ⟨h1, h2⟩]⟩
theorem v97 {c : Int} {t : Tok} (h1 : 97 ≤ c) (h2 : c ≤ 122) : ∃ t', Value.int (c - 71) t = Value.int (b64v c) t' := ⟨t, by rw [b64v, if_neg (by omega), if_pos ⟨h1, h2⟩]⟩
theorem v48 {c : Int} {t : Tok} (h1 : 48 ≤ c) (h2 : c ≤ 57) : ∃ t', Value.int (c + 4) t = Value.int (b64v c) t' := ⟨t, by rw [b64v, if_neg (by omega), if_neg (by omega), if_pos ⟨h1, h2⟩]⟩
theorem v43 {c : Int} {t : Tok} (h : c = 43) : ∃ t', Value.int 62 t = Value.int (b64v c) t' := ⟨t, by subst h; rfl⟩
theorem v47 {c : Int} {t : Tok} (h : c = 47) : ∃ t', Value.int 63 t = Value.int (b64v c) t' := ⟨t, by subst h; rfl⟩
theorem v64 {c : Int} (h1 : c < 65 ∨ 90 < c) (h2 : c < 97 ∨ 122 < c) (h3 : c < 48 ∨ 57 < c) (h4 : c ≠ 43) (h5 : c ≠ 47) : (64 : Int) = b64v c := by
  rw [b64v, if_neg (by omega), if_neg (by omega), if_neg (by omega), if_neg h4, if_neg h5]
theorem w1 {c : Int} {t : Tok} (h : ¬ c ≤ 122) : ∃ t', Value.int 64 t = Value.int (b64v c) t' := ⟨t, by rw [← v64 (by omega) (by omega) (by omega) (by omega) (by omega)]⟩
theorem w2 {c : Int} {t : Tok} (h1 : ¬ c ≤ 90) (h2 : ¬ 97 ≤ c) : ∃ t', Value.int 64 t = Value.int (b64v c) t' := ⟨t, by rw [← v64 (by omega) (by omega) (by omega) (by omega) (by omega)]⟩
theorem w3 {c : Int} {t : Tok} (h1 : ¬ 65 ≤ c) (h2 : ¬ c ≤ 57) : ∃ t', Value.int 64 t = Value.int (b64v c) t' := ⟨t, by rw [← v64 (by omega) (by omega) (by omega) (by omega) (by omega)]⟩
theorem w4 {c : Int} {t : Tok} (h1 : ¬ 48 ≤ c) (h4 : c ≠ 43) (h5 : c ≠ 47) : ∃ t', Value.int 64 t = Value.int (b64v c) t' := ⟨t, by rw [← v64 (by omega) (by omega) (by omega) h4 h5]⟩

theorem b64v_ctr (w : World) (mean : ExcName → Option Value) (mg mb : Str → Option Value) (c : Int) (tk : Tok) (hc : 0 ≤ c ∧ c < 256) : Ctr w mean mg mb 2 20 70 [.int c tk] [] (fun v => ∃ t, v = .int (b64v c) t) := by
  k_with_none
  k_with "steps" => repeat' ((fail_if_success (with_reducible show wpAny _ _ (pyIter _) _ _ _)); first | (k_unfold; (try dsimp only)) | walk1 | (dsimp only; walk1) | fail "no step")
  k_with "exec For" => (k_here; (rename Fr _ _ _ _ => lF'); (with_unfolding_all refine' For_invVF lF' ?hole1k1 ?hole1k2 ?_; (case hole1k1 => exact rfl); (case hole1k2 => exact rfl); k_whole))
  k_with "exec For Name Call cons nil" => (k_here; (rename Fr _ _ _ _ => lF'); (with_unfolding_all refine' For_invVF lF' ?hole2k1 ?hole2k2 ?_; (case hole2k1 => exact rfl); (case hole2k2 => exact rfl); k_whole))
  k_with "exec For Name Name cons nil" => (k_here; (rename Fr _ _ _ _ => lF'); (with_unfolding_all refine' For_invVF lF' ?hole3k1 ?hole3k2 ?_; (case hole3k1 => exact rfl); (case hole3k2 => exact rfl); k_whole))
  k_with "call type:type" => (k_here; (with_reducible show wpAny _ _ (call _ [Value.bytes _ _]) _ _ _); refine call_type_of (Tx := "bytes") rfl (by decide +kernel) ?_)
  k_with "kba_in" => first | assumption | (refine in_snoc ?_ ?_; (focus (first | k_extra "kba_in" | kba_in)); (first | exact byte_in _ | decide | omega))
  k_with "kba_ints" => first | assumption | (refine ints_snoc ?_; (first | k_extra "kba_ints" | kba_listInts))
  k_with "call type:bytes" => (k_here; (with_reducible show wpAny _ _ (call (Value.type "bytes") [Value.ref _]) _ _ _); (rename News _ _ _ _ => nE'); (simp only [List.push_toArray] at nE'); k_dflt (refine' KBa.make_K ?hole7kbaF nE' ?hole7kbah ?hole7kbal ?hole7kbai ?hole7kbar ?hole7kban ?_; (case hole7kbaF => k_asm); (case hole7kbah => rfl); (case hole7kbal => exact News.isList nE' (by k_mem)); (case hole7kbai => first | k_extra "kba_ints" | kba_listInts); (case hole7kbar => first | k_extra "kba_in" | kba_in); (case hole7kban => kba_size)); intro _ _ _ F' N' kbaIn)
  k_with "binaryOp FloorDiv int int" => (k_here; first | (with_reducible refine floordiv_int (powN_ne (b := 256) (by decide) _) ?_ (Or.inl (pow256_py ?hole8kbp)); (case hole8kbp => omega)) | (with_reducible refine floordiv_int (powN_ne (b := 64) (by decide) _) ?_ (Or.inl (pow64_py ?hole8kbp)); (case hole8kbp => omega)))
  k_with "call builtin:len" => (k_here; (with_reducible show wpAny _ _ (call (Value.builtin "len") [Value.bytes _ _]) _ _ _); refine len_B ?hole9kl ?_; (case hole9kl => first | exact Nat.le_trans (Small.le (by assumption)) (by decide) | omega))
  k_with "call ref" => (k_here; (k_dflt (refine' Ctr.use (b2a_ctr _ _ _ _ _ _ (by assumption)) ?hole10k1 ?hole10k2 ?hole10k3 ?hole10k4 ?hole10k5 ?hole10kK ?hole10kd ?hole10ku ?_; (case hole10k1 => k_asm); (case hole10k2 => k_asm); (case hole10k3 => k_asm); (case hole10k4 => k_asm); (case hole10k5 => k_asm); (case hole10kK => first | exact rfl | assumption); (case hole10kd => first | exact Nat.le_of_ble_eq_true rfl | exact room1 (by assumption) rfl | exact room2 (by assumption) rfl | ktr_room); (case hole10ku => first | exact Nat.le_of_ble_eq_true rfl | exact room1 (by assumption) rfl | exact room2 (by assumption) rfl | ktr_units); k_whole); intro _ _ _ hv' _ _; (first | (obtain ⟨_, hv'⟩ := hv'; subst hv') | subst hv'); (try k_sweep)))
  k_dflt (refine' ctr_of (binds := [(Str.ofString "c", .int c tk)]) ?k6 ?k7 ?k9 ?kB ?_ ?c2 ?c3 ?c4 ?c5; (case k6 => k_is); (case k7 => k_is); (case k9 => intro s _; exact BindsTo.of_eq rfl); (case kB => exact locs rfl); (case c5 => decide); (case c2 => exact rfl); (case c3 => exact rfl); (case c4 => exact rfl); k_whole)
  intro dp un gd cn cs a ccd cl outer base L s g L' h₁ Q F' N' B' X' T' hkc hD hU ret
  k_extra "steps"
  all_goals (refine ret _ _ _ _ (by assumption) ?_; first | exact v65 (by assumption) (by assumption) | exact v97 (by assumption) (by assumption) | exact v48 (by assumption) (by assumption) | exact v43 (by assumption) | exact v47 (by assumption) | exact w1 (by assumption) | exact w2 (by assumption) (by assumption) | exact w3 (by assumption) (by assumption) | exact w4 (by assumption) (by assumption) (by assumption))

theorem abuf_ctr (w : World) (mean : ExcName → Option Value) (mg mb : Str → Option Value) (b : Array UInt8) (tk : Tok) : Ctr w mean mg mb 2 20 49 [.bytes b tk] [] (fun v => v = .bytes b tk) := by
  k_with_none
  k_with "steps" => repeat' ((fail_if_success (with_reducible show wpAny _ _ (pyIter _) _ _ _)); first | (k_unfold; (try dsimp only)) | walk1 | (dsimp only; walk1) | fail "no step")
  k_with "exec For" => (k_here; (rename Fr _ _ _ _ => lF'); (with_unfolding_all refine' For_invVF lF' ?hole1k1 ?hole1k2 ?_; (case hole1k1 => exact rfl); (case hole1k2 => exact rfl); k_whole))
  k_with "exec For Name Call cons nil" => (k_here; (rename Fr _ _ _ _ => lF'); (with_unfolding_all refine' For_invVF lF' ?hole2k1 ?hole2k2 ?_; (case hole2k1 => exact rfl); (case hole2k2 => exact rfl); k_whole))
  k_with "exec For Name Name cons nil" => (k_here; (rename Fr _ _ _ _ => lF'); (with_unfolding_all refine' For_invVF lF' ?hole3k1 ?hole3k2 ?_; (case hole3k1 => exact rfl); (case hole3k2 => exact rfl); k_whole))
  k_with "call type:type" => (k_here; (with_reducible show wpAny _ _ (call _ [Value.bytes _ _]) _ _ _); refine call_type_of (Tx := "bytes") rfl (by decide +kernel) ?_)
  k_with "kba_in" => first | assumption | (refine in_snoc ?_ ?_; (focus (first | k_extra "kba_in" | kba_in)); (first | exact byte_in _ | decide | omega))
  k_with "kba_ints" => first | assumption | (refine ints_snoc ?_; (first | k_extra "kba_ints" | kba_listInts))
  k_with "call type:bytes" => (k_here; (with_reducible show wpAny _ _ (call (Value.type "bytes") [Value.ref _]) _ _ _); (rename News _ _ _ _ => nE'); (simp only [List.push_toArray] at nE'); k_dflt (refine' KBa.make_K ?hole7kbaF nE' ?hole7kbah ?hole7kbal ?hole7kbai ?hole7kbar ?hole7kban ?_; (case hole7kbaF => k_asm); (case hole7kbah => rfl); (case hole7kbal => exact News.isList nE' (by k_mem)); (case hole7kbai => first | k_extra "kba_ints" | kba_listInts); (case hole7kbar => first | k_extra "kba_in" | kba_in); (case hole7kban => kba_size)); intro _ _ _ F' N' kbaIn)
  k_with "binaryOp FloorDiv int int" => (k_here; first | (with_reducible refine floordiv_int (powN_ne (b := 256) (by decide) _) ?_ (Or.inl (pow256_py ?hole8kbp)); (case hole8kbp => omega)) | (with_reducible refine floordiv_int (powN_ne (b := 64) (by decide) _) ?_ (Or.inl (pow64_py ?hole8kbp)); (case hole8kbp => omega)))
  k_with "call builtin:len" => (k_here; (with_reducible show wpAny _ _ (call (Value.builtin "len") [Value.bytes _ _]) _ _ _); refine len_B ?hole9kl ?_; (case hole9kl => first | exact Nat.le_trans (Small.le (by assumption)) (by decide) | omega))
  k_with "call ref" => (k_here; (k_dflt (refine' Ctr.use (b2a_ctr _ _ _ _ _ _ (by assumption)) ?hole10k1 ?hole10k2 ?hole10k3 ?hole10k4 ?hole10k5 ?hole10kK ?hole10kd ?hole10ku ?_; (case hole10k1 => k_asm); (case hole10k2 => k_asm); (case hole10k3 => k_asm); (case hole10k4 => k_asm); (case hole10k5 => k_asm); (case hole10kK => first | exact rfl | assumption); (case hole10kd => first | exact Nat.le_of_ble_eq_true rfl | exact room1 (by assumption) rfl | exact room2 (by assumption) rfl | ktr_room); (case hole10ku => first | exact Nat.le_of_ble_eq_true rfl | exact room1 (by assumption) rfl | exact room2 (by assumption) rfl | ktr_units); k_whole); intro _ _ _ hv' _ _; (first | (obtain ⟨_, hv'⟩ := hv'; subst hv') | subst hv'); (try k_sweep)))
  k_dflt (refine' ctr_of (binds := [(Str.ofString "data", .bytes b tk)]) ?k6 ?k7 ?k9 ?kB ?_ ?c2 ?c3 ?c4 ?c5; (case k6 => k_is); (case k7 => k_is); (case k9 => intro s _; exact BindsTo.of_eq rfl); (case kB => exact locs rfl); (case c5 => decide); (case c2 => exact rfl); (case c3 => exact rfl); (case c4 => exact rfl); k_whole)
  intro dp un gd cn cs a ccd cl outer base L s g L' h₁ Q F' N' B' X' T' hkc hD hU ret
  k_extra "steps"
  exact ret _ _ _ _ (by assumption) rfl

theorem bfd_ctr (w : World) (mean : ExcName → Option Value) (mg mb : Str → Option Value) (b : Array UInt8) (tk : Tok) : Ctr w mean mg mb 2 20 29 [.bytes b tk] [] (fun v => v = .bytes b tk) := by
  k_with_none
  k_with "steps" => repeat' ((fail_if_success (with_reducible show wpAny _ _ (pyIter _) _ _ _)); first | (k_unfold; (try dsimp only)) | walk1 | (dsimp only; walk1) | fail "no step")
  k_with "exec For" => (k_here; (rename Fr _ _ _ _ => lF'); (with_unfolding_all refine' For_invVF lF' ?hole1k1 ?hole1k2 ?_; (case hole1k1 => exact rfl); (case hole1k2 => exact rfl); k_whole))
  k_with "exec For Name Call cons nil" => (k_here; (rename Fr _ _ _ _ => lF'); (with_unfolding_all refine' For_invVF lF' ?hole2k1 ?hole2k2 ?_; (case hole2k1 => exact rfl); (case hole2k2 => exact rfl); k_whole))
  k_with "exec For Name Name cons nil" => (k_here; (rename Fr _ _ _ _ => lF'); (with_unfolding_all refine' For_invVF lF' ?hole3k1 ?hole3k2 ?_; (case hole3k1 => exact rfl); (case hole3k2 => exact rfl); k_whole))
  k_with "call type:type" => (k_here; (with_reducible show wpAny _ _ (call _ [Value.bytes _ _]) _ _ _); refine call_type_of (Tx := "bytes") rfl (by decide +kernel) ?_)
  k_with "kba_in" => first | assumption | (refine in_snoc ?_ ?_; (focus (first | k_extra "kba_in" | kba_in)); (first | exact byte_in _ | decide | omega))
  k_with "kba_ints" => first | assumption | (refine ints_snoc ?_; (first | k_extra "kba_ints" | kba_listInts))
  k_with "call type:bytes" => (k_here; (with_reducible show wpAny _ _ (call (Value.type "bytes") [Value.ref _]) _ _ _); (rename News _ _ _ _ => nE'); (simp only [List.push_toArray] at nE'); k_dflt (refine' KBa.make_K ?hole7kbaF nE' ?hole7kbah ?hole7kbal ?hole7kbai ?hole7kbar ?hole7kban ?_; (case hole7kbaF => k_asm); (case hole7kbah => rfl); (case hole7kbal => exact News.isList nE' (by k_mem)); (case hole7kbai => first | k_extra "kba_ints" | kba_listInts); (case hole7kbar => first | k_extra "kba_in" | kba_in); (case hole7kban => kba_size)); intro _ _ _ F' N' kbaIn)
  k_with "binaryOp FloorDiv int int" => (k_here; first | (with_reducible refine floordiv_int (powN_ne (b := 256) (by decide) _) ?_ (Or.inl (pow256_py ?hole8kbp)); (case hole8kbp => omega)) | (with_reducible refine floordiv_int (powN_ne (b := 64) (by decide) _) ?_ (Or.inl (pow64_py ?hole8kbp)); (case hole8kbp => omega)))
  k_with "call builtin:len" => (k_here; (with_reducible show wpAny _ _ (call (Value.builtin "len") [Value.bytes _ _]) _ _ _); refine len_B ?hole9kl ?_; (case hole9kl => first | exact Nat.le_trans (Small.le (by assumption)) (by decide) | omega))
  k_with "call ref" => (k_here; (k_dflt (refine' Ctr.use (b2a_ctr _ _ _ _ _ _ (by assumption)) ?hole10k1 ?hole10k2 ?hole10k3 ?hole10k4 ?hole10k5 ?hole10kK ?hole10kd ?hole10ku ?_; (case hole10k1 => k_asm); (case hole10k2 => k_asm); (case hole10k3 => k_asm); (case hole10k4 => k_asm); (case hole10k5 => k_asm); (case hole10kK => first | exact rfl | assumption); (case hole10kd => first | exact Nat.le_of_ble_eq_true rfl | exact room1 (by assumption) rfl | exact room2 (by assumption) rfl | ktr_room); (case hole10ku => first | exact Nat.le_of_ble_eq_true rfl | exact room1 (by assumption) rfl | exact room2 (by assumption) rfl | ktr_units); k_whole); intro _ _ _ hv' _ _; (first | (obtain ⟨_, hv'⟩ := hv'; subst hv') | subst hv'); (try k_sweep)))
  k_dflt (refine' ctr_of (binds := [(Str.ofString "s", .bytes b tk)]) ?k6 ?k7 ?k9 ?kB ?_ ?c2 ?c3 ?c4 ?c5; (case k6 => k_is); (case k7 => k_is); (case k9 => intro s _; exact BindsTo.of_eq rfl); (case kB => exact locs rfl); (case c5 => decide); (case c2 => exact rfl); (case c3 => exact rfl); (case c4 => exact rfl); k_whole)
  intro dp un gd cn cs a ccd cl outer base L s g L' h₁ Q F' N' B' X' T' hkc hD hU ret
  k_extra "steps"
  exact ret _ _ _ _ (by assumption) rfl
end Mine
end

section
open PySem PySem.W PySem.Calls PyProof.Rows
set_option Elab.async false
set_option maxRecDepth 100000
set_option maxHeartbeats 8000000
namespace Mine

example : (fun (_ : OpenLaw) (_ : Params → Frag) => True) PySem.Challenge.rw_qh0114_01 hd.heap_39 := by
  k_fill; trivial


noncomputable def a2bStep (σ : Nat × Nat × Nat × List Nat) (c : Nat) : Nat × Nat × Nat × List Nat :=
  if c = 61 then (σ.1, σ.2.1, σ.2.2.1 + 1, σ.2.2.2)
  else if 64 ≤ (b64v c).toNat then σ
  else if σ.1 = 0 then (1, (b64v c).toNat, 0, σ.2.2.2)
  else if σ.1 = 1 then (2, (b64v c).toNat % 16, 0, σ.2.2.2 ++ [σ.2.1 * 4 + (b64v c).toNat / 16])
  else if σ.1 = 2 then (3, (b64v c).toNat % 4, 0, σ.2.2.2 ++ [σ.2.1 * 16 + (b64v c).toNat / 4])
  else (0, 0, 0, σ.2.2.2 ++ [σ.2.1 * 64 + (b64v c).toNat])
noncomputable def a2bSt (row : List Nat) : Nat × Nat × Nat × List Nat := row.foldl a2bStep (0, 0, 0, [])
noncomputable def A2bInv (pre : List Int) (q lc pads : Int) (out : List Int) : Prop :=
  q = (((a2bSt (nats pre)).1 : Nat) : Int) ∧ lc = (((a2bSt (nats pre)).2.1 : Nat) : Int) ∧ pads = (((a2bSt (nats pre)).2.2.1 : Nat) : Int) ∧ out = (a2bSt (nats pre)).2.2.2.map (fun (x : Nat) => (x : Int)) ∧ out.length ≤ pre.length
theorem a2b_start : A2bInv [] 0 0 0 [] := ⟨rfl, rfl, rfl, rfl, Nat.le_refl _⟩
theorem a2bSt_snoc (row : List Nat) (o : Nat) : a2bSt (row ++ [o]) = a2bStep (a2bSt row) o := by simp [a2bSt, List.foldl_append]
noncomputable def A2bOk (σ : Nat × Nat × Nat × List Nat) : Prop :=
  ((σ.1 = 0 ∧ σ.2.1 = 0) ∨ (σ.1 = 1 ∧ σ.2.1 < 64) ∨ (σ.1 = 2 ∧ σ.2.1 < 16) ∨ (σ.1 = 3 ∧ σ.2.1 < 4)) ∧ ∀ x ∈ σ.2.2.2, x < 256
theorem a2bStep_ok {σ : Nat × Nat × Nat × List Nat} (h : A2bOk σ) (c : Nat) : A2bOk (a2bStep σ c) := by
  obtain ⟨h1, h2⟩ := h
  have snoc : ∀ y, y < 256 → ∀ x ∈ σ.2.2.2 ++ [y], x < 256 := fun y hy x hx => (List.mem_append.mp hx).elim (h2 x) fun e => (List.mem_singleton.mp e) ▸ hy
  unfold a2bStep
  split
  · exact ⟨h1, h2⟩
  split
  · exact ⟨h1, h2⟩
  split
  · exact ⟨.inr (.inl ⟨rfl, by dsimp only; omega⟩), h2⟩
  split
  · exact ⟨.inr (.inr (.inl ⟨rfl, Nat.mod_lt _ (by decide)⟩)), snoc _ (by omega)⟩
  split
  · exact ⟨.inr (.inr (.inr ⟨rfl, Nat.mod_lt _ (by decide)⟩)), snoc _ (by omega)⟩
  · exact ⟨.inl ⟨rfl, rfl⟩, snoc _ (by omega)⟩
theorem a2b_ok : ∀ (row : List Nat) (σ : Nat × Nat × Nat × List Nat), A2bOk σ → A2bOk (row.foldl a2bStep σ)
  | [], _, h => h
  | o :: r, _, h => a2b_ok r _ (a2bStep_ok h o)
theorem a2bSt_ok (row : List Nat) : A2bOk (a2bSt row) := a2b_ok row _ ⟨.inl ⟨rfl, rfl⟩, fun _ h => nomatch h⟩

/-- a text: signs of the alphabet, then = -/
structure Text (b : Array UInt8) : Prop where
  le : b.size ≤ 100000
  form : ∃ (S : List Nat) (p : Nat), oct b = S ++ List.replicate p 61 ∧ (∀ c ∈ S, b64v (c : Int) < 64 ∧ c ≠ 61)
  fin : (a2bSt (oct b)).1 ≠ 1 ∧ ((a2bSt (oct b)).1 = 0 ∨ 4 ≤ (a2bSt (oct b)).1 + (a2bSt (oct b)).2.2.1)

theorem b64v_lo (c : Int) : 0 ≤ b64v c ∧ b64v c ≤ 64 := by
  unfold b64v
  (repeat' split) <;> omega
theorem a2b_pads : ∀ (row : List Nat) (σ : Nat × Nat × Nat × List Nat), (∀ c ∈ row, c ≠ 61) → σ.2.2.1 = 0 → (row.foldl a2bStep σ).2.2.1 = 0
  | [], _, _, h => h
  | o :: r, σ, hr, h => by
    refine a2b_pads r _ (fun c hc => hr c (.tail _ hc)) ?_
    have ho := hr o (.head _)
    unfold a2bStep
    rw [if_neg ho]
    (repeat' split) <;> first | exact h | rfl
theorem a2b_kind {b : Array UInt8} (hb : Text b) {pre post : List Int} {n q lc pads : Int} {out : List Int} (e : List.map (fun c => ((c.toNat : Nat) : Int)) b.toList = pre ++ n :: post) (h0 : 0 ≤ n)
    (h : A2bInv pre q lc pads out) : n = 61 ∨ (n ≠ 61 ∧ b64v n < 64 ∧ pads = 0) := by
  by_cases hn : n = 61
  · exact .inl hn
  · refine .inr ⟨hn, ?_⟩
    obtain ⟨S, p, eo, hS⟩ := hb.form
    have e2 := congrArg nats e
    rw [nats_ints] at e2
    have e3 : S ++ List.replicate p 61 = nats pre ++ n.toNat :: nats post := by
      rw [← eo]; unfold oct; rw [e2]; simp [nats]
    have hn' : n.toNat ≠ 61 := by omega
    have nR : n.toNat ∉ List.replicate p 61 := fun hm => hn' (List.eq_of_mem_replicate hm)
    have key : n.toNat ∈ S ∧ ∀ c ∈ nats pre, c ∈ S := by
      rcases List.append_eq_append_iff.mp e3 with ⟨a', ha, hR⟩ | ⟨c', hc, hR⟩
      · exact absurd (by rw [hR]; simp) nR
      · cases c' with
        | nil => exact absurd (by rw [List.nil_append] at hR; rw [← hR]; exact .head _) nR
        | cons x c'' =>
          have hx : n.toNat = x := (List.cons.inj hR).1
          refine ⟨by rw [hc, hx]; simp, fun c hcm => by rw [hc]; exact List.mem_append_left _ hcm⟩
    have hv := (hS _ key.1).1
    rw [Int.toNat_of_nonneg h0] at hv
    refine ⟨hv, ?_⟩
    rw [h.2.2.1]
    have := a2b_pads (nats pre) (0, 0, 0, []) (fun c hc => (hS c (key.2 c hc)).2) rfl
    unfold a2bSt
    omega
theorem a2b_rng {pre : List Int} {q lc pads : Int} {out : List Int} (h : A2bInv pre q lc pads out) : (q = 0 ∨ q = 1 ∨ q = 2 ∨ q = 3) ∧ 0 ≤ lc ∧ lc < 64 ∧ 0 ≤ pads ∧ KBa.In out := by
  have k := a2bSt_ok (nats pre)
  obtain ⟨e1, e2, e3, e4, e5⟩ := h
  obtain ⟨k1, k2⟩ := k
  refine ⟨by omega, by omega, by omega, by omega, ?_⟩
  intro x hx
  rw [e4] at hx
  obtain ⟨y, hy, rfl⟩ := List.mem_map.mp hx
  have := k2 y hy
  omega
theorem a2b_p {pre : List Int} {q lc pads : Int} {out : List Int} (h : A2bInv pre q lc pads out) : A2bInv (pre ++ [61]) q lc (pads + 1) out := by
  obtain ⟨e1, e2, e3, e4, e5⟩ := h
  have s : nats (pre ++ [61]) = nats pre ++ [61] := nats_snoc pre 61
  unfold A2bInv
  rw [s, a2bSt_snoc, a2bStep, if_pos rfl]
  refine ⟨e1, e2, by dsimp only; omega, e4, by simp; omega⟩
theorem a2b_un {pre : List Int} {n q lc pads : Int} {out : List Int} (h0 : 0 ≤ n) (hn : n ≠ 61) (hv : b64v n < 64) (h : A2bInv pre q lc pads out) :
    ∃ (m v : Nat), n = (m : Int) ∧ b64v (m : Int) = (v : Int) ∧ v < 64 ∧ nats (pre ++ [n]) = nats pre ++ [m] ∧ a2bSt (nats pre ++ [m]) = (if (a2bSt (nats pre)).1 = 0 then (1, v, 0, (a2bSt (nats pre)).2.2.2)
      else if (a2bSt (nats pre)).1 = 1 then (2, v % 16, 0, (a2bSt (nats pre)).2.2.2 ++ [(a2bSt (nats pre)).2.1 * 4 + v / 16])
      else if (a2bSt (nats pre)).1 = 2 then (3, v % 4, 0, (a2bSt (nats pre)).2.2.2 ++ [(a2bSt (nats pre)).2.1 * 16 + v / 4])
      else (0, 0, 0, (a2bSt (nats pre)).2.2.2 ++ [(a2bSt (nats pre)).2.1 * 64 + v])) := by
  obtain ⟨m, rfl⟩ : ∃ k : Nat, n = (k : Int) := ⟨n.toNat, by omega⟩
  have hl := b64v_lo m
  refine ⟨m, (b64v (m : Int)).toNat, rfl, by omega, by omega, nats_snoc pre m, ?_⟩
  rw [a2bSt_snoc, a2bStep, if_neg (by omega), if_neg (by omega)]
theorem or_add2 (a v k : Nat) (hv : v < 2 ^ k) : Builtin.bitOr ((a : Int) * 2 ^ k) (v : Int) = ((a * 2 ^ k + v : Nat) : Int) := by
  have e : (a : Int) * 2 ^ k = ((a * 2 ^ k : Nat) : Int) := by simp
  have := Nat.two_pow_add_eq_or_of_lt hv a
  rw [e, bitOr_nat, Nat.mul_comm a, this]
theorem a2b_q0 {pre : List Int} {n lc pads : Int} {out : List Int} (h : A2bInv pre 0 lc pads out) (h0 : 0 ≤ n) (hn : n ≠ 61) (hv : b64v n < 64) : A2bInv (pre ++ [n]) 1 (b64v n) 0 out := by
  obtain ⟨m, v, rfl, ev, hv', es, est⟩ := a2b_un h0 hn hv h
  obtain ⟨e1, e2, e3, e4, e5⟩ := h
  unfold A2bInv
  rw [es, est, if_pos (by omega), ev]
  exact ⟨rfl, rfl, rfl, e4, by simp; omega⟩
theorem a2b_q1 {pre : List Int} {n lc pads : Int} {out : List Int} (h : A2bInv pre 1 lc pads out) (h0 : 0 ≤ n) (hn : n ≠ 61) (hv : b64v n < 64) :
    A2bInv (pre ++ [n]) 2 (Builtin.bitAnd (b64v n) 15) 0 (out ++ [Builtin.bitOr (lc * 2 ^ Int.toNat 2) ((b64v n).fdiv (2 ^ Int.toNat 4))]) := by
  obtain ⟨m, v, rfl, ev, hv', es, est⟩ := a2b_un h0 hn hv h
  obtain ⟨e1, e2, e3, e4, e5⟩ := h
  unfold A2bInv
  have ed : (v : Int).fdiv (2 ^ Int.toNat 4) = ((v / 16 : Nat) : Int) := fdiv_nat v 16
  rw [es, est, if_neg (by omega), if_pos (by omega), ev, bitAnd_m4, ed, e2, e4]
  refine ⟨rfl, by dsimp only; omega, rfl, ?_, by rw [List.length_append, List.length_append, ← e4]; simp; omega⟩
  rw [List.map_append]
  have := or_add2 (a2bSt (nats pre)).2.1 (v / 16) 2 (by omega)
  exact congrArg (fun x => _ ++ [x]) this
theorem a2b_q2 {pre : List Int} {n lc pads : Int} {out : List Int} (h : A2bInv pre 2 lc pads out) (h0 : 0 ≤ n) (hn : n ≠ 61) (hv : b64v n < 64) :
    A2bInv (pre ++ [n]) 3 (Builtin.bitAnd (b64v n) 3) 0 (out ++ [Builtin.bitOr (lc * 2 ^ Int.toNat 4) ((b64v n).fdiv (2 ^ Int.toNat 2))]) := by
  obtain ⟨m, v, rfl, ev, hv', es, est⟩ := a2b_un h0 hn hv h
  obtain ⟨e1, e2, e3, e4, e5⟩ := h
  unfold A2bInv
  have ed : (v : Int).fdiv (2 ^ Int.toNat 2) = ((v / 4 : Nat) : Int) := fdiv_nat v 4
  rw [es, est, if_neg (by omega), if_neg (by omega), if_pos (by omega), ev, bitAnd_m2, ed, e2, e4]
  refine ⟨rfl, by dsimp only; omega, rfl, ?_, by rw [List.length_append, List.length_append, ← e4]; simp; omega⟩
  rw [List.map_append]
  have := or_add2 (a2bSt (nats pre)).2.1 (v / 4) 4 (by omega)
  exact congrArg (fun x => _ ++ [x]) this
theorem a2b_q3 {pre : List Int} {n lc pads : Int} {out : List Int} (h : A2bInv pre 3 lc pads out) (h0 : 0 ≤ n) (hn : n ≠ 61) (hv : b64v n < 64) :
    A2bInv (pre ++ [n]) 0 0 0 (out ++ [Builtin.bitOr (lc * 2 ^ Int.toNat 6) (b64v n)]) := by
  obtain ⟨m, v, rfl, ev, hv', es, est⟩ := a2b_un h0 hn hv h
  obtain ⟨e1, e2, e3, e4, e5⟩ := h
  unfold A2bInv
  rw [es, est, if_neg (by omega), if_neg (by omega), if_neg (by omega), ev, e2, e4]
  refine ⟨rfl, rfl, rfl, ?_, by rw [List.length_append, List.length_append, ← e4]; simp; omega⟩
  rw [List.map_append]
  have := or_add2 (a2bSt (nats pre)).2.1 v 6 (by omega)
  exact congrArg (fun x => _ ++ [x]) this
theorem a2b_q0' {pre : List Int} {q n lc pads : Int} {out : List Int} (h : A2bInv pre q lc pads out) (hq : q = 0) (h0 : 0 ≤ n) (hn : n ≠ 61) (hv : b64v n < 64) : A2bInv (pre ++ [n]) 1 (b64v n) 0 out := by
  subst hq; exact a2b_q0 h h0 hn hv
theorem a2b_q1' {pre : List Int} {q n lc pads : Int} {out : List Int} (h : A2bInv pre q lc pads out) (hq : q = 1) (h0 : 0 ≤ n) (hn : n ≠ 61) (hv : b64v n < 64) :
    A2bInv (pre ++ [n]) 2 (Builtin.bitAnd (b64v n) 15) 0 (out ++ [Builtin.bitOr (lc * 2 ^ Int.toNat 2) ((b64v n).fdiv (2 ^ Int.toNat 4))]) := by
  subst hq; exact a2b_q1 h h0 hn hv
theorem a2b_q2' {pre : List Int} {q n lc pads : Int} {out : List Int} (h : A2bInv pre q lc pads out) (hq : q = 2) (h0 : 0 ≤ n) (hn : n ≠ 61) (hv : b64v n < 64) :
    A2bInv (pre ++ [n]) 3 (Builtin.bitAnd (b64v n) 3) 0 (out ++ [Builtin.bitOr (lc * 2 ^ Int.toNat 4) ((b64v n).fdiv (2 ^ Int.toNat 2))]) := by
  subst hq; exact a2b_q2 h h0 hn hv
theorem a2b_q3' {pre : List Int} {q n lc pads : Int} {out : List Int} (h : A2bInv pre q lc pads out) (hr : q = 0 ∨ q = 1 ∨ q = 2 ∨ q = 3) (q0 : q ≠ 0) (q1 : q ≠ 1) (q2 : q ≠ 2) (h0 : 0 ≤ n) (hn : n ≠ 61) (hv : b64v n < 64) :
    A2bInv (pre ++ [n]) 0 0 0 (out ++ [Builtin.bitOr (lc * 2 ^ Int.toNat 6) (b64v n)]) := by
  have e : q = 3 := by omega
  subst e; exact a2b_q3 h h0 hn hv
theorem a2b_fin {b : Array UInt8} (hb : Text b) {q lc pads : Int} {out : List Int} (h : A2bInv (List.map (fun c => ((c.toNat : Nat) : Int)) b.toList) q lc pads out) :
    q ≠ 1 ∧ (q = 0 ∨ 4 ≤ q + pads) ∧ byteArr out = arr (a2bSt (oct b)).2.2.2 := by
  obtain ⟨e1, e2, e3, e4, e5⟩ := h
  rw [nats_ints] at e1 e3 e4
  have := hb.fin
  unfold oct at this
  refine ⟨by omega, by omega, ?_⟩
  rw [e4]; rfl

section
variable {prog : Program} {w : World} {A : Around} {E : Value → Shared → Prop} {s : Shared} {a b : Int} {t u : Tok} {Q : Value → Shared → Prop}
theorem eq_no (e : a ≠ b) (h : Q (.bool false) s) : wpAny (model prog w) A (compareOp .Eq (.int a t) (.int b u)) Q E s := PyProof.Rows.eq_int (by rw [beq_eq_false_iff_ne.mpr e]; exact h)
theorem ne_no (e : a = b) (h : Q (.bool false) s) : wpAny (model prog w) A (compareOp .NotEq (.int a t) (.int b u)) Q E s := PyProof.Rows.ne_int (by rw [e, bne_self_eq_false]; exact h)
theorem lt_no (e : b ≤ a) (h : Q (.bool false) s) : wpAny (model prog w) A (compareOp .Lt (.int a t) (.int b u)) Q E s := PyProof.Rows.lt_int (by rw [decide_eq_false (by omega)]; exact h)
end
theorem a2b_ctr (w : World) (mean : ExcName → Option Value) (mg mb : Str → Option Value) (b : Array UInt8) (tk : Tok) (hb : Text b) : Ctr w mean mg mb 6 60 78 [.bytes b tk] [(Str.ofString "strict_mode", .bool false)] (fun v => ∃ t, v = .bytes (arr (a2bSt (oct b)).2.2.2) t) := by
  k_with_none
  k_with "steps" => repeat' ((fail_if_success (with_reducible show wpAny _ _ (pyIter _) _ _ _)); first | (k_unfold; (try dsimp only)) | walk1 | (dsimp only; walk1) | fail "no step")
  k_with "exec For" => (k_here; (rename Fr _ _ _ _ => lF'); (with_unfolding_all refine' For_invVF lF' ?hole1k1 ?hole1k2 ?_; (case hole1k1 => exact rfl); (case hole1k2 => exact rfl); k_whole))
  k_with "exec For Name Call cons nil" => (k_here; (rename Fr _ _ _ _ => lF'); (with_unfolding_all refine' For_invVF lF' ?hole2k1 ?hole2k2 ?_; (case hole2k1 => exact rfl); (case hole2k2 => exact rfl); k_whole))
  k_with "exec For Name Name cons nil" => (k_here; (rename Fr _ _ _ _ => lF'); (with_unfolding_all refine' For_invVF lF' ?hole3k1 ?hole3k2 ?_; (case hole3k1 => exact rfl); (case hole3k2 => exact rfl); k_whole))
  k_with "call type:type" => (k_here; (with_reducible show wpAny _ _ (call _ [Value.bytes _ _]) _ _ _); refine call_type_of (Tx := "bytes") rfl (by decide +kernel) ?_)
  k_with "kba_in" => first | assumption | (refine in_snoc ?_ ?_; (focus (first | k_extra "kba_in" | kba_in)); (first | exact byte_in _ | decide | omega))
  k_with "kba_ints" => first | assumption | (refine ints_snoc ?_; (first | k_extra "kba_ints" | kba_listInts))
  k_with "call type:bytes" => (k_here; (with_reducible show wpAny _ _ (call (Value.type "bytes") [Value.ref _]) _ _ _); (rename News _ _ _ _ => nE'); (simp only [List.push_toArray] at nE'); k_dflt (refine' KBa.make_K ?hole7kbaF nE' ?hole7kbah ?hole7kbal ?hole7kbai ?hole7kbar ?hole7kban ?_; (case hole7kbaF => k_asm); (case hole7kbah => rfl); (case hole7kbal => exact News.isList nE' (by k_mem)); (case hole7kbai => first | k_extra "kba_ints" | kba_listInts); (case hole7kbar => first | k_extra "kba_in" | kba_in); (case hole7kban => kba_size)); intro _ _ _ F' N' kbaIn)
  k_with "binaryOp FloorDiv int int" => (k_here; first | (with_reducible refine floordiv_int (powN_ne (b := 256) (by decide) _) ?_ (Or.inl (pow256_py ?hole8kbp)); (case hole8kbp => omega)) | (with_reducible refine floordiv_int (powN_ne (b := 64) (by decide) _) ?_ (Or.inl (pow64_py ?hole8kbp)); (case hole8kbp => omega)))
  k_with "call builtin:len" => (k_here; (with_reducible show wpAny _ _ (call (Value.builtin "len") [Value.bytes _ _]) _ _ _); refine len_B ?hole9kl ?_; (case hole9kl => first | exact Nat.le_trans (Small.le (by assumption)) (by decide) | omega))
  k_with "call ref" => (k_here; (k_dflt (refine' Ctr.use (abuf_ctr _ _ _ _ _ _) ?hole10k1 ?hole10k2 ?hole10k3 ?hole10k4 ?hole10k5 ?hole10kK ?hole10kd ?hole10ku ?_; (case hole10k1 => k_asm); (case hole10k2 => k_asm); (case hole10k3 => k_asm); (case hole10k4 => k_asm); (case hole10k5 => k_asm); (case hole10kK => first | exact rfl | assumption); (case hole10kd => first | exact Nat.le_of_ble_eq_true rfl | exact room1 (by assumption) rfl | exact room2 (by assumption) rfl | ktr_room); (case hole10ku => first | exact Nat.le_of_ble_eq_true rfl | exact room1 (by assumption) rfl | exact room2 (by assumption) rfl | ktr_units); k_whole); intro _ _ _ hv' _ _; (first | (obtain ⟨_, hv'⟩ := hv'; subst hv') | subst hv'); (try k_sweep)))
  k_with "call ref" => (k_here; (k_dflt (refine' Ctr.use (truth_ctr _ _ _ _) ?hole11k1 ?hole11k2 ?hole11k3 ?hole11k4 ?hole11k5 ?hole11kK ?hole11kd ?hole11ku ?_; (case hole11k1 => k_asm); (case hole11k2 => k_asm); (case hole11k3 => k_asm); (case hole11k4 => k_asm); (case hole11k5 => k_asm); (case hole11kK => first | exact rfl | assumption); (case hole11kd => first | exact Nat.le_of_ble_eq_true rfl | exact room1 (by assumption) rfl | exact room2 (by assumption) rfl | ktr_room); (case hole11ku => first | exact Nat.le_of_ble_eq_true rfl | exact room1 (by assumption) rfl | exact room2 (by assumption) rfl | ktr_units); k_whole); intro _ _ _ hv' _ _; (first | (obtain ⟨_, hv'⟩ := hv'; subst hv') | subst hv'); (try k_sweep)))
  k_with "call ref" => (k_here; (k_dflt (refine' Ctr.use (b64v_ctr _ _ _ _ _ _ (by exact ⟨by assumption, by assumption⟩)) ?hole12k1 ?hole12k2 ?hole12k3 ?hole12k4 ?hole12k5 ?hole12kK ?hole12kd ?hole12ku ?_; (case hole12k1 => k_asm); (case hole12k2 => k_asm); (case hole12k3 => k_asm); (case hole12k4 => k_asm); (case hole12k5 => k_asm); (case hole12kK => first | exact rfl | assumption); (case hole12kd => first | exact Nat.le_of_ble_eq_true rfl | exact room1 (by assumption) rfl | exact room2 (by assumption) rfl | ktr_room); (case hole12ku => first | exact Nat.le_of_ble_eq_true rfl | exact room1 (by assumption) rfl | exact room2 (by assumption) rfl | ktr_units); k_whole); intro _ _ _ hv' _ _; (first | (obtain ⟨_, hv'⟩ := hv'; subst hv') | subst hv'); (try k_sweep)))
  k_dflt (refine' ctr_of (binds := [(Str.ofString "data", .bytes b tk), (Str.ofString "strict_mode", .bool false)]) ?k6 ?k7 ?k9 ?kB ?_ ?c2 ?c3 ?c4 ?c5; (case k6 => k_is); (case k7 => k_is); (case k9 => intro s _; exact BindsTo.of_eq rfl); (case kB => exact locs rfl); (case c5 => decide); (case c2 => exact rfl); (case c3 => exact rfl); (case c4 => exact rfl); k_whole)
  intro dp un gd cn cs a ccd cl outer base L s g L' h₁ Q F' N' B' X' T' hkc hD hU ret
  k_extra "steps"
  (k_with "state" => first | exact a2b_start | exact a2b_p (by assumption) | exact a2b_q0' (by assumption) (by assumption) (by assumption) (by assumption) (by assumption) | exact a2b_q1' (by assumption) (by assumption) (by assumption) (by assumption) (by assumption) | exact a2b_q2' (by assumption) (by assumption) (by assumption) (by assumption) (by assumption) | exact a2b_q3' (by assumption) (by assumption) (by assumption) (by assumption) (by assumption) (by assumption) (by assumption) (by assumption))
  have hnil : IntsAre [] [] := .nil
  k_state (fun pre q lc pads i out => A2bInv pre q lc pads out) "quad_pos" "leftchar" "pads" "i" "out"
  · have hsz : b.toList.length ≤ 100000 := by simpa using hb.le
    have hlen := kInv.2.2.2.2
    obtain ⟨hq, hlc, hlc2, hpd, _⟩ := a2b_rng kInv
    rcases a2b_kind hb kEq kLo kInv with h | ⟨h, hv, hp⟩
    · subst h
      refine absQ fun Qo hQo => ?_
      k_extra "steps"
      all_goals (refine hQo _ _ ?_; k_extra "steps")
    · have hv0 := b64v_lo kN
      subst hp
      refine absQ fun Qo hQo => ?_
      k_extra "steps"
      all_goals (refine hQo _ _ ?_; k_extra "steps")
  · have hsz : b.toList.length ≤ 100000 := by simpa using hb.le
    have hlen := kInv.2.2.2.2
    obtain ⟨hq, hlc, hlc2, hpd, hin⟩ := a2b_rng kInv
    obtain ⟨hf1, hf2, hf3⟩ := a2b_fin hb kInv
    k_with "compareOp Eq int int" => (k_here; with_reducible refine eq_no (by with_reducible assumption) ?_)
    k_with "compareOp NotEq int int" => (k_here; with_reducible refine ne_no (by with_reducible assumption) ?_)
    k_with "compareOp Lt int int" => (k_here; with_reducible refine lt_no (by with_reducible assumption) ?_)
    rcases hf2 with hf2 | hf2
    all_goals (k_extra "steps"; all_goals exact ret _ _ _ _ (by assumption) (bex hf3))


theorem dec_ctr (w : World) (mean : ExcName → Option Value) (mg mb : Str → Option Value) (b : Array UInt8) (tk : Tok) (hb : Text b) : Ctr w mean mg mb 8 80 102 [.bytes b tk] [] (fun v => ∃ t, v = .bytes (arr (a2bSt (oct b)).2.2.2) t) := by
  k_with_none
  k_with "steps" => repeat' ((fail_if_success (with_reducible show wpAny _ _ (pyIter _) _ _ _)); first | (k_unfold; (try dsimp only)) | walk1 | (dsimp only; walk1) | fail "no step")
  k_with "exec For" => (k_here; (rename Fr _ _ _ _ => lF'); (with_unfolding_all refine' For_invVF lF' ?hole1k1 ?hole1k2 ?_; (case hole1k1 => exact rfl); (case hole1k2 => exact rfl); k_whole))
  k_with "exec For Name Call cons nil" => (k_here; (rename Fr _ _ _ _ => lF'); (with_unfolding_all refine' For_invVF lF' ?hole2k1 ?hole2k2 ?_; (case hole2k1 => exact rfl); (case hole2k2 => exact rfl); k_whole))
  k_with "exec For Name Name cons nil" => (k_here; (rename Fr _ _ _ _ => lF'); (with_unfolding_all refine' For_invVF lF' ?hole3k1 ?hole3k2 ?_; (case hole3k1 => exact rfl); (case hole3k2 => exact rfl); k_whole))
  k_with "call type:type" => (k_here; (with_reducible show wpAny _ _ (call _ [Value.bytes _ _]) _ _ _); refine call_type_of (Tx := "bytes") rfl (by decide +kernel) ?_)
  k_with "kba_in" => first | assumption | (refine in_snoc ?_ ?_; (focus (first | k_extra "kba_in" | kba_in)); (first | exact byte_in _ | decide | omega))
  k_with "kba_ints" => first | assumption | (refine ints_snoc ?_; (first | k_extra "kba_ints" | kba_listInts))
  k_with "call type:bytes" => (k_here; (with_reducible show wpAny _ _ (call (Value.type "bytes") [Value.ref _]) _ _ _); (rename News _ _ _ _ => nE'); (simp only [List.push_toArray] at nE'); k_dflt (refine' KBa.make_K ?hole7kbaF nE' ?hole7kbah ?hole7kbal ?hole7kbai ?hole7kbar ?hole7kban ?_; (case hole7kbaF => k_asm); (case hole7kbah => rfl); (case hole7kbal => exact News.isList nE' (by k_mem)); (case hole7kbai => first | k_extra "kba_ints" | kba_listInts); (case hole7kbar => first | k_extra "kba_in" | kba_in); (case hole7kban => kba_size)); intro _ _ _ F' N' kbaIn)
  k_with "binaryOp FloorDiv int int" => (k_here; first | (with_reducible refine floordiv_int (powN_ne (b := 256) (by decide) _) ?_ (Or.inl (pow256_py ?hole8kbp)); (case hole8kbp => omega)) | (with_reducible refine floordiv_int (powN_ne (b := 64) (by decide) _) ?_ (Or.inl (pow64_py ?hole8kbp)); (case hole8kbp => omega)))
  k_with "call builtin:len" => (k_here; (with_reducible show wpAny _ _ (call (Value.builtin "len") [Value.bytes _ _]) _ _ _); refine len_B ?hole9kl ?_; (case hole9kl => first | exact Nat.le_trans (Small.le (by assumption)) (by decide) | omega))
  k_with "call ref" => (k_here; (k_dflt (refine' Ctr.use (abuf_ctr _ _ _ _ _ _) ?hole10k1 ?hole10k2 ?hole10k3 ?hole10k4 ?hole10k5 ?hole10kK ?hole10kd ?hole10ku ?_; (case hole10k1 => k_asm); (case hole10k2 => k_asm); (case hole10k3 => k_asm); (case hole10k4 => k_asm); (case hole10k5 => k_asm); (case hole10kK => first | exact rfl | assumption); (case hole10kd => first | exact Nat.le_of_ble_eq_true rfl | exact room1 (by assumption) rfl | exact room2 (by assumption) rfl | ktr_room); (case hole10ku => first | exact Nat.le_of_ble_eq_true rfl | exact room1 (by assumption) rfl | exact room2 (by assumption) rfl | ktr_units); k_whole); intro _ _ _ hv' _ _; (first | (obtain ⟨_, hv'⟩ := hv'; subst hv') | subst hv'); (try k_sweep)))
  k_with "call ref" => (k_here; (k_dflt (refine' Ctr.use (truth_ctr _ _ _ _) ?hole11k1 ?hole11k2 ?hole11k3 ?hole11k4 ?hole11k5 ?hole11kK ?hole11kd ?hole11ku ?_; (case hole11k1 => k_asm); (case hole11k2 => k_asm); (case hole11k3 => k_asm); (case hole11k4 => k_asm); (case hole11k5 => k_asm); (case hole11kK => first | exact rfl | assumption); (case hole11kd => first | exact Nat.le_of_ble_eq_true rfl | exact room1 (by assumption) rfl | exact room2 (by assumption) rfl | ktr_room); (case hole11ku => first | exact Nat.le_of_ble_eq_true rfl | exact room1 (by assumption) rfl | exact room2 (by assumption) rfl | ktr_units); k_whole); intro _ _ _ hv' _ _; (first | (obtain ⟨_, hv'⟩ := hv'; subst hv') | subst hv'); (try k_sweep)))
  k_with "call ref" => (k_here; (k_dflt (refine' Ctr.use (b64v_ctr _ _ _ _ _ _ (by exact ⟨by assumption, by assumption⟩)) ?hole12k1 ?hole12k2 ?hole12k3 ?hole12k4 ?hole12k5 ?hole12kK ?hole12kd ?hole12ku ?_; (case hole12k1 => k_asm); (case hole12k2 => k_asm); (case hole12k3 => k_asm); (case hole12k4 => k_asm); (case hole12k5 => k_asm); (case hole12kK => first | exact rfl | assumption); (case hole12kd => first | exact Nat.le_of_ble_eq_true rfl | exact room1 (by assumption) rfl | exact room2 (by assumption) rfl | ktr_room); (case hole12ku => first | exact Nat.le_of_ble_eq_true rfl | exact room1 (by assumption) rfl | exact room2 (by assumption) rfl | ktr_units); k_whole); intro _ _ _ hv' _ _; (first | (obtain ⟨_, hv'⟩ := hv'; subst hv') | subst hv'); (try k_sweep)))
  k_with "call ref" => (k_here; (k_dflt (refine' Ctr.use (bfd_ctr _ _ _ _ _ _) ?hole13k1 ?hole13k2 ?hole13k3 ?hole13k4 ?hole13k5 ?hole13kK ?hole13kd ?hole13ku ?_; (case hole13k1 => k_asm); (case hole13k2 => k_asm); (case hole13k3 => k_asm); (case hole13k4 => k_asm); (case hole13k5 => k_asm); (case hole13kK => first | exact rfl | assumption); (case hole13kd => first | exact Nat.le_of_ble_eq_true rfl | exact room1 (by assumption) rfl | exact room2 (by assumption) rfl | ktr_room); (case hole13ku => first | exact Nat.le_of_ble_eq_true rfl | exact room1 (by assumption) rfl | exact room2 (by assumption) rfl | ktr_units); k_whole); intro _ _ _ hv' _ _; (first | (obtain ⟨_, hv'⟩ := hv'; subst hv') | subst hv'); (try k_sweep)))
  k_with "call ref" => (k_here; (k_dflt (refine' Ctr.use (a2b_ctr _ _ _ _ _ _ (by assumption)) ?hole14k1 ?hole14k2 ?hole14k3 ?hole14k4 ?hole14k5 ?hole14kK ?hole14kd ?hole14ku ?_; (case hole14k1 => k_asm); (case hole14k2 => k_asm); (case hole14k3 => k_asm); (case hole14k4 => k_asm); (case hole14k5 => k_asm); (case hole14kK => first | exact rfl | assumption); (case hole14kd => first | exact Nat.le_of_ble_eq_true rfl | exact room1 (by assumption) rfl | exact room2 (by assumption) rfl | ktr_room); (case hole14ku => first | exact Nat.le_of_ble_eq_true rfl | exact room1 (by assumption) rfl | exact room2 (by assumption) rfl | ktr_units); k_whole); intro _ _ _ hv' _ _; (first | (obtain ⟨_, hv'⟩ := hv'; subst hv') | subst hv'); (try k_sweep)))
  k_dflt (refine' ctr_of (binds := [(Str.ofString "s", .bytes b tk), (Str.ofString "altchars", .none), (Str.ofString "validate", .bool false)]) ?k6 ?k7 ?k9 ?kB ?_ ?c2 ?c3 ?c4 ?c5; (case k6 => k_is); (case k7 => k_is); (case k9 => intro s X; exact binds_K X rfl (by k_is) rfl rfl rfl); (case kB => exact locs rfl); (case c5 => decide); (case c2 => exact rfl); (case c3 => exact rfl); (case c4 => exact rfl); k_whole)
  intro dp un gd cn cs a ccd cl outer base L s g L' h₁ Q F' N' B' X' T' hkc hD hU ret
  k_extra "steps"
  exact ret _ _ _ _ (by assumption) ⟨_, rfl⟩

end Mine
end

section
open PySem PySem.W PySem.Calls PyProof.Rows
set_option Elab.async false
set_option maxRecDepth 100000
set_option maxHeartbeats 8000000
namespace Mine

example : (fun (_ : OpenLaw) (_ : Params → Frag) => True) PySem.Challenge.rw_qh0114_01 hd.heap_39 := by
  k_fill; trivial


noncomputable def le4 (c : Nat) : List Nat := [c % 256, c / 256 % 256, c / 65536 % 256, c / 16777216 % 256]
noncomputable def encOf (l : List Nat) : List Nat := b2aFin (b2aSt l)

theorem oct_byteArr {ns : List Int} (h : KBa.In ns) : oct (byteArr ns) = nats ns := by
  unfold oct byteArr nats
  rw [List.map_map]
  refine List.map_congr_left fun n hn => ?_
  have hb := h n hn
  show (n.toNat.toUInt8).toNat = n.toNat
  rw [Nat.toUInt8, UInt8.toNat_ofNat']
  omega
theorem oct_arr {l : List Nat} (h : ∀ x ∈ l, x < 256) : oct (arr l) = l := by
  unfold arr
  rw [oct_byteArr]
  · unfold nats
    rw [List.map_map]
    exact (List.map_congr_left (g := id) fun x _ => by simp).trans (List.map_id _)
  · intro n hn
    obtain ⟨x, hx, rfl⟩ := List.mem_map.mp hn
    have := h x hx
    omega
theorem seal_end {c : Int} (hc : 0 ≤ c) (hi : KBa.In (List.map (fun k' => (c.fdiv (256 ^ k'.toNat)).fmod 256) (rangeKs 0 (4 - 0 : Int).toNat))) :
    oct (byteArr (List.map (fun k' => (c.fdiv (256 ^ k'.toNat)).fmod 256) (rangeKs 0 (4 - 0 : Int).toNat))) = le4 c.toNat := by
  rw [oct_byteArr hi]
  obtain ⟨n, rfl⟩ : ∃ n : Nat, c = (n : Int) := ⟨c.toNat, by omega⟩
  rw [Int.toNat_natCast]
  have e : ∀ k : Nat, (((n : Int).fdiv (256 ^ k)).fmod 256).toNat = n / 256 ^ k % 256 := by
    intro k
    have e1 : (256 : Int) ^ k = ((256 ^ k : Nat) : Int) := by simp
    have e2 : (256 : Int) = ((256 : Nat) : Int) := rfl
    rw [e1, fdiv_nat]
    show (Int.fmod ((n / 256 ^ k : Nat) : Int) ((256 : Nat) : Int)).toNat = _
    rw [fmod_nat, Int.toNat_natCast]
  have r : rangeKs 0 (4 - 0 : Int).toNat = [0, 1, 2, 3] := by decide
  rw [r]
  show [(((n : Int).fdiv (256 ^ 0)).fmod 256).toNat, (((n : Int).fdiv (256 ^ 1)).fmod 256).toNat, (((n : Int).fdiv (256 ^ 2)).fmod 256).toNat, (((n : Int).fdiv (256 ^ 3)).fmod 256).toNat] = _
  rw [e, e, e, e]
  simp [le4]

theorem seal_ctr (w : World) (mean : ExcName → Option Value) (mg mb : Str → Option Value) (c : Int) (tk : Tok) (hc : 0 ≤ c) : Ctr w mean mg mb 10 120 135 [.int c tk] [] (fun v => ∃ t, v = .bytes (arr (encOf (le4 c.toNat))) t) := by
  k_with_none
  k_with "steps" => repeat' ((fail_if_success (with_reducible show wpAny _ _ (pyIter _) _ _ _)); first | (k_unfold; (try dsimp only)) | walk1 | (dsimp only; walk1) | fail "no step")
  k_with "exec For" => (k_here; (rename Fr _ _ _ _ => lF'); (with_unfolding_all refine' For_invVF lF' ?hole1k1 ?hole1k2 ?_; (case hole1k1 => exact rfl); (case hole1k2 => exact rfl); k_whole))
  k_with "exec For Name Call cons nil" => (k_here; (rename Fr _ _ _ _ => lF'); (with_unfolding_all refine' For_invVF lF' ?hole2k1 ?hole2k2 ?_; (case hole2k1 => exact rfl); (case hole2k2 => exact rfl); k_whole))
  k_with "exec For Name Name cons nil" => (k_here; (rename Fr _ _ _ _ => lF'); (with_unfolding_all refine' For_invVF lF' ?hole3k1 ?hole3k2 ?_; (case hole3k1 => exact rfl); (case hole3k2 => exact rfl); k_whole))
  k_with "call type:type" => (k_here; (with_reducible show wpAny _ _ (call _ [Value.bytes _ _]) _ _ _); refine call_type_of (Tx := "bytes") rfl (by decide +kernel) ?_)
  k_with "kba_in" => first | assumption | (refine in_snoc ?_ ?_; (focus (first | k_extra "kba_in" | kba_in)); (first | exact byte_in _ | decide | omega))
  k_with "kba_ints" => first | assumption | (refine ints_snoc ?_; (first | k_extra "kba_ints" | kba_listInts))
  k_with "call type:bytes" => (k_here; (with_reducible show wpAny _ _ (call (Value.type "bytes") [Value.ref _]) _ _ _); (rename News _ _ _ _ => nE'); (simp only [List.push_toArray] at nE'); k_dflt (refine' KBa.make_K ?hole7kbaF nE' ?hole7kbah ?hole7kbal ?hole7kbai ?hole7kbar ?hole7kban ?_; (case hole7kbaF => k_asm); (case hole7kbah => rfl); (case hole7kbal => exact News.isList nE' (by k_mem)); (case hole7kbai => first | k_extra "kba_ints" | kba_listInts); (case hole7kbar => first | k_extra "kba_in" | kba_in); (case hole7kban => kba_size)); intro _ _ _ F' N' kbaIn)
  k_with "binaryOp FloorDiv int int" => (k_here; first | (with_reducible refine floordiv_int (powN_ne (b := 256) (by decide) _) ?_ (Or.inl (pow256_py ?hole8kbp)); (case hole8kbp => omega)) | (with_reducible refine floordiv_int (powN_ne (b := 64) (by decide) _) ?_ (Or.inl (pow64_py ?hole8kbp)); (case hole8kbp => omega)))
  k_with "call builtin:len" => (k_here; (with_reducible show wpAny _ _ (call (Value.builtin "len") [Value.bytes _ _]) _ _ _); refine len_B ?hole9kl ?_; (case hole9kl => first | exact Nat.le_trans (Small.le (by assumption)) (by decide) | omega))
  k_with "call ref" => (k_here; (k_dflt (refine' Ctr.use (enc_ctr _ _ _ _ _ _ (by first | assumption | (refine ⟨?_⟩; rw [byteArr_size]; (try simp only [List.length_map, rangeKs_length]); omega))) ?hole10k1 ?hole10k2 ?hole10k3 ?hole10k4 ?hole10k5 ?hole10kK ?hole10kd ?hole10ku ?_; (case hole10k1 => k_asm); (case hole10k2 => k_asm); (case hole10k3 => k_asm); (case hole10k4 => k_asm); (case hole10k5 => k_asm); (case hole10kK => first | exact rfl | assumption); (case hole10kd => first | exact Nat.le_of_ble_eq_true rfl | exact room1 (by assumption) rfl | exact room2 (by assumption) rfl | ktr_room); (case hole10ku => first | exact Nat.le_of_ble_eq_true rfl | exact room1 (by assumption) rfl | exact room2 (by assumption) rfl | ktr_units); k_whole); intro _ _ _ hv' _ _; (first | (obtain ⟨_, hv'⟩ := hv'; subst hv') | subst hv'); (try k_sweep)))
  k_dflt (refine' ctr_ofC (binds := [(Str.ofString "crc", .int c tk)]) ?k6 ?k7 ?k9 ?kB ?kD ?_ ?c2 ?c3 ?c4; (case k6 => k_is); (case k7 => k_is); (case k9 => intro s _; exact BindsTo.of_eq rfl); (case kB => exact rfl); (case kD => decide +kernel); (case c2 => exact rfl); (case c3 => exact rfl); (case c4 => exact rfl); k_whole)
  intro dp un gd cn cs a ccd cl outer base L s g L' h₁ tk' cells Q F' N' Y' B' X' T' hkc hD hU ret
  k_cells Y'
  (try simp only [List.cons_append, List.nil_append] at N')
  k_extra "steps"
  rename_i kbaIn _ _ _ _ _ _ _
  refine ret _ _ _ _ (by assumption) ?_
  exact bex (congrArg (fun x => arr (encOf x)) (seal_end hc (by assumption)))

end Mine
end

section
open PySem PySem.W PySem.Calls PyProof.Rows
set_option Elab.async false
set_option maxRecDepth 100000
set_option maxHeartbeats 8000000
namespace Mine

example : (fun (_ : OpenLaw) (_ : Params → Frag) => True) PySem.Challenge.rw_qh0114_01 hd.heap_39 := by
  k_fill; trivial



theorem iex {a b : Int} {t : Tok} (e : a = b) : ∃ t', Value.int a t = Value.int b t' := ⟨t, by rw [e]⟩
theorem le4_sum (c : Nat) (hc : c < 4294967296) : (enVals (fun i c => (c : Int) * 256 ^ i) (arr (le4 c)) (arr (le4 c)).size).sum = (c : Int) := by
  have e : oct (arr (le4 c)) = le4 c := oct_arr (by
    intro x hx
    unfold le4 at hx
    simp only [List.mem_cons, List.not_mem_nil, or_false] at hx
    rcases hx with rfl | rfl | rfl | rfl <;> exact Nat.mod_lt _ (by decide))
  have hz : (arr (le4 c)).size = 4 := by simp [arr, byteArr, le4]
  have g : ∀ i : Nat, ((arr (le4 c))[i]?.getD 0).toNat = ((le4 c)[i]?).getD 0 := by
    intro i
    have : (oct (arr (le4 c)))[i]? = (le4 c)[i]? := by rw [e]
    rw [← this]
    unfold oct
    rw [List.getElem?_map, Array.getElem?_toList]
    cases (arr (le4 c))[i]? <;> rfl
  unfold enVals
  rw [hz]
  have r : List.range 4 = [0, 1, 2, 3] := by decide
  rw [r]
  simp only [List.map_cons, List.map_nil, g]
  simp [le4]
  omega

theorem opened_ctr (w : World) (mean : ExcName → Option Value) (mg mb : Str → Option Value) (b : Array UInt8) (tk : Tok) (hb : Text b) (c : Nat) (hc : c < 4294967296) (hl : (a2bSt (oct b)).2.2.2 = le4 c) : Ctr w mean mg mb 10 120 140 [.bytes b tk] [] (fun v => ∃ t, v = .int (c : Nat) t) := by
  k_with_none
  k_with "steps" => repeat' ((fail_if_success (with_reducible show wpAny _ _ (pyIter _) _ _ _)); first | (k_unfold; (try dsimp only)) | walk1 | (dsimp only; walk1) | fail "no step")
  k_with "exec For" => (k_here; (rename Fr _ _ _ _ => lF'); (with_unfolding_all refine' For_invVF lF' ?hole1k1 ?hole1k2 ?_; (case hole1k1 => exact rfl); (case hole1k2 => exact rfl); k_whole))
  k_with "exec For Name Call cons nil" => (k_here; (rename Fr _ _ _ _ => lF'); (with_unfolding_all refine' For_invVF lF' ?hole2k1 ?hole2k2 ?_; (case hole2k1 => exact rfl); (case hole2k2 => exact rfl); k_whole))
  k_with "exec For Name Name cons nil" => (k_here; (rename Fr _ _ _ _ => lF'); (with_unfolding_all refine' For_invVF lF' ?hole3k1 ?hole3k2 ?_; (case hole3k1 => exact rfl); (case hole3k2 => exact rfl); k_whole))
  k_with "call type:type" => (k_here; (with_reducible show wpAny _ _ (call _ [Value.bytes _ _]) _ _ _); refine call_type_of (Tx := "bytes") rfl (by decide +kernel) ?_)
  k_with "kba_in" => first | assumption | (refine in_snoc ?_ ?_; (focus (first | k_extra "kba_in" | kba_in)); (first | exact byte_in _ | decide | omega))
  k_with "kba_ints" => first | assumption | (refine ints_snoc ?_; (first | k_extra "kba_ints" | kba_listInts))
  k_with "call type:bytes" => (k_here; (with_reducible show wpAny _ _ (call (Value.type "bytes") [Value.ref _]) _ _ _); (rename News _ _ _ _ => nE'); (simp only [List.push_toArray] at nE'); k_dflt (refine' KBa.make_K ?hole7kbaF nE' ?hole7kbah ?hole7kbal ?hole7kbai ?hole7kbar ?hole7kban ?_; (case hole7kbaF => k_asm); (case hole7kbah => rfl); (case hole7kbal => exact News.isList nE' (by k_mem)); (case hole7kbai => first | k_extra "kba_ints" | kba_listInts); (case hole7kbar => first | k_extra "kba_in" | kba_in); (case hole7kban => kba_size)); intro _ _ _ F' N' kbaIn)
  k_with "binaryOp FloorDiv int int" => (k_here; first | (with_reducible refine floordiv_int (powN_ne (b := 256) (by decide) _) ?_ (Or.inl (pow256_py ?hole8kbp)); (case hole8kbp => omega)) | (with_reducible refine floordiv_int (powN_ne (b := 64) (by decide) _) ?_ (Or.inl (pow64_py ?hole8kbp)); (case hole8kbp => omega)))
  k_with "call builtin:len" => (k_here; (with_reducible show wpAny _ _ (call (Value.builtin "len") [Value.bytes _ _]) _ _ _); refine len_B ?hole9kl ?_; (case hole9kl => first | exact Nat.le_trans (Small.le (by assumption)) (by decide) | omega))
  k_with "call ref" => (k_here; (k_dflt (refine' Ctr.use (dec_ctr _ _ _ _ _ _ (by assumption)) ?hole10k1 ?hole10k2 ?hole10k3 ?hole10k4 ?hole10k5 ?hole10kK ?hole10kd ?hole10ku ?_; (case hole10k1 => k_asm); (case hole10k2 => k_asm); (case hole10k3 => k_asm); (case hole10k4 => k_asm); (case hole10k5 => k_asm); (case hole10kK => first | exact rfl | assumption); (case hole10kd => first | exact Nat.le_of_ble_eq_true rfl | exact room1 (by assumption) rfl | exact room2 (by assumption) rfl | ktr_room); (case hole10ku => first | exact Nat.le_of_ble_eq_true rfl | exact room1 (by assumption) rfl | exact room2 (by assumption) rfl | ktr_units); k_whole); intro _ _ _ hv' _ _; (first | (obtain ⟨_, hv'⟩ := hv'; subst hv') | subst hv'); (try k_sweep)))
  k_with "eval ListComp" => (k_here; (with_reducible show wpAny _ _ (eval (Expr.ListComp _ [⟨Expr.Tuple _ _ _, _, _, _⟩] _ _) _) _ _ _); k_dflt (refine comp_enum (N := 10) (by decide) (fun i c => (c : Int) * 256 ^ i) rfl (by with_unfolding_all rfl) (by decide) (by rfl) (by decide) (by rfl) (by rfl) (by decide) (fun C m₂ s i c t t' Q E hn hk ho hi hc h => el_mul (by rfl) (by rfl) (by rfl) hn hk ho hi hc (by decide) (by decide) h) ?_))
  k_with "call type:enumerate" => (k_here; (with_reducible show wpAny _ _ (call _ [Value.bytes _ _]) _ _ _); refine call_enumB ?_; intro hE' enE' enI' enZ' enK')
  k_dflt (refine' ctr_of (binds := [(Str.ofString "seal", .bytes b tk)]) ?k6 ?k7 ?k9 ?kB ?_ ?c2 ?c3 ?c4 ?c5; (case k6 => k_is); (case k7 => k_is); (case k9 => intro s _; exact BindsTo.of_eq rfl); (case kB => exact locs rfl); (case c5 => decide); (case c2 => exact rfl); (case c3 => exact rfl); (case c4 => exact rfl); k_whole)
  intro dp un gd cn cs a ccd cl outer base L s g L' h₁ Q F' N' B' X' T' hkc hD hU ret
  k_extra "steps"
  refine srcEn_of (by assumption) (by assumption) (by assumption) (by assumption) (by assumption) (by assumption) ?_ ?_
  · rw [hl]; simp [arr, byteArr, le4]
  · intro D hD' tkD ys FD ND ltD hI
    dsimp only
    k_extra "steps"
    exact ret _ _ _ _ (by assumption) (iex (by rw [hl]; exact le4_sum c hc))
end Mine
end

section
open PySem PySem.W PySem.Calls PyProof.Rows
set_option Elab.async false
set_option maxRecDepth 100000
set_option maxHeartbeats 8000000
namespace Mine

example : (fun (_ : OpenLaw) (_ : Params → Frag) => True) PySem.Challenge.rw_qh0114_01 hd.heap_39 := by
  k_fill; trivial


theorem in4 {k : Int} (h : k ∈ [3, 2, 1, 0]) : 0 ≤ k ∧ k ≤ 3 := by
  simp only [List.mem_cons, List.not_mem_nil, or_false] at h
  omega
theorem range3_size (n : Nat) (h : n % 3 = 0) : Builtin.Range.rangeSize 0 (n : Int) 3 = ((n / 3 : Nat) : Int) := by
  unfold Builtin.Range.rangeSize
  rw [if_pos (by decide)]
  split <;> omega
theorem fitsL {i : Int} (h1 : -1000000 ≤ i) (h2 : i ≤ 1000000) : Builtin.Range.rangeFitsLong i = true := by
  unfold Builtin.Range.rangeFitsLong
  rw [Bool.and_eq_true]
  exact ⟨decide_eq_true (by omega), decide_eq_true (by omega)⟩
theorem range3_small (n : Nat) (h3 : n % 3 = 0) (h : n ≤ 100000) : Builtin.Range.small 0 (n : Int) 3 = true := by
  unfold Builtin.Range.small
  rw [range3_size n h3, fitsL (by omega) (by omega), fitsL (by omega) (by omega), fitsL (by omega) (by omega), fitsL (by omega) (by omega), if_pos (by decide), fitsL (by omega) (by omega)]
  simp
theorem idxm (x : Int) : 0 ≤ x.fmod 64 ∧ x.fmod 64 < 64 := ⟨fmod_lo _ (by decide), fmod_hi _ (by decide)⟩
theorem item_B {prog : Program} {w : World} {A : Around} {E : Value → Shared → Prop} {s : Shared} {b : Array UInt8} {i : Int} {t ui : Tok} {value slice : Expr} {Q : Value → Shared → Prop} (hfit : b.size ≤ 100000) (h0 : 0 ≤ i) (h1 : i < (b.size : Int))
    (h : ∀ x : Nat, x < 256 → x = (oct b).getD i.toNat 0 → Q (.int (x : Int) s.toks) { s with toks := s.toks + 1 })
    (hs : subscripted slice false (.bytes b t) (.int i ui) = operate [.bytes b t, .int i ui] (getItem (.bytes b t) (.int i ui)) := by with_unfolding_all rfl)
    (ht : ∀ r, letTemporaryGo value (.bytes b t) r = pure () := by intro _; with_unfolding_all rfl) :
    wpAny (model prog w) A (subscriptTail value slice (.bytes b t) (.int i ui)) Q E s := by
  obtain ⟨l⟩ := b
  refine KBy.item_N (x := l) (by have : l.length ≤ 100000 := hfit; omega) h0 h1 ?_ hs ht
  refine h _ (UInt8.toNat_lt _) ?_
  unfold oct
  rw [List.getD_eq_getElem?_getD, List.getD_eq_getElem?_getD, List.getElem?_map]
  cases l[i.toNat]? <;> rfl

noncomputable def quad (row : List Nat) (i : Nat) : List Nat :=
  let g := row.getD (3 * i) 0 * 65536 + row.getD (3 * i + 1) 0 * 256 + row.getD (3 * i + 2) 0
  [sg (g / 262144 % 64), sg (g / 4096 % 64), sg (g / 64 % 64), sg (g % 64)]
noncomputable def wrSt (row : List Nat) : Nat → List Nat
  | 0 => []
  | n + 1 => wrSt row n ++ quad row n
noncomputable def WrInv (row : List Nat) (pre : List Int) (text : List Int) : Prop := text = (wrSt row pre.length).map (fun (x : Nat) => (x : Int)) ∧ text.length = 4 * pre.length
theorem wr_start (row : List Nat) : WrInv row [] [] := ⟨rfl, rfl⟩

theorem tooLong_no {n : Nat} (h : n ≤ 1000000) : Builtin.List.listTooLong n = false := by
  unfold Builtin.List.listTooLong
  exact decide_eq_false (by rw [sizeLine_eq]; omega)
theorem wr_turn {row : List Nat} {pre : List Int} {ns : List Int} {k : Int} {x y z : Nat} (h : WrInv row pre ns) (hk : k = 0 + (pre.length : Int) * 3) (hx : x = row.getD k.toNat 0) (hy : y = row.getD (k + 1).toNat 0) (hz : z = row.getD (k + 2).toNat 0) :
    WrInv row (pre ++ [k]) (ns ++ List.map (fun k' : Int => if 0 ≤ k' ∧ k' ≤ 3 then (((tab.getD ((((x : Int) * 65536 + (y : Int) * 256 + (z : Int)).fdiv (64 ^ k'.toNat)).fmod 64).toNat 0).toNat : Nat) : Int) else k') [3, 2, 1, 0]) := by
  obtain ⟨h1, h2⟩ := h
  have e0 : k.toNat = 3 * pre.length := by omega
  have e1 : (k + 1).toNat = 3 * pre.length + 1 := by omega
  have e2 : (k + 2).toNat = 3 * pre.length + 2 := by omega
  rw [e0] at hx
  rw [e1] at hy
  rw [e2] at hz
  have eg : (x : Int) * 65536 + (y : Int) * 256 + (z : Int) = ((x * 65536 + y * 256 + z : Nat) : Int) := by omega
  have ei : ∀ j : Nat, ((((x : Int) * 65536 + (y : Int) * 256 + (z : Int)).fdiv (64 ^ j)).fmod 64).toNat = (x * 65536 + y * 256 + z) / 64 ^ j % 64 := by
    intro j
    have e : (64 : Int) ^ j = ((64 ^ j : Nat) : Int) := by simp
    rw [eg, e, fdiv_nat]
    show (Int.fmod _ ((64 : Nat) : Int)).toNat = _
    rw [fmod_nat, Int.toNat_natCast]
  refine ⟨?_, by simp only [List.length_append, List.length_map, List.length_cons, List.length_nil]; omega⟩
  have el : (pre ++ [k]).length = pre.length + 1 := by simp
  rw [el, wrSt, List.map_append, h1]
  congr 1
  simp only [List.map_cons, List.map_nil]
  rw [if_pos (by decide), if_pos (by decide), if_pos (by decide), if_pos (by decide)]
  show [(((tab.getD ((((x : Int) * 65536 + (y : Int) * 256 + (z : Int)).fdiv (64 ^ 3)).fmod 64).toNat 0).toNat : Nat) : Int), (((tab.getD ((((x : Int) * 65536 + (y : Int) * 256 + (z : Int)).fdiv (64 ^ 2)).fmod 64).toNat 0).toNat : Nat) : Int),
    (((tab.getD ((((x : Int) * 65536 + (y : Int) * 256 + (z : Int)).fdiv (64 ^ 1)).fmod 64).toNat 0).toNat : Nat) : Int), (((tab.getD ((((x : Int) * 65536 + (y : Int) * 256 + (z : Int)).fdiv (64 ^ 0)).fmod 64).toNat 0).toNat : Nat) : Int)] = _
  rw [ei, ei, ei, ei, hx, hy, hz]
  simp [quad, sg]
theorem wrSt_lt (row : List Nat) : ∀ n, ∀ x ∈ wrSt row n, x < 256
  | 0, _, h => nomatch h
  | n + 1, x, h => by
    rcases List.mem_append.mp h with h | h
    · exact wrSt_lt row n x h
    · simp only [quad, List.mem_cons, List.not_mem_nil, or_false] at h
      rcases h with rfl | rfl | rfl | rfl <;> exact sg_lt _
theorem wr_in {row : List Nat} {pre : List Int} {ns : List Int} (h : WrInv row pre ns) : KBa.In ns := by
  intro n hn
  rw [h.1] at hn
  obtain ⟨x, hx, rfl⟩ := List.mem_map.mp hn
  have := wrSt_lt row _ x hx
  omega

theorem written_ctr (w : World) (mean : ExcName → Option Value) (mg mb : Str → Option Value) (b : Array UInt8) (tk : Tok) (hb : Small b) (h3 : b.size % 3 = 0) : Ctr w mean mg mb 4 40 145 [.bytes b tk] [] (fun v => ∃ t, v = .bytes (arr (wrSt (oct b) (b.size / 3))) t) := by
  k_with_none
  k_with "steps" => repeat' ((fail_if_success (with_reducible show wpAny _ _ (pyIter _) _ _ _)); first | (k_unfold; (try dsimp only)) | walk1 | (dsimp only; walk1) | fail "no step")
  k_with "exec For" => (k_here; (rename Fr _ _ _ _ => lF'); (with_unfolding_all refine' For_invVF lF' ?hole1k1 ?hole1k2 ?_; (case hole1k1 => exact rfl); (case hole1k2 => exact rfl); k_whole))
  k_with "exec For Name Call cons nil" => (k_here; (rename Fr _ _ _ _ => lF'); (with_unfolding_all refine' For_invVF lF' ?hole2k1 ?hole2k2 ?_; (case hole2k1 => exact rfl); (case hole2k2 => exact rfl); k_whole))
  k_with "exec For Name Name cons nil" => (k_here; (rename Fr _ _ _ _ => lF'); (with_unfolding_all refine' For_invVF lF' ?hole3k1 ?hole3k2 ?_; (case hole3k1 => exact rfl); (case hole3k2 => exact rfl); k_whole))
  k_with "call type:type" => (k_here; (with_reducible show wpAny _ _ (call _ [Value.bytes _ _]) _ _ _); refine call_type_of (Tx := "bytes") rfl (by decide +kernel) ?_)
  k_with "kba_in" => first | assumption | (refine in_snoc ?_ ?_; (focus (first | k_extra "kba_in" | kba_in)); (first | exact byte_in _ | decide | omega))
  k_with "kba_ints" => first | assumption | (refine ints_snoc ?_; (first | k_extra "kba_ints" | kba_listInts))
  k_with "call type:bytes" => (k_here; (with_reducible show wpAny _ _ (call (Value.type "bytes") [Value.ref _]) _ _ _); (rename News _ _ _ _ => nE'); (simp only [List.push_toArray] at nE'); k_dflt (refine' KBa.make_K ?hole7kbaF nE' ?hole7kbah ?hole7kbal ?hole7kbai ?hole7kbar ?hole7kban ?_; (case hole7kbaF => k_asm); (case hole7kbah => rfl); (case hole7kbal => exact News.isList nE' (by k_mem)); (case hole7kbai => first | k_extra "kba_ints" | kba_listInts); (case hole7kbar => first | k_extra "kba_in" | kba_in); (case hole7kban => kba_size)); intro _ _ _ F' N' kbaIn)
  k_with "binaryOp FloorDiv int int" => (k_here; first | (with_reducible refine floordiv_int (powN_ne (b := 256) (by decide) _) ?_ (Or.inl (pow256_py ?hole8kbp)); (case hole8kbp => omega)) | (with_reducible refine floordiv_int (powN_ne (b := 64) (by decide) _) ?_ (Or.inl (pow64_py ?hole8kbp)); (case hole8kbp => omega)))
  k_with "call builtin:len" => (k_here; (with_reducible show wpAny _ _ (call (Value.builtin "len") [Value.bytes _ _]) _ _ _); refine len_B ?hole9kl ?_; (case hole9kl => first | exact Nat.le_trans (Small.le (by assumption)) (by decide) | omega))
  k_with "eval ListComp" => (k_here; (with_reducible show wpAny _ _ (eval (Expr.ListComp _ [⟨Expr.Name _ _, Expr.List _ _, _, _⟩] _ _) _) _ _ _); k_dflt (refine LCg.ListComp_U (F₀ := by k_asm) (by with_unfolding_all rfl) (by decide) (by rfl) (by decide) (by rfl) ?_))
  k_with "steps" => repeat' ((fail_if_success (with_reducible show wpAny _ _ (pyIter _) _ _ _)); (fail_if_success (with_reducible show InvEndN _ _ _ _ _ _ _)); first | (k_unfold; (try dsimp only)) | walk1 | (dsimp only; walk1) | fail "no step")
  k_with "CompSrc" => (k_here; k_dflt (refine LCg.CompSrc.ledger (by rfl) (by k_asm) (by k_asm) (by k_mem) (by exact Nat.le_of_ble_eq_true rfl) ?_; intro g'; (refine' kcf_list (ns := [3, 2, 1, 0]) _ (.cons _ _ (.cons _ _ (.cons _ _ (.cons _ _ .nil)))) (fun k' t' I' oI' C' oC' D' m' ys' h' tk' E' hk' hC' hx' F' N' off' ne' hMark' => ?_) ?_); (all_goals (try (simp only [LCg.Off3, and_true] at off'))); (all_goals (try (have hk2' := in4 hk'))); kcf_last))
  k_with "subscriptTail" => (k_here; (with_reducible show wpAny _ _ (subscriptTail _ _ (Value.bytes _ _) (Value.int _ _)) _ _ _); first | refine KBy.item_N (by decide) (idxm _).1 (idxm _).2 ?_ | (refine item_B (Small.le (by assumption)) ?hole13h0 ?hole13h1 ?_; (case hole13h0 => omega); (case hole13h1 => omega); intro x' hx' hxe'))
  k_dflt (refine' ctr_ofC (binds := [(Str.ofString "row", .bytes b tk)]) ?k6 ?k7 ?k9 ?kB ?kD ?_ ?c2 ?c3 ?c4; (case k6 => k_is); (case k7 => k_is); (case k9 => intro s _; exact BindsTo.of_eq rfl); (case kB => exact rfl); (case kD => decide +kernel); (case c2 => exact rfl); (case c3 => exact rfl); (case c4 => exact rfl); k_whole)
  intro dp un gd cn cs a ccd cl outer base L s g L' h₁ tk' cells Q F' N' Y' B' X' T' hkc hD hU ret
  k_cells Y'
  (try simp only [List.cons_append, List.nil_append] at N')
  k_extra "steps"
  (with_unfolding_all refine' m_range (n := b.size / 3) (σ := List Value × List Int × Nat × Obj) (fun c => [(_, listOf c.1.toArray c.2.2.1), (_, c.2.2.2), (_, _)]) (fun _ => []) (fun c => IntsAre c.1 c.2.1 ∧ ∃ v₀, c.2.2.2.data = .cell v₀) [] (fun pre c => WrInv (oct b) pre c.2.1) ([], [], 0, _) (by rfl) (by assumption) (range3_small _ h3 hb.le) (range3_size _ h3) (by assumption) (by assumption) ⟨.nil, _, by assumption⟩ (List.forall_mem_nil _) (wr_start _) ?_ ?_)
  · rintro ⟨vs, ns, ep, og⟩ pre k kt u kH kTk own kEq kLt kOff ⟨kI, v₀, kC⟩ kInv kFr kNews
    dsimp only at kI kC kInv kFr kNews ⊢
    try simp only [List.cons_append, List.nil_append] at kNews
    simp only [List.map_cons, List.map_nil] at kOff
    have kMark := kstMark
    have kLen2 := kI.length
    have kLen3 := kInv.2
    have hle := hb.le
    refine absQ fun Qo hQo => ?_
    k_extra "steps"
    rename IntsAre _ (List.map _ _) => hI8
    have hy4 := hI8.length
    rw [List.length_map] at hy4
    (k_dflt (refine' kl_extend ?F ?N ?b ?e ?ne ?U ?d ?z ?y ?_; (case F => k_asm); (case N => k_asm); (case b => k_mem); (case U => k_upd); (case e => exact rfl)))
    case ne => exact fun h0 => absurd (hy4.symm.trans h0) (by decide)
    case d => rw [tooLong_no (by rw [List.size_toArray, List.size_toArray, hy4]; show _ + 4 ≤ _; omega), Bool.and_false]; exact Bool.false_ne_true
    case z => show vs.length ≤ sizeLine; rw [sizeLine_eq]; omega
    case y => rw [List.size_toArray, List.size_toArray, sizeLine_eq, hy4]; show _ + 4 ≤ _; omega
    intro h' F' N'
    k_extra "steps"
    refine hQo _ _ ?_
    refine kst_end (vs ++ _, ns ++ _, _, _) F' N' (by kst_in) (by intro p hp; kst_mem) (by rfl) ⟨IntsAre.append kI hI8, _, by assumption⟩ (List.forall_mem_nil _) (fun z h1 _ _ => by show (if z = _ then _ else _) = _; rw [if_neg h1]; rfl) (wr_turn kInv kEq (by assumption) (by assumption) (by assumption))
  · rintro ⟨vs, ns, ep, og⟩ u kH kTk pre kLen ⟨kI, v₀, kC⟩ kInv kFr kNews
    dsimp only at kI kC kInv kFr kNews ⊢
    have hin := wr_in kInv
    have kLen2 := kI.length
    have kLen3 := kInv.2
    have hle := hb.le
    k_extra "steps"
    exact ret _ _ _ _ (by assumption) (bex (by rw [kInv.1, kLen]; rfl))
end Mine
end

section
open PySem PySem.W
set_option Elab.async false
set_option maxRecDepth 100000
namespace Mine

theorem genStep_xor (a b : Nat) : genStep (a ^^^ b) = genStep a ^^^ genStep b := by
  have h1 := xor_mod2 a b
  have h2 : (a ^^^ b) / 2 = a / 2 ^^^ b / 2 := Nat.xor_div_two
  unfold genStep
  rw [h2]
  rcases Nat.mod_two_eq_zero_or_one a with e | e <;> rcases Nat.mod_two_eq_zero_or_one b with f | f
  · rw [if_neg (by omega), if_neg (by omega), if_neg (by omega)]
  · rw [if_pos (by omega), if_neg (by omega), if_pos (by omega), Nat.xor_assoc]
  · rw [if_pos (by omega), if_pos (by omega), if_neg (by omega), Nat.xor_assoc, Nat.xor_assoc, Nat.xor_comm (b / 2)]
  · rw [if_neg (by omega), if_pos (by omega), if_pos (by omega), Nat.xor_assoc, Nat.xor_comm 3988292384, Nat.xor_assoc, Nat.xor_self, Nat.xor_zero]
theorem poly_lt {c : Nat} (h : c < 4294967296) : c ^^^ 3988292384 < 4294967296 := Nat.xor_lt_two_pow (n := 32) h (by decide)
theorem genStep_lt {c : Nat} (h : c < 4294967296) : genStep c < 4294967296 := by
  unfold genStep
  split
  · exact poly_lt (by omega)
  · omega
theorem genIt_xor : ∀ n a b, genIt n (a ^^^ b) = genIt n a ^^^ genIt n b
  | 0, _, _ => rfl
  | n + 1, a, b => by rw [genIt, genIt, genIt, genIt_xor n, genStep_xor]
theorem genIt_lt {c : Nat} (h : c < 4294967296) : ∀ n, genIt n c < 4294967296
  | 0 => h
  | n + 1 => genStep_lt (genIt_lt h n)
theorem genIt_add (m : Nat) (c : Nat) : ∀ n, genIt (m + n) c = genIt n (genIt m c)
  | 0 => rfl
  | n + 1 => by rw [← Nat.add_assoc, genIt, genIt, genIt_add m c n]
theorem onIt_gen (c : Nat) : ∀ n, onIt n c = genIt (8 * n) c
  | 0 => rfl
  | n + 1 => by rw [onIt, onIt_gen c n, Nat.mul_add, Nat.mul_one, genIt_add]
theorem onIt_xor (n a b : Nat) : onIt n (a ^^^ b) = onIt n a ^^^ onIt n b := by rw [onIt_gen, onIt_gen, onIt_gen, genIt_xor]
theorem onIt_lt {c : Nat} (h : c < 4294967296) (n : Nat) : onIt n c < 4294967296 := by rw [onIt_gen]; exact genIt_lt h _
theorem onIt_succ (n c : Nat) : onIt (n + 1) c = onIt n (genIt 8 c) := by
  rw [onIt_gen, onIt_gen, Nat.mul_add, Nat.mul_one, Nat.add_comm, genIt_add]
theorem stOf_split : ∀ (r : List Nat) (c : Nat), stOf c r = onIt r.length c ^^^ stOf 0 r
  | [], c => by simp [stOf, onIt]
  | o :: r, c => by
    have e1 : stOf c (o :: r) = stOf (genIt 8 (c ^^^ o)) r := rfl
    have e2 : stOf 0 (o :: r) = stOf (genIt 8 (0 ^^^ o)) r := rfl
    rw [e1, e2, stOf_split r, stOf_split r (genIt 8 (0 ^^^ o)), Nat.zero_xor, List.length_cons, onIt_succ, genIt_xor, onIt_xor]
    rw [Nat.xor_assoc]
theorem stOf_append (c : Nat) (w r : List Nat) : stOf c (w ++ r) = stOf (stOf c w) r := by simp [stOf, List.foldl_append]
theorem stOf_lt : ∀ (r : List Nat) (c : Nat), c < 4294967296 → (∀ x ∈ r, x < 256) → stOf c r < 4294967296
  | [], c, h, _ => h
  | o :: r, c, h, hr => by
    have ho := hr o (.head _)
    refine stOf_lt r _ (genIt_lt (Nat.xor_lt_two_pow (n := 32) h (by omega)) 8) fun x hx => hr x (.tail _ hx)
theorem ones_sub : ∀ (n x : Nat), x < 2 ^ n → 2 ^ n - 1 - x = (2 ^ n - 1) ^^^ x := by
  intro n
  induction n with
  | zero => intro x h; have : x = 0 := by omega
            subst this; decide
  | succ n ih =>
    intro x h
    have e : 2 ^ (n + 1) = 2 * 2 ^ n := by rw [Nat.pow_succ, Nat.mul_comm]
    have h0 : 0 < 2 ^ n := Nat.two_pow_pos n
    have h1 := ih (x / 2) (by omega)
    have h2 : ((2 ^ (n + 1) - 1) ^^^ x) / 2 = (2 ^ (n + 1) - 1) / 2 ^^^ x / 2 := Nat.xor_div_two
    have h3 : (2 ^ (n + 1) - 1) / 2 = 2 ^ n - 1 := by omega
    rw [h3] at h2
    have h4 := xor_mod2 (2 ^ (n + 1) - 1) x
    omega
theorem flip_eq {x : Nat} (h : x < 4294967296) : 4294967295 - x = 4294967295 ^^^ x := ones_sub 32 x h
theorem sumOf_eq {r : List Nat} (h : ∀ x ∈ r, x < 256) : sumOf r = 4294967295 ^^^ stOf 4294967295 r := flip_eq (stOf_lt r _ (by decide) h)
theorem sumOf_lt (r : List Nat) : sumOf r < 4294967296 := by unfold sumOf; omega
theorem xor_cut (a b : Nat) : a ^^^ b ^^^ b = a := by rw [Nat.xor_assoc, Nat.xor_self, Nat.xor_zero]
theorem sumOf_append {w r : List Nat} (hw : ∀ x ∈ w, x < 256) (hr : ∀ x ∈ r, x < 256) : sumOf (w ++ r) = onIt r.length (sumOf w) ^^^ sumOf r := by
  rw [sumOf_eq (fun x hx => (List.mem_append.mp hx).elim (hw x) (hr x)), sumOf_eq hw, sumOf_eq hr, stOf_append, stOf_split r (stOf _ w), stOf_split r 4294967295, onIt_xor]
  generalize onIt r.length 4294967295 = A
  generalize onIt r.length (stOf 4294967295 w) = B
  generalize stOf 0 r = C
  have e : A ^^^ B ^^^ (4294967295 ^^^ (A ^^^ C)) = 4294967295 ^^^ (B ^^^ C) := by
    apply Nat.eq_of_testBit_eq
    intro i
    simp only [Nat.testBit_xor]
    cases A.testBit i <;> cases B.testBit i <;> cases C.testBit i <;> cases Nat.testBit 4294967295 i <;> rfl
  exact e.symm
theorem back_gen {c : Nat} (h : c < 4294967296) : backStep (genStep c) = c := by
  unfold genStep
  split
  · rename_i ho
    have hd : (c / 2 ^^^ 3988292384) / 2 ^ 31 = c / 2 / 2 ^ 31 ^^^ 3988292384 / 2 ^ 31 := Nat.xor_div_two_pow
    have hz : c / 2 / 2 ^ 31 = 0 := by omega
    rw [hz] at hd
    have h3 : (0 ^^^ 3988292384 / 2 ^ 31 : Nat) = 1 := by decide
    rw [h3] at hd
    unfold backStep
    rw [if_pos (by omega), xor_cut]
    omega
  · unfold backStep
    rw [if_neg (by omega)]
    omega
theorem backIt_shift (c : Nat) : ∀ n, backIt (n + 1) c = backIt n (backStep c)
  | 0 => rfl
  | n + 1 => by rw [backIt, backIt_shift c n]; rfl
theorem backIt_genIt {c : Nat} (h : c < 4294967296) : ∀ n, backIt n (genIt n c) = c
  | 0 => rfl
  | n + 1 => by rw [backIt_shift, genIt, back_gen (genIt_lt h n), backIt_genIt h n]
theorem backIt_onIt {c : Nat} (h : c < 4294967296) (n : Nat) : backIt (8 * n) (onIt n c) = c := by rw [onIt_gen, backIt_genIt h]
theorem sum_last {w r : List Nat} (hw : ∀ x ∈ w, x < 256) (hr : ∀ x ∈ r, x < 256) : backIt (8 * r.length) (sumOf (w ++ r) ^^^ sumOf r) = sumOf w := by
  rw [sumOf_append hw hr, xor_cut, backIt_onIt (sumOf_lt w)]
theorem sum_first {w r : List Nat} (hw : ∀ x ∈ w, x < 256) (hr : ∀ x ∈ r, x < 256) : sumOf (r ++ w) ^^^ onIt w.length (sumOf r) = sumOf w := by
  rw [sumOf_append hr hw, Nat.xor_comm (onIt _ _), xor_cut]
end Mine
end

section
open PySem PySem.W
set_option Elab.async false
set_option maxRecDepth 100000
namespace Mine
theorem sg_back : ∀ i, i < 64 → b64v (sg i : Int) = i ∧ sg i ≠ 61 := by decide
noncomputable def q4 (a b c : Nat) : List Nat := [sg (a / 4), sg (a % 4 * 16 + b / 16), sg (b % 16 * 4 + c / 64), sg (c % 64)]
noncomputable def enc3 : List Nat → List Nat
  | a :: b :: c :: r => q4 a b c ++ enc3 r
  | _ => []
theorem by3 {P : List Nat → Prop} (h0 : P []) (h3 : ∀ a b c r, P r → P (a :: b :: c :: r)) : ∀ (l : List Nat), l.length % 3 = 0 → P l
  | [], _ => h0
  | [_], h => absurd h (by simp)
  | [_, _], h => absurd h (by simp)
  | a :: b :: c :: r, h => h3 a b c r (by3 h0 h3 r (by simp only [List.length_cons] at h; omega))
theorem b2a_three {lc a b c : Nat} {out : List Nat} (ha : a < 256) (hb : b < 256) (hc : c < 256) : b2aStep (b2aStep (b2aStep (lc, 0, out) a) b) c = (b * 256 + c, 0, out ++ q4 a b c) := by
  have e1 : b2aStep (lc, 0, out) a = ((lc * 256 + a) % 65536, 2, out ++ [sg (a / 4)]) := by
    unfold b2aStep
    dsimp only
    rw [if_pos rfl, show (lc * 256 + a) % 65536 / 4 % 64 = a / 4 by omega]
  have e2 : b2aStep ((lc * 256 + a) % 65536, 2, out ++ [sg (a / 4)]) b = (a * 256 + b, 4, out ++ [sg (a / 4)] ++ [sg (a % 4 * 16 + b / 16)]) := by
    unfold b2aStep
    dsimp only
    rw [if_neg (by decide), if_pos rfl, show ((lc * 256 + a) % 65536 * 256 + b) % 65536 = a * 256 + b by omega, show (a * 256 + b) / 16 % 64 = a % 4 * 16 + b / 16 by omega]
  have e3 : b2aStep (a * 256 + b, 4, out ++ [sg (a / 4)] ++ [sg (a % 4 * 16 + b / 16)]) c = (b * 256 + c, 0, out ++ [sg (a / 4)] ++ [sg (a % 4 * 16 + b / 16)] ++ [sg (b % 16 * 4 + c / 64), sg (c % 64)]) := by
    unfold b2aStep
    dsimp only
    rw [if_neg (by decide), if_neg (by decide), show ((a * 256 + b) * 256 + c) % 65536 = b * 256 + c by omega, show (b * 256 + c) / 64 % 64 = b % 16 * 4 + c / 64 by omega, show (b * 256 + c) % 64 = c % 64 by omega]
  rw [e1, e2, e3]
  simp [q4]
theorem b2a_go {l : List Nat} (hl : l.length % 3 = 0) : (∀ x ∈ l, x < 256) → ∀ lc out, ∃ lc', l.foldl b2aStep (lc, 0, out) = (lc', 0, out ++ enc3 l) := by
  refine by3 (P := fun l => (∀ x ∈ l, x < 256) → ∀ lc out, ∃ lc', l.foldl b2aStep (lc, 0, out) = (lc', 0, out ++ enc3 l)) ?_ ?_ l hl
  · intro _ lc out
    exact ⟨lc, by simp [enc3]⟩
  · intro a b c r ih h lc out
    rw [List.foldl_cons, List.foldl_cons, List.foldl_cons, b2a_three (h a (by simp)) (h b (by simp)) (h c (by simp))]
    obtain ⟨lc', e⟩ := ih (fun x hx => h x (.tail _ (.tail _ (.tail _ hx)))) (b * 256 + c) (out ++ q4 a b c)
    exact ⟨lc', by rw [e, enc3, List.append_assoc]⟩
theorem enc3_len {l : List Nat} (hl : l.length % 3 = 0) : (enc3 l).length = l.length / 3 * 4 := by
  refine by3 (P := fun l => (enc3 l).length = l.length / 3 * 4) rfl ?_ l hl
  intro a b c r ih
  rw [enc3, List.length_append, ih]
  simp only [q4, List.length_cons, List.length_nil]
  omega
theorem enc3_append {l : List Nat} (m : List Nat) (hl : l.length % 3 = 0) : enc3 (l ++ m) = enc3 l ++ enc3 m := by
  refine by3 (P := fun l => enc3 (l ++ m) = enc3 l ++ enc3 m) rfl ?_ l hl
  intro a b c r ih
  show q4 a b c ++ enc3 (r ++ m) = q4 a b c ++ enc3 r ++ enc3 m
  rw [ih, List.append_assoc]
theorem q4_sg {a b c : Nat} (ha : a < 256) (hb : b < 256) (hc : c < 256) : ∀ x ∈ q4 a b c, ∃ i, i < 64 ∧ x = sg i := by
  intro x hx
  simp only [q4, List.mem_cons, List.not_mem_nil, or_false] at hx
  rcases hx with rfl | rfl | rfl | rfl
  · exact ⟨_, by omega, rfl⟩
  · exact ⟨_, by omega, rfl⟩
  · exact ⟨_, by omega, rfl⟩
  · exact ⟨_, by omega, rfl⟩
theorem enc3_sg {l : List Nat} (hl : l.length % 3 = 0) : (∀ x ∈ l, x < 256) → ∀ x ∈ enc3 l, ∃ i, i < 64 ∧ x = sg i := by
  refine by3 (P := fun l => (∀ x ∈ l, x < 256) → ∀ x ∈ enc3 l, ∃ i, i < 64 ∧ x = sg i) ?_ ?_ l hl
  · intro _ x hx; exact nomatch hx
  · intro a b c r ih h x hx
    rcases List.mem_append.mp hx with q | q
    · exact q4_sg (h a (by simp)) (h b (by simp)) (h c (by simp)) x q
    · exact ih (fun x hx => h x (.tail _ (.tail _ (.tail _ hx)))) x q

theorem a2b_sg {σ : Nat × Nat × Nat × List Nat} {i : Nat} (hi : i < 64) : a2bStep σ (sg i) = if σ.1 = 0 then (1, i, 0, σ.2.2.2)
    else if σ.1 = 1 then (2, i % 16, 0, σ.2.2.2 ++ [σ.2.1 * 4 + i / 16])
    else if σ.1 = 2 then (3, i % 4, 0, σ.2.2.2 ++ [σ.2.1 * 16 + i / 4])
    else (0, 0, 0, σ.2.2.2 ++ [σ.2.1 * 64 + i]) := by
  obtain ⟨e, n⟩ := sg_back i hi
  unfold a2bStep
  rw [if_neg n, e, Int.toNat_natCast, if_neg (by omega)]
theorem a2b_q4 {a b c pads lc : Nat} {out : List Nat} (ha : a < 256) (hb : b < 256) (hc : c < 256) : (q4 a b c).foldl a2bStep (0, lc, pads, out) = (0, 0, 0, out ++ [a, b, c]) := by
  unfold q4
  simp only [List.foldl_cons, List.foldl_nil]
  rw [a2b_sg (i := a / 4) (by omega), if_pos rfl, a2b_sg (i := a % 4 * 16 + b / 16) (by omega), if_neg (by simp), if_pos rfl, a2b_sg (i := b % 16 * 4 + c / 64) (by omega), if_neg (by simp), if_neg (by simp), if_pos rfl, a2b_sg (i := c % 64) (by omega), if_neg (by simp), if_neg (by simp), if_neg (by simp)]
  have e1 : a / 4 * 4 + (a % 4 * 16 + b / 16) / 16 = a := by omega
  have e2 : (a % 4 * 16 + b / 16) % 16 * 16 + (b % 16 * 4 + c / 64) / 4 = b := by omega
  have e3 : (b % 16 * 4 + c / 64) % 4 * 64 + c % 64 = c := by omega
  dsimp only
  rw [e1, e2, e3]
  simp
theorem a2b_go {l : List Nat} (hl : l.length % 3 = 0) : (∀ x ∈ l, x < 256) → ∀ out, (enc3 l).foldl a2bStep (0, 0, 0, out) = (0, 0, 0, out ++ l) := by
  refine by3 (P := fun l => (∀ x ∈ l, x < 256) → ∀ out, (enc3 l).foldl a2bStep (0, 0, 0, out) = (0, 0, 0, out ++ l)) ?_ ?_ l hl
  · intro _ out; simp [enc3]
  · intro a b c r ih h out
    rw [enc3, List.foldl_append, a2b_q4 (h a (by simp)) (h b (by simp)) (h c (by simp)), ih (fun x hx => h x (.tail _ (.tail _ (.tail _ hx))))]
    simp
theorem b2aSt_three {l : List Nat} (hl : l.length % 3 = 0) (h : ∀ x ∈ l, x < 256) : b2aFin (b2aSt l) = enc3 l := by
  obtain ⟨lc', e⟩ := b2a_go hl h 0 []
  unfold b2aSt
  rw [e, b2aFin, if_neg (by simp), if_neg (by simp), List.nil_append]
theorem a2bSt_three {l : List Nat} (hl : l.length % 3 = 0) (h : ∀ x ∈ l, x < 256) : a2bSt (enc3 l) = (0, 0, 0, l) := a2b_go hl h []
theorem b2aSt_four {a b c d : Nat} (ha : a < 256) (hb : b < 256) (hc : c < 256) (hd : d < 256) : b2aFin (b2aSt [a, b, c, d]) = q4 a b c ++ [sg (d / 4), sg (d % 4 * 16), 61, 61] := by
  unfold b2aSt
  rw [List.foldl_cons, List.foldl_cons, List.foldl_cons, b2a_three ha hb hc, List.foldl_cons, List.foldl_nil]
  unfold b2aStep
  dsimp only
  rw [if_pos rfl, b2aFin, if_pos rfl, show ((b * 256 + c) * 256 + d) % 65536 / 4 % 64 = d / 4 by omega]
  dsimp only
  rw [show ((b * 256 + c) * 256 + d) % 65536 % 4 = d % 4 by omega]
  simp
theorem a2bSt_four {a b c d : Nat} (ha : a < 256) (hb : b < 256) (hc : c < 256) (hd : d < 256) : a2bSt (q4 a b c ++ [sg (d / 4), sg (d % 4 * 16), 61, 61]) = (2, d % 4 * 16 % 16, 2, [a, b, c, d]) := by
  unfold a2bSt
  rw [List.foldl_append, a2b_q4 ha hb hc, List.foldl_cons, a2b_sg (i := d / 4) (by omega), if_pos rfl, List.foldl_cons, a2b_sg (i := d % 4 * 16) (by omega), if_neg (by simp), if_pos rfl]
  dsimp only
  rw [show d / 4 * 4 + d % 4 * 16 / 16 = d by omega]
  rfl
end Mine
end

section
open PySem PySem.W PySem.Calls PyProof.Rows
set_option Elab.async false
set_option maxRecDepth 100000
set_option maxHeartbeats 8000000
namespace Mine

/-- a row: octets in threes -/
structure Row (l : List Nat) : Prop where
  oct : ∀ x ∈ l, x < 256
  m3 : l.length % 3 = 0
  le : l.length ≤ 1000

theorem arr_size (l : List Nat) : (arr l).size = l.length := by unfold arr; rw [byteArr_size, List.length_map]
theorem arr_append (a b : List Nat) : arr (a ++ b) = arr a ++ arr b := by simp [arr, byteArr]
theorem take_step {l : List Nat} {i : Nat} (h : i < l.length) : l.take (i + 1) = l.take i ++ [l.getD i 0] := by
  rw [List.take_add_one, List.getD_eq_getElem?_getD, List.getElem?_eq_getElem h]; rfl
theorem getD_lt {l : List Nat} (h : ∀ x ∈ l, x < 256) (i : Nat) : l.getD i 0 < 256 := by
  rw [List.getD_eq_getElem?_getD]
  cases e : l[i]? with
  | none => decide
  | some x => exact h x (List.mem_of_getElem? e)
theorem quad_q4 {l : List Nat} (h : ∀ x ∈ l, x < 256) (i : Nat) : quad l i = q4 (l.getD (3 * i) 0) (l.getD (3 * i + 1) 0) (l.getD (3 * i + 2) 0) := by
  unfold quad q4
  have ha := getD_lt h (3 * i)
  have hb := getD_lt h (3 * i + 1)
  have hc := getD_lt h (3 * i + 2)
  generalize l.getD (3 * i) 0 = a at *
  generalize l.getD (3 * i + 1) 0 = b at *
  generalize l.getD (3 * i + 2) 0 = c at *
  dsimp only
  rw [show (a * 65536 + b * 256 + c) / 262144 % 64 = a / 4 by omega, show (a * 65536 + b * 256 + c) / 4096 % 64 = a % 4 * 16 + b / 16 by omega,
    show (a * 65536 + b * 256 + c) / 64 % 64 = b % 16 * 4 + c / 64 by omega, show (a * 65536 + b * 256 + c) % 64 = c % 64 by omega]
theorem wrSt_enc {l : List Nat} (h : ∀ x ∈ l, x < 256) : ∀ n, 3 * n ≤ l.length → wrSt l n = enc3 (l.take (3 * n))
  | 0, _ => rfl
  | n + 1, hn => by
    have e : l.take (3 * (n + 1)) = l.take (3 * n) ++ [l.getD (3 * n) 0, l.getD (3 * n + 1) 0, l.getD (3 * n + 2) 0] := by
      rw [show 3 * (n + 1) = 3 * n + 1 + 1 + 1 by omega, take_step (by omega), take_step (by omega), take_step (by omega), List.append_assoc, List.append_assoc]; rfl
    rw [wrSt, wrSt_enc h n (by omega), e, enc3_append _ (by rw [List.length_take]; omega), quad_q4 h]
    show _ = _ ++ (q4 _ _ _ ++ [])
    rw [List.append_nil]
theorem wr_row {l : List Nat} (h : Row l) : wrSt l (l.length / 3) = enc3 l := by
  have := h.m3
  rw [wrSt_enc h.oct _ (by omega), List.take_of_length_le (by omega)]

theorem enc3_lt {l : List Nat} (hl : l.length % 3 = 0) (h : ∀ x ∈ l, x < 256) : ∀ x ∈ enc3 l, x < 256 := fun x hx => by
  obtain ⟨i, _, rfl⟩ := enc3_sg hl h x hx
  exact sg_lt i
theorem arr_small {l : List Nat} (h : l.length ≤ 100000) : Small (arr l) := ⟨by rw [arr_size]; exact h⟩
theorem text_row {l : List Nat} (h : Row l) : Text (arr (enc3 l)) := by
  have hm := h.m3
  have hle := h.le
  have eo : oct (arr (enc3 l)) = enc3 l := oct_arr (enc3_lt h.m3 h.oct)
  refine ⟨by rw [arr_size, enc3_len h.m3]; omega, ⟨enc3 l, 0, by rw [eo]; simp, fun c hc => ?_⟩, ?_⟩
  · obtain ⟨i, hi, rfl⟩ := enc3_sg h.m3 h.oct c hc
    obtain ⟨e, n⟩ := sg_back i hi
    exact ⟨by rw [e]; omega, n⟩
  · rw [eo, a2bSt_three h.m3 h.oct]
    exact ⟨by simp, .inl rfl⟩

noncomputable def sealOf (c : Nat) : Array UInt8 := arr (encOf (le4 c))
theorem encOf_le4 (c : Nat) : encOf (le4 c) = q4 (c % 256) (c / 256 % 256) (c / 65536 % 256) ++ [sg (c / 16777216 % 256 / 4), sg (c / 16777216 % 256 % 4 * 16), 61, 61] :=
  b2aSt_four (Nat.mod_lt _ (by decide)) (Nat.mod_lt _ (by decide)) (Nat.mod_lt _ (by decide)) (Nat.mod_lt _ (by decide))
theorem oct_seal (c : Nat) : oct (sealOf c) = q4 (c % 256) (c / 256 % 256) (c / 65536 % 256) ++ [sg (c / 16777216 % 256 / 4), sg (c / 16777216 % 256 % 4 * 16), 61, 61] := by
  unfold sealOf
  rw [encOf_le4]
  refine oct_arr fun x hx => ?_
  rcases List.mem_append.mp hx with q | q
  · obtain ⟨i, _, rfl⟩ := q4_sg (Nat.mod_lt _ (by decide)) (Nat.mod_lt _ (by decide)) (Nat.mod_lt _ (by decide)) x q
    exact sg_lt i
  · simp only [List.mem_cons, List.not_mem_nil, or_false] at q
    rcases q with rfl | rfl | rfl | rfl
    · exact sg_lt _
    · exact sg_lt _
    · decide
    · decide
theorem a2b_seal (c : Nat) : a2bSt (oct (sealOf c)) = (2, c / 16777216 % 256 % 4 * 16 % 16, 2, le4 c) := by
  rw [oct_seal, a2bSt_four (Nat.mod_lt _ (by decide)) (Nat.mod_lt _ (by decide)) (Nat.mod_lt _ (by decide)) (Nat.mod_lt _ (by decide))]; rfl
theorem text_seal (c : Nat) : Text (sealOf c) := by
  refine ⟨?_, ⟨q4 (c % 256) (c / 256 % 256) (c / 65536 % 256) ++ [sg (c / 16777216 % 256 / 4), sg (c / 16777216 % 256 % 4 * 16)], 2, ?_, fun x hx => ?_⟩, ?_⟩
  · unfold sealOf
    rw [arr_size, encOf_le4]
    simp [q4]
  · rw [oct_seal]; simp [List.replicate]
  · have : ∃ i, i < 64 ∧ x = sg i := by
      rcases List.mem_append.mp hx with q | q
      · exact q4_sg (Nat.mod_lt _ (by decide)) (Nat.mod_lt _ (by decide)) (Nat.mod_lt _ (by decide)) x q
      · simp only [List.mem_cons, List.not_mem_nil, or_false] at q
        rcases q with rfl | rfl
        · exact ⟨_, by omega, rfl⟩
        · exact ⟨_, by omega, rfl⟩
    obtain ⟨i, hi, rfl⟩ := this
    obtain ⟨e, n⟩ := sg_back i hi
    exact ⟨by rw [e]; omega, n⟩
  · rw [a2b_seal]
    exact ⟨by simp, .inr (by simp)⟩

theorem Ctr.mono {w : World} {mean : ExcName → Option Value} {mg mb : Str → Option Value} {D U : Nat} {f : Addr} {vs : List Value} {kw : List (Str × Value)} {P P' : Value → Prop}
    (C : Ctr w mean mg mb D U f vs kw P) (h : ∀ v, P v → P' v) : Ctr w mean mg mb D U f vs kw P' := by
  intro dp un gd cn cs a ccd cl outer A₀ base h₀ L m news s Q E B F X N T hkc hD hU hret
  exact C dp un gd cn cs a ccd cl outer A₀ base h₀ L m news s Q E B F X N T hkc hD hU fun v h' tk' hp => hret v h' tk' (h v hp)

theorem vint_of {a b : Int} (e : a = b) {v : Value} (h : ∃ t, v = .int a t) : ∃ t, v = .int b t := e ▸ h
theorem vbytes_of {a b : Array UInt8} (e : a = b) {v : Value} (h : ∃ t, v = .bytes a t) : ∃ t, v = .bytes b t := e ▸ h
theorem sum_row (w : World) (mean : ExcName → Option Value) (mg mb : Str → Option Value) (l : List Nat) (tk : Tok) (h : Row l) : Ctr w mean mg mb 4 40 116 [.bytes (arr l) tk] [] (fun v => ∃ t, v = .int (sumOf l : Nat) t) :=
  (sum_ctr w mean mg mb (arr l) tk).mono fun v => vint_of (by
    rw [oct_arr h.oct]
    have := stOf_lt l 4294967295 (by decide) h.oct
    unfold sumOf
    omega)
theorem seal_row (w : World) (mean : ExcName → Option Value) (mg mb : Str → Option Value) (c : Nat) (tk : Tok) : Ctr w mean mg mb 10 120 135 [.int c tk] [] (fun v => ∃ t, v = .bytes (sealOf c) t) :=
  (seal_ctr w mean mg mb (c : Int) tk (by omega)).mono fun v => vbytes_of (by rw [Int.toNat_natCast]; rfl)
theorem opened_row (w : World) (mean : ExcName → Option Value) (mg mb : Str → Option Value) (c : Nat) (tk : Tok) (hc : c < 4294967296) : Ctr w mean mg mb 10 120 140 [.bytes (sealOf c) tk] [] (fun v => ∃ t, v = .int (c : Nat) t) :=
  opened_ctr w mean mg mb (sealOf c) tk (text_seal c) c hc (by rw [a2b_seal])
theorem enc_row (w : World) (mean : ExcName → Option Value) (mg mb : Str → Option Value) (l : List Nat) (tk : Tok) (h : Row l) : Ctr w mean mg mb 8 80 94 [.bytes (arr l) tk] [] (fun v => ∃ t, v = .bytes (arr (enc3 l)) t) :=
  (enc_ctr w mean mg mb (arr l) tk (arr_small (Nat.le_trans h.le (by decide)))).mono fun v => vbytes_of (by rw [oct_arr h.oct, b2aSt_three h.m3 h.oct])
theorem dec_row (w : World) (mean : ExcName → Option Value) (mg mb : Str → Option Value) (l : List Nat) (tk : Tok) (h : Row l) : Ctr w mean mg mb 8 80 102 [.bytes (arr (enc3 l)) tk] [] (fun v => ∃ t, v = .bytes (arr l) t) :=
  (dec_ctr w mean mg mb (arr (enc3 l)) tk (text_row h)).mono fun v => vbytes_of (by rw [oct_arr (enc3_lt h.m3 h.oct), a2bSt_three h.m3 h.oct])
theorem written_row (w : World) (mean : ExcName → Option Value) (mg mb : Str → Option Value) (l : List Nat) (tk : Tok) (h : Row l) : Ctr w mean mg mb 4 40 145 [.bytes (arr l) tk] [] (fun v => ∃ t, v = .bytes (arr (enc3 l)) t) :=
  (written_ctr w mean mg mb (arr l) tk (arr_small (Nat.le_trans h.le (by decide))) (by rw [arr_size]; exact h.m3)).mono fun v => vbytes_of (by rw [oct_arr h.oct, arr_size, wr_row h])
theorem on_row (w : World) (mean : ExcName → Option Value) (mg mb : Str → Option Value) (c : Nat) (n : Int) (k : Nat) (e : n = (k : Int)) (hn : k ≤ 1000) (tk tn : Tok) : Ctr w mean mg mb 4 40 123 [.int c tk, .int n tn] [] (fun v => ∃ t, v = .int (onIt k c : Nat) t) := by
  subst e
  exact (on_ctr w mean mg mb (c : Int) (k : Int) (by omega) (by omega) tk tn).mono fun v => vint_of (by rw [Int.toNat_natCast, Int.toNat_natCast])
theorem back_row (w : World) (mean : ExcName → Option Value) (mg mb : Str → Option Value) (x n : Int) (c k : Nat) (ex : x = (c : Int)) (hc : c < 4294967296) (e : n = (k : Int)) (hn : k ≤ 1000) (tk tn : Tok) : Ctr w mean mg mb 2 20 130 [.int x tk, .int n tn] [] (fun v => ∃ t, v = .int (backIt (8 * k) c : Nat) t) := by
  subst e
  subst ex
  exact (back_ctr w mean mg mb (c : Int) (k : Int) (by omega) (by omega) tk tn).mono fun v => vint_of (by rw [Int.toNat_natCast, Int.toNat_natCast])

/-- the cards -/
structure Cards (rs : List (List Nat)) (n : Nat) : Prop where
  len : rs.length ≤ n
  le : n ≤ 20
  each : ∀ r ∈ rs, (∀ x ∈ r, x < 256) ∧ (r.length = 3 ∨ r.length = 6)
theorem flat_len : ∀ (rs : List (List Nat)), (∀ r ∈ rs, (∀ x ∈ r, x < 256) ∧ (r.length = 3 ∨ r.length = 6)) → rs.flatten.length ≤ 6 * rs.length ∧ rs.flatten.length % 3 = 0
  | [], _ => ⟨Nat.le_refl _, rfl⟩
  | r :: rs, h => by
    have h1 := flat_len rs fun x hx => h x (.tail _ hx)
    have h2 := (h r (.head _)).2
    rw [List.flatten_cons, List.length_append, List.length_cons]
    omega
theorem Cards.row {rs : List (List Nat)} {n : Nat} (h : Cards rs n) : Row rs.flatten := by
  have h1 := flat_len rs h.each
  have h2 := h.len
  have h3 := h.le
  refine ⟨fun x hx => ?_, h1.2, by omega⟩
  obtain ⟨r, hr, hx'⟩ := List.mem_flatten.mp hx
  exact (h.each r hr).1 x hx'
theorem Cards.one {rs : List (List Nat)} {n : Nat} (h : Cards rs n) {r : List Nat} (hr : r ∈ rs) : Row r := by
  have := h.each r hr
  exact ⟨this.1, by omega, by omega⟩
theorem catB_go : ∀ (rs : List (List Nat)) (acc : Array UInt8), (rs.map arr).foldl (· ++ ·) acc = acc ++ arr rs.flatten
  | [], acc => by simp [arr, byteArr]
  | r :: rs, acc => by rw [List.map_cons, List.foldl_cons, catB_go rs, List.flatten_cons, arr_append, Array.append_assoc]
theorem catB_rows (rs : List (List Nat)) : catB (rs.map arr) = arr rs.flatten := by
  unfold catB
  rw [catB_go]; simp
theorem enc_flat : ∀ (rs : List (List Nat)), (∀ r ∈ rs, (∀ x ∈ r, x < 256) ∧ (r.length = 3 ∨ r.length = 6)) → (rs.map enc3).flatten = enc3 rs.flatten
  | [], _ => rfl
  | r :: rs, h => by
    have h2 := (h r (.head _)).2
    rw [List.map_cons, List.flatten_cons, List.flatten_cons, enc3_append _ (by omega), enc_flat rs fun x hx => h x (.tail _ hx)]
theorem catB_texts {rs : List (List Nat)} {n : Nat} (h : Cards rs n) : catB (rs.map fun r => arr (enc3 r)) = arr (enc3 rs.flatten) := by
  rw [show (rs.map fun r => arr (enc3 r)) = (rs.map enc3).map arr by rw [List.map_map]; rfl, catB_rows, enc_flat rs h.each]

section
variable {prog : Program} {w : World} {A : Around} {E : Value → Shared → Prop} {s : Shared} {h₀ : Heap} {L : Addr} {m : Str → Option Value} {news news' : List (Addr × Obj)} {D : Addr}
theorem join_rows {l : Addr} {vs : List Value} {rs : List (List Nat)} {n : Nat} {t : Tok} {Q : Value → Shared → Prop} (hl : s.heap.IsList l vs.toArray) (hv : BA vs (rs.map arr)) (hc : Cards rs n)
    (h : ∀ t' k, Q (.bytes (arr rs.flatten) t') { s with toks := k }) : wpAny (model prog w) A (call (.builtin "bytes.join") [.bytes #[] t, .ref l]) Q E s := by
  have hr := hc.row.le
  refine call_bjoin hl hv (by rw [catB_rows, arr_size]; omega) ?_
  rw [catB_rows]; exact h
theorem join_texts {l : Addr} {vs : List Value} {rs : List (List Nat)} {n : Nat} {t : Tok} {Q : Value → Shared → Prop} (hl : s.heap.IsList l vs.toArray) (hv : BA vs (rs.map fun r => arr (enc3 r))) (hc : Cards rs n)
    (h : ∀ t' k, Q (.bytes (arr (enc3 rs.flatten)) t') { s with toks := k }) : wpAny (model prog w) A (call (.builtin "bytes.join") [.bytes #[] t, .ref l]) Q E s := by
  have hr := hc.row.le
  refine call_bjoin hl hv (by rw [catB_texts hc, arr_size, enc3_len hc.row.m3]; omega) ?_
  rw [catB_texts hc]; exact h
theorem fitsIx {i : Int} (h1 : 0 ≤ i) (h2 : i ≤ 1000000) : Builtin.List.listFitsIndex i = true := by
  unfold Builtin.List.listFitsIndex
  rw [Bool.and_eq_true]
  exact ⟨decide_eq_true (by omega), decide_eq_true (by omega)⟩
theorem ins_last {x : Int} {u : Tok} {y : Value} {vs : List Value} {n : Nat} {Q : Value → Shared → Prop} (F : Fr h₀ L s.heap m) (N : News h₀ L s.heap news) (hx : x = (vs.length : Int)) (hz : vs.length ≤ 1000)
    (U : Upd D (listOf vs.toArray n) (listOf (vs ++ [y]).toArray (n + 1)) news news') (h : ∀ h', Fr h₀ L h' m → News h₀ L h' news' → Q .none { s with heap := h' }) :
    wpAny (model prog w) A (call (.builtin "list.insert") [.ref D, .int x u, y]) Q E s := by
  subst hx
  refine kl_insert F N (fitsIx (by omega) (by omega)) ?_ U (by rw [sizeLine_eq]; show vs.length ≤ _; omega) h
  show kl_ins vs _ y = _
  unfold kl_ins
  rw [if_neg (by omega), Int.toNat_natCast, Nat.min_self, List.take_length, List.drop_length]
theorem ins_first {x : Int} {u : Tok} {y : Value} {vs : List Value} {n : Nat} {Q : Value → Shared → Prop} (F : Fr h₀ L s.heap m) (N : News h₀ L s.heap news) (hx : x = 0) (hz : vs.length ≤ 1000)
    (U : Upd D (listOf vs.toArray n) (listOf (y :: vs).toArray (n + 1)) news news') (h : ∀ h', Fr h₀ L h' m → News h₀ L h' news' → Q .none { s with heap := h' }) :
    wpAny (model prog w) A (call (.builtin "list.insert") [.ref D, .int x u, y]) Q E s := by
  subst hx
  refine kl_insert F N (fitsIx (by omega) (by omega)) ?_ U (by rw [sizeLine_eq]; show vs.length ≤ _; omega) h
  show kl_ins vs _ y = _
  unfold kl_ins
  rw [if_neg (by omega)]
  simp
theorem seqIx (k n : Nat) (h : k < n) : seqIndex? (k : Int) n = some k := by
  have e1 : ¬ ((k : Int) < 0) := by omega
  have e2 : (decide (0 ≤ (k : Int)) && decide ((k : Int) < (n : Int))) = true := by
    rw [Bool.and_eq_true]
    exact ⟨decide_eq_true (by omega), decide_eq_true (by omega)⟩
  simp only [seqIndex?, if_neg e1, e2, if_true, Int.toNat_natCast]
theorem cut_at (y : Value) (q : List Value) : ∀ (p : List Value), kl_cut (p ++ y :: q) p.length = some (p, y, q)
  | [] => rfl
  | x :: r => by
    show kl_cut (x :: (r ++ y :: q)) (r.length + 1) = _
    unfold kl_cut
    rw [cut_at y q r]
theorem pop_last {x : Int} {u : Tok} {y : Value} {vs : List Value} {n : Nat} {Q : Value → Shared → Prop} (F : Fr h₀ L s.heap m) (N : News h₀ L s.heap news) (hx : x = (vs.length : Int)) (hz : vs.length ≤ 1000)
    (U : Upd D (listOf (vs ++ [y]).toArray n) (listOf vs.toArray (n + 1)) news news') (h : ∀ h', Fr h₀ L h' m → News h₀ L h' news' → Q y { s with heap := h' }) :
    wpAny (model prog w) A (call (.builtin "list.pop") [.ref D, .int x u]) Q E s := by
  subst hx
  refine kl_popAt (k := vs.length) (p := vs) (q := []) (y := y) F N (fitsIx (by omega) (by omega)) ?_ (cut_at y [] vs) (by rw [List.append_nil]; exact U) (by rw [sizeLine_eq]; show (vs ++ [y]).length ≤ _; rw [List.length_append]; show vs.length + 1 ≤ _; omega) h
  exact seqIx vs.length _ (by simp)
theorem pop_first {x : Int} {u : Tok} {y : Value} {vs : List Value} {n : Nat} {Q : Value → Shared → Prop} (F : Fr h₀ L s.heap m) (N : News h₀ L s.heap news) (hx : x = 0) (hz : vs.length ≤ 1000)
    (U : Upd D (listOf (y :: vs).toArray n) (listOf vs.toArray (n + 1)) news news') (h : ∀ h', Fr h₀ L h' m → News h₀ L h' news' → Q y { s with heap := h' }) :
    wpAny (model prog w) A (call (.builtin "list.pop") [.ref D, .int x u]) Q E s := by
  subst hx
  refine kl_popAt (k := 0) (p := []) (q := vs) (y := y) F N (fitsIx (by omega) (by omega)) ?_ rfl U (by rw [sizeLine_eq]; show (y :: vs).length ≤ _; rw [List.length_cons]; omega) h
  exact seqIx 0 _ (by simp)
theorem ne_nil {l b : Addr} {vs : List Value} {Q : Value → Shared → Prop} (hl : s.heap.IsList l vs.toArray) (hb : s.heap.IsList b #[]) (hu : A.units < cLine) (h : Q (.bool (!vs.isEmpty)) s) :
    wpAny (model prog w) A (compareOp .NotEq (.ref l) (.ref b)) Q E s := by
  show wpAny (model prog w) A (richCompare .NotEq (.ref l) (.ref b)) Q E s
  cases vs with
  | nil => exact PySem.SeqAt.RcNeAt.lists (e := fun _ => true) hl hb rfl hu (fun j h1 _ => absurd h1 (Nat.not_lt_zero j)) prog w E Q h
  | cons x r => exact PySem.SeqAt.RcNeAt.lists_lengths hl hb (by simp) hu prog w E Q h
theorem ne_same {b : Array UInt8} {t u : Tok} {Q : Value → Shared → Prop} (h : Q (.bool false) s) : wpAny (model prog w) A (compareOp .NotEq (.bytes b t) (.bytes b u)) Q E s :=
  ne_bytes (by rw [bne_self_eq_false]; exact h)
end
theorem BA.snoc_inv {vs : List Value} {bs : List (Array UInt8)} {b : Array UInt8} (h : BA vs (bs ++ [b])) : ∃ vs' t, vs = vs' ++ [.bytes b t] ∧ BA vs' bs := by
  induction bs generalizing vs with
  | nil =>
    cases h with
    | cons _ t h => cases h; exact ⟨[], t, rfl, .nil⟩
  | cons c bs ih =>
    cases h with
    | cons _ t h =>
      obtain ⟨vs', t', rfl, h'⟩ := ih h
      exact ⟨_ :: vs', t', rfl, .cons _ _ h'⟩
theorem BA.cons_inv {vs : List Value} {bs : List (Array UInt8)} {b : Array UInt8} (h : BA vs (b :: bs)) : ∃ vs' t, vs = .bytes b t :: vs' ∧ BA vs' bs := by
  cases h with
  | cons _ t h => exact ⟨_, t, rfl, h⟩
end Mine
end

section
open PySem PySem.W PySem.Calls PyProof.Rows
set_option Elab.async false
set_option maxRecDepth 100000
set_option maxHeartbeats 8000000
namespace Mine

example : (fun (_ : OpenLaw) (_ : Params → Frag) => True) PySem.Challenge.rw_qh0114_01 hd.heap_39 := by
  k_fill
  trivial
theorem ne6 {a b c d e f : Nat} (h1 : a < b) (h2 : b < c) (h3 : c < d) (h4 : d < e) (h5 : e < f) : @Ne Addr a b ∧ @Ne Addr a c ∧ @Ne Addr a d ∧ @Ne Addr a e ∧ @Ne Addr a f ∧ @Ne Addr b c ∧ @Ne Addr b d ∧ @Ne Addr b e ∧ @Ne Addr b f ∧ @Ne Addr c d ∧ @Ne Addr c e ∧ @Ne Addr c f ∧ @Ne Addr d e ∧ @Ne Addr d f ∧ @Ne Addr e f :=
  ⟨(by intro (h : @Eq Nat a b); omega), (by intro (h : @Eq Nat a c); omega), (by intro (h : @Eq Nat a d); omega), (by intro (h : @Eq Nat a e); omega), (by intro (h : @Eq Nat a f); omega), (by intro (h : @Eq Nat b c); omega), (by intro (h : @Eq Nat b d); omega), (by intro (h : @Eq Nat b e); omega), (by intro (h : @Eq Nat b f); omega), (by intro (h : @Eq Nat c d); omega), (by intro (h : @Eq Nat c e); omega), (by intro (h : @Eq Nat c f); omega), (by intro (h : @Eq Nat d e); omega), (by intro (h : @Eq Nat d f); omega), (by intro (h : @Eq Nat e f); omega)⟩
local macro_rules | `(tactic| k_ne) => `(tactic| first | with_reducible assumption | exact Ne.symm (by with_reducible assumption) | (refine neN ?_; (try dsimp only); omega))
/-- where the three deeds meet -/
noncomputable def J2 (h₀ : Heap) (L S T R C : Addr) (i : Nat) (own : List (Addr × Obj)) (s : Shared) (f : Flow) (s' : Shared) : Prop :=
  f = .next ∧ ∃ (h : Heap) (tk : Nat) (m : Str → Option Value) (rs : List (List Nat)) (vR vT vS : List Value) (nR nT nS : Nat) (oc : Obj) (X : Int) (t : Tok), s' = { s with heap := h, toks := tk } ∧ Fr h₀ L h m ∧
    News h₀ L h ((S, listOf vS.toArray nS) :: (T, listOf vT.toArray nT) :: (R, listOf vR.toArray nR) :: (C, oc) :: own) ∧ Cards rs (i + 1) ∧ BA vR (rs.map arr) ∧ BA vT (rs.map fun r => arr (enc3 r)) ∧ BA vS (rs.map fun r => sealOf (sumOf r)) ∧
    (∃ cv, oc.data = .cell cv) ∧ m (Str.ofString "rows") = some (.ref R) ∧ m (Str.ofString "texts") = some (.ref T) ∧ m (Str.ofString "seals") = some (.ref S) ∧ m (Str.ofString "crc") = some (.int X t) ∧ X = ((sumOf rs.flatten : Nat) : Int)
theorem j2_end {h₀ h' : Heap} {L S T R C : Addr} {m' : Str → Option Value} {own : List (Addr × Obj)} {s : Shared} {tk' : Nat} {i : Nat} {rs : List (List Nat)} {vR vT vS : List Value} {nR nT nS : Nat} {oc : Obj} {cv : Option Value} {X : Int} {t : Tok}
    (F : Fr h₀ L h' m') (N : News h₀ L h' ((S, listOf vS.toArray nS) :: (T, listOf vT.toArray nT) :: (R, listOf vR.toArray nR) :: (C, oc) :: own)) (hR : BA vR (rs.map arr)) (hT : BA vT (rs.map fun r => arr (enc3 r))) (hS : BA vS (rs.map fun r => sealOf (sumOf r))) (hC : Cards rs (i + 1)) (hoc : oc.data = .cell cv)
    (m1 : m' (Str.ofString "rows") = some (.ref R)) (m2 : m' (Str.ofString "texts") = some (.ref T)) (m3 : m' (Str.ofString "seals") = some (.ref S)) (m4 : m' (Str.ofString "crc") = some (.int X t)) (hX : X = ((sumOf rs.flatten : Nat) : Int)) :
    J2 h₀ L S T R C i own s .next { s with heap := h', toks := tk' } :=
  ⟨rfl, h', tk', m', rs, vR, vT, vS, nR, nT, nS, oc, X, t, rfl, F, N, hC, hR, hT, hS, ⟨cv, hoc⟩, m1, m2, m3, m4, hX⟩
theorem cut_if {prog : Program} {w : World} {A : Around} {t : Sem Flow} {Q : Flow → Shared → Prop} {E : Value → Shared → Prop} {s : Shared} {h₀ hx : Heap} {L S T R C : Addr} {oS oT oR oC : Obj} {own : List (Addr × Obj)} (i : Nat) (_N : News h₀ L hx ((S, oS) :: (T, oT) :: (R, oR) :: (C, oC) :: own))
    (hif : ∀ Qo : Flow → Shared → Prop, (∀ f s', J2 h₀ L S T R C i own s f s' → Qo f s') → wpAny (model prog w) A t Qo E s) (tail : ∀ s', J2 h₀ L S T R C i own s .next s' → Q .next s') : wpAny (model prog w) A t Q E s :=
  wpAny_mono (hif (J2 h₀ L S T R C i own s) fun _ _ h => h) (fun f s' hq => by cases hq.1; exact tail s' hq) fun _ _ e => e
theorem xorE {a b c : Nat} (e : a ^^^ b = c) : Builtin.bitXor (a : Int) (b : Int) = (c : Int) := by rw [bitXor_nat, e]

structure Card (r : List Nat) : Prop where
  oct : ∀ x ∈ r, x < 256
  len : r.length = 3 ∨ r.length = 6
theorem row_of {r : List Nat} (h : Card r) : Row r := ⟨h.oct, by have := h.len; omega, by have := h.len; omega⟩
theorem k_le {k b : Int} (h : k < b) (hb : b ≤ 1000) : k ≤ 1000000 := by omega
theorem k_lt {k b : Int} (h : k < b) (hb : b ≤ 999) : k < 1000 := by omega
section
variable {prog : Program} {w : World} {A : Around} {E : Value → Shared → Prop} {s : Shared} {h₀ : Heap} {L D : Addr} {m : Str → Option Value} {news news' : List (Addr × Obj)}
theorem mod_is {a b d : Int} {t u : Tok} {Q : Value → Shared → Prop} (e : a.fmod b = d) (hb : b ≠ 0) (h : Q (.int d s.toks) { s with toks := s.toks + 1 }) : wpAny (model prog w) A (binaryOp .Mod (.int a t) (.int b u)) Q E s := mod_int' hb (e ▸ h)
theorem byteArr_arr {ns : List Int} (h : KBa.In ns) : byteArr ns = arr (nats ns) := by
  unfold arr nats
  rw [List.map_map]
  congr 1
  refine ((List.map_congr_left (g := id) fun x hx => ?_).trans (List.map_id _)).symm
  have := h x hx
  show ((x.toNat : Nat) : Int) = x
  omega
theorem bytes_row {vs : List Value} {ns : List Int} {nl : Nat} {Q : Value → Shared → Prop} (F : Fr h₀ L s.heap m) (N : News h₀ L s.heap ((D, listOf vs.toArray nl) :: news)) (hh : A.handled = none) (hi : IntsAre vs ns) (hr : KBa.In ns) (hn : ns.length = 3 ∨ ns.length = 6)
    (h : ∀ r h' t' k, Fr h₀ L h' m → News h₀ L h' news → Card r → Q (.bytes (arr r) t') { s with heap := h', toks := k }) : wpAny (model prog w) A (call (.type "bytes") [.ref D]) Q E s := by
  refine KBa.make_K F (fun p hp => N p (.tail _ hp)) hh (News.isList N (.head _)) hi hr (by omega) fun h' t' k F' N' _ => ?_
  rw [byteArr_arr hr]
  refine h _ _ _ _ F' N' ⟨fun x hx => ?_, by unfold nats; rw [List.length_map]; exact hn⟩
  obtain ⟨y, hy, rfl⟩ := List.mem_map.mp hx
  have := hr y hy
  omega
end
section
variable {prog : Program} {w : World} {A : Around} {E : Value → Shared → Prop} {s : Shared}
theorem len_row {r : List Nat} {t : Tok} {Q : Value → Shared → Prop} (h : Row r) (k : Q (.int (((arr r).size : Nat) : Int) (s.toks + 1)) { s with toks := s.toks + 1 + 1 }) : wpAny (model prog w) A (call (.builtin "len") [.bytes (arr r) t]) Q E s :=
  len_B (by rw [arr_size]; have := h.le; omega) k
theorem len_txt {r : List Nat} {t : Tok} {Q : Value → Shared → Prop} (h : Row r) (k : Q (.int (((arr (enc3 r)).size : Nat) : Int) (s.toks + 1)) { s with toks := s.toks + 1 + 1 }) : wpAny (model prog w) A (call (.builtin "len") [.bytes (arr (enc3 r)) t]) Q E s :=
  len_B (by rw [arr_size, enc3_len h.m3]; have := h.le; omega) k
end
section
variable {prog : Program} {w : World} {A : Around} {E : Value → Shared → Prop} {s : Shared} {h₀ : Heap} {L D : Addr} {m : Str → Option Value} {news news' : List (Addr × Obj)} {vs : List Value} {y : Value} {k n : Nat} {u : Tok}
theorem len_vs {Q : Value → Shared → Prop} (N : News h₀ L s.heap news) (hm : (D, listOf vs.toArray n) ∈ news) (e : vs.length = k) (hk : k ≤ 1000) (h : Q (.int (k : Nat) (s.toks + 1)) { s with toks := s.toks + 1 + 1 }) : wpAny (model prog w) A (call (.builtin "len") [.ref D]) Q E s := by
  refine Calls.call_len_list (News.isList N hm) (by rw [List.size_toArray, e]; omega) ?_
  rw [List.size_toArray, e]; exact h
theorem ins_last0 {Q : Value → Shared → Prop} (F : Fr h₀ L s.heap m) (N : News h₀ L s.heap news) (e : vs.length = k) (hk : k ≤ 1000)
    (U : Upd D (listOf vs.toArray n) (listOf (vs ++ [y]).toArray (n + 1)) news news') (h : ∀ h', Fr h₀ L h' m → News h₀ L h' news' → Q .none { s with heap := h' }) :
    wpAny (model prog w) A (call (.builtin "list.insert") [.ref D, .int ((k : Int) * (1 - 0)) u, y]) Q E s := ins_last F N (by omega) (by omega) U h
theorem ins_first1 {Q : Value → Shared → Prop} (F : Fr h₀ L s.heap m) (N : News h₀ L s.heap news) (e : vs.length = k) (hk : k ≤ 1000)
    (U : Upd D (listOf vs.toArray n) (listOf (y :: vs).toArray (n + 1)) news news') (h : ∀ h', Fr h₀ L h' m → News h₀ L h' news' → Q .none { s with heap := h' }) :
    wpAny (model prog w) A (call (.builtin "list.insert") [.ref D, .int ((k : Int) * (1 - 1)) u, y]) Q E s := ins_first F N (by omega) (by omega) U h
theorem pop_last2 {Q : Value → Shared → Prop} (F : Fr h₀ L s.heap m) (N : News h₀ L s.heap news) (e : (vs ++ [y]).length = k) (hk : k ≤ 1000)
    (U : Upd D (listOf (vs ++ [y]).toArray n) (listOf vs.toArray (n + 1)) news news') (h : ∀ h', Fr h₀ L h' m → News h₀ L h' news' → Q y { s with heap := h' }) :
    wpAny (model prog w) A (call (.builtin "list.pop") [.ref D, .int (((k : Int) - 1) * (3 - 2)) u]) Q E s := by
  rw [List.length_append, List.length_singleton] at e
  exact pop_last F N (by omega) (by omega) U h
theorem pop_first3 {Q : Value → Shared → Prop} (F : Fr h₀ L s.heap m) (N : News h₀ L s.heap news) (e : (y :: vs).length = k) (hk : k ≤ 1000)
    (U : Upd D (listOf (y :: vs).toArray n) (listOf vs.toArray (n + 1)) news news') (h : ∀ h', Fr h₀ L h' m → News h₀ L h' news' → Q y { s with heap := h' }) :
    wpAny (model prog w) A (call (.builtin "list.pop") [.ref D, .int (((k : Int) - 1) * (3 - 3)) u]) Q E s := by
  rw [List.length_cons] at e
  exact pop_first F N (by omega) (by omega) U h
theorem ne_e {l b : Addr} {nl nb : Nat} {Q : Value → Shared → Prop} (N : News h₀ L s.heap news) (hl : (l, listOf (([] : List Value)).toArray nl) ∈ news) (hb : (b, listOf #[] nb) ∈ news) (hu : A.units < cLine) (h : Q (.bool false) s) :
    wpAny (model prog w) A (compareOp .NotEq (.ref l) (.ref b)) Q E s := ne_nil (vs := []) (News.isList N hl) (News.isList N hb) hu h
theorem ne_s {l b : Addr} {nl nb : Nat} {Q : Value → Shared → Prop} (N : News h₀ L s.heap news) (hl : (l, listOf (vs ++ [y]).toArray nl) ∈ news) (hb : (b, listOf #[] nb) ∈ news) (hu : A.units < cLine) (h : Q (.bool true) s) :
    wpAny (model prog w) A (compareOp .NotEq (.ref l) (.ref b)) Q E s := ne_nil (News.isList N hl) (News.isList N hb) hu (by
      have e : (!(vs ++ [y]).isEmpty) = true := by cases vs <;> rfl
      rw [e]; exact h)
theorem ne_c {l b : Addr} {nl nb : Nat} {Q : Value → Shared → Prop} (N : News h₀ L s.heap news) (hl : (l, listOf (y :: vs).toArray nl) ∈ news) (hb : (b, listOf #[] nb) ∈ news) (hu : A.units < cLine) (h : Q (.bool true) s) :
    wpAny (model prog w) A (compareOp .NotEq (.ref l) (.ref b)) Q E s := ne_nil (News.isList N hl) (News.isList N hb) hu h
end
theorem seal_x (w : World) (mean : ExcName → Option Value) (mg mb : Str → Option Value) (a b c : Nat) (tk : Tok) (e : a ^^^ b = c) : Ctr w mean mg mb 10 120 135 [.int (Builtin.bitXor (a : Int) (b : Int)) tk] [] (fun v => ∃ t, v = .bytes (sealOf c) t) := by
  rw [bitXor_nat, e]; exact seal_row w mean mg mb c tk
theorem on_len (w : World) (mean : ExcName → Option Value) (mg mb : Str → Option Value) (c : Nat) (r : List Nat) (h : Row r) (tk tn : Tok) : Ctr w mean mg mb 4 40 123 [.int c tk, .int (((arr r).size : Nat) : Int) tn] [] (fun v => ∃ t, v = .int (onIt r.length c : Nat) t) :=
  on_row w mean mg mb c _ r.length (by rw [arr_size]) h.le tk tn
theorem txt_len {l : List Nat} (h : Row l) : (((arr (enc3 l)).size : Nat) : Int).fdiv 4 * 3 = (l.length : Int) := by
  have h3 := h.m3
  have e := fdiv_nat (arr (enc3 l)).size 4
  rw [arr_size, enc3_len h.m3] at e ⊢
  have e' : (((l.length / 3 * 4 : Nat) : Int)).fdiv 4 = (((l.length / 3 * 4) / 4 : Nat) : Int) := e
  rw [e']
  omega
theorem on_txt (w : World) (mean : ExcName → Option Value) (mg mb : Str → Option Value) (c : Nat) (r : List Nat) (h : Row r) (tk tn : Tok) : Ctr w mean mg mb 4 40 123 [.int c tk, .int ((((arr (enc3 r)).size : Nat) : Int).fdiv 4 * 3) tn] [] (fun v => ∃ t, v = .int (onIt r.length c : Nat) t) :=
  on_row w mean mg mb c _ r.length (txt_len h) h.le tk tn
theorem back_x (w : World) (mean : ExcName → Option Value) (mg mb : Str → Option Value) (a b c : Nat) (r : List Nat) (h : Row r) (ha : a < 4294967296) (hb : b < 4294967296) (e : backIt (8 * r.length) (a ^^^ b) = c) (tk tn : Tok) :
    Ctr w mean mg mb 2 20 130 [.int (Builtin.bitXor (a : Int) (b : Int)) tk, .int ((((arr (enc3 r)).size : Nat) : Int).fdiv 4 * 3) tn] [] (fun v => ∃ t, v = .int (c : Nat) t) := by
  rw [← e]
  exact back_row w mean mg mb _ _ (a ^^^ b) r.length (bitXor_nat a b) (Nat.xor_lt_two_pow (n := 32) ha hb) (txt_len h) h.le tk tn
noncomputable def J1 (S T R C : Addr) (i : Nat) (m : Str → Option Value) (rest : List (Addr × Obj)) : Prop :=
  ∃ (rs : List (List Nat)) (vR vT vS : List Value) (nR nT nS : Nat) (oc : Obj) (t : Tok), Cards rs i ∧ BA vR (rs.map arr) ∧ BA vT (rs.map fun r => arr (enc3 r)) ∧ BA vS (rs.map fun r => sealOf (sumOf r)) ∧ (∃ v, oc.data = .cell v) ∧
    rest = [(S, listOf vS.toArray nS), (T, listOf vT.toArray nT), (R, listOf vR.toArray nR), (C, oc)] ∧
    m (Str.ofString "rows") = some (.ref R) ∧ m (Str.ofString "texts") = some (.ref T) ∧ m (Str.ofString "seals") = some (.ref S) ∧ m (Str.ofString "seal") = some (.bytes (sealOf (sumOf rs.flatten)) t)
theorem news_drop {h₀ h : Heap} {L : Addr} {a b c : Addr × Obj} {r : List (Addr × Obj)} (N : News h₀ L h (a :: b :: c :: r)) : News h₀ L h (a :: r) := fun p hp => N p (by
  rcases List.mem_cons.mp hp with e | e
  · rw [e]; exact .head _
  · exact .tail _ (.tail _ (.tail _ e)))
theorem fr_put4 {h₀ h : Heap} {L : Addr} {m : Str → Option Value} {x1 x2 x3 x4 : Str} {v1 v2 v3 v4 : Value} (m1 : m x1 = some v1) (m2 : m x2 = some v2) (m3 : m x3 = some v3) (m4 : m x4 = some v4) (F : Fr h₀ L h m) :
    Fr h₀ L h (fun y => if y = x1 then some v1 else if y = x2 then some v2 else if y = x3 then some v3 else if y = x4 then some v4 else m y) := by
  have e : (fun y => if y = x1 then some v1 else if y = x2 then some v2 else if y = x3 then some v3 else if y = x4 then some v4 else m y) = m := by
    funext y
    by_cases h1 : y = x1
    · rw [if_pos h1, h1, m1]
    rw [if_neg h1]
    by_cases h2 : y = x2
    · rw [if_pos h2, h2, m2]
    rw [if_neg h2]
    by_cases h3 : y = x3
    · rw [if_pos h3, h3, m3]
    rw [if_neg h3]
    by_cases h4 : y = x4
    · rw [if_pos h4, h4, m4]
    rw [if_neg h4]
  rw [e]; exact F
theorem dec_nil (w : World) (mean : ExcName → Option Value) (mg mb : Str → Option Value) (tk : Tok) : Ctr w mean mg mb 8 80 102 [.bytes (arr ([] : List (List Nat)).flatten) tk] [] (fun v => ∃ t, v = .bytes (arr ([] : List (List Nat)).flatten) t) :=
  dec_row w mean mg mb [] tk ⟨List.forall_mem_nil _, rfl, Nat.zero_le _⟩
theorem ba_snoc {f : List Nat → Array UInt8} {vs : List Value} {rs : List (List Nat)} {r : List Nat} {t : Tok} (h : BA vs (rs.map f)) : BA (vs ++ [.bytes (f r) t]) ((rs ++ [r]).map f) := by
  rw [List.map_append]
  exact BA.append h (.cons _ _ .nil)
theorem ba_cons {f : List Nat → Array UInt8} {vs : List Value} {rs : List (List Nat)} {r : List Nat} {t : Tok} (h : BA vs (rs.map f)) : BA (.bytes (f r) t :: vs) ((r :: rs).map f) := .cons _ _ h
theorem Cards.oct {rs : List (List Nat)} {n : Nat} (h : Cards rs n) : ∀ x ∈ rs.flatten, x < 256 := h.row.oct
theorem Cards.snoc {rs : List (List Nat)} {r : List Nat} {i : Nat} (h : Cards rs i) (hr : Card r) (hi : i ≤ 8) : Cards (rs ++ [r]) (i + 1) :=
  ⟨by have := h.len; simp; omega, by omega, fun x hx => (List.mem_append.mp hx).elim (h.each x) fun e => by rw [List.mem_singleton.mp e]; exact ⟨hr.oct, hr.len⟩⟩
theorem Cards.cons {rs : List (List Nat)} {r : List Nat} {i : Nat} (h : Cards rs i) (hr : Card r) (hi : i ≤ 8) : Cards (r :: rs) (i + 1) :=
  ⟨by have := h.len; simp; omega, by omega, fun x hx => (List.mem_cons.mp hx).elim (fun e => by rw [e]; exact ⟨hr.oct, hr.len⟩) (h.each x)⟩
theorem Cards.up {rs : List (List Nat)} {i : Nat} (h : Cards rs i) (hi : i ≤ 8) : Cards rs (i + 1) := ⟨by have := h.len; omega, by omega, h.each⟩
structure NewCard (rs : List (List Nat)) (r : List Nat) (c i : Nat) : Prop where
  e0 : onIt r.length c ^^^ sumOf r = sumOf (rs ++ [r]).flatten
  e1 : c ^^^ onIt rs.flatten.length (sumOf r) = sumOf (r :: rs).flatten
  c0 : Cards (rs ++ [r]) (i + 1)
  c1 : Cards (r :: rs) (i + 1)
theorem new_card {rs : List (List Nat)} {r : List Nat} {c i : Nat} (h : Cards rs i) (hr : Card r) (hc : c = sumOf rs.flatten) (hi : i ≤ 8) : NewCard rs r c i := by
  subst hc
  refine ⟨?_, ?_, h.snoc hr hi, h.cons hr hi⟩
  · rw [List.flatten_append, List.flatten_cons, List.flatten_nil, List.append_nil, sumOf_append h.oct hr.oct]
  · rw [List.flatten_cons, sumOf_append hr.oct h.oct, Nat.xor_comm]
structure OldCard (rs : List (List Nat)) (r : List Nat) (i : Nat) : Prop where
  row : Row r
  cards : Cards rs (i + 1)
theorem old_last {rs : List (List Nat)} {r : List Nat} {c i : Nat} (h : Cards (rs ++ [r]) i) (hc : c = sumOf (rs ++ [r]).flatten) (hi : i ≤ 8) : Row r ∧ Cards rs (i + 1) ∧ Row rs.flatten ∧ backIt (8 * r.length) (c ^^^ sumOf r) = sumOf rs.flatten := by
  have h1 : Cards rs (i + 1) := ⟨by have := h.len; simp at this; omega, by omega, fun x hx => h.each x (List.mem_append_left _ hx)⟩
  have h2 := h.one (r := r) (by simp)
  refine ⟨h2, h1, h1.row, ?_⟩
  subst hc
  rw [List.flatten_append, List.flatten_cons, List.flatten_nil, List.append_nil, sum_last h1.oct h2.oct]
theorem old_first {rs : List (List Nat)} {r : List Nat} {c i : Nat} (h : Cards (r :: rs) i) (hc : c = sumOf (r :: rs).flatten) (hi : i ≤ 8) : Row r ∧ Cards rs (i + 1) ∧ Row rs.flatten ∧ c ^^^ onIt rs.flatten.length (sumOf r) = sumOf rs.flatten := by
  have h1 : Cards rs (i + 1) := ⟨by have := h.len; simp at this; omega, by omega, fun x hx => h.each x (.tail _ hx)⟩
  have h2 := h.one (r := r) (.head _)
  refine ⟨h2, h1, h1.row, ?_⟩
  subst hc
  rw [List.flatten_cons, sum_first h1.oct h2.oct]
theorem ne_same_int {prog : Program} {w : World} {A : Around} {E : Value → Shared → Prop} {s : Shared} {a : Int} {t u : Tok} {Q : Value → Shared → Prop} (h : Q (.bool false) s) : wpAny (model prog w) A (compareOp .NotEq (.int a t) (.int a u)) Q E s :=
  PyProof.Rows.ne_int (by rw [bne_self_eq_false]; exact h)
theorem j1_end {h₀ h' : Heap} {L S T R C : Addr} {m' : Str → Option Value} {own : List (Addr × Obj)} {s : Shared} {tk' : Nat} {Q : Flow → Shared → Prop} {i : Nat} {rs : List (List Nat)} {vR vT vS : List Value} {nR nT nS : Nat} {oc : Obj} {cv : Option Value} {t : Tok}
    (F : Fr h₀ L h' m') (N : News h₀ L h' ([(S, listOf vS.toArray nS), (T, listOf vT.toArray nT), (R, listOf vR.toArray nR), (C, oc)] ++ own)) (hR : BA vR (rs.map arr)) (hT : BA vT (rs.map fun r => arr (enc3 r))) (hS : BA vS (rs.map fun r => sealOf (sumOf r))) (hC : Cards rs i) (hoc : oc.data = .cell cv)
    (m1 : m' (Str.ofString "rows") = some (.ref R)) (m2 : m' (Str.ofString "texts") = some (.ref T)) (m3 : m' (Str.ofString "seals") = some (.ref S)) (m4 : m' (Str.ofString "seal") = some (.bytes (sealOf (sumOf rs.flatten)) t)) :
    LedPost h₀ L (J1 S T R C i) own s Q .next { s with heap := h', toks := tk' } :=
  ⟨h', tk', m', _, rfl, F, N, rs, vR, vT, vS, nR, nT, nS, oc, t, hC, hR, hT, hS, ⟨cv, hoc⟩, rfl, m1, m2, m3, m4⟩

theorem lawtry : PySem.Challenge.rw_qh0114_01.Holds := hd (by
  k_with_none
  k_with "steps" => repeat' ((fail_if_success (with_reducible show wpAny _ _ (pyIter _) _ _ _)); first | (k_unfold; (try dsimp only)) | walk1 | (dsimp only; walk1) | fail "no step")
  k_with "exec For" => (k_here; (rename Fr _ _ _ _ => lF'); (with_unfolding_all refine' For_invVF lF' ?hole1k1 ?hole1k2 ?_; (case hole1k1 => exact rfl); (case hole1k2 => exact rfl); k_whole))
  k_with "exec For Name Call cons nil" => (k_here; (rename Fr _ _ _ _ => lF'); (with_unfolding_all refine' For_invVF lF' ?hole2k1 ?hole2k2 ?_; (case hole2k1 => exact rfl); (case hole2k2 => exact rfl); k_whole))
  k_with "exec For Name Name cons nil" => (k_here; (rename Fr _ _ _ _ => lF'); (with_unfolding_all refine' For_invVF lF' ?hole3k1 ?hole3k2 ?_; (case hole3k1 => exact rfl); (case hole3k2 => exact rfl); k_whole))
  k_with "call type:type" => (k_here; (with_reducible show wpAny _ _ (call _ [Value.bytes _ _]) _ _ _); refine call_type_of (Tx := "bytes") rfl (by decide +kernel) ?_)
  k_with "kba_in" => first | assumption | (refine in_snoc ?_ ?_; (focus (first | k_extra "kba_in" | kba_in)); (first | exact byte_in _ | decide | omega))
  k_with "kba_ints" => first | assumption | (refine ints_snoc ?_; (first | k_extra "kba_ints" | kba_listInts))
  k_with "call type:bytes" => (k_here; (with_reducible show wpAny _ _ (call (Value.type "bytes") [Value.ref _]) _ _ _); (rename News _ _ _ _ => nE'); (simp only [List.push_toArray] at nE'); k_dflt (refine' KBa.make_K ?hole7kbaF nE' ?hole7kbah ?hole7kbal ?hole7kbai ?hole7kbar ?hole7kban ?_; (case hole7kbaF => k_asm); (case hole7kbah => rfl); (case hole7kbal => exact News.isList nE' (by k_mem)); (case hole7kbai => first | k_extra "kba_ints" | kba_listInts); (case hole7kbar => first | k_extra "kba_in" | kba_in); (case hole7kban => kba_size)); intro _ _ _ F' N' kbaIn)
  k_with "binaryOp FloorDiv int int" => (k_here; first | (with_reducible refine floordiv_int (powN_ne (b := 256) (by decide) _) ?_ (Or.inl (pow256_py ?hole8kbp)); (case hole8kbp => omega)) | (with_reducible refine floordiv_int (powN_ne (b := 64) (by decide) _) ?_ (Or.inl (pow64_py ?hole8kbp)); (case hole8kbp => omega)))
  k_with "call builtin:len" => (k_here; (with_reducible show wpAny _ _ (call (Value.builtin "len") [Value.bytes _ _]) _ _ _); refine len_B ?hole9kl ?_; (case hole9kl => first | exact Nat.le_trans (Small.le (by assumption)) (by decide) | omega))
  k_with "steps" => repeat' ((fail_if_success (with_reducible show wpAny _ _ (pyIter _) _ _ _)); (fail_if_success (with_reducible show wpAny _ _ (exec (Stmt.For _ _ _ _ _) _) _ _ _)); (fail_if_success (with_reducible show LedPost _ _ _ _ _ _ _ _)); (fail_if_success (with_reducible show J2 _ _ _ _ _ _ _ _ _ _ _)); (fail_if_success (with_reducible show wpAny _ _ (execs _ (envOf _ _ _ _ _)) _ _ _)); first | (k_unfold; (try dsimp only)) | walk1 | (dsimp only; walk1) | fail "no step")
  k_with "call ref" => (k_here; (with_reducible show wpAny _ _ (call (Value.ref 116) _ _) _ _ _); (k_dflt (refine' Ctr.use (sum_row _ _ _ _ _ _ (by with_reducible assumption)) ?hole11k1 ?hole11k2 ?hole11k3 ?hole11k4 ?hole11k5 ?hole11kK ?hole11kd ?hole11ku ?_; (case hole11k1 => k_asm); (case hole11k2 => k_asm); (case hole11k3 => k_asm); (case hole11k4 => k_asm); (case hole11k5 => k_asm); (case hole11kK => first | exact rfl | assumption); (case hole11kd => first | exact Nat.le_of_ble_eq_true rfl | exact room1 (by assumption) rfl | exact room2 (by assumption) rfl | ktr_room); (case hole11ku => first | exact Nat.le_of_ble_eq_true rfl | exact room1 (by assumption) rfl | exact room2 (by assumption) rfl | ktr_units); k_whole); intro _ _ _ hv' _ _; (first | (obtain ⟨_, hv'⟩ := hv'; subst hv') | subst hv'); (try k_sweep)))
  k_with "call ref" => (k_here; (with_reducible show wpAny _ _ (call (Value.ref 135) [Value.int (Nat.cast _) _] _) _ _ _); (k_dflt (refine' Ctr.use (seal_row _ _ _ _ _ _) ?hole12k1 ?hole12k2 ?hole12k3 ?hole12k4 ?hole12k5 ?hole12kK ?hole12kd ?hole12ku ?_; (case hole12k1 => k_asm); (case hole12k2 => k_asm); (case hole12k3 => k_asm); (case hole12k4 => k_asm); (case hole12k5 => k_asm); (case hole12kK => first | exact rfl | assumption); (case hole12kd => first | exact Nat.le_of_ble_eq_true rfl | exact room1 (by assumption) rfl | exact room2 (by assumption) rfl | ktr_room); (case hole12ku => first | exact Nat.le_of_ble_eq_true rfl | exact room1 (by assumption) rfl | exact room2 (by assumption) rfl | ktr_units); k_whole); intro _ _ _ hv' _ _; (first | (obtain ⟨_, hv'⟩ := hv'; subst hv') | subst hv'); (try k_sweep)))
  k_with "call ref" => (k_here; (with_reducible show wpAny _ _ (call (Value.ref 135) [Value.int (Builtin.bitXor _ _) _] _) _ _ _); (k_dflt (refine' Ctr.use (seal_x _ _ _ _ _ _ _ _ (by with_reducible assumption)) ?hole13k1 ?hole13k2 ?hole13k3 ?hole13k4 ?hole13k5 ?hole13kK ?hole13kd ?hole13ku ?_; (case hole13k1 => k_asm); (case hole13k2 => k_asm); (case hole13k3 => k_asm); (case hole13k4 => k_asm); (case hole13k5 => k_asm); (case hole13kK => first | exact rfl | assumption); (case hole13kd => first | exact Nat.le_of_ble_eq_true rfl | exact room1 (by assumption) rfl | exact room2 (by assumption) rfl | ktr_room); (case hole13ku => first | exact Nat.le_of_ble_eq_true rfl | exact room1 (by assumption) rfl | exact room2 (by assumption) rfl | ktr_units); k_whole); intro _ _ _ hv' _ _; (first | (obtain ⟨_, hv'⟩ := hv'; subst hv') | subst hv'); (try k_sweep)))
  k_with "call ref" => (k_here; (with_reducible show wpAny _ _ (call (Value.ref 140) _ _) _ _ _); (k_dflt (refine' Ctr.use (opened_row _ _ _ _ _ _ (by first | (with_reducible exact sumOf_lt _) | (with_reducible assumption))) ?hole14k1 ?hole14k2 ?hole14k3 ?hole14k4 ?hole14k5 ?hole14kK ?hole14kd ?hole14ku ?_; (case hole14k1 => k_asm); (case hole14k2 => k_asm); (case hole14k3 => k_asm); (case hole14k4 => k_asm); (case hole14k5 => k_asm); (case hole14kK => first | exact rfl | assumption); (case hole14kd => first | exact Nat.le_of_ble_eq_true rfl | exact room1 (by assumption) rfl | exact room2 (by assumption) rfl | ktr_room); (case hole14ku => first | exact Nat.le_of_ble_eq_true rfl | exact room1 (by assumption) rfl | exact room2 (by assumption) rfl | ktr_units); k_whole); intro _ _ _ hv' _ _; (first | (obtain ⟨_, hv'⟩ := hv'; subst hv') | subst hv'); (try k_sweep)))
  k_with "call ref" => (k_here; (with_reducible show wpAny _ _ (call (Value.ref 94) _ _) _ _ _); (k_dflt (refine' Ctr.use (enc_row _ _ _ _ _ _ (by with_reducible assumption)) ?hole15k1 ?hole15k2 ?hole15k3 ?hole15k4 ?hole15k5 ?hole15kK ?hole15kd ?hole15ku ?_; (case hole15k1 => k_asm); (case hole15k2 => k_asm); (case hole15k3 => k_asm); (case hole15k4 => k_asm); (case hole15k5 => k_asm); (case hole15kK => first | exact rfl | assumption); (case hole15kd => first | exact Nat.le_of_ble_eq_true rfl | exact room1 (by assumption) rfl | exact room2 (by assumption) rfl | ktr_room); (case hole15ku => first | exact Nat.le_of_ble_eq_true rfl | exact room1 (by assumption) rfl | exact room2 (by assumption) rfl | ktr_units); k_whole); intro _ _ _ hv' _ _; (first | (obtain ⟨_, hv'⟩ := hv'; subst hv') | subst hv'); (try k_sweep)))
  k_with "call ref" => (k_here; (with_reducible show wpAny _ _ (call (Value.ref 102) _ _) _ _ _); (k_dflt (refine' Ctr.use (dec_row _ _ _ _ _ _ (by with_reducible assumption)) ?hole16k1 ?hole16k2 ?hole16k3 ?hole16k4 ?hole16k5 ?hole16kK ?hole16kd ?hole16ku ?_; (case hole16k1 => k_asm); (case hole16k2 => k_asm); (case hole16k3 => k_asm); (case hole16k4 => k_asm); (case hole16k5 => k_asm); (case hole16kK => first | exact rfl | assumption); (case hole16kd => first | exact Nat.le_of_ble_eq_true rfl | exact room1 (by assumption) rfl | exact room2 (by assumption) rfl | ktr_room); (case hole16ku => first | exact Nat.le_of_ble_eq_true rfl | exact room1 (by assumption) rfl | exact room2 (by assumption) rfl | ktr_units); k_whole); intro _ _ _ hv' _ _; (first | (obtain ⟨_, hv'⟩ := hv'; subst hv') | subst hv'); (try k_sweep)))
  k_with "call ref" => (k_here; (with_reducible show wpAny _ _ (call (Value.ref 102) [Value.bytes (arr (List.flatten [])) _] _) _ _ _); (k_dflt (refine' Ctr.use (dec_nil _ _ _ _ _) ?hole17k1 ?hole17k2 ?hole17k3 ?hole17k4 ?hole17k5 ?hole17kK ?hole17kd ?hole17ku ?_; (case hole17k1 => k_asm); (case hole17k2 => k_asm); (case hole17k3 => k_asm); (case hole17k4 => k_asm); (case hole17k5 => k_asm); (case hole17kK => first | exact rfl | assumption); (case hole17kd => first | exact Nat.le_of_ble_eq_true rfl | exact room1 (by assumption) rfl | exact room2 (by assumption) rfl | ktr_room); (case hole17ku => first | exact Nat.le_of_ble_eq_true rfl | exact room1 (by assumption) rfl | exact room2 (by assumption) rfl | ktr_units); k_whole); intro _ _ _ hv' _ _; (first | (obtain ⟨_, hv'⟩ := hv'; subst hv') | subst hv'); (try k_sweep)))
  k_with "call ref" => (k_here; (with_reducible show wpAny _ _ (call (Value.ref 145) _ _) _ _ _); (k_dflt (refine' Ctr.use (written_row _ _ _ _ _ _ (by with_reducible assumption)) ?hole18k1 ?hole18k2 ?hole18k3 ?hole18k4 ?hole18k5 ?hole18kK ?hole18kd ?hole18ku ?_; (case hole18k1 => k_asm); (case hole18k2 => k_asm); (case hole18k3 => k_asm); (case hole18k4 => k_asm); (case hole18k5 => k_asm); (case hole18kK => first | exact rfl | assumption); (case hole18kd => first | exact Nat.le_of_ble_eq_true rfl | exact room1 (by assumption) rfl | exact room2 (by assumption) rfl | ktr_room); (case hole18ku => first | exact Nat.le_of_ble_eq_true rfl | exact room1 (by assumption) rfl | exact room2 (by assumption) rfl | ktr_units); k_whole); intro _ _ _ hv' _ _; (first | (obtain ⟨_, hv'⟩ := hv'; subst hv') | subst hv'); (try k_sweep)))
  k_with "call ref" => (k_here; (with_reducible show wpAny _ _ (call (Value.ref 123) [Value.int _ _, Value.int (Nat.cast _) _] _) _ _ _); (k_dflt (refine' Ctr.use (on_len _ _ _ _ _ _ (by with_reducible assumption) _ _) ?hole19k1 ?hole19k2 ?hole19k3 ?hole19k4 ?hole19k5 ?hole19kK ?hole19kd ?hole19ku ?_; (case hole19k1 => k_asm); (case hole19k2 => k_asm); (case hole19k3 => k_asm); (case hole19k4 => k_asm); (case hole19k5 => k_asm); (case hole19kK => first | exact rfl | assumption); (case hole19kd => first | exact Nat.le_of_ble_eq_true rfl | exact room1 (by assumption) rfl | exact room2 (by assumption) rfl | ktr_room); (case hole19ku => first | exact Nat.le_of_ble_eq_true rfl | exact room1 (by assumption) rfl | exact room2 (by assumption) rfl | ktr_units); k_whole); intro _ _ _ hv' _ _; (first | (obtain ⟨_, hv'⟩ := hv'; subst hv') | subst hv'); (try k_sweep)))
  k_with "call ref" => (k_here; (with_reducible show wpAny _ _ (call (Value.ref 123) [Value.int _ _, Value.int (_ * _) _] _) _ _ _); (k_dflt (refine' Ctr.use (on_txt _ _ _ _ _ _ (by with_reducible assumption) _ _) ?hole20k1 ?hole20k2 ?hole20k3 ?hole20k4 ?hole20k5 ?hole20kK ?hole20kd ?hole20ku ?_; (case hole20k1 => k_asm); (case hole20k2 => k_asm); (case hole20k3 => k_asm); (case hole20k4 => k_asm); (case hole20k5 => k_asm); (case hole20kK => first | exact rfl | assumption); (case hole20kd => first | exact Nat.le_of_ble_eq_true rfl | exact room1 (by assumption) rfl | exact room2 (by assumption) rfl | ktr_room); (case hole20ku => first | exact Nat.le_of_ble_eq_true rfl | exact room1 (by assumption) rfl | exact room2 (by assumption) rfl | ktr_units); k_whole); intro _ _ _ hv' _ _; (first | (obtain ⟨_, hv'⟩ := hv'; subst hv') | subst hv'); (try k_sweep)))
  k_with "call ref" => (k_here; (with_reducible show wpAny _ _ (call (Value.ref 130) _ _) _ _ _); (k_dflt (refine' Ctr.use (back_x _ _ _ _ _ _ _ _ (by with_reducible assumption) (by first | (with_reducible exact sumOf_lt _) | (with_reducible assumption)) (by first | (with_reducible exact sumOf_lt _) | (with_reducible assumption)) (by with_reducible assumption) _ _) ?hole21k1 ?hole21k2 ?hole21k3 ?hole21k4 ?hole21k5 ?hole21kK ?hole21kd ?hole21ku ?_; (case hole21k1 => k_asm); (case hole21k2 => k_asm); (case hole21k3 => k_asm); (case hole21k4 => k_asm); (case hole21k5 => k_asm); (case hole21kK => first | exact rfl | assumption); (case hole21kd => first | exact Nat.le_of_ble_eq_true rfl | exact room1 (by assumption) rfl | exact room2 (by assumption) rfl | ktr_room); (case hole21ku => first | exact Nat.le_of_ble_eq_true rfl | exact room1 (by assumption) rfl | exact room2 (by assumption) rfl | ktr_units); k_whole); intro _ _ _ hv' _ _; (first | (obtain ⟨_, hv'⟩ := hv'; subst hv') | subst hv'); (try k_sweep)))
  k_with "call ref" => (k_here; (with_reducible show wpAny _ _ (call (Value.ref 135) [Value.int (OfNat.ofNat _) _] _) _ _ _); (k_dflt (refine' Ctr.use (seal_ctr _ _ _ _ _ _ (by first | omega | decide)) ?hole22k1 ?hole22k2 ?hole22k3 ?hole22k4 ?hole22k5 ?hole22kK ?hole22kd ?hole22ku ?_; (case hole22k1 => k_asm); (case hole22k2 => k_asm); (case hole22k3 => k_asm); (case hole22k4 => k_asm); (case hole22k5 => k_asm); (case hole22kK => first | exact rfl | assumption); (case hole22kd => first | exact Nat.le_of_ble_eq_true rfl | exact room1 (by assumption) rfl | exact room2 (by assumption) rfl | ktr_room); (case hole22ku => first | exact Nat.le_of_ble_eq_true rfl | exact room1 (by assumption) rfl | exact room2 (by assumption) rfl | ktr_units); k_whole); intro _ _ _ hv' _ _; (first | (obtain ⟨_, hv'⟩ := hv'; subst hv') | subst hv'); (try k_sweep)))
  k_with "binaryOp Mod int int" => (k_here; refine mod_is (by assumption) (by decide) ?_; (try dsimp only))
  k_with "binaryOp Pow int int" => (k_here; (with_reducible refine pow_int_small ?hole24kb1 ?hole24kb2 ?hole24kb3 ?_); (case hole24kb1 => assumption); (case hole24kb2 => exact k_le (by assumption) (by decide)); (case hole24kb3 => decide))
  k_with "binaryOp FloorDiv int int" => (k_here; (with_reducible refine floordiv_int (powN_ne (b := 256) (by decide) _) ?_ (Or.inl (pow256_py ?hole25kbp)); (case hole25kbp => exact k_lt (by assumption) (by decide))))
  k_with "call builtin:len" => (k_here; (with_reducible show wpAny _ _ (call (Value.builtin "len") [Value.bytes _ _]) _ _ _); (first | (refine len_row (by with_reducible assumption) ?_) | (refine len_txt (by with_reducible assumption) ?_)); (try dsimp only))
  k_with "call type:bytes" => (k_here; (with_reducible show wpAny _ _ (call (Value.type "bytes") [Value.ref _]) _ _ _); (rename News _ _ _ _ => nE'); (try simp only [List.push_toArray] at nE'); k_dflt (refine' bytes_row ?hole27kbaF nE' ?hole27kbah ?hole27kbai ?hole27kbar ?hole27kban ?_; (case hole27kbaF => k_asm); (case hole27kbah => rfl); (case hole27kbai => first | k_extra "kba_ints" | kba_listInts); (case hole27kbar => first | k_extra "kba_in" | kba_in); (case hole27kban => (rw [List.length_map, rangeKs_length]; decide))); intro r' h' t' k' F' N' hr'; clear nE'; have hRow' := row_of hr'; have hNew' := new_card (by with_reducible assumption) hr' (by with_reducible assumption) (by with_reducible assumption); have e0' := hNew'.e0; have e1' := hNew'.e1; have c0' := hNew'.c0; have c1' := hNew'.c1; have r0' := c0'.row; have r1' := c1'.row; (rename IntsAre _ (List.map _ _) => hI8'); (rename _ = List.length (List.map _ _) => hL8'); clear hI8' hL8'; (try (rename (_ ≠ _ ∧ _) => o1'; clear o1')))
  k_with "call builtin:list.insert" => (k_here; (with_reducible show wpAny _ _ (call (Value.builtin _) [Value.ref _, Value.int _ _, _]) _ _ _); (rename News _ _ _ _ => nE'); (rename Fr _ _ _ _ => fE'); (first | (with_reducible refine' ins_last0 fE' nE' ?hole28e ?hole28z ?hole28U ?_) | (with_reducible refine' ins_first1 fE' nE' ?hole28e ?hole28z ?hole28U ?_)); (case hole28U => k_upd); (case hole28e => with_reducible assumption); (case hole28z => with_reducible assumption); intro h' F' N'; (try k_sweep); (try dsimp only [List.nil_append, List.cons_append] at N'); (try dsimp only))
  k_with "call builtin:list.pop" => (k_here; (with_reducible show wpAny _ _ (call (Value.builtin _) [Value.ref _, Value.int _ _]) _ _ _); (rename News _ _ _ _ => nE'); (rename Fr _ _ _ _ => fE'); (first | (with_reducible refine' pop_last2 fE' nE' ?hole29e ?hole29z ?hole29U ?_) | (with_reducible refine' pop_first3 fE' nE' ?hole29e ?hole29z ?hole29U ?_)); (case hole29U => k_upd); (case hole29e => with_reducible assumption); (case hole29z => with_reducible assumption); intro h' F' N'; (try k_sweep); (try dsimp only [List.nil_append, List.cons_append] at N'); (try dsimp only))
  k_with "call builtin:len" => (k_here; (with_reducible show wpAny _ _ (call (Value.builtin "len") [Value.ref _]) _ _ _); (rename News _ _ _ _ => nE'); k_dflt (refine len_vs nE' (by k_mem) (by with_reducible assumption) (by with_reducible assumption) ?_); (try dsimp only))
  k_with "binaryOp Mult int int" => (k_here; with_reducible refine mul_int ?_ (IntMulOk.of_right (PySem.intBits_le_64 (by decide) (by decide))); (try dsimp only))
  k_with "compareOp NotEq ref ref" => (k_here; (rename News _ _ _ _ => nE'); k_dflt (first | (refine ne_s nE' (by k_mem) (by k_mem) (by ktr_units) ?_) | (refine ne_c nE' (by k_mem) (by k_mem) (by ktr_units) ?_) | (refine ne_e nE' (by k_mem) (by k_mem) (by ktr_units) ?_)); (try dsimp only))
  k_with "call builtin:bytes.join" => (k_here; (rename News _ _ _ _ => nE'); k_dflt (first | (refine join_rows (News.isList nE' (by k_mem)) (by first | (with_reducible assumption) | exact ba_snoc (f := arr) (by with_reducible assumption) | exact ba_cons (f := arr) (by with_reducible assumption)) (by with_reducible assumption) ?_) | (refine join_texts (News.isList nE' (by k_mem)) (by first | (with_reducible assumption) | exact ba_snoc (f := fun r => arr (enc3 r)) (by with_reducible assumption) | exact ba_cons (f := fun r => arr (enc3 r)) (by with_reducible assumption)) (by with_reducible assumption) ?_)); intro t' k'; (try dsimp only))
  k_with "call builtin:isinstance" => (k_here; with_reducible refine isi_bytes ?_)
  k_with "getMethod bytes" => (k_here; refine meth_bjoin ?_)
  k_with "compareOp NotEq int int" => (k_here; with_reducible refine ne_same_int ?_)
  k_with "compareOp NotEq bytes bytes" => (k_here; refine ne_same ?_)
  w_strict (k_go0; (all_goals try k_fold))
  k_extra "steps"
  refine wpAny_For ?_
  k_extra "steps"
  rename IntsAre _ ([1727104, 133691385, 2] ++ _) => hI0
  rename Fr _ _ _ _ => F0
  rename News _ _ _ _ => N0
  refine for_led (J1 _ _ _ _) rfl F0 (news_drop N0) ⟨[], [], [], [], 0, 0, 0, _, _, ⟨Nat.le_refl _, by decide, List.forall_mem_nil _⟩, .nil, .nil, .nil, ⟨_, by assumption⟩, rfl, rfl, rfl, rfl, rfl⟩ ?_ ?_ ?_
  · rintro i v m rest I oI h tk hv ⟨rs, vR, vT, vS, nR, nT, nS, oc, t, hC, hR, hT, hS, ⟨cv, hoc⟩, rfl, m1, m2, m3, m4⟩ F1 N1 hlt
    obtain ⟨n, tn, rfl, hn⟩ := hI0.at _ _ hv
    have F2 := fr_put4 m1 m2 m3 m4 F1
    clear F1
    simp only [List.cons_append, List.nil_append] at N1
    rename_i R _ l10 _ _ T _ l1a _ _ S _ l1b _ F9 N9 _ _ _ _ _ _ lt _ l1c D1 _ _ hI9 hC9 hL9 l1d D0 _ _ l1e
    simp only [AllLt, and_true] at hlt
    have ch1 := l1a.1
    have ch2 := l1b.1
    have ch3 := l1e.2.2.1
    have ch4 := hlt.1
    clear l1a l1b l1c l1d l1e hlt F9 N9 hI9 hC9 hL9
    have hi : i ≤ 8 := by
      have h1 := (List.getElem?_eq_some_iff.mp hn).1
      simp only [List.length_append, List.length_cons, List.length_nil, List.length_take] at h1
      omega
    have hlR := hR.length
    have hlT := hT.length
    have hlS := hS.length
    rw [List.length_map] at hlR hlT hlS
    have hlen := hC.len
    have hWhole := hC.row
    obtain ⟨c, hc⟩ : ∃ c, c = sumOf rs.flatten := ⟨_, rfl⟩
    have hcl : c < 4294967296 := hc ▸ sumOf_lt _
    rw [← hc] at F2
    have hd4 : n.fmod 4 = 0 ∨ n.fmod 4 = 1 ∨ n.fmod 4 = 2 ∨ n.fmod 4 = 3 := by
      have h1 := fmod_lo n (n := 4) (by decide)
      have h2 := fmod_hi n (n := 4) (by decide)
      omega
    have hd2 : (n.fdiv 4).fmod 2 = 0 ∨ (n.fdiv 4).fmod 2 = 1 := by
      have h1 := fmod_lo (n.fdiv 4) (n := 2) (by decide)
      have h2 := fmod_hi (n.fdiv 4) (n := 2) (by decide)
      omega
    have hk1000 : rs.length ≤ 1000 := by omega
    clear F0 N0 hn hv
    obtain ⟨qab, qac, qad, qae, qaf, qbc, qbd, qbe, qbf, qcd, qce, qcf, qde, qdf, qef⟩ := ne6 l10 ch1 ch2 ch3 ch4
    repeat' ((fail_if_success (with_reducible show wpAny _ _ (exec (Stmt.If _ _ _ _) _) _ _ _)); first | (k_unfold; (try dsimp only)) | walk1 | (dsimp only; walk1) | fail "no step")
    rename News _ _ _ _ => N9
    rename Fr _ _ _ _ => F9
    refine cut_if i N9 (fun Qo hQo => ?_) ?_
    · rcases hd4 with hq | hq | hq | hq
      · 
        rcases hd2 with hp | hp
        all_goals (k_extra "steps"; exact hQo _ _ <| j2_end (by assumption) (by assumption) (ba_snoc (f := arr) hR) (ba_snoc (f := fun r => arr (enc3 r)) hT) (ba_snoc (f := fun r => sealOf (sumOf r)) hS) (by assumption) (by assumption) rfl rfl rfl rfl (xorE (by assumption)))
      · 
        rcases hd2 with hp | hp
        all_goals (k_extra "steps"; exact hQo _ _ <| j2_end (by assumption) (by assumption) (ba_cons (f := arr) hR) (ba_cons (f := fun r => arr (enc3 r)) hT) (ba_cons (f := fun r => sealOf (sumOf r)) hS) (by assumption) (by assumption) rfl rfl rfl rfl (xorE (by assumption)))
      · 
        clear hd2
        rcases List.eq_nil_or_concat rs with e | ⟨rs', r, e⟩
        · subst e
          cases hR
          cases hT
          cases hS
          have hC' := hC.up hi
          k_extra "steps"
          exact hQo _ _ <| j2_end (by assumption) (fun p hp => (by assumption : News _ _ _ _) p (.tail _ hp)) .nil .nil .nil hC' (by assumption) rfl rfl rfl rfl (congrArg _ hc)
        · rw [List.concat_eq_append] at e
          subst e
          rw [List.map_append] at hR hT hS
          obtain ⟨vR', tR, rfl, hR'⟩ := BA.snoc_inv hR
          obtain ⟨vT', tT, rfl, hT'⟩ := BA.snoc_inv hT
          obtain ⟨vS', tS, rfl, hS'⟩ := BA.snoc_inv hS
          obtain ⟨hr1, hC', hW', hx'⟩ := old_last hC hc hi
          clear hC hR hT hS hWhole hlen hi
          k_extra "steps"
          exact hQo _ _ <| j2_end (by assumption) (fun p hp => (by assumption : News _ _ _ _) p (.tail _ hp)) hR' hT' hS' hC' (by assumption) rfl rfl rfl rfl rfl
      · 
        clear hd2
        cases rs with
        | nil =>
          cases hR
          cases hT
          cases hS
          have hC' := hC.up hi
          k_extra "steps"
          exact hQo _ _ <| j2_end (by assumption) (fun p hp => (by assumption : News _ _ _ _) p (.tail _ hp)) .nil .nil .nil hC' (by assumption) rfl rfl rfl rfl (congrArg _ hc)
        | cons r rs' =>
          obtain ⟨vR', tR, rfl, hR'⟩ := BA.cons_inv hR
          obtain ⟨vT', tT, rfl, hT'⟩ := BA.cons_inv hT
          obtain ⟨vS', tS, rfl, hS'⟩ := BA.cons_inv hS
          obtain ⟨hr1, hC', hW', hx'⟩ := old_first hC hc hi
          clear hC hR hT hS hWhole hlen hi
          k_extra "steps"
          exact hQo _ _ <| j2_end (by assumption) (fun p hp => (by assumption : News _ _ _ _) p (.tail _ hp)) hR' hT' hS' hC' (by assumption) rfl rfl rfl rfl (xorE hx')
    · clear hC hR hT hS hWhole hlen hlR hlT hlS hk1000 hd4 hd2 hc hcl F9 N9
      rintro s' ⟨-, h', tk', m', rs', vR', vT', vS', nR', nT', nS', oc', X', t', rfl, F3, N3, hC, hR, hT, hS, ⟨cv', hoc'⟩, m1', m2', m3', m4', rfl⟩
      have F4 := fr_put4 m1' m2' m3' m4' F3
      clear F3
      have hWhole := hC.row
      dsimp only
      refine absQ fun Qo hQo => ?_
      k_extra "steps"
      all_goals exact hQo _ _ <| j1_end (by assumption) (by assumption) hR hT hS hC (by assumption) rfl rfl rfl rfl
  · rintro i m rest ⟨rs, vR, vT, vS, nR, nT, nS, oc, t, _, _, _, _, _, rfl, _⟩
    rfl
  · rintro m rest h tk ⟨rs, vR, vT, vS, nR, nT, nS, oc, t, hC, hR, hT, hS, ⟨cv, hoc⟩, rfl, m1, m2, m3, m4⟩ F1 N1
    k_extra "steps"
    all_goals (k_end; kc_close))
end Mine
end

end

set_option maxRecDepth 100000 in
set_option maxHeartbeats 8000000 in
theorem PySem.Challenge.cw_qh0114_01_holds : PySem.Challenge.rw_qh0114_01.Holds := by
  exact Mine.lawtry
