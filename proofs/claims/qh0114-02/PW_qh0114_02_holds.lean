import PyProof.Rows.All
import Wide.All
import OpenK.AllK
import Wide.FinOn
import PySem.Challenge.RW_qh0114_02
set_option Elab.async false
set_option rowWalk.seconds 0

section
open PySem PySem.W PyProof.Rows
set_option Elab.async false
set_option maxRecDepth 100000
set_option maxHeartbeats 8000000
namespace Mine
open_top hd for PySem.Challenge.rw_qh0114_02
end Mine
end

example : True := by
  w_top off
  trivial

section
open PySem PySem.W PySem.Calls PyProof.Rows
set_option Elab.async false
set_option maxRecDepth 100000
namespace Mine

section
variable {prog : Program} {w : World} {A A₀ : Around} {s : Shared} {K : Frag} {L : Addr} {h₀ base : Heap} {m mg mb : Str → Option Value} {news : List (Addr × Obj)} {p : Program} {loose : List Str} {mean : ExcName → Option Value}

/-- what the caller has again when a callee that keeps all comes back -/
theorem back {h₁ : Heap} {L : Addr} {s : Shared} {m : Str → Option Value} {news : List (Addr × Obj)} {h₀ : Heap} (F : Fr h₀ L s.heap m) (N : News h₀ L s.heap news)
    (k : ∀ b o, s.heap.get? b = some o → h₁.get? b = some o) : Fr h₀ L h₁ m ∧ News h₀ L h₁ news :=
  ⟨⟨F.ns.keeps k, fun b o e => k b o (F.keep b o e), F.above⟩, fun q hq => ⟨k _ _ (N q hq).1, (N q hq).2⟩⟩

/-- a def is entered with an empty ledger of its own, the caller's whole heap as its ground -/
theorem code_pure {env : Env} {outer : List Env} {R : Result → Shared → Prop} {name qual : Str} {params : Arguments} {body : List Stmt} {scope : Scope} {dV kV doc pm cdv ct oc : Value} {an od : Option Addr} {osl : Array (Option Value)} {f : Addr} {args : Args} {binds : List (Str × Value)}
    (B : Below A₀ base outer h₀) (F : Fr h₀ L s.heap m) (X₀ : K.In h₀) (N : News h₀ L s.heap news) (T : Top p loose mean mg mb h₀) (hA : A.frames = some (env :: outer)) (hf : env.frame = some L) (hke : env.scope.kind = .function)
    (ho : K.lookup f = some ⟨oc, od, .func (fnOf name qual params body scope dV kV doc pm an cdv ct), osl⟩) (hcd : codeIn K cdv qual = true) (hroom : A.depth < recursionLimit)
    (hbind : BindsTo s (fnOf name qual params body scope dV kV doc pm an cdv ct) args binds) (hloc : ∀ y ∈ binds, scope.names.lookup y.1 = some .local)
    (h : ∀ g L' h₁, Fr g L' h₁ (fun y => binds.reverse.lookup y) → News g L' h₁ [] → Below A base (env :: outer) g → K.In g → Top p loose mean mg mb g →
      (∀ b o, s.heap.get? b = some o → g.get? b = some o) →
      wpAny (model prog w) (A.deeper (envOf qual scope L' f cdv)) (execs body (envOf qual scope L' f cdv))
        (fun fl s' => R (.ok (.ret (match fl with | .ret v => v | _ => .none))) s')
        (fun e s' => wpAny (model prog w) (A.deeper (envOf qual scope L' f cdv)) (leaving (envOf qual scope L' f cdv) e) (fun _ s'' => R (.error e) s'') (fun e' s'' => R (.error e') s'') s')
        { s with heap := h₁, toks := s.toks + binds.length })
    (hco : scope.isCoroutine = false) (hgen : scope.isGenerator = false) (hk : scope.kind = .function)
    (hcell : ∀ x ∈ scope.names, x.2 ≠ .cell) : codeAny (model prog w) A (.call (.ref f) args) R s := by
  have B₁ := pushX B F hf hke
  refine codeAny_call_def (fd := fnOf name qual params body scope dV kV doc pm an cdv ct) (body := body) (binds := binds) hroom ((X₀.keeps F.keep) _ _ ho) rfl (T.nolimit.keeps F.keep) (codeRec_of (X₀.keeps F.keep) hcd) rfl hbind hcell hloc (fun h₁ hns hk₁ => ?_) hco hgen hk
  exact h s.heap s.heap.objs.size h₁ ⟨hns, hk₁, Nat.le_refl _⟩ News.nil ⟨hA, B₁.stays, B₁.frames⟩ (X₀.keeps F.keep) (T.keeps F.keep) fun _ _ e => e

/-- the same for a def with cells -/
theorem code_pureC {env : Env} {outer : List Env} {R : Result → Shared → Prop} {name qual : Str} {params : Arguments} {body : List Stmt} {scope : Scope} {dV kV doc pm cdv ct oc : Value} {an od : Option Addr} {osl : Array (Option Value)} {f : Addr} {args : Args} {binds : List (Str × Value)}
    (B : Below A₀ base outer h₀) (F : Fr h₀ L s.heap m) (X₀ : K.In h₀) (N : News h₀ L s.heap news) (T : Top p loose mean mg mb h₀) (hA : A.frames = some (env :: outer)) (hf : env.frame = some L) (hke : env.scope.kind = .function)
    (ho : K.lookup f = some ⟨oc, od, .func (fnOf name qual params body scope dV kV doc pm an cdv ct), osl⟩) (hcd : codeIn K cdv qual = true) (hroom : A.depth < recursionLimit)
    (hbind : BindsTo s (fnOf name qual params body scope dV kV doc pm an cdv ct) args binds) (hkind : (binds.all fun y => scope.names.lookup y.1 == some .local || scope.names.lookup y.1 == some .cell) = true)
    (hnd : ((cellsFrom 0 scope.names []).map (·.1)).Nodup)
    (h : ∀ g L' h₁ tk cells, Fr g L' h₁ (bindL (envOfC qual scope L' f cdv).kindOf binds fun _ => none) → News g L' h₁ cells →
      CellsAre (bindC (envOfC qual scope L' f cdv).kindOf binds fun _ => none) (cellsFrom (L' + 1) scope.names []) cells → Below A base (env :: outer) g → K.In g → Top p loose mean mg mb g →
      (∀ b o, s.heap.get? b = some o → g.get? b = some o) →
      wpAny (model prog w) (A.deeper (envOfC qual scope L' f cdv)) (execs body (envOfC qual scope L' f cdv))
        (fun fl s' => R (.ok (.ret (match fl with | .ret v => v | _ => .none))) s')
        (fun e s' => wpAny (model prog w) (A.deeper (envOfC qual scope L' f cdv)) (leaving (envOfC qual scope L' f cdv) e) (fun _ s'' => R (.error e) s'') (fun e' s'' => R (.error e') s'') s')
        { s with heap := h₁, toks := tk })
    (hco : scope.isCoroutine = false) (hgen : scope.isGenerator = false) (hk : scope.kind = .function) : codeAny (model prog w) A (.call (.ref f) args) R s := by
  have B₁ := pushX B F hf hke
  refine codeAny_call_function hroom ((X₀.keeps F.keep) _ _ ho) rfl hco hgen rfl (codeRec_of (X₀.keeps F.keep) hcd) (hbind _ _ _ _ ?_)
  refine wpAny_newFunctionEnv_cells hk (kindsX hkind _) fun env' he s' x => ?_
  subst he
  refine ⟨(T.nolimit.keeps F.keep).keeps x.toInCall.keep, codeAny_func ?_⟩
  obtain ⟨h₁, tk, rfl, _⟩ := x.done
  have hk₁ := x.toInCall.keep
  obtain ⟨cells, NC, Y⟩ := Cl.news (h₀ := s.heap) (Nat.le_refl _) fun n c hm => ⟨x.cell n c (lookup_of_mem_nodup (cellsFrom_names scope.names 0 (s.heap.objs.size + 1) [] [] rfl ▸ hnd) hm), x.above n c hm⟩
  exact h s.heap s.heap.objs.size h₁ tk cells ⟨x.toInCall.ns, hk₁, Nat.le_refl _⟩ NC Y ⟨hA, B₁.stays, B₁.frames⟩ (X₀.keeps F.keep) (T.keeps F.keep) fun _ _ e => e
end
end Mine
end

section
open PySem PySem.W
namespace Mine

theorem xor_mod2 (a b : Nat) : (a ^^^ b) % 2 = (a + b) % 2 := by
  have h := Nat.testBit_xor (x := a) (y := b) (i := 0)
  simp only [Nat.testBit_zero] at h
  rcases Nat.mod_two_eq_zero_or_one a with e | e <;> rcases Nat.mod_two_eq_zero_or_one b with f | f <;> rcases Nat.mod_two_eq_zero_or_one (a ^^^ b) with g | g <;> simp [e, f, g] at h <;> omega
theorem and_mod2 (a b : Nat) : (a &&& b) % 2 = (a % 2) * (b % 2) := by
  have h := Nat.testBit_and a b 0
  simp only [Nat.testBit_zero] at h
  rcases Nat.mod_two_eq_zero_or_one a with e | e <;> rcases Nat.mod_two_eq_zero_or_one b with f | f <;> rcases Nat.mod_two_eq_zero_or_one (a &&& b) with g | g <;> simp [e, f, g] at h ⊢
theorem bits_le (a b : Nat) : (a &&& b) % 2 ≤ a % 2 ∧ (a &&& b) % 2 ≤ b % 2 ∧ a % 2 + b % 2 ≤ (a &&& b) % 2 + 1 := by
  rw [and_mod2]
  rcases Nat.mod_two_eq_zero_or_one a with e | e <;> rcases Nat.mod_two_eq_zero_or_one b with f | f <;> rw [e, f] <;> decide
theorem xor_and_add : ∀ (n a b : Nat), a ≤ n → a + b = (a ^^^ b) + 2 * (a &&& b) := by
  intro n
  induction n with
  | zero => intro a b h; have : a = 0 := by omega
            subst this; simp
  | succ n ih =>
    intro a b h
    have h1 := ih (a / 2) (b / 2) (by omega)
    rw [← Nat.xor_div_two, ← Nat.and_div_two] at h1
    have h4 := xor_mod2 a b
    obtain ⟨h5, h6, h7⟩ := bits_le a b
    clear h ih
    generalize a ^^^ b = x at *
    generalize a &&& b = y at *
    omega
theorem bitAnd_nat (a b : Nat) : Builtin.bitAnd (a : Int) (b : Int) = ((a &&& b : Nat) : Int) := by
  simp [Builtin.bitAnd]
theorem bitOr_nat (a b : Nat) : Builtin.bitOr (a : Int) (b : Int) = ((a ||| b : Nat) : Int) := by
  have e1 : ¬ (0 : Int) ≤ Builtin.bitNot (a : Int) := by simp only [Builtin.bitNot]; omega
  have e2 : ¬ (0 : Int) ≤ Builtin.bitNot (b : Int) := by simp only [Builtin.bitNot]; omega
  have e3 : ∀ x : Int, Builtin.bitNot (Builtin.bitNot x) = x := by intro x; simp only [Builtin.bitNot]; omega
  unfold Builtin.bitOr Builtin.bitAnd
  simp [e1, e2, e3]
theorem bitXor_nat (a b : Nat) : Builtin.bitXor (a : Int) (b : Int) = ((a ^^^ b : Nat) : Int) := by
  rw [PyProof.Rows.bitXor_and, bitAnd_nat]
  have := xor_and_add a a b (Nat.le_refl _)
  omega
theorem fdiv_nat (a : Nat) (b : Nat) : Int.fdiv (a : Int) (b : Int) = ((a / b : Nat) : Int) := by
  rw [Int.fdiv_eq_ediv_of_nonneg _ (by omega)]; rfl
theorem fmod_nat (a : Nat) (b : Nat) : Int.fmod (a : Int) (b : Int) = ((a % b : Nat) : Int) := by
  rw [Int.fmod_eq_emod_of_nonneg _ (by omega)]; rfl
theorem and_one (a : Nat) : a &&& 1 = a % 2 := Nat.and_one_is_mod a
end Mine
end

section
open PySem PySem.W PySem.Calls PyProof.Rows
set_option Elab.async false
set_option maxRecDepth 100000
namespace Mine
section
open Builtin PySem.Spec
theorem sliced_rev (b : Array UInt8) : Bytes.sliced b ((b.size : Int) - 1) (-1) (-1) = b.reverse := by
  unfold Bytes.sliced
  rw [krv_sliceRange, krv_range, List.filterMap_reverse, krv_all, ← Array.toList_reverse, Array.toArray_toList]
theorem meets_rev (b : Array UInt8) (t : Tok) (a : Addr) {vk : Value} (hk : IsPart vk (some (-1))) :
    Meets («bytes.__getitem__» ⟨[.bytes b t, .ref a], []⟩) (fun _ R s => s.heap.IsSliceOf a .none .none vk ∧ b.size ≤ sizeLine ∧ ∀ t' k, R (.ok (.ret (.bytes b.reverse t'))) { s with toks := k }) := by
  refine .of_wp fun prog w A R s hS => ?_
  obtain ⟨⟨o, ho, hc, hd⟩, hsz, h⟩ := hS
  have hT : s.TypeIs (.ref a) "slice" := ⟨o, ho, hc⟩
  show wpAny _ _ (Bytes.payload (.bytes b t) >>= fun r => _) _ _ s
  refine wpAny_bind (wpAny_of_eq (a := b) rfl ?_)
  show wpAny _ _ (Bytes.subscript? (.ref a) >>= fun r => _) _ _ s
  refine wpAny_bind ?_
  unfold Bytes.subscript?
  refine wpAny_bind (wpAny_specialOf hT slice_no_index (wpAny_pure ?_))
  refine wpAny_bind (wpAny_typeOf hT ?_)
  show wpAny _ _ (Bytes.sliceParts (.ref a) >>= fun r => _) _ _ s
  refine wpAny_bind ?_
  unfold Bytes.sliceParts
  have go : wpAny (model prog w) A.in1 (sliceIndices (rawPart none) (rawPart none) (rawPart (some (-1))) b.size) (fun r s' => r = sliceBounds none none (some (-1)) b.size ∧ s' = s) (fun _ _ => False) s :=
    wpAny_of_eq (sliceIndices_raw none none (some (-1)) b.size (by decide)) ⟨rfl, rfl⟩
  cases hk
  refine wpAny_bind (wpAny_field (x := .int _ _) ho hd rfl ?_)
  kby_int
  refine wpAny_ite (KBy.ite_no (show ¬ ((rawInt (-1) == rawInt 0) = true) by decide) ?_)
  refine wpAny_bind (wpAny_field (x := .none) ho hd rfl ?_)
  kby_none
  refine wpAny_bind (wpAny_field (x := .none) ho hd rfl ?_)
  kby_none
  refine wpAny_pure ?_
  refine wpAny_bind (wpAny_mono go (fun r s' hr => ?_) fun _ _ e => e.elim)
  obtain ⟨hr1, hr2⟩ := hr
  subst hr1 hr2
  rw [krv_bounds]
  refine wpAny_ite (KBy.ite_no (by simp) ?_)
  refine wpAny_bind (wpAny_mkBytes (wpAny_pure ⟨_, rfl, ?_⟩) ?_)
  · rw [sliced_rev]; exact h _ _
  · rw [sliced_rev, Array.size_reverse]; exact hsz
end
section
variable {prog : Program} {w : World} {A : Around} {E : Value → Shared → Prop} {s : Shared} {value slice : PySem.Expr} {b : Array UInt8} {t : Tok} {h₀ : Heap} {L : Addr} {m : PySem.Str → Option Value} {news : List (Addr × Obj)} {vk : Value} {Q : Value → Shared → Prop}
theorem slice_rev (hF : Fr h₀ L s.heap m) (hN : News h₀ L s.heap news) (hk : IsPart vk (some (-1))) (hz : b.size ≤ 100000)
    (h : ∀ c h' t' k, Fr h₀ L h' m → News h₀ L h' news → c.toList = b.toList.reverse → Q (.bytes c t') { s with heap := h', toks := k })
    (hs : subscripted slice false (.bytes b t) (.ref s.heap.objs.size) = operate [.ref s.heap.objs.size, .bytes b t] (getItem (.bytes b t) (.ref s.heap.objs.size)) := by with_unfolding_all rfl)
    (ht : ∀ r, letTemporaryGo value (.bytes b t) r = pure () := by intro _; with_unfolding_all rfl) :
    wpAny (model prog w) A (subscriptTail value slice (.bytes b t) (.ref s.heap.objs.size)) Q E { s with heap := s.heap.push { cls := .type "slice", data := .fields #[.none, .none, vk] } } :=
  tail_of_ItemOn ⟨"bytes", _, FB.slot_bytes_getitem.lookup, typeIs_bytes _ _ _, getItem_meets (typeIs_bytes _ _ _) (by decide) FB.slot_bytes_getitem FB.entry_bytes_getitem (FB.args_bytes_getitem_2 _ _) (meets_rev b t _ hk)
    ⟨Heap.IsSliceOf.new _ _ _ _, Nat.le_trans hz (by rw [sizeLine_eq]; decide), fun t' k => h _ _ _ _ (hF.push _) (News.pushKeep hN _) Array.toList_reverse⟩⟩ hs ht
end
end Mine
end

section
open PySem PySem.W PySem.Calls PyProof.Rows
open Sem (wp)
open AutoSeq1 (wpAny_loadPart')
set_option Elab.async false
set_option maxRecDepth 100000
namespace Mine

set_option maxHeartbeats 1000000 in
theorem meets_enumB (b : Array UInt8) (t : Tok) :
    Meets (Builtin.«enumerate.__new__» ⟨[.type "enumerate", .bytes b t], []⟩) (fun _ R s =>
      R (.ok (.ret (.ref (s.heap.push { cls := .type "bytes_iterator", data := .fields #[.bytes b t, .int 0 0] }).objs.size)))
        { s with heap := (s.heap.push { cls := .type "bytes_iterator", data := .fields #[.bytes b t, .int 0 0] }).push { cls := .type "enumerate", data := .fields #[.none, .bool false, .ref s.heap.objs.size, rawInt 0, .none, .none] } }) :=
  .of_wp fun prog w A R s h => by
    obtain ⟨hp, g, d, tk, os⟩ := s
    have hsub := sub_enumerate
    wp_walk
    refine wpAny_stack_any fun st => wpAny_pure ?_
    split
    · rename_i c _ _ _ _ _
      cases (c == Value.type "enumerate")
      · wp_walk using KBw.pyIter_bytes
        exact ⟨_, rfl, h⟩
      · wp_walk using KBw.pyIter_bytes
        exact ⟨_, rfl, h⟩
    · wp_walk using KBw.pyIter_bytes
      exact ⟨_, rfl, h⟩

section
variable {prog : Program} {w : World} {A : Around} {E : Value → Shared → Prop} {s : Shared}

theorem call_enumB {b : Array UInt8} {t : Tok} {Q : Value → Shared → Prop}
    (h : ∀ h', IsEnum h' (s.heap.objs.size + 1) s.heap.objs.size 0 .none → KBw.IsBytesIter h' s.heap.objs.size b t 0 → h'.objs.size = s.heap.objs.size + 2 →
      (∀ a o, s.heap.get? a = some o → h'.get? a = some o) → Q (.ref (s.heap.objs.size + 1)) { s with heap := h' }) :
    wpAny (model prog w) A (call (.type "enumerate") [.bytes b t]) Q E s := by
  refine callType_new F.called_enumerate (by decide) (F.typeCall_enumerate_1 _) (F.newCall_enumerate_1 _) (fun obj => F.args_object_init_2 obj _) F.entry_enumerate_new
    (meets_enumB b t) ?_
  have hz : (s.heap.push { cls := .type "bytes_iterator", data := .fields #[.bytes b t, .int 0 0] }).objs.size = s.heap.objs.size + 1 := Heap.size_push ..
  show _ ∧ _
  rw [hz]
  have he : IsEnum ((s.heap.push { cls := .type "bytes_iterator", data := .fields #[.bytes b t, .int 0 0] }).push
      { cls := .type "enumerate", data := .fields #[.none, .bool false, .ref s.heap.objs.size, rawInt 0, .none, .none] }) (s.heap.objs.size + 1) s.heap.objs.size 0 .none := by
    have := Heap.get?_push_size (s.heap.push { cls := .type "bytes_iterator", data := .fields #[.bytes b t, .int 0 0] })
      (o := { cls := .type "enumerate", data := .fields #[.none, .bool false, .ref s.heap.objs.size, rawInt 0, .none, .none] }) rfl
    rw [hz] at this; exact this
  refine ⟨⟨_, he, rfl⟩, h _ he ⟨_, Heap.get?_push_of_some _ (Heap.get?_push_size _ rfl), rfl, rfl⟩ (by rw [Heap.size_push, hz]) fun b o y => Heap.get?_push_of_some _ (Heap.get?_push_of_some _ y)⟩

theorem nextOfB_item {it : Addr} {b : Array UInt8} {t : Tok} {i : Nat} {c : UInt8} {Q : Value → Shared → Prop} (hit : KBw.IsBytesIter s.heap it b t i) (hx : b[i]? = some c)
    (hQ : ∀ h', KBw.IsBytesIter h' it b t (i + 1) → Heap.SameBut it s.heap h' → Q (.int (c.toNat : Int) s.toks) { s with heap := h', toks := s.toks + 1 }) :
    wpAny (model prog w) A (Builtin.SmallTypes.nextOf (.ref it)) Q E s := by
  obtain ⟨o, ho, hc, hd⟩ := id hit
  unfold Builtin.SmallTypes.nextOf
  refine wpAny_bind (wpAny_callSpecial?_slot (name := PySem.Str.ofString "__next__") (KBw.iter_typeIs hit) KBw.slot_next
    (wpAny_call_entry KBw.slot_next (KBw.iter_typeIs hit) KBw.entry_next ?_ (KBw.args_next _)))
  show wpAny _ _ (field (.ref it) 0 >>= _) _ _ s
  refine wpAny_bind (wpAny_field ho hd (x := .bytes b t) rfl ?_)
  show wpAny _ _ (if (Value.bytes b t == Value.none) = true then _ else _) _ _ s
  rw [if_neg (show ¬ ((Value.bytes b t == Value.none) = true) from Bool.false_ne_true)]
  show wpAny _ _ (field (.ref it) 1 >>= _) _ _ s
  refine wpAny_bind (wpAny_field ho hd (x := .int i 0) rfl ?_)
  refine wpAny_bind (wpAny_of_eq (a := b) rfl ?_)
  simp only [Int.toNat_natCast, hx]
  refine wpAny_bind (wpAny_setField ho hd (by simp) (wpAny_bind (wpAny_mkInt (wpAny_pure ⟨_, rfl, wpAny_pure (hQ _ ?_ (Heap.SameBut.update ..))⟩))))
  exact ⟨_, Heap.get?_update_self _ ho (Obj.isFreed_of_fields (Obj.data_mapFields hd _)), (Obj.cls_mapFields ..).trans hc, by
    rw [Obj.data_mapFields hd]; simp [rawInt]⟩

theorem nextOfB_end {it : Addr} {b : Array UInt8} {t : Tok} {i : Nat} {Q : Value → Shared → Prop} (hh : A.handled = none) (hit : KBw.IsBytesIter s.heap it b t i) (hx : b[i]? = none)
    (hE : ∀ h' e, Heap.ExtBut it s.heap h' → (∃ o, h'.get? e = some o ∧ o.cls = .type "StopIteration") → E (.ref e) { s with heap := h' }) :
    wpAny (model prog w) A (Builtin.SmallTypes.nextOf (.ref it)) Q E s := by
  obtain ⟨o, ho, hc, hd⟩ := id hit
  unfold Builtin.SmallTypes.nextOf
  refine wpAny_bind (wpAny_callSpecial?_slot (name := PySem.Str.ofString "__next__") (KBw.iter_typeIs hit) KBw.slot_next
    (wpAny_call_entry KBw.slot_next (KBw.iter_typeIs hit) KBw.entry_next ?_ (KBw.args_next _)))
  show wpAny _ _ (field (.ref it) 0 >>= _) _ _ s
  refine wpAny_bind (wpAny_field ho hd (x := .bytes b t) rfl ?_)
  show wpAny _ _ (if (Value.bytes b t == Value.none) = true then _ else _) _ _ s
  rw [if_neg (show ¬ ((Value.bytes b t == Value.none) = true) from Bool.false_ne_true)]
  show wpAny _ _ (field (.ref it) 1 >>= _) _ _ s
  refine wpAny_bind (wpAny_field ho hd (x := .int i 0) rfl ?_)
  refine wpAny_bind (wpAny_of_eq (a := b) rfl ?_)
  simp only [Int.toNat_natCast, hx]
  refine wpAny_bind (wpAny_rule (wpAny_bind (wpAny_setField ho hd (by simp) ?_)))
  show wpAny _ _ (newExc (.type "StopIteration") [] >>= _) _ _ _
  refine wpAny_bind ?_
  simp only [newExc, newTuple]
  refine wpAny_bind (wpAny_newObj_type ?_ (by size_fits))
  refine wpAny_bind (m := firstArgMember _ _) (wpAny_of_eq (a := Value.none) (by first | rfl | (simp only [firstArgMember]; rfl)) ?_)
  refine wpAny_newObj_type ?_ (by size_fits)
  simp only [raiseNew]
  refine wpAny_bind (wpAny_handled ?_)
  first | rw [show A.in1.handled = none from hh] | rw [hh]
  refine wpAny_bind (wpAny_pure (wpAny_throw ?_))
  exact hE _ _ (((Heap.SameBut.update ..).extBut.push _).push _) ⟨_, Heap.get?_push_size _ rfl, rfl⟩
end

theorem drawsB {prog : Program} {w : World} {A : Around} (hh : A.handled = none) (it : Addr) (b : Array UInt8) (t : Tok) :
    Draws prog w A it [it] b.size (fun i v => ∃ c u, b[i]? = some c ∧ v = .int (c.toNat : Int) u) (fun i h => KBw.IsBytesIter h it b t i) where
  live := fun _ _ st => let ⟨o, ho, _⟩ := st; ⟨o, ho⟩
  frame := fun _ _ _ st hk => let ⟨o, ho, r⟩ := st; ⟨o, hk it (by simp) o ho, r⟩
  item := fun i s Q E hi st hQ => by
    refine nextOfB_item st (c := b[i]) (by simp [hi]) fun h' hit' hs' => ?_
    exact hQ _ h' (s.toks + 1) ⟨_, _, by simp [hi], rfl⟩ hit' hs'
  done := fun s Q E st hE => nextOfB_end hh st (by simp) hE

/-- the values of a comprehension over the enumerated octets -/
noncomputable def enVals (g : Nat → Nat → Int) (b : Array UInt8) (n : Nat) : List Int := (List.range n).map fun i => g i (b[i]?.getD 0).toNat

section
variable {prog : Program} {w : World} {A : Around} {E : Value → Shared → Prop} {s : Shared} {env : Env}

noncomputable def SrcEn (g : Nat → Nat → Int) (N : Nat) (Q : Value → Shared → Prop) (xv : Value) (s₁ : Shared) : Prop :=
  ∃ (e it : Addr) (b : Array UInt8) (t : Tok), xv = .ref e ∧ IsEnum s₁.heap e it 0 .none ∧ KBw.IsBytesIter s₁.heap it b t 0 ∧ e ≠ it ∧ b.size ≤ N ∧
    ∀ D h' tk ys, (∀ a o, a ≠ e → a ≠ it → s₁.heap.get? a = some o → h'.get? a = some o) → s₁.heap.objs.size ≤ D → h'.get? D = some (LCg.lst ys) → IntsAre ys (enVals g b b.size) → Q (.ref D) { s₁ with heap := h', toks := tk }

theorem comp_enum {elt iter : Expr} {x x₂ : Str} {px px₂ tp : Pos} {k0 : Nat} {scope : Scope} {cl : List (Str × Addr)} {pos : Pos} {N : Nat} (hN : N ≤ 100000) (g : Nat → Nat → Int) {Q : Value → Shared → Prop} (hh : A.handled = none)
    (hclos : closureFor scope env = pure cl) (hcell : ∀ y ∈ scope.names, y.2 ≠ .cell) (hkind : scope.kind = .function)
    (hnames : ∀ y ∈ scope.names, y.2 = .local → scope.names.lookup y.1 = some .local) (hx : scope.names.lookup x = some .local) (hx₂ : scope.names.lookup x₂ = some .local) (hxx : x ≠ x₂)
    (hel : ∀ (C : Addr) (m₂ : Str → Option Value) (s : Shared) (i c : Nat) (t t' : Tok) (Q : Value → Shared → Prop) (E : Value → Shared → Prop), s.heap.Ns C m₂ → m₂ x = some (.int i t) → m₂ x₂ = some (.int c t') → i < N → c < 256 →
      (∀ t'' tk, Q (.int (g i c) t'') { s with toks := tk }) → wpAny (model prog w) A (eval elt (compEnvC scope cl C env)) Q E s)
    (h : wpAny (model prog w) A (eval iter env) (SrcEn g N Q) E s)
    (hs : ∀ x, foldedSetIterable iter env x = pure x := by intro _; rfl) :
    wpAny (model prog w) A (eval (.ListComp elt [⟨.Tuple [.Name x px, .Name x₂ px₂] k0 tp, iter, [], 0⟩] scope pos) env) Q E s := by
  rw [eval_ListComp]
  refine wpAny_comprehension_free (use := none) rfl hs hclos hkind hnames (wpAny_mono h (fun xv s₁ h₁ => ?_) fun _ _ e => e)
  obtain ⟨e, it, b, t, rfl, he, hit, hei, hbN, hQ⟩ := h₁
  have W := WalksT.enumerateD (prog := prog) (w := w) (drawsB (A := A.in1) hh it b t) e hei (by simp [hei]) (by simp)
  refine wpAny_pyIter_enum he ?_
  refine wpAny_newObj_type (wpAny_newFunctionEnv hcell (by intro y hy; simp at hy) (fun h₁ hns₁ hsb₁ => ?_) hkind)
  dsimp only at hns₁ hsb₁ ⊢
  generalize hH2 : s₁.heap.push { cls := .type "list", dict := none, data := .seq ([] : List Value).toArray } = H2 at hns₁ hsb₁ ⊢
  have hC : H2.objs.size = s₁.heap.objs.size + 1 := by rw [← hH2, Heap.size_push]
  have hDC : s₁.heap.objs.size ≠ H2.objs.size := by omega
  have hel' : @LT.lt Nat _ e s₁.heap.objs.size := Heap.lt_size he
  have hil : @LT.lt Nat _ it s₁.heap.objs.size := by obtain ⟨o, ho, _⟩ := hit; exact Heap.lt_size ho
  have old : ∀ a o, s₁.heap.get? a = some o → h₁.get? a = some o := fun a o q => hsb₁.extBut a o (by have : @LT.lt Nat _ a s₁.heap.objs.size := Heap.lt_size q; k_ne) (Heap.get?_push_of_some _ (hH2 ▸ Heap.get?_push_of_some _ q))
  have hacc : h₁.get? s₁.heap.objs.size = some (LCg.lst []) := hsb₁.extBut _ _ hDC (Heap.get?_push_of_some _ (hH2 ▸ Heap.get?_push_size _ rfl))
  have loop : ∀ s₃ : Shared, s₃ = { s₁ with heap := h₁, toks := s₁.toks + ([] : List (Str × Value)).length } →
      codeAny (model prog w) A (.compLoop (.ListComp elt [⟨.Tuple [.Name x px, .Name x₂ px₂] k0 tp, iter, [], 0⟩] scope pos) 0 (.ref e) (.ref s₁.heap.objs.size) (compEnvC scope cl H2.objs.size env))
        (compPost (model prog w) A E none Q (.ref s₁.heap.objs.size) H2.objs.size) s₃ := by
    rintro s₃ rfl
    refine LCp.codeAny_compLoop_pair
      (fun k s' => ∃ h' tk i ys m', s' = { s₁ with heap := h', toks := tk } ∧ i ≤ b.size ∧ k = b.size + 1 - i ∧ (∃ old, IsEnum h' e it (i : Nat) old) ∧ KBw.IsBytesIter h' it b t i ∧ h'.Ns H2.objs.size m' ∧
        h'.get? s₁.heap.objs.size = some (LCg.lst ys) ∧ IntsAre ys (enVals g b i) ∧ ∀ a o, a ≠ e → a ≠ it → s₁.heap.get? a = some o → h'.get? a = some o) ?_ (b.size + 1)
      ⟨h₁, _, 0, [], _, rfl, Nat.zero_le _, rfl, ⟨_, old _ _ he⟩, (let ⟨o, ho, r⟩ := hit; ⟨o, old _ _ ho, r⟩), hns₁, hacc, .nil, fun a o _ _ q => old a o q⟩
    rintro k s' ⟨h', tk, i, ys, m', rfl, hi, rfl, ⟨old', he'⟩, hit', hn', hD', hys, hk'⟩
    by_cases hlt : i < b.size
    · refine W.item i _ _ _ hlt ⟨⟨_, he'⟩, hit'⟩ fun T vals h₂ tk₂ hP hT hTup hMid hk₂ => ?_
      obtain ⟨t₁, v, ⟨c, u, hcx, rfl⟩, rfl⟩ := hP
      refine W.go _ _ _ i T _ _ _ hMid fun h₃ hst₃ hk₃ => ?_
      have hTw := W.apart _ _ _ hMid
      have hCl : H2.objs.size < h'.objs.size := hn'.lt
      have hDl : s₁.heap.objs.size < h'.objs.size := Heap.lt_size hD'
      have hTC : T ≠ H2.objs.size := by have : @LE.le Nat _ h'.objs.size T := hT; k_ne
      have hTD : T ≠ s₁.heap.objs.size := by have : @LE.le Nat _ h'.objs.size T := hT; k_ne
      have ew : ∀ a : Nat, a < s₁.heap.objs.size + 2 → s₁.heap.objs.size ≤ a → a ∉ [e, it] := fun a _ h2 hm => by
        rcases List.mem_cons.mp hm with q | hm
        · have q' : @Eq Nat a e := q
          omega
        · have q' : @Eq Nat a it := List.mem_singleton.mp hm
          omega
      have k3 : ∀ a o, a ∉ [e, it] → h'.get? a = some o → h₃.get? a = some o := fun a o ha q => hk₃ a o ha (hk₂ a o ha q)
      have hT3 : h₃.IsTuple T #[.int (i : Nat) t₁, .int (c.toNat : Int) u] := by
        obtain ⟨o, ho, r⟩ := hTup
        exact ⟨o, hk₃ T o hTw ho, r⟩
      refine wpAny_assign_Tuple hh hT3 rfl rfl fun h₄ he₄ => ?_
      have k4 : ∀ a o, h₃.get? a = some o → h₄.get? a = some o := fun a o q => he₄ a o (Nat.ne_of_lt (Heap.lt_size q)) q
      have hn₄ : h₄.Ns H2.objs.size m' := hn'.at' fun o q => k4 _ o (k3 _ o (ew _ (by omega) (by omega)) q)
      show wpAny _ A (do holding [_] (assign (.Name x px) (compEnvC scope cl H2.objs.size env) _); do holding [] (assign (.Name x₂ px₂) (compEnvC scope cl H2.objs.size env) _); pure ()) _ _ _
      refine wpAny_bind (wpAny_holding (wpAny_assign_Name (wpAny_storeName_local (lookup_relabel_local hx) hn₄ (fun h₅ hn₅ hs₅ => ?_) (by simp [compEnvC, relabel, hkind]))))
      refine wpAny_bind (wpAny_holding (wpAny_assign_Name (wpAny_storeName_local (lookup_relabel_local hx₂) hn₅ (fun h₆ hn₆ hs₆ => wpAny_pure ?_) (by simp [compEnvC, relabel, hkind]))))
      have k6 : ∀ a o, a ≠ H2.objs.size → h₃.get? a = some o → h₆.get? a = some o := fun a o ha q => hs₆.extBut a o ha (hs₅.extBut a o ha (k4 a o q))
      refine hel H2.objs.size _ _ i c.toNat t₁ u _ _ hn₆ (by simp [hxx]) (by simp) (Nat.lt_of_lt_of_le hlt hbN) (UInt8.toNat_lt c) fun t'' tk'' => ?_
      have hD6 : h₆.get? s₁.heap.objs.size = some (LCg.lst ys) := k6 _ _ hDC (k3 _ _ (ew _ (by omega) (by omega)) hD')
      have hyl : ys.length = i := by rw [hys.length]; simp [enVals]
      refine append_at (hsz := by show ys.toArray.size ≤ sizeLine; rw [List.size_toArray, hyl, sizeLine_eq]; omega) hD6 fun h₇ hs₇ hD₇ => ?_
      have eC : e ≠ H2.objs.size := by k_ne
      have iC : it ≠ H2.objs.size := by k_ne
      have eD : e ≠ s₁.heap.objs.size := by k_ne
      have iD : it ≠ s₁.heap.objs.size := by k_ne
      refine ⟨b.size + 1 - (i + 1), by omega, h₇, _, i + 1, ys ++ [_], _, rfl, hlt, rfl, ?_, ?_, hn₆.sameBut hs₇ (Ne.symm hDC), hD₇.trans (congrArg some (LCg.lst_snoc ys _)), ?_, fun a o h1 h2 q => ?_⟩
      · obtain ⟨⟨o', q⟩, _⟩ := hst₃
        exact ⟨o', hs₇.extBut _ _ eD (k6 _ _ eC q)⟩
      · obtain ⟨_, o', q, r⟩ := hst₃
        exact ⟨o', hs₇.extBut _ _ iD (k6 _ _ iC q), r⟩
      · have e1 : enVals g b (i + 1) = enVals g b i ++ [g i c.toNat] := by
          unfold enVals
          rw [List.range_succ, List.map_append, List.map_cons, List.map_nil, hcx]
          rfl
        rw [e1]
        exact IntsAre.append hys (.cons _ _ .nil)
      · have hl : @LT.lt Nat _ a s₁.heap.objs.size := Heap.lt_size q
        exact hs₇.extBut _ _ (by k_ne) (k6 _ _ (by k_ne) (k3 a o (by simp [h1, h2]) (hk' a o h1 h2 q)))
    · obtain rfl : i = b.size := Nat.le_antisymm hi (Nat.not_lt.mp hlt)
      refine W.done _ _ _ ⟨⟨_, he'⟩, hit'⟩ fun h₂ tk₂ hk₂ => ?_
      have ew : ∀ a : Nat, s₁.heap.objs.size ≤ a → a ∉ [e, it] := fun a h2 hm => by
        rcases List.mem_cons.mp hm with q | hm
        · have q' : @Eq Nat a e := q
          omega
        · have q' : @Eq Nat a it := List.mem_singleton.mp hm
          omega
      refine ⟨m', hn'.at' fun o q => hk₂ _ o (ew _ (by omega)) q, fun h₃ hs₃ => ?_⟩
      refine hQ _ h₃ tk₂ ys (fun a o h1 h2 q => ?_) (Nat.le_refl _) ?_ hys
      · have hl : @LT.lt Nat _ a s₁.heap.objs.size := Heap.lt_size q
        exact hs₃.extBut _ _ (by k_ne) (hk₂ a o (by simp [h1, h2]) (hk' a o h1 h2 q))
      · exact hs₃.extBut _ _ hDC (hk₂ _ _ (ew _ (Nat.le_refl _)) hD')
  exact codeAny_compStart_list (loop _ rfl) (W.self 0 _ _ _ ⟨⟨_, old _ _ he⟩, (let ⟨o, ho, r⟩ := hit; ⟨o, old _ _ ho, r⟩)⟩ (loop _ rfl))
end
end Mine
end

section
open PySem PySem.W PySem.Calls PyProof.Rows
set_option Elab.async false
set_option maxRecDepth 100000
namespace Mine
section
variable {prog : Program} {w : World} {A : Around} {E : Value → Shared → Prop} {s : Shared} {env : Env}

theorem sum_any {l : Addr} {vs : List Value} {ns : List Int} {Q : Value → Shared → Prop} (hh : A.handled = none) (hl : s.heap.IsList l vs.toArray) (hi : IntsAre vs ns)
    (h : ∀ h' tk t', (∀ b o, s.heap.get? b = some o → h'.get? b = some o) → Q (.int ns.sum t') { s with heap := h', toks := tk }) :
    wpAny (model prog w) A (call (.builtin "sum") [.ref l]) Q E s := by
  obtain ⟨xs, e⟩ := hi.allInts.items
  rw [e] at hl
  refine sum_intListG hh hl fun h' tk t' hk => ?_
  have h1 := h h' tk t' hk
  have h2 : ns = numsOf (intItems xs).toList := by rw [← e]; exact hi.numsOf.symm
  rw [nums_intItems] at h2
  rw [preSum_eq, List.take_of_length_le (by simp), ← h2]; exact h1

theorem el_mul {env' : Env} {o k : Str} {p1 p2 p3 p4 p5 : Pos} {m₂ : Str → Option Value} {i c : Nat} {t t' : Tok} {Q : Value → Shared → Prop} (hk : env'.scope.kind = .function) (lo : env'.kindOf o = some .local) (lk : env'.kindOf k = some .local)
    (hn : s.heap.Ns env'.locals m₂) (hi : m₂ k = some (.int i t)) (hc : m₂ o = some (.int c t')) (hb : i < 10) (hc2 : c < 256) (d1 : (o == ("__debug__" : Str)) = false) (d2 : (k == ("__debug__" : Str)) = false)
    (h : ∀ t'' tk, Q (.int ((c : Int) * 256 ^ i) t'') { s with toks := tk }) :
    wpAny (model prog w) A (eval (.BinOp (.Name o p1) .Mult (.BinOp (.Constant (.int 256) 0 p2) .Pow (.Name k p3) p4) p5) env') Q E s := by
  refine wpAny_BinOp (wpAny_Name (wpAny_loadName_local hk lo hn hc ?_) d1)
  refine wpAny_BinOp (wpAny_Constant_int (wpAny_Name (wpAny_loadName_local (s := { s with toks := s.toks + 1 }) hk lk hn hi ?_) d2))
  refine pow_int_small (by omega) (by omega) (by decide) ?_
  refine PyProof.Rows.mul_int ?_ ?_
  · exact h _ _
  · have h1 : Builtin.Int.intBits ((c : Nat) : Int) ≤ 8 := intBits_le_iff.mpr (by rw [Int.natAbs_natCast]; exact hc2)
    have h2 : Builtin.Int.intBits ((256 : Int) ^ (((i : Nat) : Int)).toNat) ≤ 9 * ((i : Nat) : Int).toNat + 1 := intBits_pow_le (by decide) _
    exact IntMulOk.of_le h1 h2 (by omega)

theorem srcEn_of {h₀ H hE : Heap} {L : Addr} {m : Str → Option Value} {news : List (Addr × Obj)} {g : Nat → Nat → Int} {N : Nat} {b : Array UInt8} {t : Tok} {Q : Value → Shared → Prop} {tk₀ : Nat}
    (F : Fr h₀ L H m) (Nw : News h₀ L H news) (he : IsEnum hE (H.objs.size + 1) H.objs.size 0 .none) (hi : KBw.IsBytesIter hE H.objs.size b t 0) (hz : hE.objs.size = H.objs.size + 2)
    (hk : ∀ a o, H.get? a = some o → hE.get? a = some o) (hb : b.size ≤ N)
    (h : ∀ D h' tk ys, Fr h₀ L h' m → News h₀ L h' ((D, LCg.lst ys) :: news) → (∀ p ∈ news, p.1 < D) → IntsAre ys (enVals g b b.size) → Q (.ref D) { s with heap := h', toks := tk }) :
    SrcEn g N Q (.ref (H.objs.size + 1)) { s with heap := hE, toks := tk₀ } := by
  refine ⟨_, _, b, t, rfl, he, hi, Nat.succ_ne_self _, hb, fun D h' tk ys keep hD hl hI => ?_⟩
  have hD' : @LE.le Nat _ (H.objs.size + 2) D := by
    have : @LE.le Nat _ hE.objs.size D := hD
    omega
  have old : ∀ a o, H.get? a = some o → h'.get? a = some o := fun a o q => by
    have hl : @LT.lt Nat _ a H.objs.size := Heap.lt_size q
    exact keep a o (by k_ne) (by k_ne) (hk a o q)
  have hLl : @LT.lt Nat _ L H.objs.size := F.ns.lt
  refine h D h' tk ys ⟨F.ns.keeps old, fun a o q => old a o (F.keep a o q), F.above⟩ (fun p hp => ?_) (fun p hp => ?_) hI
  · rcases List.mem_cons.mp hp with rfl | hp
    · refine ⟨hl, ?_, ?_⟩
      · show D ≠ L
        k_ne
      · show h₀.get? D = none
        cases q : h₀.get? D with
        | none => rfl
        | some o =>
          have : @LT.lt Nat _ D H.objs.size := Heap.lt_size (F.keep D o q)
          omega
    · exact ⟨old _ _ (Nw p hp).1, (Nw p hp).2⟩
  · have : @LT.lt Nat _ p.1 H.objs.size := Heap.lt_size (Nw p hp).1
    show @LT.lt Nat _ p.1 D
    omega
end
end Mine
end

section
open PySem PySem.W PySem.Calls PyProof.Rows
set_option Elab.async false
set_option maxRecDepth 100000
namespace Mine
noncomputable def LedPost (h₀ : Heap) (L : Addr) (J : (Str → Option Value) → List (Addr × Obj) → Prop) (own : List (Addr × Obj)) (s : Shared) (Q : Flow → Shared → Prop) (f : Flow) (s₃ : Shared) : Prop :=
  match f with
  | .ret v => Q (.ret v) s₃
  | .brk => Q .next s₃
  | _ => ∃ h' tk' m' rest', s₃ = { s with heap := h', toks := tk' } ∧ Fr h₀ L h' m' ∧ News h₀ L h' (rest' ++ own) ∧ J m' rest'
end Mine
end

section
open PySem PySem.W PySem.Calls PyProof.Rows PyProof.V PySem.Spec
set_option Elab.async false
set_option maxRecDepth 100000
namespace Mine
section
variable {prog : Program} {w : World} {A : Around} {E : Value → Shared → Prop} {s : Shared} {env : Env} {h₀ : Heap} {L : Addr} {x : PySem.Str} {px : Pos} {body : List Stmt} {Q : Flow → Shared → Prop}
/-- a loop over range(n), its name a cell or a local: what a turn keeps is said of the frame's map and the ledger -/
theorem for_rng {r : Addr} {b₀ : Int} {t₀ u₀ v₀ : Tok} {n : Nat} {rest₀ : List (Addr × Obj)} {m₀ : PySem.Str → Option Value} (J : Nat → (PySem.Str → Option Value) → List (Addr × Obj) → Prop)
    (hh : A.handled = none) (hr : IsRange s.heap r 0 b₀ 1 t₀ u₀ v₀) (hsm : Builtin.Range.small 0 b₀ 1 = true) (hn : Builtin.Range.rangeSize 0 b₀ 1 = (n : Int)) (F : Fr h₀ L s.heap m₀) (N : News h₀ L s.heap rest₀) (hj : J 0 m₀ rest₀)
    (turn : ∀ i t m rest I oI h tk, i < n → J i m rest → Fr h₀ L h m → News h₀ L h (rest ++ [(I, oI)]) → AllLt I rest₀ →
      wpAny (model prog w) A (assign (.Name x px) env (.int (i : Int) t)) (fun _ s₂ => wpAny (model prog w) A (execs body env) (LedPost h₀ L (J (i + 1)) [(I, oI)] s Q) (fun _ _ => False) s₂) (fun _ _ => False) { s with heap := h, toks := tk })
    (apart : ∀ i m rest, J i m rest → rest.map (·.1) = rest₀.map (·.1))
    (done : ∀ m rest h tk, J n m rest → Fr h₀ L h m → News h₀ L h rest → Q .next { s with heap := h, toks := tk }) :
    wpAny (model prog w) A (pyIter (.ref r)) (fun it s₂ => codeAny (model prog w) A (.forLoop (.Name x px) it body [] env) (fun r s' => match r with | .ok f => Q f s' | .error e => cameBackBy (model prog w) A env E e s') s₂) E s := by
  have W : Walks prog w A s.heap.objs.size [s.heap.objs.size] [s.heap.objs.size] n (fun i v => i < n ∧ ∃ t, v = .int (0 + i * 1) t)
      (fun i h => IsRangeIter h s.heap.objs.size (0 + (i : Nat) * 1) ((n : Int) - (i : Nat)) 1) := (Walks.range hh _ 0 1 n).bound
  have hall : AllLt s.heap.objs.size rest₀ := allLt_of fun p hp => Heap.lt_size (N p hp).1
  have hI₀ : h₀.get? s.heap.objs.size = none := next_is_new F
  have hLI : L ≠ s.heap.objs.size := Nat.ne_of_lt F.ns.lt
  have offI : ∀ (r : List (Addr × Obj)), r.map (·.1) = rest₀.map (·.1) → ∀ p ∈ r, p.1 ≠ s.heap.objs.size := fun r hr p hp => by
    have : p.1 ∈ rest₀.map (·.1) := hr ▸ List.mem_map_of_mem hp
    obtain ⟨q, hq, e⟩ := List.mem_map.mp this
    have := Heap.lt_size (N q hq).1
    rw [← e]
    exact Nat.ne_of_lt this
  refine wpAny_pyIter_range hr hsm ?_
  refine codeAny_forLoop_any (fun k s' => ∃ h' tk i m rest, s' = { s with heap := h', toks := tk } ∧ i ≤ n ∧ k = n + 1 - i ∧ IsRangeIter h' s.heap.objs.size (0 + (i : Nat) * 1) ((n : Int) - (i : Nat)) 1 ∧ Fr h₀ L h' m ∧ News h₀ L h' rest ∧ J i m rest) ?_ (n + 1)
    ⟨_, s.toks, 0, m₀, rest₀, rfl, Nat.zero_le _, rfl, by show IsRangeIter _ _ _ _ _; rw [hn]; simpa using Heap.get?_push_size _ rfl, F.push _, fun p hp => ⟨Heap.get?_push_of_some _ (N p hp).1, (N p hp).2⟩, hj⟩
  rintro k s' ⟨h', tk, i, m, rest, rfl, hi, rfl, hit, F', N', hJ⟩
  have hadr := apart i m rest hJ
  have moved : ∀ {h₂ : Heap}, (∀ b o, b ∉ [s.heap.objs.size] → h'.get? b = some o → h₂.get? b = some o) → Fr h₀ L h₂ m ∧ News h₀ L h₂ rest := fun {h₂} hk =>
    ⟨⟨F'.ns.at' fun o q => hk _ o (by simpa using hLI) q, fun b o q => hk b o (by
        intro hm
        rw [List.mem_singleton.mp hm, hI₀] at q
        cases q) (F'.keep b o q), F'.above⟩, fun p hp => ⟨hk _ _ (by rw [List.mem_singleton]; exact offI rest hadr p hp) (N' p hp).1, (N' p hp).2⟩⟩
  by_cases hlt' : i < n
  · refine W.item i _ _ _ hlt' hit fun v h₂ tk₂ hv hst hk => ?_
    obtain ⟨_, t, rfl⟩ := hv
    obtain ⟨F₂, N₂⟩ := moved hk
    obtain ⟨oI, hoI, hrI⟩ : ∃ o, h₂.get? s.heap.objs.size = some o ∧ ∀ h : Heap, h.get? s.heap.objs.size = some o → IsRangeIter h s.heap.objs.size (0 + ((i + 1 : Nat) : Int) * 1) ((n : Int) - ((i + 1 : Nat) : Int)) 1 := ⟨_, hst, fun _ e => e⟩
    have N₃ : News h₀ L h₂ (rest ++ [(s.heap.objs.size, oI)]) := fun p hp => by
      rcases List.mem_append.mp hp with q | q
      · exact N₂ p q
      · rw [List.mem_singleton.mp q]
        exact ⟨hoI, Ne.symm hLI, hI₀⟩
    refine wpAny_mono (show wpAny _ _ (letOwnedTupleGo (.Name x px) (.ref s.heap.objs.size) _) (fun _ s₂ => s₂ = _) (fun _ _ => False) _ from wpAny_pure rfl) (fun _ s₂ e => ?_) fun _ _ e => e.elim
    subst e
    have e0 : (0 : Int) + (i : Int) * 1 = (i : Int) := by omega
    rw [e0]
    refine wpAny_mono (turn i t m rest _ _ h₂ tk₂ hlt' hJ F₂ N₃ hall) (fun _ s₂ q => wpAny_mono q (fun f s₃ r => ?_) fun _ _ e => e.elim) fun _ _ e => e.elim
    have fin : (∃ h' tk' m' rest', s₃ = { s with heap := h', toks := tk' } ∧ Fr h₀ L h' m' ∧ News h₀ L h' (rest' ++ [(s.heap.objs.size, oI)]) ∧ J (i + 1) m' rest') →
        ∃ m, m < n + 1 - i ∧ ∃ h' tk i_1 m_1 rest, s₃ = { s with heap := h', toks := tk } ∧ i_1 ≤ n ∧ m = n + 1 - i_1 ∧ IsRangeIter h' s.heap.objs.size (0 + (i_1 : Nat) * 1) ((n : Int) - (i_1 : Nat)) 1 ∧ Fr h₀ L h' m_1 ∧ News h₀ L h' rest ∧ J i_1 m_1 rest := by
      rintro ⟨h₄, tk₄, m₄, rest₄, rfl, F₄, N₄, J₄⟩
      refine ⟨n + 1 - (i + 1), by omega, h₄, tk₄, i + 1, m₄, rest₄, rfl, hlt', rfl, ?_, F₄, fun p hp => N₄ p (List.mem_append_left _ hp), J₄⟩
      exact hrI h₄ (N₄ _ (List.mem_append_right _ (.head _))).1
    cases f with
    | ret v => exact r
    | brk => exact r
    | next => exact fin r
    | cont => exact fin r
  · obtain rfl : i = n := Nat.le_antisymm hi (Nat.not_lt.mp hlt')
    refine W.done _ _ _ hit fun h₂ tk₂ hk => wpAny_execs_nil ?_
    obtain ⟨F₂, N₂⟩ := moved hk
    exact done m rest h₂ tk₂ hJ F₂ N₂
end
end Mine
end

section
open PySem PySem.W PySem.Calls PyProof.Rows
set_option Elab.async false
set_option maxRecDepth 100000
namespace Mine
theorem isi_bytes {prog : Program} {w : World} {A : Around} {E : Value → Shared → Prop} {s : Shared} {b : Array UInt8} {t : Tok} {Q : Value → Shared → Prop} (h : Q (.bool true) s) : wpAny (model prog w) A (call (.builtin "isinstance") [.bytes b t, .type "bytes"]) Q E s :=
  call_isinstance_yes (Tx := "bytes") rfl PySem.F.isi_meta_bytes PySem.F.sub_bytes_bytes h
end Mine
end

section
open PySem PySem.W PySem.Calls PyProof.Rows
set_option Elab.async false
set_option maxRecDepth 100000
set_option maxHeartbeats 8000000
namespace Mine

theorem in_snoc {ns : List Int} {x : Int} (h : KBa.In ns) (hx : 0 ≤ x ∧ x < 256) : KBa.In (ns ++ [x]) := fun n hn => (List.mem_append.mp hn).elim (h n) fun q => (List.mem_singleton.mp q) ▸ hx
theorem byte_in (c : UInt8) : 0 ≤ ((c.toNat : Nat) : Int) ∧ ((c.toNat : Nat) : Int) < 256 := by
  have := UInt8.toNat_lt c
  omega
theorem ints_snoc {vs : List Value} {ns : List Int} {n : Int} {t : Tok} (h : IntsAre vs ns) : IntsAre (vs ++ [.int n t]) (ns ++ [n]) := by
  induction h with
  | nil => exact .cons _ _ .nil
  | cons a b _ ih => exact .cons a b ih
theorem absQ {prog : Program} {w : World} {A : Around} {t : Sem Flow} {Q : Flow → Shared → Prop} {E : Value → Shared → Prop} {s : Shared} (h : ∀ Qo : Flow → Shared → Prop, (∀ f s', Q f s' → Qo f s') → wpAny (model prog w) A t Qo E s) : wpAny (model prog w) A t Q E s := h Q fun _ _ h => h
theorem room1 {a D k N : Nat} (h : a + D < N) (hk : Nat.ble k D = true) : a + k < N := by
  have := Nat.le_of_ble_eq_true hk
  omega
theorem room2 {a D j k N : Nat} (h : a + D < N) (hk : Nat.ble (j + k) D = true) : a + j + k < N := by
  have := Nat.le_of_ble_eq_true hk
  omega
noncomputable def Ctr (w : World) (mean : ExcName → Option Value) (mg mb : Str → Option Value) (D U : Nat) (f : Addr) (vs : List Value) (kw : List (Str × Value)) (P : Value → Prop) : Prop :=
  ∀ (dp un : Nat) (gd : Option (List Code)) (cn : Str) (cs : Scope) (a : Addr) (ccd : Value) (cl : List (Str × Addr)) (outer : List Env) (A₀ : Around) (base h₀ : Heap) (L : Addr) (m : Str → Option Value) (news : List (Addr × Obj)) (s : Shared) (Q E : Value → Shared → Prop),
    Below A₀ base outer h₀ → Fr h₀ L s.heap m → (hd.heap_39 w.params).In h₀ → News h₀ L s.heap news →
    Top hd.view_39 (looseW hd.view_39 [Str.ofString "bytes_types", Str.ofString "a2b_base64", Str.ofString "b2a_base64", Str.ofString "b64encode", Str.ofString "b64decode"]) mean mg mb h₀ →
    cs.kind = .function → dp + D < recursionLimit → un + U < cLine →
    (∀ v h' tk', P v → Fr h₀ L h' m → News h₀ L h' news → Q v { s with heap := h', toks := tk' }) →
    wpAny (model PySem.Challenge.rw_qh0114_02.row.prog w) (ktrTop dp un gd cn cs L a ccd cl outer) (call (.ref f) vs kw) Q E s

section
variable {w : World} {mean : ExcName → Option Value} {mg mb : Str → Option Value} {D U : Nat} {f : Addr} {vs : List Value} {kw : List (Str × Value)} {P : Value → Prop}
  {dp un : Nat} {gd : Option (List Code)} {cn : Str} {cs : Scope} {a : Addr} {ccd : Value} {cl : List (Str × Addr)} {outer : List Env} {A₀ : Around} {base h₀ : Heap} {L : Addr} {m : Str → Option Value} {news : List (Addr × Obj)} {s : Shared} {Q E : Value → Shared → Prop}
theorem Ctr.use (C : Ctr w mean mg mb D U f vs kw P) (B : Below A₀ base outer h₀) (F : Fr h₀ L s.heap m) (X : (hd.heap_39 w.params).In h₀) (N : News h₀ L s.heap news)
    (T : Top hd.view_39 (looseW hd.view_39 [Str.ofString "bytes_types", Str.ofString "a2b_base64", Str.ofString "b2a_base64", Str.ofString "b64encode", Str.ofString "b64decode"]) mean mg mb h₀)
    (hk : cs.kind = .function) (hd : dp + D < recursionLimit) (hu : un + U < cLine)
    (h : ∀ v h' tk', P v → Fr h₀ L h' m → News h₀ L h' news → Q v { s with heap := h', toks := tk' }) :
    wpAny (model PySem.Challenge.rw_qh0114_02.row.prog w) (ktrTop dp un gd cn cs L a ccd cl outer) (call (.ref f) vs kw) Q E s :=
  C dp un gd cn cs a ccd cl outer A₀ base h₀ L m news s Q E B F X N T hk hd hu h
end

section
variable {w : World} {mean : ExcName → Option Value} {mg mb : Str → Option Value} {D U : Nat} {f : Addr} {vs : List Value} {kw : List (Str × Value)} {P : Value → Prop}
theorem ctr_of {name qual : Str} {params : Arguments} {body : List Stmt} {scope : Scope} {dV kV doc pm cdv ct oc : Value} {an od : Option Addr} {osl : Array (Option Value)} {binds : List (Str × Value)}
    (ho : (hd.heap_39 w.params).lookup f = some ⟨oc, od, .func (fnOf name qual params body scope dV kV doc pm an cdv ct), osl⟩) (hcd : codeIn (hd.heap_39 w.params) cdv qual = true)
    (hbind : ∀ s : Shared, (hd.heap_39 w.params).In s.heap → BindsTo s (fnOf name qual params body scope dV kV doc pm an cdv ct) ⟨vs, kw⟩ binds) (hloc : ∀ y ∈ binds, scope.names.lookup y.1 = some .local)
    (h : ∀ (dp un : Nat) (gd : Option (List Code)) (cn : Str) (cs : Scope) (a : Addr) (ccd : Value) (cl : List (Str × Addr)) (outer : List Env) (base : Heap) (L : Addr) (s : Shared) (g : Heap) (L' : Addr) (h₁ : Heap) (Q : Flow → Shared → Prop),
      Fr g L' h₁ (fun y => binds.reverse.lookup y) → News g L' h₁ [] → Below (ktrTop dp un gd cn cs L a ccd cl outer) base (envX cn cs L a ccd cl :: outer) g → (hd.heap_39 w.params).In g →
      Top hd.view_39 (looseW hd.view_39 [Str.ofString "bytes_types", Str.ofString "a2b_base64", Str.ofString "b2a_base64", Str.ofString "b64encode", Str.ofString "b64decode"]) mean mg mb g →
      cs.kind = .function → dp + D < recursionLimit → un + U < cLine →
      (∀ v m' h' tk', Fr g L' h' m' → P v → Q (.ret v) { s with heap := h', toks := tk' }) →
      wpAny (model PySem.Challenge.rw_qh0114_02.row.prog w) ((ktrTop dp un gd cn cs L a ccd cl outer).deeper (envOf qual scope L' f cdv)) (execs body (envOf qual scope L' f cdv)) Q (fun _ _ => False) { s with heap := h₁, toks := s.toks + binds.length })
    (hco : scope.isCoroutine = false) (hgen : scope.isGenerator = false) (hk : scope.kind = .function)
    (hcell : ∀ x ∈ scope.names, x.2 ≠ .cell) : Ctr w mean mg mb D U f vs kw P := by
  intro dp un gd cn cs a ccd cl outer A₀ base h₀ L m news s Q E B F X N T hkc hd hu hret
  refine wpAny_call ?_
  refine code_pure (env := envX cn cs L a ccd cl) B F X N T rfl rfl hkc ho hcd (show dp < recursionLimit by omega) (hbind s (X.keeps F.keep)) hloc (fun g L' h₁ F' N' B' X' T' keep => ?_) hco hgen hk hcell
  refine wpAny_mono (h dp un gd cn cs a ccd cl outer base L s g L' h₁ (fun fl s' => match fl with | .ret v => Q v s' | _ => False) F' N' B' X' T' hkc hd hu fun v m' h' tk' F'' hp => ?_) (fun fl s' hq => ?_) fun _ _ e => e.elim
  · have := back F N (h₁ := h') fun b o e => F''.keep b o (keep b o e)
    exact hret v h' tk' hp this.1 this.2
  · cases fl with
    | ret v => exact hq
    | _ => exact hq.elim

theorem ctr_ofC {name qual : Str} {params : Arguments} {body : List Stmt} {scope : Scope} {dV kV doc pm cdv ct oc : Value} {an od : Option Addr} {osl : Array (Option Value)} {binds : List (Str × Value)}
    (ho : (hd.heap_39 w.params).lookup f = some ⟨oc, od, .func (fnOf name qual params body scope dV kV doc pm an cdv ct), osl⟩) (hcd : codeIn (hd.heap_39 w.params) cdv qual = true)
    (hbind : ∀ s : Shared, (hd.heap_39 w.params).In s.heap → BindsTo s (fnOf name qual params body scope dV kV doc pm an cdv ct) ⟨vs, kw⟩ binds)
    (hkind : (binds.all fun y => scope.names.lookup y.1 == some .local || scope.names.lookup y.1 == some .cell) = true) (hnd : ((cellsFrom 0 scope.names []).map (·.1)).Nodup)
    (h : ∀ (dp un : Nat) (gd : Option (List Code)) (cn : Str) (cs : Scope) (a : Addr) (ccd : Value) (cl : List (Str × Addr)) (outer : List Env) (base : Heap) (L : Addr) (s : Shared) (g : Heap) (L' : Addr) (h₁ : Heap) (tk : Nat) (cells : List (Addr × Obj)) (Q : Flow → Shared → Prop),
      Fr g L' h₁ (bindL (envOfC qual scope L' f cdv).kindOf binds fun _ => none) → News g L' h₁ cells → CellsAre (bindC (envOfC qual scope L' f cdv).kindOf binds fun _ => none) (cellsFrom (L' + 1) scope.names []) cells →
      Below (ktrTop dp un gd cn cs L a ccd cl outer) base (envX cn cs L a ccd cl :: outer) g → (hd.heap_39 w.params).In g →
      Top hd.view_39 (looseW hd.view_39 [Str.ofString "bytes_types", Str.ofString "a2b_base64", Str.ofString "b2a_base64", Str.ofString "b64encode", Str.ofString "b64decode"]) mean mg mb g →
      cs.kind = .function → dp + D < recursionLimit → un + U < cLine →
      (∀ v m' h' tk', Fr g L' h' m' → P v → Q (.ret v) { s with heap := h', toks := tk' }) →
      wpAny (model PySem.Challenge.rw_qh0114_02.row.prog w) ((ktrTop dp un gd cn cs L a ccd cl outer).deeper (envOfC qual scope L' f cdv)) (execs body (envOfC qual scope L' f cdv)) Q (fun _ _ => False) { s with heap := h₁, toks := tk })
    (hco : scope.isCoroutine = false) (hgen : scope.isGenerator = false) (hk : scope.kind = .function) : Ctr w mean mg mb D U f vs kw P := by
  intro dp un gd cn cs a ccd cl outer A₀ base h₀ L m news s Q E B F X N T hkc hd hu hret
  refine wpAny_call ?_
  refine code_pureC (env := envX cn cs L a ccd cl) B F X N T rfl rfl hkc ho hcd (show dp < recursionLimit by omega) (hbind s (X.keeps F.keep)) hkind hnd (fun g L' h₁ tk cells F' N' Y' B' X' T' keep => ?_) hco hgen hk
  refine wpAny_mono (h dp un gd cn cs a ccd cl outer base L s g L' h₁ tk cells (fun fl s' => match fl with | .ret v => Q v s' | _ => False) F' N' Y' B' X' T' hkc hd hu fun v m' h' tk' F'' hp => ?_) (fun fl s' hq => ?_) fun _ _ e => e.elim
  · have := back F N (h₁ := h') fun b o e => F''.keep b o (keep b o e)
    exact hret v h' tk' hp this.1 this.2
  · cases fl with
    | ret v => exact hq
    | _ => exact hq.elim
end

end Mine
end

section
open Mine PySem PySem.W PySem.Calls PyProof.Rows
local macro_rules | `(tactic| k_room) => `(tactic| ktr_room)
local macro_rules | `(tactic| k_units) => `(tactic| first | exact Nat.le_of_ble_eq_true rfl | ktr_units)
local macro_rules | `(tactic| walk_at $s:str) => `(tactic| k_extra $s)

section
open PySem PySem.W PySem.Calls PyProof.Rows
set_option Elab.async false
set_option maxRecDepth 100000
set_option maxHeartbeats 8000000
namespace Mine

example : (fun (_ : OpenLaw) (_ : Params → Frag) => True) PySem.Challenge.rw_qh0114_02 hd.heap_39 := by
  k_fill; trivial


noncomputable def genStep (c : Nat) : Nat := if c % 2 = 1 then c / 2 ^^^ 3988292384 else c / 2
noncomputable def genIt : Nat → Nat → Nat
  | 0, c => c
  | n + 1, c => genStep (genIt n c)

theorem gen_odd {c : Int} {x : Nat} {pre : List Int} {k : Int} (h : c = ((genIt pre.length x : Nat) : Int)) (hb : Builtin.bitAnd c 1 ≠ 0) :
    Builtin.bitXor (c.fdiv (2 ^ Int.toNat 1)) 3988292384 = ((genIt (pre ++ [k]).length x : Nat) : Int) := by
  subst h
  have e : (pre ++ [k]).length = pre.length + 1 := by simp
  rw [e, genIt, genStep]
  have h1 : Builtin.bitAnd ((genIt pre.length x : Nat) : Int) ((1 : Nat) : Int) ≠ 0 := hb
  rw [bitAnd_nat, and_one] at h1
  have h2 : genIt pre.length x % 2 = 1 := by omega
  rw [if_pos h2]
  show Builtin.bitXor (((genIt pre.length x : Nat) : Int).fdiv ((2 : Nat) : Int)) ((3988292384 : Nat) : Int) = _
  rw [fdiv_nat, bitXor_nat]
theorem gen_even {c : Int} {x : Nat} {pre : List Int} {k : Int} (h : c = ((genIt pre.length x : Nat) : Int)) (hb : Builtin.bitAnd c 1 = 0) :
    c.fdiv (2 ^ Int.toNat 1) = ((genIt (pre ++ [k]).length x : Nat) : Int) := by
  subst h
  have e : (pre ++ [k]).length = pre.length + 1 := by simp
  rw [e, genIt, genStep]
  have h1 : Builtin.bitAnd ((genIt pre.length x : Nat) : Int) ((1 : Nat) : Int) = 0 := hb
  rw [bitAnd_nat, and_one] at h1
  have h2 : ¬ genIt pre.length x % 2 = 1 := by omega
  rw [if_neg h2]
  show ((genIt pre.length x : Nat) : Int).fdiv ((2 : Nat) : Int) = _
  rw [fdiv_nat]

theorem gen_ctr (w : World) (mean : ExcName → Option Value) (mg mb : Str → Option Value) (x : Int) (hx : 0 ≤ x) (tk : Tok) : Ctr w mean mg mb 2 20 28 [.int x tk] [] (fun v => ∃ t, v = .int (genIt 8 x.toNat : Nat) t) := by
  k_with_none
  k_with "steps" => repeat' ((fail_if_success (with_reducible show wpAny _ _ (pyIter _) _ _ _)); first | (k_unfold; (try dsimp only)) | walk1 | (dsimp only; walk1) | fail "no step")
  k_with "exec For" => (k_here; (rename Fr _ _ _ _ => lF'); (with_unfolding_all refine' For_invVF lF' ?hole1k1 ?hole1k2 ?_; (case hole1k1 => exact rfl); (case hole1k2 => exact rfl); k_whole))
  k_with "exec For Name Call cons nil" => (k_here; (rename Fr _ _ _ _ => lF'); (with_unfolding_all refine' For_invVF lF' ?hole2k1 ?hole2k2 ?_; (case hole2k1 => exact rfl); (case hole2k2 => exact rfl); k_whole))
  k_with "exec For Name Name cons nil" => (k_here; (rename Fr _ _ _ _ => lF'); (with_unfolding_all refine' For_invVF lF' ?hole3k1 ?hole3k2 ?_; (case hole3k1 => exact rfl); (case hole3k2 => exact rfl); k_whole))
  k_with "call type:type" => (k_here; (with_reducible show wpAny _ _ (call _ [Value.bytes _ _]) _ _ _); refine call_type_of (Tx := "bytes") rfl (by decide +kernel) ?_)
  k_with "kba_in" => first | assumption | (refine in_snoc ?_ ?_; (focus (first | k_extra "kba_in" | kba_in)); (first | exact byte_in _ | decide | omega))
  k_with "kba_ints" => first | assumption | (refine ints_snoc ?_; (first | k_extra "kba_ints" | kba_listInts))
  k_with "call type:bytes" => (k_here; (with_reducible show wpAny _ _ (call (Value.type "bytes") [Value.ref _]) _ _ _); (rename News _ _ _ _ => nE'); (simp only [List.push_toArray] at nE'); k_dflt (refine' KBa.make_K ?hole7kbaF nE' ?hole7kbah ?hole7kbal ?hole7kbai ?hole7kbar ?hole7kban ?_; (case hole7kbaF => k_asm); (case hole7kbah => rfl); (case hole7kbal => exact News.isList nE' (by k_mem)); (case hole7kbai => first | k_extra "kba_ints" | kba_listInts); (case hole7kbar => first | k_extra "kba_in" | kba_in); (case hole7kban => kba_size)); intro _ _ _ F' N' kbaIn)
  k_with "binaryOp FloorDiv int int" => (k_here; first | (with_reducible refine floordiv_int (powN_ne (b := 256) (by decide) _) ?_ (Or.inl (pow256_py ?hole8kbp)); (case hole8kbp => omega)) | (with_reducible refine floordiv_int (powN_ne (b := 64) (by decide) _) ?_ (Or.inl (pow64_py ?hole8kbp)); (case hole8kbp => omega)))
  k_with "call builtin:len" => (k_here; (with_reducible show wpAny _ _ (call (Value.builtin "len") [Value.bytes _ _]) _ _ _); refine len_B ?hole9kl ?_; (case hole9kl => first | exact Nat.le_trans (Small.le (by assumption)) (by decide) | omega))
  obtain ⟨n, rfl⟩ : ∃ n : Nat, x = (n : Int) := ⟨x.toNat, by omega⟩
  rw [Int.toNat_natCast]
  k_dflt (refine' ctr_of (binds := [(Str.ofString "crc", .int n tk)]) ?k6 ?k7 ?k9 ?kB ?_ ?c2 ?c3 ?c4 ?c5; (case k6 => k_is); (case k7 => k_is); (case k9 => intro s _; exact BindsTo.of_eq rfl); (case kB => exact locs rfl); (case c5 => decide); (case c2 => exact rfl); (case c3 => exact rfl); (case c4 => exact rfl); k_whole)
  intro dp un gd cn cs a ccd cl outer base L s g L' h₁ Q F' N' B' X' T' hkc hD hU ret
  k_extra "steps"
  (k_with "state" => first | exact rfl | exact gen_odd (by assumption) (by assumption) | exact gen_even (by assumption) (by assumption))
  k_state_short (fun pre c => c = ((genIt pre.length n : Nat) : Int)) "crc"
  · k_extra "steps"
    all_goals kst_close
  · k_extra "steps"
    exact ret _ _ _ _ (by assumption) ⟨_, by rw [kInv]; rfl⟩
end Mine
end

section
open PySem PySem.W PySem.Calls PyProof.Rows
set_option Elab.async false
set_option maxRecDepth 100000
set_option maxHeartbeats 8000000
namespace Mine

example : (fun (_ : OpenLaw) (_ : Params → Frag) => True) PySem.Challenge.rw_qh0114_02 hd.heap_39 := by
  k_fill; trivial

theorem powN_ne {b : Int} (hb : 0 < b) (n : Nat) : b ^ n ≠ 0 := Int.ne_of_gt (pow_pos_of hb n)
theorem powN_py {x : Int} {b e : Nat} (hb : b = 2 ^ e) {k : Int} (h : (e : Int) * k < 9000) (hk : 0 ≤ k ∨ e ≤ 100) : Builtin.divisionGoesByPylong x ((b : Int) ^ k.toNat) = false := by
  refine PyProof.noPylong_of_log2 ?_
  have e1 : ((b : Int) ^ k.toNat).natAbs = 2 ^ (e * k.toNat) := by
    rw [Int.natAbs_pow, Int.natAbs_natCast, hb, ← Nat.pow_mul]
  rw [e1]
  refine (Nat.log2_lt (Nat.ne_of_gt (Nat.two_pow_pos _))).mpr ?_
  refine Nat.pow_lt_pow_right (by decide) ?_
  by_cases h0 : 0 ≤ k
  · obtain ⟨n, rfl⟩ : ∃ n : Nat, k = (n : Int) := ⟨k.toNat, by omega⟩
    rw [Int.toNat_natCast]
    have h' : ((e * n : Nat) : Int) < 9000 := by rw [Int.natCast_mul]; exact h
    omega
  · rw [Int.toNat_of_nonpos (by omega)]; omega
theorem pow256_py {x k : Int} (h : k < 1000) : Builtin.divisionGoesByPylong x (256 ^ k.toNat) = false := powN_py (b := 256) (e := 8) rfl (by omega) (.inr (by decide))
theorem pow64_py {x k : Int} (h : k < 1000) : Builtin.divisionGoesByPylong x (64 ^ k.toNat) = false := powN_py (b := 64) (e := 6) rfl (by omega) (.inr (by decide))
structure Small (b : Array UInt8) : Prop where
  le : b.size ≤ 100000
theorem len_B {prog : Program} {w : World} {A : Around} {E : Value → Shared → Prop} {s : Shared} {b : Array UInt8} {t : Tok} {Q : Value → Shared → Prop} (hfit : b.size ≤ 1099511627776)
    (h : Q (.int (b.size : Nat) (s.toks + 1)) { s with toks := s.toks + 1 + 1 }) : wpAny (model prog w) A (call (.builtin "len") [.bytes b t]) Q E s := by
  refine KBw.len_K (ks := KBw.bInts b) rfl (by rw [KBw.ints_length]; exact hfit) ?_
  rw [KBw.ints_length]; exact h
noncomputable def stOf (c : Nat) (row : List Nat) : Nat := row.foldl (fun c o => genIt 8 (c ^^^ o)) c
noncomputable def sumOf (row : List Nat) : Nat := 4294967295 - stOf 4294967295 row
noncomputable def nats (ks : List Int) : List Nat := ks.map Int.toNat
noncomputable def oct (b : Array UInt8) : List Nat := b.toList.map UInt8.toNat

theorem bitXor_nonneg {a b : Int} (ha : 0 ≤ a) (hb : 0 ≤ b) : 0 ≤ Builtin.bitXor a b := by
  obtain ⟨n, rfl⟩ : ∃ n : Nat, a = (n : Int) := ⟨a.toNat, by omega⟩
  obtain ⟨k, rfl⟩ : ∃ k : Nat, b = (k : Int) := ⟨b.toNat, by omega⟩
  rw [bitXor_nat]; omega
theorem sum_turn {c n : Int} {pre : List Int} (h : c = ((stOf 4294967295 (nats pre) : Nat) : Int)) (hn : 0 ≤ n) :
    ((genIt 8 (Builtin.bitXor c n).toNat : Nat) : Int) = ((stOf 4294967295 (nats (pre ++ [n])) : Nat) : Int) := by
  subst h
  obtain ⟨k, rfl⟩ : ∃ k : Nat, n = (k : Int) := ⟨n.toNat, by omega⟩
  rw [bitXor_nat, Int.toNat_natCast]
  simp [stOf, nats, List.foldl_append]

theorem nats_ints (b : List UInt8) : nats (List.map (fun c => ((c.toNat : Nat) : Int)) b) = b.map UInt8.toNat := by
  simp [nats]

theorem sum_ctr (w : World) (mean : ExcName → Option Value) (mg mb : Str → Option Value) (b : Array UInt8) (tk : Tok) : Ctr w mean mg mb 4 40 131 [.bytes b tk] [] (fun v => ∃ t, v = .int (4294967295 - (stOf 4294967295 (oct b) : Nat)) t) := by
  k_with_none
  k_with "steps" => repeat' ((fail_if_success (with_reducible show wpAny _ _ (pyIter _) _ _ _)); first | (k_unfold; (try dsimp only)) | walk1 | (dsimp only; walk1) | fail "no step")
  k_with "exec For" => (k_here; (rename Fr _ _ _ _ => lF'); (with_unfolding_all refine' For_invVF lF' ?hole1k1 ?hole1k2 ?_; (case hole1k1 => exact rfl); (case hole1k2 => exact rfl); k_whole))
  k_with "exec For Name Call cons nil" => (k_here; (rename Fr _ _ _ _ => lF'); (with_unfolding_all refine' For_invVF lF' ?hole2k1 ?hole2k2 ?_; (case hole2k1 => exact rfl); (case hole2k2 => exact rfl); k_whole))
  k_with "exec For Name Name cons nil" => (k_here; (rename Fr _ _ _ _ => lF'); (with_unfolding_all refine' For_invVF lF' ?hole3k1 ?hole3k2 ?_; (case hole3k1 => exact rfl); (case hole3k2 => exact rfl); k_whole))
  k_with "call type:type" => (k_here; (with_reducible show wpAny _ _ (call _ [Value.bytes _ _]) _ _ _); refine call_type_of (Tx := "bytes") rfl (by decide +kernel) ?_)
  k_with "kba_in" => first | assumption | (refine in_snoc ?_ ?_; (focus (first | k_extra "kba_in" | kba_in)); (first | exact byte_in _ | decide | omega))
  k_with "kba_ints" => first | assumption | (refine ints_snoc ?_; (first | k_extra "kba_ints" | kba_listInts))
  k_with "call type:bytes" => (k_here; (with_reducible show wpAny _ _ (call (Value.type "bytes") [Value.ref _]) _ _ _); (rename News _ _ _ _ => nE'); (simp only [List.push_toArray] at nE'); k_dflt (refine' KBa.make_K ?hole7kbaF nE' ?hole7kbah ?hole7kbal ?hole7kbai ?hole7kbar ?hole7kban ?_; (case hole7kbaF => k_asm); (case hole7kbah => rfl); (case hole7kbal => exact News.isList nE' (by k_mem)); (case hole7kbai => first | k_extra "kba_ints" | kba_listInts); (case hole7kbar => first | k_extra "kba_in" | kba_in); (case hole7kban => kba_size)); intro _ _ _ F' N' kbaIn)
  k_with "binaryOp FloorDiv int int" => (k_here; first | (with_reducible refine floordiv_int (powN_ne (b := 256) (by decide) _) ?_ (Or.inl (pow256_py ?hole8kbp)); (case hole8kbp => omega)) | (with_reducible refine floordiv_int (powN_ne (b := 64) (by decide) _) ?_ (Or.inl (pow64_py ?hole8kbp)); (case hole8kbp => omega)))
  k_with "call builtin:len" => (k_here; (with_reducible show wpAny _ _ (call (Value.builtin "len") [Value.bytes _ _]) _ _ _); refine len_B ?hole9kl ?_; (case hole9kl => first | exact Nat.le_trans (Small.le (by assumption)) (by decide) | omega))
  k_with "call ref" => (k_here; (k_dflt (refine' Ctr.use (gen_ctr _ _ _ _ _ (by first | omega | exact bitXor_nonneg (by omega) (by omega)) _) ?hole10k1 ?hole10k2 ?hole10k3 ?hole10k4 ?hole10k5 ?hole10kK ?hole10kd ?hole10ku ?_; (case hole10k1 => k_asm); (case hole10k2 => k_asm); (case hole10k3 => k_asm); (case hole10k4 => k_asm); (case hole10k5 => k_asm); (case hole10kK => first | exact rfl | assumption); (case hole10kd => first | exact Nat.le_of_ble_eq_true rfl | exact room1 (by assumption) rfl | exact room2 (by assumption) rfl | ktr_room); (case hole10ku => first | exact Nat.le_of_ble_eq_true rfl | exact room1 (by assumption) rfl | exact room2 (by assumption) rfl | ktr_units); k_whole); intro v' h' tk' hv' F' N'; (first | (obtain ⟨t', hv'⟩ := hv'; subst hv') | subst hv'); (try k_sweep)))
  k_dflt (refine' ctr_of (binds := [(Str.ofString "row", .bytes b tk)]) ?k6 ?k7 ?k9 ?kB ?_ ?c2 ?c3 ?c4 ?c5; (case k6 => k_is); (case k7 => k_is); (case k9 => intro s _; exact BindsTo.of_eq rfl); (case kB => exact locs rfl); (case c5 => decide); (case c2 => exact rfl); (case c3 => exact rfl); (case c4 => exact rfl); k_whole)
  intro dp un gd cn cs a ccd cl outer base L s g L' h₁ Q F' N' B' X' T' hkc hD hU ret
  k_extra "steps"
  (k_with "state" => first | exact rfl | exact sum_turn (by assumption) (by assumption))
  k_state (fun pre c => c = ((stOf 4294967295 (nats pre) : Nat) : Int)) "crc"
  · k_extra "steps"
  · k_extra "steps"
    exact ret _ _ _ _ (by assumption) ⟨_, by rw [kInv, nats_ints]; rfl⟩

noncomputable def onIt : Nat → Nat → Nat
  | 0, c => c
  | n + 1, c => genIt 8 (onIt n c)
theorem on_turn {c k : Int} {x : Nat} {pre : List Int} (h : c = ((onIt pre.length x : Nat) : Int)) : ((genIt 8 c.toNat : Nat) : Int) = ((onIt (pre ++ [k]).length x : Nat) : Int) := by
  subst h
  rw [Int.toNat_natCast]
  simp [onIt]
theorem rangeKs_len0 (n : Nat) : (rangeKs 0 (((n : Nat) : Int) - 0).toNat).length = n := by rw [rangeKs_length]; omega


noncomputable def backStep (c : Nat) : Nat := if 2147483648 ≤ c then (c ^^^ 3988292384) * 2 + 1 else c * 2
noncomputable def backIt : Nat → Nat → Nat
  | 0, c => c
  | n + 1, c => backStep (backIt n c)
theorem back_lt {c : Nat} (h : c < 4294967296) : backStep c < 4294967296 := by
  unfold backStep
  split
  · have h1 : (c ^^^ 3988292384) / 2 ^ 31 = c / 2 ^ 31 ^^^ 3988292384 / 2 ^ 31 := Nat.xor_div_two_pow
    have h2 : c / 2 ^ 31 = 1 := by omega
    rw [h2] at h1
    have h3 : (1 ^^^ 3988292384 / 2 ^ 31 : Nat) = 0 := by decide
    rw [h3] at h1
    omega
  · omega
theorem backIt_lt {c : Nat} (h : c < 4294967296) : ∀ n, backIt n c < 4294967296
  | 0 => h
  | n + 1 => back_lt (backIt_lt h n)
theorem back_hi {c k : Int} {x : Nat} {pre : List Int} (h : c = ((backIt pre.length x : Nat) : Int)) (hc : 2 ^ Int.toNat 31 ≤ c) :
    Builtin.bitXor c 3988292384 * 2 + 1 = ((backIt (pre ++ [k]).length x : Nat) : Int) := by
  subst h
  have e : (pre ++ [k]).length = pre.length + 1 := by simp
  have hc' : (2147483648 : Int) ≤ ((backIt pre.length x : Nat) : Int) := hc
  rw [e, backIt, backStep, if_pos (by omega)]
  have := bitXor_nat (backIt pre.length x) 3988292384
  have e2 : Builtin.bitXor ((backIt pre.length x : Nat) : Int) 3988292384 = _ := this
  rw [e2]; omega
theorem back_lo {c k : Int} {x : Nat} {pre : List Int} (h : c = ((backIt pre.length x : Nat) : Int)) (hc : ¬ 2 ^ Int.toNat 31 ≤ c) :
    c * 2 = ((backIt (pre ++ [k]).length x : Nat) : Int) := by
  subst h
  have e : (pre ++ [k]).length = pre.length + 1 := by simp
  have hc' : ¬ (2147483648 : Int) ≤ ((backIt pre.length x : Nat) : Int) := hc
  rw [e, backIt, backStep, if_neg (by omega)]; omega

theorem back_ctr (w : World) (mean : ExcName → Option Value) (mg mb : Str → Option Value) (x n : Int) (hx : 0 ≤ x ∧ x < 4294967296) (hn : 0 ≤ n ∧ n ≤ 100000) (tk tn : Tok) : Ctr w mean mg mb 2 20 138 [.int x tk, .int n tn] [] (fun v => ∃ t, v = .int (backIt (8 * n.toNat) x.toNat : Nat) t) := by
  k_with_none
  k_with "steps" => repeat' ((fail_if_success (with_reducible show wpAny _ _ (pyIter _) _ _ _)); first | (k_unfold; (try dsimp only)) | walk1 | (dsimp only; walk1) | fail "no step")
  k_with "exec For" => (k_here; (rename Fr _ _ _ _ => lF'); (with_unfolding_all refine' For_invVF lF' ?hole1k1 ?hole1k2 ?_; (case hole1k1 => exact rfl); (case hole1k2 => exact rfl); k_whole))
  k_with "exec For Name Call cons nil" => (k_here; (rename Fr _ _ _ _ => lF'); (with_unfolding_all refine' For_invVF lF' ?hole2k1 ?hole2k2 ?_; (case hole2k1 => exact rfl); (case hole2k2 => exact rfl); k_whole))
  k_with "exec For Name Name cons nil" => (k_here; (rename Fr _ _ _ _ => lF'); (with_unfolding_all refine' For_invVF lF' ?hole3k1 ?hole3k2 ?_; (case hole3k1 => exact rfl); (case hole3k2 => exact rfl); k_whole))
  k_with "call type:type" => (k_here; (with_reducible show wpAny _ _ (call _ [Value.bytes _ _]) _ _ _); refine call_type_of (Tx := "bytes") rfl (by decide +kernel) ?_)
  k_with "kba_in" => first | assumption | (refine in_snoc ?_ ?_; (focus (first | k_extra "kba_in" | kba_in)); (first | exact byte_in _ | decide | omega))
  k_with "kba_ints" => first | assumption | (refine ints_snoc ?_; (first | k_extra "kba_ints" | kba_listInts))
  k_with "call type:bytes" => (k_here; (with_reducible show wpAny _ _ (call (Value.type "bytes") [Value.ref _]) _ _ _); (rename News _ _ _ _ => nE'); (simp only [List.push_toArray] at nE'); k_dflt (refine' KBa.make_K ?hole7kbaF nE' ?hole7kbah ?hole7kbal ?hole7kbai ?hole7kbar ?hole7kban ?_; (case hole7kbaF => k_asm); (case hole7kbah => rfl); (case hole7kbal => exact News.isList nE' (by k_mem)); (case hole7kbai => first | k_extra "kba_ints" | kba_listInts); (case hole7kbar => first | k_extra "kba_in" | kba_in); (case hole7kban => kba_size)); intro _ _ _ F' N' kbaIn)
  k_with "binaryOp FloorDiv int int" => (k_here; first | (with_reducible refine floordiv_int (powN_ne (b := 256) (by decide) _) ?_ (Or.inl (pow256_py ?hole8kbp)); (case hole8kbp => omega)) | (with_reducible refine floordiv_int (powN_ne (b := 64) (by decide) _) ?_ (Or.inl (pow64_py ?hole8kbp)); (case hole8kbp => omega)))
  k_with "call builtin:len" => (k_here; (with_reducible show wpAny _ _ (call (Value.builtin "len") [Value.bytes _ _]) _ _ _); refine len_B ?hole9kl ?_; (case hole9kl => first | exact Nat.le_trans (Small.le (by assumption)) (by decide) | omega))
  k_with "call ref" => (k_here; (k_dflt (refine' Ctr.use (gen_ctr _ _ _ _ _ (by first | omega | exact bitXor_nonneg (by omega) (by omega)) _) ?hole10k1 ?hole10k2 ?hole10k3 ?hole10k4 ?hole10k5 ?hole10kK ?hole10kd ?hole10ku ?_; (case hole10k1 => k_asm); (case hole10k2 => k_asm); (case hole10k3 => k_asm); (case hole10k4 => k_asm); (case hole10k5 => k_asm); (case hole10kK => first | exact rfl | assumption); (case hole10kd => first | exact Nat.le_of_ble_eq_true rfl | exact room1 (by assumption) rfl | exact room2 (by assumption) rfl | ktr_room); (case hole10ku => first | exact Nat.le_of_ble_eq_true rfl | exact room1 (by assumption) rfl | exact room2 (by assumption) rfl | ktr_units); k_whole); intro v' h' tk' hv' F' N'; (first | (obtain ⟨t', hv'⟩ := hv'; subst hv') | subst hv'); (try k_sweep)))
  obtain ⟨x, rfl⟩ : ∃ k : Nat, x = (k : Int) := ⟨x.toNat, by omega⟩
  obtain ⟨n, rfl⟩ : ∃ k : Nat, n = (k : Int) := ⟨n.toNat, by omega⟩
  rw [Int.toNat_natCast, Int.toNat_natCast]
  have hx' : x < 4294967296 := by omega
  k_dflt (refine' ctr_of (binds := [(Str.ofString "crc", .int x tk), (Str.ofString "count", .int n tn)]) ?k6 ?k7 ?k9 ?kB ?_ ?c2 ?c3 ?c4 ?c5; (case k6 => k_is); (case k7 => k_is); (case k9 => intro s _; exact BindsTo.of_eq rfl); (case kB => exact locs rfl); (case c5 => decide); (case c2 => exact rfl); (case c3 => exact rfl); (case c4 => exact rfl); k_whole)
  intro dp un gd cn cs a ccd cl outer base L s g L' h₁ Q F' N' B' X' T' hkc hD hU ret
  k_extra "steps"
  (k_with "state" => first | exact rfl | exact back_hi (by assumption) (by assumption) | exact back_lo (by assumption) (by assumption))
  k_state (fun pre c => c = ((backIt pre.length x : Nat) : Int)) "crc"
  · have hlt := backIt_lt hx' kPre.length
    rw [← Int.ofNat_lt, ← kInv] at hlt
    k_extra "steps"
  · k_extra "steps"
    exact ret _ _ _ _ (by assumption) ⟨_, by rw [kInv, rangeKs_length, show ((8 * (n : Int) - 0).toNat) = 8 * n by omega]⟩
end Mine
end

section
open PySem PySem.W PySem.Calls PyProof.Rows
set_option Elab.async false
set_option maxRecDepth 100000
set_option maxHeartbeats 8000000
namespace Mine

example : (fun (_ : OpenLaw) (_ : Params → Frag) => True) PySem.Challenge.rw_qh0114_02 hd.heap_39 := by
  k_fill; trivial

theorem buf_ctr (w : World) (mean : ExcName → Option Value) (mg mb : Str → Option Value) (b : Array UInt8) (tk : Tok) : Ctr w mean mg mb 2 20 63 [.bytes b tk] [] (fun v => v = .bytes b tk) := by
  k_with_none
  k_with "steps" => repeat' ((fail_if_success (with_reducible show wpAny _ _ (pyIter _) _ _ _)); first | (k_unfold; (try dsimp only)) | walk1 | (dsimp only; walk1) | fail "no step")
  k_with "exec For" => (k_here; (rename Fr _ _ _ _ => lF'); (with_unfolding_all refine' For_invVF lF' ?hole1k1 ?hole1k2 ?_; (case hole1k1 => exact rfl); (case hole1k2 => exact rfl); k_whole))
  k_with "exec For Name Call cons nil" => (k_here; (rename Fr _ _ _ _ => lF'); (with_unfolding_all refine' For_invVF lF' ?hole2k1 ?hole2k2 ?_; (case hole2k1 => exact rfl); (case hole2k2 => exact rfl); k_whole))
  k_with "exec For Name Name cons nil" => (k_here; (rename Fr _ _ _ _ => lF'); (with_unfolding_all refine' For_invVF lF' ?hole3k1 ?hole3k2 ?_; (case hole3k1 => exact rfl); (case hole3k2 => exact rfl); k_whole))
  k_with "call type:type" => (k_here; (with_reducible show wpAny _ _ (call _ [Value.bytes _ _]) _ _ _); refine call_type_of (Tx := "bytes") rfl (by decide +kernel) ?_)
  k_with "kba_in" => first | assumption | (refine in_snoc ?_ ?_; (focus (first | k_extra "kba_in" | kba_in)); (first | exact byte_in _ | decide | omega))
  k_with "kba_ints" => first | assumption | (refine ints_snoc ?_; (first | k_extra "kba_ints" | kba_listInts))
  k_with "call type:bytes" => (k_here; (with_reducible show wpAny _ _ (call (Value.type "bytes") [Value.ref _]) _ _ _); (rename News _ _ _ _ => nE'); (simp only [List.push_toArray] at nE'); k_dflt (refine' KBa.make_K ?hole7kbaF nE' ?hole7kbah ?hole7kbal ?hole7kbai ?hole7kbar ?hole7kban ?_; (case hole7kbaF => k_asm); (case hole7kbah => rfl); (case hole7kbal => exact News.isList nE' (by k_mem)); (case hole7kbai => first | k_extra "kba_ints" | kba_listInts); (case hole7kbar => first | k_extra "kba_in" | kba_in); (case hole7kban => kba_size)); intro _ _ _ F' N' kbaIn)
  k_with "binaryOp FloorDiv int int" => (k_here; first | (with_reducible refine floordiv_int (powN_ne (b := 256) (by decide) _) ?_ (Or.inl (pow256_py ?hole8kbp)); (case hole8kbp => omega)) | (with_reducible refine floordiv_int (powN_ne (b := 64) (by decide) _) ?_ (Or.inl (pow64_py ?hole8kbp)); (case hole8kbp => omega)))
  k_with "call builtin:len" => (k_here; (with_reducible show wpAny _ _ (call (Value.builtin "len") [Value.bytes _ _]) _ _ _); refine len_B ?hole9kl ?_; (case hole9kl => first | exact Nat.le_trans (Small.le (by assumption)) (by decide) | omega))
  k_dflt (refine' ctr_of (binds := [(Str.ofString "data", .bytes b tk)]) ?k6 ?k7 ?k9 ?kB ?_ ?c2 ?c3 ?c4 ?c5; (case k6 => k_is); (case k7 => k_is); (case k9 => intro s _; exact BindsTo.of_eq rfl); (case kB => exact locs rfl); (case c5 => decide); (case c2 => exact rfl); (case c3 => exact rfl); (case c4 => exact rfl); k_whole)
  intro dp un gd cn cs a ccd cl outer base L s g L' h₁ Q F' N' B' X' T' hkc hD hU ret
  k_extra "steps"
  exact ret _ _ _ _ (by assumption) rfl

theorem truth_ctr (w : World) (mean : ExcName → Option Value) (mg mb : Str → Option Value) : Ctr w mean mg mb 2 20 70 [.bool false] [] (fun v => v = .bool false) := by
  k_with_none
  k_with "steps" => repeat' ((fail_if_success (with_reducible show wpAny _ _ (pyIter _) _ _ _)); first | (k_unfold; (try dsimp only)) | walk1 | (dsimp only; walk1) | fail "no step")
  k_with "exec For" => (k_here; (rename Fr _ _ _ _ => lF'); (with_unfolding_all refine' For_invVF lF' ?hole1k1 ?hole1k2 ?_; (case hole1k1 => exact rfl); (case hole1k2 => exact rfl); k_whole))
  k_with "exec For Name Call cons nil" => (k_here; (rename Fr _ _ _ _ => lF'); (with_unfolding_all refine' For_invVF lF' ?hole2k1 ?hole2k2 ?_; (case hole2k1 => exact rfl); (case hole2k2 => exact rfl); k_whole))
  k_with "exec For Name Name cons nil" => (k_here; (rename Fr _ _ _ _ => lF'); (with_unfolding_all refine' For_invVF lF' ?hole3k1 ?hole3k2 ?_; (case hole3k1 => exact rfl); (case hole3k2 => exact rfl); k_whole))
  k_with "call type:type" => (k_here; (with_reducible show wpAny _ _ (call _ [Value.bytes _ _]) _ _ _); refine call_type_of (Tx := "bytes") rfl (by decide +kernel) ?_)
  k_with "kba_in" => first | assumption | (refine in_snoc ?_ ?_; (focus (first | k_extra "kba_in" | kba_in)); (first | exact byte_in _ | decide | omega))
  k_with "kba_ints" => first | assumption | (refine ints_snoc ?_; (first | k_extra "kba_ints" | kba_listInts))
  k_with "call type:bytes" => (k_here; (with_reducible show wpAny _ _ (call (Value.type "bytes") [Value.ref _]) _ _ _); (rename News _ _ _ _ => nE'); (simp only [List.push_toArray] at nE'); k_dflt (refine' KBa.make_K ?hole7kbaF nE' ?hole7kbah ?hole7kbal ?hole7kbai ?hole7kbar ?hole7kban ?_; (case hole7kbaF => k_asm); (case hole7kbah => rfl); (case hole7kbal => exact News.isList nE' (by k_mem)); (case hole7kbai => first | k_extra "kba_ints" | kba_listInts); (case hole7kbar => first | k_extra "kba_in" | kba_in); (case hole7kban => kba_size)); intro _ _ _ F' N' kbaIn)
  k_with "binaryOp FloorDiv int int" => (k_here; first | (with_reducible refine floordiv_int (powN_ne (b := 256) (by decide) _) ?_ (Or.inl (pow256_py ?hole8kbp)); (case hole8kbp => omega)) | (with_reducible refine floordiv_int (powN_ne (b := 64) (by decide) _) ?_ (Or.inl (pow64_py ?hole8kbp)); (case hole8kbp => omega)))
  k_with "call builtin:len" => (k_here; (with_reducible show wpAny _ _ (call (Value.builtin "len") [Value.bytes _ _]) _ _ _); refine len_B ?hole9kl ?_; (case hole9kl => first | exact Nat.le_trans (Small.le (by assumption)) (by decide) | omega))
  k_dflt (refine' ctr_of (binds := [(Str.ofString "x", .bool false)]) ?k6 ?k7 ?k9 ?kB ?_ ?c2 ?c3 ?c4 ?c5; (case k6 => k_is); (case k7 => k_is); (case k9 => intro s _; exact BindsTo.of_eq rfl); (case kB => exact locs rfl); (case c5 => decide); (case c2 => exact rfl); (case c3 => exact rfl); (case c4 => exact rfl); k_whole)
  intro dp un gd cn cs a ccd cl outer base L s g L' h₁ Q F' N' B' X' T' hkc hD hU ret
  k_extra "steps"
  exact ret _ _ _ _ (by assumption) rfl

end Mine
end

section
open PySem PySem.W PySem.Calls PyProof.Rows
set_option Elab.async false
set_option maxRecDepth 100000
set_option maxHeartbeats 8000000
namespace Mine

example : (fun (_ : OpenLaw) (_ : Params → Frag) => True) PySem.Challenge.rw_qh0114_02 hd.heap_39 := by
  k_fill; trivial


noncomputable def tab : List UInt8 := [65, 66, 67, 68, 69, 70, 71, 72, 73, 74, 75, 76, 77, 78, 79, 80, 81, 82, 83, 84, 85, 86, 87, 88, 89, 90, 97, 98, 99,
    100, 101, 102, 103, 104, 105, 106, 107, 108, 109, 110, 111, 112, 113, 114, 115, 116, 117, 118, 119, 120, 121, 122,
    48, 49, 50, 51, 52, 53, 54, 55, 56, 57, 43, 47]
noncomputable def sg (i : Nat) : Nat := (tab.getD i 0).toNat
noncomputable def b2aStep (σ : Nat × Nat × List Nat) (o : Nat) : Nat × Nat × List Nat :=
  let lc := (σ.1 * 256 + o) % 65536
  if σ.2.1 = 0 then (lc, 2, σ.2.2 ++ [sg (lc / 4 % 64)])
  else if σ.2.1 = 2 then (lc, 4, σ.2.2 ++ [sg (lc / 16 % 64)])
  else (lc, 0, σ.2.2 ++ [sg (lc / 64 % 64), sg (lc % 64)])
noncomputable def b2aSt (row : List Nat) : Nat × Nat × List Nat := row.foldl b2aStep (0, 0, [])

noncomputable def B2aInv (pre : List Int) (lc lb : Int) (out : List Int) : Prop :=
  lc = (((b2aSt (nats pre)).1 : Nat) : Int) ∧ lb = (((b2aSt (nats pre)).2.1 : Nat) : Int) ∧ out = (b2aSt (nats pre)).2.2.map (fun (x : Nat) => (x : Int)) ∧ out.length ≤ 2 * pre.length

theorem b2a_start : B2aInv [] 0 0 [] := ⟨rfl, rfl, rfl, Nat.le_refl _⟩
theorem b2aSt_snoc (row : List Nat) (o : Nat) : b2aSt (row ++ [o]) = b2aStep (b2aSt row) o := by simp [b2aSt, List.foldl_append]
theorem b2a_ok : ∀ (row : List Nat) (σ : Nat × Nat × List Nat), σ.1 < 65536 ∧ (σ.2.1 = 0 ∨ σ.2.1 = 2 ∨ σ.2.1 = 4) → (row.foldl b2aStep σ).1 < 65536 ∧ ((row.foldl b2aStep σ).2.1 = 0 ∨ (row.foldl b2aStep σ).2.1 = 2 ∨ (row.foldl b2aStep σ).2.1 = 4)
  | [], _, h => h
  | o :: r, σ, h => by
    refine b2a_ok r _ ?_
    unfold b2aStep
    dsimp only
    split
    · exact ⟨Nat.mod_lt _ (by decide), .inr (.inl rfl)⟩
    · split
      · exact ⟨Nat.mod_lt _ (by decide), .inr (.inr rfl)⟩
      · exact ⟨Nat.mod_lt _ (by decide), .inl rfl⟩
theorem b2a_lb {pre : List Int} {lc lb : Int} {out : List Int} (h : B2aInv pre lc lb out) : lb = 0 ∨ lb = 2 ∨ lb = 4 := by
  have := (b2a_ok (nats pre) (0, 0, []) ⟨by decide, .inl rfl⟩).2
  have h2 := h.2.1
  unfold b2aSt at h2
  omega
theorem b2a_lc {pre : List Int} {lc lb : Int} {out : List Int} (h : B2aInv pre lc lb out) : 0 ≤ lc ∧ lc < 65536 := by
  have := (b2a_ok (nats pre) (0, 0, []) ⟨by decide, .inl rfl⟩).1
  have h2 := h.1
  unfold b2aSt at h2
  omega

theorem idx63 (x : Int) : 0 ≤ Builtin.bitAnd x 63 ∧ Builtin.bitAnd x 63 < 64 := by
  have := bitAnd_range x (y := 63) (by decide)
  omega
theorem idx3 (x : Int) : 0 ≤ Builtin.bitAnd x 3 * 2 ^ Int.toNat 4 ∧ Builtin.bitAnd x 3 * 2 ^ Int.toNat 4 < 64 := by
  have := bitAnd_range x (y := 3) (by decide)
  have e : (2 : Int) ^ Int.toNat 4 = 16 := by decide
  rw [e]; omega
theorem idx15 (x : Int) : 0 ≤ Builtin.bitAnd x 15 * 2 ^ Int.toNat 2 ∧ Builtin.bitAnd x 15 * 2 ^ Int.toNat 2 < 64 := by
  have := bitAnd_range x (y := 15) (by decide)
  have e : (2 : Int) ^ Int.toNat 2 = 4 := by decide
  rw [e]; omega

theorem b2a_val (a o : Nat) (ho : o < 256) : Builtin.bitAnd (Builtin.bitOr ((a : Int) * 2 ^ Int.toNat 8) (o : Int)) 65535 = (((a * 256 + o) % 65536 : Nat) : Int) := by
  have e : (a : Int) * 2 ^ Int.toNat 8 = ((a * 256 : Nat) : Int) := by
    have : (2 : Int) ^ Int.toNat 8 = 256 := by decide
    rw [this]; omega
  have e2 : a * 256 ||| o = a * 256 + o := by
    have := Nat.two_pow_add_eq_or_of_lt (i := 8) (b := o) ho a
    rw [Nat.mul_comm a 256]
    exact this.symm
  rw [e, bitOr_nat, e2, bitAnd_m16]
  omega
theorem b2a_idx (x k : Nat) : (Builtin.bitAnd (Int.fdiv (x : Int) (2 ^ k)) 63).toNat = x / 2 ^ k % 64 := by
  have e : (2 : Int) ^ k = ((2 ^ k : Nat) : Int) := by simp
  rw [e, fdiv_nat, bitAnd_m6]
  omega
theorem nats_snoc (pre : List Int) (n : Nat) : nats (pre ++ [(n : Int)]) = nats pre ++ [n] := by simp [nats]
theorem b2a_t0 {pre : List Int} {n lc : Int} {out : List Int} (h : B2aInv pre lc 0 out) (h0 : 0 ≤ n) (h1 : n < 256) :
    B2aInv (pre ++ [n]) (Builtin.bitAnd (Builtin.bitOr (lc * 2 ^ Int.toNat 8) n) 65535) (0 + 8 - 6)
      (out ++ [(((tab.getD (Builtin.bitAnd (Int.fdiv (Builtin.bitAnd (Builtin.bitOr (lc * 2 ^ Int.toNat 8) n) 65535) (2 ^ (0 + 8 - 6 : Int).toNat)) 63).toNat 0).toNat : Nat) : Int)]) := by
  obtain ⟨n, rfl⟩ : ∃ k : Nat, n = (k : Int) := ⟨n.toNat, by omega⟩
  obtain ⟨e1, e2, e3, e4⟩ := h
  subst e1
  rw [b2a_val _ _ (by omega), b2a_idx]
  have hz : (b2aSt (nats pre)).2.1 = 0 := by omega
  unfold B2aInv
  rw [nats_snoc, b2aSt_snoc, b2aStep]
  simp only [hz, if_true]
  refine ⟨by first | rfl | trivial, rfl, ?_, ?_⟩
  · rw [e3, List.map_append]; rfl
  · simp only [List.length_append, List.length_cons, List.length_nil]; omega
theorem b2a_t2 {pre : List Int} {n lc : Int} {out : List Int} (h : B2aInv pre lc 2 out) (h0 : 0 ≤ n) (h1 : n < 256) :
    B2aInv (pre ++ [n]) (Builtin.bitAnd (Builtin.bitOr (lc * 2 ^ Int.toNat 8) n) 65535) (2 + 8 - 6)
      (out ++ [(((tab.getD (Builtin.bitAnd (Int.fdiv (Builtin.bitAnd (Builtin.bitOr (lc * 2 ^ Int.toNat 8) n) 65535) (2 ^ (2 + 8 - 6 : Int).toNat)) 63).toNat 0).toNat : Nat) : Int)]) := by
  obtain ⟨n, rfl⟩ : ∃ k : Nat, n = (k : Int) := ⟨n.toNat, by omega⟩
  obtain ⟨e1, e2, e3, e4⟩ := h
  subst e1
  rw [b2a_val _ _ (by omega), b2a_idx]
  have hz : (b2aSt (nats pre)).2.1 = 2 := by omega
  unfold B2aInv
  rw [nats_snoc, b2aSt_snoc, b2aStep]
  simp only [hz, if_true, if_neg (show ¬ (2 : Nat) = 0 by decide)]
  refine ⟨by first | rfl | trivial, rfl, ?_, ?_⟩
  · rw [e3, List.map_append]; rfl
  · simp only [List.length_append, List.length_cons, List.length_nil]; omega
theorem b2a_t4 {pre : List Int} {n lc : Int} {out : List Int} (h : B2aInv pre lc 4 out) (h0 : 0 ≤ n) (h1 : n < 256) :
    B2aInv (pre ++ [n]) (Builtin.bitAnd (Builtin.bitOr (lc * 2 ^ Int.toNat 8) n) 65535) (4 + 8 - 6 - 6)
      (out ++ [(((tab.getD (Builtin.bitAnd (Int.fdiv (Builtin.bitAnd (Builtin.bitOr (lc * 2 ^ Int.toNat 8) n) 65535) (2 ^ (4 + 8 - 6 : Int).toNat)) 63).toNat 0).toNat : Nat) : Int)] ++
        [(((tab.getD (Builtin.bitAnd (Int.fdiv (Builtin.bitAnd (Builtin.bitOr (lc * 2 ^ Int.toNat 8) n) 65535) (2 ^ (4 + 8 - 6 - 6 : Int).toNat)) 63).toNat 0).toNat : Nat) : Int)]) := by
  obtain ⟨n, rfl⟩ : ∃ k : Nat, n = (k : Int) := ⟨n.toNat, by omega⟩
  obtain ⟨e1, e2, e3, e4⟩ := h
  subst e1
  rw [b2a_val _ _ (by omega), b2a_idx, b2a_idx]
  have hz : (b2aSt (nats pre)).2.1 = 4 := by omega
  unfold B2aInv
  rw [nats_snoc, b2aSt_snoc, b2aStep]
  simp only [hz, if_neg (show ¬ (4 : Nat) = 0 by decide), if_neg (show ¬ (4 : Nat) = 2 by decide)]
  refine ⟨by first | rfl | trivial, rfl, ?_, ?_⟩
  · rw [e3, List.map_append, List.append_assoc]
    show _ = _ ++ [((sg (((b2aSt (nats pre)).1 * 256 + n) % 65536 / 64 % 64) : Nat) : Int), ((sg (((b2aSt (nats pre)).1 * 256 + n) % 65536 % 64) : Nat) : Int)]
    have q : ((4 + 8 - 6 - 6 : Int).toNat) = 0 := by decide
    rw [q, Nat.pow_zero, Nat.div_one]
    rfl
  · simp only [List.length_append, List.length_cons, List.length_nil]; omega

noncomputable def b2aFin (σ : Nat × Nat × List Nat) : List Nat :=
  if σ.2.1 = 2 then σ.2.2 ++ [sg (σ.1 % 4 * 16), 61, 61] else if σ.2.1 = 4 then σ.2.2 ++ [sg (σ.1 % 16 * 4), 61] else σ.2.2
noncomputable def arr (l : List Nat) : Array UInt8 := byteArr (l.map fun (x : Nat) => (x : Int))
theorem sg_lt (i : Nat) : sg i < 256 := UInt8.toNat_lt _
theorem b2a_outlt : ∀ (row : List Nat) (σ : Nat × Nat × List Nat), (∀ x ∈ σ.2.2, x < 256) → ∀ x ∈ (row.foldl b2aStep σ).2.2, x < 256
  | [], _, h => h
  | o :: r, σ, h => by
    refine b2a_outlt r _ ?_
    unfold b2aStep
    dsimp only
    split
    · intro x hx
      rcases List.mem_append.mp hx with hx | hx
      · exact h x hx
      · rw [List.mem_singleton.mp hx]; exact sg_lt _
    · split
      · intro x hx
        rcases List.mem_append.mp hx with hx | hx
        · exact h x hx
        · rw [List.mem_singleton.mp hx]; exact sg_lt _
      · intro x hx
        rcases List.mem_append.mp hx with hx | hx
        · exact h x hx
        · rcases List.mem_cons.mp hx with rfl | hx
          · exact sg_lt _
          · rw [List.mem_singleton.mp hx]; exact sg_lt _
theorem b2a_in {pre : List Int} {lc lb : Int} {out : List Int} (h : B2aInv pre lc lb out) : KBa.In out := by
  intro n hn
  rw [h.2.2.1] at hn
  obtain ⟨x, hx, rfl⟩ := List.mem_map.mp hn
  have := b2a_outlt (nats pre) (0, 0, []) (fun _ h => nomatch h) x hx
  omega
theorem b2a_cap {pre : List Int} {lc lb : Int} {out : List Int} {n : Nat} (h : B2aInv pre lc lb out) (hl : pre.length < n) (hn : n ≤ 100000) : out.length ≤ 200000 := by
  have := h.2.2.2
  omega
theorem b2a_and {pre : List Int} {lc lb : Int} {out : List Int} (_h : B2aInv pre lc lb out) : (0 ≤ Builtin.bitAnd lc 3 ∧ Builtin.bitAnd lc 3 ≤ 3) ∧ (0 ≤ Builtin.bitAnd lc 15 ∧ Builtin.bitAnd lc 15 ≤ 15) :=
  ⟨bitAnd_range lc (by decide), bitAnd_range lc (by decide)⟩
theorem bex {a b : Array UInt8} {t : Tok} (e : a = b) : ∃ t', Value.bytes a t = Value.bytes b t' := ⟨t, by rw [e]⟩
theorem b2a_e0 {b : Array UInt8} {lc : Int} {out : List Int} (h : B2aInv (List.map (fun c => ((c.toNat : Nat) : Int)) b.toList) lc 0 out) : byteArr out = arr (b2aFin (b2aSt (oct b))) := by
  obtain ⟨e1, e2, e3, e4⟩ := h
  rw [nats_ints] at e1 e2 e3
  have hz : (b2aSt (oct b)).2.1 = 0 := by unfold oct; omega
  rw [b2aFin, if_neg (by omega), if_neg (by omega), arr, e3]
  rfl
theorem b2a_e2 {b : Array UInt8} {lc : Int} {out : List Int} (h : B2aInv (List.map (fun c => ((c.toNat : Nat) : Int)) b.toList) lc 2 out) :
    byteArr (out ++ [(((tab.getD (Builtin.bitAnd lc 3 * 2 ^ Int.toNat 4).toNat 0).toNat : Nat) : Int)] ++ [61] ++ [61]) = arr (b2aFin (b2aSt (oct b))) := by
  obtain ⟨e1, e2, e3, e4⟩ := h
  rw [nats_ints] at e1 e2 e3
  have hz : (b2aSt (oct b)).2.1 = 2 := by unfold oct; omega
  rw [b2aFin, if_pos hz, arr, e3]
  have q : (Builtin.bitAnd lc 3 * 2 ^ Int.toNat 4).toNat = (b2aSt (oct b)).1 % 4 * 16 := by
    rw [bitAnd_m2, e1]
    have : (2 : Int) ^ Int.toNat 4 = 16 := by decide
    rw [this]; unfold oct; omega
  rw [q, List.map_append, List.append_assoc, List.append_assoc]
  rfl
theorem b2a_e4 {b : Array UInt8} {lc : Int} {out : List Int} (h : B2aInv (List.map (fun c => ((c.toNat : Nat) : Int)) b.toList) lc 4 out) :
    byteArr (out ++ [(((tab.getD (Builtin.bitAnd lc 15 * 2 ^ Int.toNat 2).toNat 0).toNat : Nat) : Int)] ++ [61]) = arr (b2aFin (b2aSt (oct b))) := by
  obtain ⟨e1, e2, e3, e4⟩ := h
  rw [nats_ints] at e1 e2 e3
  have hz : (b2aSt (oct b)).2.1 = 4 := by unfold oct; omega
  rw [b2aFin, if_neg (by omega), if_pos hz, arr, e3]
  have q : (Builtin.bitAnd lc 15 * 2 ^ Int.toNat 2).toNat = (b2aSt (oct b)).1 % 16 * 4 := by
    rw [bitAnd_m4, e1]
    have : (2 : Int) ^ Int.toNat 2 = 4 := by decide
    rw [this]; unfold oct; omega
  rw [q, List.map_append, List.append_assoc]
  rfl

theorem b2a_ctr (w : World) (mean : ExcName → Option Value) (mg mb : Str → Option Value) (b : Array UInt8) (tk : Tok) (hb : Small b) : Ctr w mean mg mb 6 60 93 [.bytes b tk] [(Str.ofString "newline", .bool false)] (fun v => ∃ t, v = .bytes (arr (b2aFin (b2aSt (oct b)))) t) := by
  k_with_none
  k_with "steps" => repeat' ((fail_if_success (with_reducible show wpAny _ _ (pyIter _) _ _ _)); first | (k_unfold; (try dsimp only)) | walk1 | (dsimp only; walk1) | fail "no step")
  k_with "exec For" => (k_here; (rename Fr _ _ _ _ => lF'); (with_unfolding_all refine' For_invVF lF' ?hole1k1 ?hole1k2 ?_; (case hole1k1 => exact rfl); (case hole1k2 => exact rfl); k_whole))
  k_with "exec For Name Call cons nil" => (k_here; (rename Fr _ _ _ _ => lF'); (with_unfolding_all refine' For_invVF lF' ?hole2k1 ?hole2k2 ?_; (case hole2k1 => exact rfl); (case hole2k2 => exact rfl); k_whole))
  k_with "exec For Name Name cons nil" => (k_here; (rename Fr _ _ _ _ => lF'); (with_unfolding_all refine' For_invVF lF' ?hole3k1 ?hole3k2 ?_; (case hole3k1 => exact rfl); (case hole3k2 => exact rfl); k_whole))
  k_with "call type:type" => (k_here; (with_reducible show wpAny _ _ (call _ [Value.bytes _ _]) _ _ _); refine call_type_of (Tx := "bytes") rfl (by decide +kernel) ?_)
  k_with "kba_in" => first | assumption | (refine in_snoc ?_ ?_; (focus (first | k_extra "kba_in" | kba_in)); (first | exact byte_in _ | decide | omega))
  k_with "kba_ints" => first | assumption | (refine ints_snoc ?_; (first | k_extra "kba_ints" | kba_listInts))
  k_with "call type:bytes" => (k_here; (with_reducible show wpAny _ _ (call (Value.type "bytes") [Value.ref _]) _ _ _); (rename News _ _ _ _ => nE'); (simp only [List.push_toArray] at nE'); k_dflt (refine' KBa.make_K ?hole7kbaF nE' ?hole7kbah ?hole7kbal ?hole7kbai ?hole7kbar ?hole7kban ?_; (case hole7kbaF => k_asm); (case hole7kbah => rfl); (case hole7kbal => exact News.isList nE' (by k_mem)); (case hole7kbai => first | k_extra "kba_ints" | kba_listInts); (case hole7kbar => first | k_extra "kba_in" | kba_in); (case hole7kban => kba_size)); intro _ _ _ F' N' kbaIn)
  k_with "binaryOp FloorDiv int int" => (k_here; first | (with_reducible refine floordiv_int (powN_ne (b := 256) (by decide) _) ?_ (Or.inl (pow256_py ?hole8kbp)); (case hole8kbp => omega)) | (with_reducible refine floordiv_int (powN_ne (b := 64) (by decide) _) ?_ (Or.inl (pow64_py ?hole8kbp)); (case hole8kbp => omega)))
  k_with "call builtin:len" => (k_here; (with_reducible show wpAny _ _ (call (Value.builtin "len") [Value.bytes _ _]) _ _ _); refine len_B ?hole9kl ?_; (case hole9kl => first | exact Nat.le_trans (Small.le (by assumption)) (by decide) | omega))
  k_with "call ref" => (k_here; (k_dflt (refine' Ctr.use (buf_ctr _ _ _ _ _ _) ?hole10k1 ?hole10k2 ?hole10k3 ?hole10k4 ?hole10k5 ?hole10kK ?hole10kd ?hole10ku ?_; (case hole10k1 => k_asm); (case hole10k2 => k_asm); (case hole10k3 => k_asm); (case hole10k4 => k_asm); (case hole10k5 => k_asm); (case hole10kK => first | exact rfl | assumption); (case hole10kd => first | exact Nat.le_of_ble_eq_true rfl | exact room1 (by assumption) rfl | exact room2 (by assumption) rfl | ktr_room); (case hole10ku => first | exact Nat.le_of_ble_eq_true rfl | exact room1 (by assumption) rfl | exact room2 (by assumption) rfl | ktr_units); k_whole); intro v' h' tk' hv' F' N'; (first | (obtain ⟨t', hv'⟩ := hv'; subst hv') | subst hv'); (try k_sweep)))
  k_with "call ref" => (k_here; (k_dflt (refine' Ctr.use (truth_ctr _ _ _ _) ?hole11k1 ?hole11k2 ?hole11k3 ?hole11k4 ?hole11k5 ?hole11kK ?hole11kd ?hole11ku ?_; (case hole11k1 => k_asm); (case hole11k2 => k_asm); (case hole11k3 => k_asm); (case hole11k4 => k_asm); (case hole11k5 => k_asm); (case hole11kK => first | exact rfl | assumption); (case hole11kd => first | exact Nat.le_of_ble_eq_true rfl | exact room1 (by assumption) rfl | exact room2 (by assumption) rfl | ktr_room); (case hole11ku => first | exact Nat.le_of_ble_eq_true rfl | exact room1 (by assumption) rfl | exact room2 (by assumption) rfl | ktr_units); k_whole); intro v' h' tk' hv' F' N'; (first | (obtain ⟨t', hv'⟩ := hv'; subst hv') | subst hv'); (try k_sweep)))
  k_with "subscriptTail" => (k_here; (with_reducible show wpAny _ _ (subscriptTail _ _ (Value.bytes _ _) (Value.int _ _)) _ _ _); first | refine KBy.item_N (by decide) (idx63 _).1 (idx63 _).2 ?_ | refine KBy.item_N (by decide) (idx3 _).1 (idx3 _).2 ?_ | refine KBy.item_N (by decide) (idx15 _).1 (idx15 _).2 ?_)
  k_dflt (refine' ctr_of (binds := [(Str.ofString "data", .bytes b tk), (Str.ofString "newline", .bool false)]) ?k6 ?k7 ?k9 ?kB ?_ ?c2 ?c3 ?c4 ?c5; (case k6 => k_is); (case k7 => k_is); (case k9 => intro s _; exact BindsTo.of_eq rfl); (case kB => exact locs rfl); (case c5 => decide); (case c2 => exact rfl); (case c3 => exact rfl); (case c4 => exact rfl); k_whole)
  intro dp un gd cn cs a ccd cl outer base L s g L' h₁ Q F' N' B' X' T' hkc hD hU ret
  k_extra "steps"
  (k_with "state" => first | exact b2a_start | exact b2a_t0 (by assumption) (by assumption) (by assumption) | exact b2a_t2 (by assumption) (by assumption) (by assumption) | exact b2a_t4 (by assumption) (by assumption) (by assumption))
  have hnil : IntsAre [] [] := .nil
  k_state (fun pre lc lb out => B2aInv pre lc lb out) "leftchar" "leftbits" "out"
  · have hlc := b2a_lc kInv
    have hcap := b2a_cap (n := b.size) kInv (by assumption) hb.le
    rcases b2a_lb kInv with h | h | h
    all_goals (subst h; refine absQ fun Qo hQo => ?_; k_extra "steps"; refine hQo _ _ ?_; k_extra "steps")
  · have hlen := kInv.2.2.2
    have hsz : b.toList.length ≤ 100000 := by simpa using hb.le
    have hin := b2a_in kInv
    have hand := b2a_and kInv
    rcases b2a_lb kInv with h | h | h
    · subst h
      k_extra "steps"
      refine ret _ _ _ _ (by assumption) ?_
      exact bex (b2a_e0 kInv)
    · subst h
      k_extra "steps"
      refine ret _ _ _ _ (by assumption) ?_
      exact bex (b2a_e2 kInv)
    · subst h
      k_extra "steps"
      refine ret _ _ _ _ (by assumption) ?_
      exact bex (b2a_e4 kInv)

end Mine
end

section
open PySem PySem.W PySem.Calls PyProof.Rows
set_option Elab.async false
set_option maxRecDepth 100000
set_option maxHeartbeats 8000000
namespace Mine

example : (fun (_ : OpenLaw) (_ : Params → Frag) => True) PySem.Challenge.rw_qh0114_02 hd.heap_39 := by
  k_fill; trivial


theorem enc_ctr (w : World) (mean : ExcName → Option Value) (mg mb : Str → Option Value) (b : Array UInt8) (tk : Tok) (hb : Small b) : Ctr w mean mg mb 8 80 101 [.bytes b tk] [] (fun v => ∃ t, v = .bytes (arr (b2aFin (b2aSt (oct b)))) t) := by
  k_with_none
  k_with "steps" => repeat' ((fail_if_success (with_reducible show wpAny _ _ (pyIter _) _ _ _)); first | (k_unfold; (try dsimp only)) | walk1 | (dsimp only; walk1) | fail "no step")
  k_with "exec For" => (k_here; (rename Fr _ _ _ _ => lF'); (with_unfolding_all refine' For_invVF lF' ?hole1k1 ?hole1k2 ?_; (case hole1k1 => exact rfl); (case hole1k2 => exact rfl); k_whole))
  k_with "exec For Name Call cons nil" => (k_here; (rename Fr _ _ _ _ => lF'); (with_unfolding_all refine' For_invVF lF' ?hole2k1 ?hole2k2 ?_; (case hole2k1 => exact rfl); (case hole2k2 => exact rfl); k_whole))
  k_with "exec For Name Name cons nil" => (k_here; (rename Fr _ _ _ _ => lF'); (with_unfolding_all refine' For_invVF lF' ?hole3k1 ?hole3k2 ?_; (case hole3k1 => exact rfl); (case hole3k2 => exact rfl); k_whole))
  k_with "call type:type" => (k_here; (with_reducible show wpAny _ _ (call _ [Value.bytes _ _]) _ _ _); refine call_type_of (Tx := "bytes") rfl (by decide +kernel) ?_)
  k_with "kba_in" => first | assumption | (refine in_snoc ?_ ?_; (focus (first | k_extra "kba_in" | kba_in)); (first | exact byte_in _ | decide | omega))
  k_with "kba_ints" => first | assumption | (refine ints_snoc ?_; (first | k_extra "kba_ints" | kba_listInts))
  k_with "call type:bytes" => (k_here; (with_reducible show wpAny _ _ (call (Value.type "bytes") [Value.ref _]) _ _ _); (rename News _ _ _ _ => nE'); (simp only [List.push_toArray] at nE'); k_dflt (refine' KBa.make_K ?hole7kbaF nE' ?hole7kbah ?hole7kbal ?hole7kbai ?hole7kbar ?hole7kban ?_; (case hole7kbaF => k_asm); (case hole7kbah => rfl); (case hole7kbal => exact News.isList nE' (by k_mem)); (case hole7kbai => first | k_extra "kba_ints" | kba_listInts); (case hole7kbar => first | k_extra "kba_in" | kba_in); (case hole7kban => kba_size)); intro _ _ _ F' N' kbaIn)
  k_with "binaryOp FloorDiv int int" => (k_here; first | (with_reducible refine floordiv_int (powN_ne (b := 256) (by decide) _) ?_ (Or.inl (pow256_py ?hole8kbp)); (case hole8kbp => omega)) | (with_reducible refine floordiv_int (powN_ne (b := 64) (by decide) _) ?_ (Or.inl (pow64_py ?hole8kbp)); (case hole8kbp => omega)))
  k_with "call builtin:len" => (k_here; (with_reducible show wpAny _ _ (call (Value.builtin "len") [Value.bytes _ _]) _ _ _); refine len_B ?hole9kl ?_; (case hole9kl => first | exact Nat.le_trans (Small.le (by assumption)) (by decide) | omega))
  k_with "call ref" => (k_here; (k_dflt (refine' Ctr.use (b2a_ctr _ _ _ _ _ _ (by assumption)) ?hole10k1 ?hole10k2 ?hole10k3 ?hole10k4 ?hole10k5 ?hole10kK ?hole10kd ?hole10ku ?_; (case hole10k1 => k_asm); (case hole10k2 => k_asm); (case hole10k3 => k_asm); (case hole10k4 => k_asm); (case hole10k5 => k_asm); (case hole10kK => first | exact rfl | assumption); (case hole10kd => first | exact Nat.le_of_ble_eq_true rfl | exact room1 (by assumption) rfl | exact room2 (by assumption) rfl | ktr_room); (case hole10ku => first | exact Nat.le_of_ble_eq_true rfl | exact room1 (by assumption) rfl | exact room2 (by assumption) rfl | ktr_units); k_whole); intro v' h' tk' hv' F' N'; (first | (obtain ⟨t', hv'⟩ := hv'; subst hv') | subst hv'); (try k_sweep)))
  k_dflt (refine' ctr_of (binds := [(Str.ofString "s", .bytes b tk), (Str.ofString "altchars", .none)]) ?k6 ?k7 ?k9 ?kB ?_ ?c2 ?c3 ?c4 ?c5; (case k6 => k_is); (case k7 => k_is); (case k9 => intro s X; exact binds_K X rfl (by k_is) rfl rfl rfl); (case kB => exact locs rfl); (case c5 => decide); (case c2 => exact rfl); (case c3 => exact rfl); (case c4 => exact rfl); k_whole)
  intro dp un gd cn cs a ccd cl outer base L s g L' h₁ Q F' N' B' X' T' hkc hD hU ret
  k_extra "steps"
  exact ret _ _ _ _ (by assumption) ⟨_, rfl⟩

noncomputable def b64v (c : Int) : Int := if 65 ≤ c ∧ c ≤ 90 then c - 65 else if 97 ≤ c ∧ c ≤ 122 then c - 71 else if 48 ≤ c ∧ c ≤ 57 then c + 4 else if c = 43 then 62 else if c = 47 then 63 else 64
theorem v65 {c : Int} {t : Tok} (h1 : 65 ≤ c) (h2 : c ≤ 90) : ∃ t', Value.int (c - 65) t = Value.int (b64v c) t' := ⟨t, by rw [b64v, if_pos ⟨h1, h2⟩]⟩
theorem v97 {c : Int} {t : Tok} (h1 : 97 ≤ c) (h2 : c ≤ 122) : ∃ t', Value.int (c - 71) t = Value.int (b64v c) t' := ⟨t, by rw [b64v, if_neg (by omega), if_pos ⟨h1, h2⟩]⟩
theorem v48 {c : Int} {t : Tok} (h1 : 48 ≤ c) (h2 : c ≤ 57) : ∃ t', Value.int (c + 4) t = Value.int (b64v c) t' := ⟨t, by rw [b64v, if_neg (by omega), if_neg (by omega), if_pos ⟨h1, h2⟩]⟩
theorem v43 {c : Int} {t : Tok} (h : c = 43) : ∃ t', Value.int 62 t = Value.int (b64v c) t' := ⟨t, by subst h; rfl⟩
theorem v47 {c : Int} {t : Tok} (h : c = 47) : ∃ t', Value.int 63 t = Value.int (b64v c) t' := ⟨t, by subst h; rfl⟩
theorem v64 {c : Int} (h1 : c < 65 ∨ 90 < c) (h2 : c < 97 ∨ 122 < c) (h3 : c < 48 ∨ 57 < c) (h4 : c ≠ 43) (h5 : c ≠ 47) : (64 : Int) = b64v c := by
  rw [b64v, if_neg (by omega), if_neg (by omega), if_neg (by omega), if_neg h4, if_neg h5]
theorem w1 {c : Int} {t : Tok} (h : ¬ c ≤ 122) : ∃ t', Value.int 64 t = Value.int (b64v c) t' := ⟨t, by rw [← v64 (by omega) (by omega) (by omega) (by omega) (by omega)]⟩
theorem w2 {c : Int} {t : Tok} (h1 : ¬ c ≤ 90) (h2 : ¬ 97 ≤ c) : ∃ t', Value.int 64 t = Value.int (b64v c) t' := ⟨t, by rw [← v64 (by omega) (by omega) (by omega) (by omega) (by omega)]⟩
theorem w3 {c : Int} {t : Tok} (h1 : ¬ 65 ≤ c) (h2 : ¬ c ≤ 57) : ∃ t', Value.int 64 t = Value.int (b64v c) t' := ⟨t, by rw [← v64 (by omega) (by omega) (by omega) (by omega) (by omega)]⟩
theorem w4 {c : Int} {t : Tok} (h1 : ¬ 48 ≤ c) (h4 : c ≠ 43) (h5 : c ≠ 47) : ∃ t', Value.int 64 t = Value.int (b64v c) t' := ⟨t, by rw [← v64 (by omega) (by omega) (by omega) h4 h5]⟩

theorem b64v_ctr (w : World) (mean : ExcName → Option Value) (mg mb : Str → Option Value) (c : Int) (tk : Tok) (hc : 0 ≤ c ∧ c < 256) : Ctr w mean mg mb 2 20 77 [.int c tk] [] (fun v => ∃ t, v = .int (b64v c) t) := by
  k_with_none
  k_with "steps" => repeat' ((fail_if_success (with_reducible show wpAny _ _ (pyIter _) _ _ _)); first | (k_unfold; (try dsimp only)) | walk1 | (dsimp only; walk1) | fail "no step")
  k_with "exec For" => (k_here; (rename Fr _ _ _ _ => lF'); (with_unfolding_all refine' For_invVF lF' ?hole1k1 ?hole1k2 ?_; (case hole1k1 => exact rfl); (case hole1k2 => exact rfl); k_whole))
  k_with "exec For Name Call cons nil" => (k_here; (rename Fr _ _ _ _ => lF'); (with_unfolding_all refine' For_invVF lF' ?hole2k1 ?hole2k2 ?_; (case hole2k1 => exact rfl); (case hole2k2 => exact rfl); k_whole))
  k_with "exec For Name Name cons nil" => (k_here; (rename Fr _ _ _ _ => lF'); (with_unfolding_all refine' For_invVF lF' ?hole3k1 ?hole3k2 ?_; (case hole3k1 => exact rfl); (case hole3k2 => exact rfl); k_whole))
  k_with "call type:type" => (k_here; (with_reducible show wpAny _ _ (call _ [Value.bytes _ _]) _ _ _); refine call_type_of (Tx := "bytes") rfl (by decide +kernel) ?_)
  k_with "kba_in" => first | assumption | (refine in_snoc ?_ ?_; (focus (first | k_extra "kba_in" | kba_in)); (first | exact byte_in _ | decide | omega))
  k_with "kba_ints" => first | assumption | (refine ints_snoc ?_; (first | k_extra "kba_ints" | kba_listInts))
  k_with "call type:bytes" => (k_here; (with_reducible show wpAny _ _ (call (Value.type "bytes") [Value.ref _]) _ _ _); (rename News _ _ _ _ => nE'); (simp only [List.push_toArray] at nE'); k_dflt (refine' KBa.make_K ?hole7kbaF nE' ?hole7kbah ?hole7kbal ?hole7kbai ?hole7kbar ?hole7kban ?_; (case hole7kbaF => k_asm); (case hole7kbah => rfl); (case hole7kbal => exact News.isList nE' (by k_mem)); (case hole7kbai => first | k_extra "kba_ints" | kba_listInts); (case hole7kbar => first | k_extra "kba_in" | kba_in); (case hole7kban => kba_size)); intro _ _ _ F' N' kbaIn)
  k_with "binaryOp FloorDiv int int" => (k_here; first | (with_reducible refine floordiv_int (powN_ne (b := 256) (by decide) _) ?_ (Or.inl (pow256_py ?hole8kbp)); (case hole8kbp => omega)) | (with_reducible refine floordiv_int (powN_ne (b := 64) (by decide) _) ?_ (Or.inl (pow64_py ?hole8kbp)); (case hole8kbp => omega)))
  k_with "call builtin:len" => (k_here; (with_reducible show wpAny _ _ (call (Value.builtin "len") [Value.bytes _ _]) _ _ _); refine len_B ?hole9kl ?_; (case hole9kl => first | exact Nat.le_trans (Small.le (by assumption)) (by decide) | omega))
  k_with "call ref" => (k_here; (k_dflt (refine' Ctr.use (b2a_ctr _ _ _ _ _ _ (by assumption)) ?hole10k1 ?hole10k2 ?hole10k3 ?hole10k4 ?hole10k5 ?hole10kK ?hole10kd ?hole10ku ?_; (case hole10k1 => k_asm); (case hole10k2 => k_asm); (case hole10k3 => k_asm); (case hole10k4 => k_asm); (case hole10k5 => k_asm); (case hole10kK => first | exact rfl | assumption); (case hole10kd => first | exact Nat.le_of_ble_eq_true rfl | exact room1 (by assumption) rfl | exact room2 (by assumption) rfl | ktr_room); (case hole10ku => first | exact Nat.le_of_ble_eq_true rfl | exact room1 (by assumption) rfl | exact room2 (by assumption) rfl | ktr_units); k_whole); intro v' h' tk' hv' F' N'; (first | (obtain ⟨t', hv'⟩ := hv'; subst hv') | subst hv'); (try k_sweep)))
  k_dflt (refine' ctr_of (binds := [(Str.ofString "c", .int c tk)]) ?k6 ?k7 ?k9 ?kB ?_ ?c2 ?c3 ?c4 ?c5; (case k6 => k_is); (case k7 => k_is); (case k9 => intro s _; exact BindsTo.of_eq rfl); (case kB => exact locs rfl); (case c5 => decide); (case c2 => exact rfl); (case c3 => exact rfl); (case c4 => exact rfl); k_whole)
  intro dp un gd cn cs a ccd cl outer base L s g L' h₁ Q F' N' B' X' T' hkc hD hU ret
  k_extra "steps"
  all_goals (refine ret _ _ _ _ (by assumption) ?_; first | exact v65 (by assumption) (by assumption) | exact v97 (by assumption) (by assumption) | exact v48 (by assumption) (by assumption) | exact v43 (by assumption) | exact v47 (by assumption) | exact w1 (by assumption) | exact w2 (by assumption) (by assumption) | exact w3 (by assumption) (by assumption) | exact w4 (by assumption) (by assumption) (by assumption))

theorem abuf_ctr (w : World) (mean : ExcName → Option Value) (mg mb : Str → Option Value) (b : Array UInt8) (tk : Tok) : Ctr w mean mg mb 2 20 56 [.bytes b tk] [] (fun v => v = .bytes b tk) := by
  k_with_none
  k_with "steps" => repeat' ((fail_if_success (with_reducible show wpAny _ _ (pyIter _) _ _ _)); first | (k_unfold; (try dsimp only)) | walk1 | (dsimp only; walk1) | fail "no step")
  k_with "exec For" => (k_here; (rename Fr _ _ _ _ => lF'); (with_unfolding_all refine' For_invVF lF' ?hole1k1 ?hole1k2 ?_; (case hole1k1 => exact rfl); (case hole1k2 => exact rfl); k_whole))
  k_with "exec For Name Call cons nil" => (k_here; (rename Fr _ _ _ _ => lF'); (with_unfolding_all refine' For_invVF lF' ?hole2k1 ?hole2k2 ?_; (case hole2k1 => exact rfl); (case hole2k2 => exact rfl); k_whole))
  k_with "exec For Name Name cons nil" => (k_here; (rename Fr _ _ _ _ => lF'); (with_unfolding_all refine' For_invVF lF' ?hole3k1 ?hole3k2 ?_; (case hole3k1 => exact rfl); (case hole3k2 => exact rfl); k_whole))
  k_with "call type:type" => (k_here; (with_reducible show wpAny _ _ (call _ [Value.bytes _ _]) _ _ _); refine call_type_of (Tx := "bytes") rfl (by decide +kernel) ?_)
  k_with "kba_in" => first | assumption | (refine in_snoc ?_ ?_; (focus (first | k_extra "kba_in" | kba_in)); (first | exact byte_in _ | decide | omega))
  k_with "kba_ints" => first | assumption | (refine ints_snoc ?_; (first | k_extra "kba_ints" | kba_listInts))
  k_with "call type:bytes" => (k_here; (with_reducible show wpAny _ _ (call (Value.type "bytes") [Value.ref _]) _ _ _); (rename News _ _ _ _ => nE'); (simp only [List.push_toArray] at nE'); k_dflt (refine' KBa.make_K ?hole7kbaF nE' ?hole7kbah ?hole7kbal ?hole7kbai ?hole7kbar ?hole7kban ?_; (case hole7kbaF => k_asm); (case hole7kbah => rfl); (case hole7kbal => exact News.isList nE' (by k_mem)); (case hole7kbai => first | k_extra "kba_ints" | kba_listInts); (case hole7kbar => first | k_extra "kba_in" | kba_in); (case hole7kban => kba_size)); intro _ _ _ F' N' kbaIn)
  k_with "binaryOp FloorDiv int int" => (k_here; first | (with_reducible refine floordiv_int (powN_ne (b := 256) (by decide) _) ?_ (Or.inl (pow256_py ?hole8kbp)); (case hole8kbp => omega)) | (with_reducible refine floordiv_int (powN_ne (b := 64) (by decide) _) ?_ (Or.inl (pow64_py ?hole8kbp)); (case hole8kbp => omega)))
  k_with "call builtin:len" => (k_here; (with_reducible show wpAny _ _ (call (Value.builtin "len") [Value.bytes _ _]) _ _ _); refine len_B ?hole9kl ?_; (case hole9kl => first | exact Nat.le_trans (Small.le (by assumption)) (by decide) | omega))
  k_with "call ref" => (k_here; (k_dflt (refine' Ctr.use (b2a_ctr _ _ _ _ _ _ (by assumption)) ?hole10k1 ?hole10k2 ?hole10k3 ?hole10k4 ?hole10k5 ?hole10kK ?hole10kd ?hole10ku ?_; (case hole10k1 => k_asm); (case hole10k2 => k_asm); (case hole10k3 => k_asm); (case hole10k4 => k_asm); (case hole10k5 => k_asm); (case hole10kK => first | exact rfl | assumption); (case hole10kd => first | exact Nat.le_of_ble_eq_true rfl | exact room1 (by assumption) rfl | exact room2 (by assumption) rfl | ktr_room); (case hole10ku => first | exact Nat.le_of_ble_eq_true rfl | exact room1 (by assumption) rfl | exact room2 (by assumption) rfl | ktr_units); k_whole); intro v' h' tk' hv' F' N'; (first | (obtain ⟨t', hv'⟩ := hv'; subst hv') | subst hv'); (try k_sweep)))
  k_dflt (refine' ctr_of (binds := [(Str.ofString "data", .bytes b tk)]) ?k6 ?k7 ?k9 ?kB ?_ ?c2 ?c3 ?c4 ?c5; (case k6 => k_is); (case k7 => k_is); (case k9 => intro s _; exact BindsTo.of_eq rfl); (case kB => exact locs rfl); (case c5 => decide); (case c2 => exact rfl); (case c3 => exact rfl); (case c4 => exact rfl); k_whole)
  intro dp un gd cn cs a ccd cl outer base L s g L' h₁ Q F' N' B' X' T' hkc hD hU ret
  k_extra "steps"
  exact ret _ _ _ _ (by assumption) rfl

theorem bfd_ctr (w : World) (mean : ExcName → Option Value) (mg mb : Str → Option Value) (b : Array UInt8) (tk : Tok) : Ctr w mean mg mb 2 20 36 [.bytes b tk] [] (fun v => v = .bytes b tk) := by
  k_with_none
  k_with "steps" => repeat' ((fail_if_success (with_reducible show wpAny _ _ (pyIter _) _ _ _)); first | (k_unfold; (try dsimp only)) | walk1 | (dsimp only; walk1) | fail "no step")
  k_with "exec For" => (k_here; (rename Fr _ _ _ _ => lF'); (with_unfolding_all refine' For_invVF lF' ?hole1k1 ?hole1k2 ?_; (case hole1k1 => exact rfl); (case hole1k2 => exact rfl); k_whole))
  k_with "exec For Name Call cons nil" => (k_here; (rename Fr _ _ _ _ => lF'); (with_unfolding_all refine' For_invVF lF' ?hole2k1 ?hole2k2 ?_; (case hole2k1 => exact rfl); (case hole2k2 => exact rfl); k_whole))
  k_with "exec For Name Name cons nil" => (k_here; (rename Fr _ _ _ _ => lF'); (with_unfolding_all refine' For_invVF lF' ?hole3k1 ?hole3k2 ?_; (case hole3k1 => exact rfl); (case hole3k2 => exact rfl); k_whole))
  k_with "call type:type" => (k_here; (with_reducible show wpAny _ _ (call _ [Value.bytes _ _]) _ _ _); refine call_type_of (Tx := "bytes") rfl (by decide +kernel) ?_)
  k_with "kba_in" => first | assumption | (refine in_snoc ?_ ?_; (focus (first | k_extra "kba_in" | kba_in)); (first | exact byte_in _ | decide | omega))
  k_with "kba_ints" => first | assumption | (refine ints_snoc ?_; (first | k_extra "kba_ints" | kba_listInts))
  k_with "call type:bytes" => (k_here; (with_reducible show wpAny _ _ (call (Value.type "bytes") [Value.ref _]) _ _ _); (rename News _ _ _ _ => nE'); (simp only [List.push_toArray] at nE'); k_dflt (refine' KBa.make_K ?hole7kbaF nE' ?hole7kbah ?hole7kbal ?hole7kbai ?hole7kbar ?hole7kban ?_; (case hole7kbaF => k_asm); (case hole7kbah => rfl); (case hole7kbal => exact News.isList nE' (by k_mem)); (case hole7kbai => first | k_extra "kba_ints" | kba_listInts); (case hole7kbar => first | k_extra "kba_in" | kba_in); (case hole7kban => kba_size)); intro _ _ _ F' N' kbaIn)
  k_with "binaryOp FloorDiv int int" => (k_here; first | (with_reducible refine floordiv_int (powN_ne (b := 256) (by decide) _) ?_ (Or.inl (pow256_py ?hole8kbp)); (case hole8kbp => omega)) | (with_reducible refine floordiv_int (powN_ne (b := 64) (by decide) _) ?_ (Or.inl (pow64_py ?hole8kbp)); (case hole8kbp => omega)))
  k_with "call builtin:len" => (k_here; (with_reducible show wpAny _ _ (call (Value.builtin "len") [Value.bytes _ _]) _ _ _); refine len_B ?hole9kl ?_; (case hole9kl => first | exact Nat.le_trans (Small.le (by assumption)) (by decide) | omega))
  k_with "call ref" => (k_here; (k_dflt (refine' Ctr.use (b2a_ctr _ _ _ _ _ _ (by assumption)) ?hole10k1 ?hole10k2 ?hole10k3 ?hole10k4 ?hole10k5 ?hole10kK ?hole10kd ?hole10ku ?_; (case hole10k1 => k_asm); (case hole10k2 => k_asm); (case hole10k3 => k_asm); (case hole10k4 => k_asm); (case hole10k5 => k_asm); (case hole10kK => first | exact rfl | assumption); (case hole10kd => first | exact Nat.le_of_ble_eq_true rfl | exact room1 (by assumption) rfl | exact room2 (by assumption) rfl | ktr_room); (case hole10ku => first | exact Nat.le_of_ble_eq_true rfl | exact room1 (by assumption) rfl | exact room2 (by assumption) rfl | ktr_units); k_whole); intro v' h' tk' hv' F' N'; (first | (obtain ⟨t', hv'⟩ := hv'; subst hv') | subst hv'); (try k_sweep)))
  k_dflt (refine' ctr_of (binds := [(Str.ofString "s", .bytes b tk)]) ?k6 ?k7 ?k9 ?kB ?_ ?c2 ?c3 ?c4 ?c5; (case k6 => k_is); (case k7 => k_is); (case k9 => intro s _; exact BindsTo.of_eq rfl); (case kB => exact locs rfl); (case c5 => decide); (case c2 => exact rfl); (case c3 => exact rfl); (case c4 => exact rfl); k_whole)
  intro dp un gd cn cs a ccd cl outer base L s g L' h₁ Q F' N' B' X' T' hkc hD hU ret
  k_extra "steps"
  exact ret _ _ _ _ (by assumption) rfl
end Mine
end

section
open PySem PySem.W PySem.Calls PyProof.Rows
set_option Elab.async false
set_option maxRecDepth 100000
set_option maxHeartbeats 8000000
namespace Mine

example : (fun (_ : OpenLaw) (_ : Params → Frag) => True) PySem.Challenge.rw_qh0114_02 hd.heap_39 := by
  k_fill; trivial


noncomputable def a2bStep (σ : Nat × Nat × Nat × List Nat) (c : Nat) : Nat × Nat × Nat × List Nat :=
  if c = 61 then (σ.1, σ.2.1, σ.2.2.1 + 1, σ.2.2.2)
  else if 64 ≤ (b64v c).toNat then σ
  else if σ.1 = 0 then (1, (b64v c).toNat, 0, σ.2.2.2)
  else if σ.1 = 1 then (2, (b64v c).toNat % 16, 0, σ.2.2.2 ++ [σ.2.1 * 4 + (b64v c).toNat / 16])
  else if σ.1 = 2 then (3, (b64v c).toNat % 4, 0, σ.2.2.2 ++ [σ.2.1 * 16 + (b64v c).toNat / 4])
  else (0, 0, 0, σ.2.2.2 ++ [σ.2.1 * 64 + (b64v c).toNat])
noncomputable def a2bSt (row : List Nat) : Nat × Nat × Nat × List Nat := row.foldl a2bStep (0, 0, 0, [])
noncomputable def A2bInv (pre : List Int) (q lc pads : Int) (out : List Int) : Prop :=
  q = (((a2bSt (nats pre)).1 : Nat) : Int) ∧ lc = (((a2bSt (nats pre)).2.1 : Nat) : Int) ∧ pads = (((a2bSt (nats pre)).2.2.1 : Nat) : Int) ∧ out = (a2bSt (nats pre)).2.2.2.map (fun (x : Nat) => (x : Int)) ∧ out.length ≤ pre.length
theorem a2b_start : A2bInv [] 0 0 0 [] := ⟨rfl, rfl, rfl, rfl, Nat.le_refl _⟩
theorem a2bSt_snoc (row : List Nat) (o : Nat) : a2bSt (row ++ [o]) = a2bStep (a2bSt row) o := by simp [a2bSt, List.foldl_append]
noncomputable def A2bOk (σ : Nat × Nat × Nat × List Nat) : Prop :=
  ((σ.1 = 0 ∧ σ.2.1 = 0) ∨ (σ.1 = 1 ∧ σ.2.1 < 64) ∨ (σ.1 = 2 ∧ σ.2.1 < 16) ∨ (σ.1 = 3 ∧ σ.2.1 < 4)) ∧ ∀ x ∈ σ.2.2.2, x < 256
theorem a2bStep_ok {σ : Nat × Nat × Nat × List Nat} (h : A2bOk σ) (c : Nat) : A2bOk (a2bStep σ c) := by
  obtain ⟨h1, h2⟩ := h
  have snoc : ∀ y, y < 256 → ∀ x ∈ σ.2.2.2 ++ [y], x < 256 := fun y hy x hx => (List.mem_append.mp hx).elim (h2 x) fun e => (List.mem_singleton.mp e) ▸ hy
  unfold a2bStep
  split
  · exact ⟨h1, h2⟩
  split
  · exact ⟨h1, h2⟩
  split
  · exact ⟨.inr (.inl ⟨rfl, by dsimp only; omega⟩), h2⟩
  split
  · exact ⟨.inr (.inr (.inl ⟨rfl, Nat.mod_lt _ (by decide)⟩)), snoc _ (by omega)⟩
  split
  · exact ⟨.inr (.inr (.inr ⟨rfl, Nat.mod_lt _ (by decide)⟩)), snoc _ (by omega)⟩
  · exact ⟨.inl ⟨rfl, rfl⟩, snoc _ (by omega)⟩
theorem a2b_ok : ∀ (row : List Nat) (σ : Nat × Nat × Nat × List Nat), A2bOk σ → A2bOk (row.foldl a2bStep σ)
  | [], _, h => h
  | o :: r, _, h => a2b_ok r _ (a2bStep_ok h o)
theorem a2bSt_ok (row : List Nat) : A2bOk (a2bSt row) := a2b_ok row _ ⟨.inl ⟨rfl, rfl⟩, fun _ h => nomatch h⟩

/-- a text: signs of the alphabet, then = -/
structure Text (b : Array UInt8) : Prop where
  le : b.size ≤ 100000
  form : ∃ (S : List Nat) (p : Nat), oct b = S ++ List.replicate p 61 ∧ (∀ c ∈ S, b64v (c : Int) < 64 ∧ c ≠ 61)
  fin : (a2bSt (oct b)).1 ≠ 1 ∧ ((a2bSt (oct b)).1 = 0 ∨ 4 ≤ (a2bSt (oct b)).1 + (a2bSt (oct b)).2.2.1)

theorem b64v_lo (c : Int) : 0 ≤ b64v c ∧ b64v c ≤ 64 := by
  unfold b64v
  (repeat' split) <;> omega
theorem a2b_pads : ∀ (row : List Nat) (σ : Nat × Nat × Nat × List Nat), (∀ c ∈ row, c ≠ 61) → σ.2.2.1 = 0 → (row.foldl a2bStep σ).2.2.1 = 0
  | [], _, _, h => h
  | o :: r, σ, hr, h => by
    refine a2b_pads r _ (fun c hc => hr c (.tail _ hc)) ?_
    have ho := hr o (.head _)
    unfold a2bStep
    rw [if_neg ho]
    (repeat' split) <;> first | exact h | rfl
theorem a2b_kind {b : Array UInt8} (hb : Text b) {pre post : List Int} {n q lc pads : Int} {out : List Int} (e : List.map (fun c => ((c.toNat : Nat) : Int)) b.toList = pre ++ n :: post) (h0 : 0 ≤ n)
    (h : A2bInv pre q lc pads out) : n = 61 ∨ (n ≠ 61 ∧ b64v n < 64 ∧ pads = 0) := by
  by_cases hn : n = 61
  · exact .inl hn
  · refine .inr ⟨hn, ?_⟩
    obtain ⟨S, p, eo, hS⟩ := hb.form
    have e2 := congrArg nats e
    rw [nats_ints] at e2
    have e3 : S ++ List.replicate p 61 = nats pre ++ n.toNat :: nats post := by
      rw [← eo]; unfold oct; rw [e2]; simp [nats]
    have hn' : n.toNat ≠ 61 := by omega
    have nR : n.toNat ∉ List.replicate p 61 := fun hm => hn' (List.eq_of_mem_replicate hm)
    have key : n.toNat ∈ S ∧ ∀ c ∈ nats pre, c ∈ S := by
      rcases List.append_eq_append_iff.mp e3 with ⟨a', ha, hR⟩ | ⟨c', hc, hR⟩
      · exact absurd (by rw [hR]; simp) nR
      · cases c' with
        | nil => exact absurd (by rw [List.nil_append] at hR; rw [← hR]; exact .head _) nR
        | cons x c'' =>
          have hx : n.toNat = x := (List.cons.inj hR).1
          refine ⟨by rw [hc, hx]; simp, fun c hcm => by rw [hc]; exact List.mem_append_left _ hcm⟩
    have hv := (hS _ key.1).1
    rw [Int.toNat_of_nonneg h0] at hv
    refine ⟨hv, ?_⟩
    rw [h.2.2.1]
    have := a2b_pads (nats pre) (0, 0, 0, []) (fun c hc => (hS c (key.2 c hc)).2) rfl
    unfold a2bSt
    omega
theorem a2b_rng {pre : List Int} {q lc pads : Int} {out : List Int} (h : A2bInv pre q lc pads out) : (q = 0 ∨ q = 1 ∨ q = 2 ∨ q = 3) ∧ 0 ≤ lc ∧ lc < 64 ∧ 0 ≤ pads ∧ KBa.In out := by
  have k := a2bSt_ok (nats pre)
  obtain ⟨e1, e2, e3, e4, e5⟩ := h
  obtain ⟨k1, k2⟩ := k
  refine ⟨by omega, by omega, by omega, by omega, ?_⟩
  intro x hx
  rw [e4] at hx
  obtain ⟨y, hy, rfl⟩ := List.mem_map.mp hx
  have := k2 y hy
  omega
theorem a2b_p {pre : List Int} {q lc pads : Int} {out : List Int} (h : A2bInv pre q lc pads out) : A2bInv (pre ++ [61]) q lc (pads + 1) out := by
  obtain ⟨e1, e2, e3, e4, e5⟩ := h
  have s : nats (pre ++ [61]) = nats pre ++ [61] := nats_snoc pre 61
  unfold A2bInv
  rw [s, a2bSt_snoc, a2bStep, if_pos rfl]
  refine ⟨e1, e2, by dsimp only; omega, e4, by simp; omega⟩
theorem a2b_un {pre : List Int} {n q lc pads : Int} {out : List Int} (h0 : 0 ≤ n) (hn : n ≠ 61) (hv : b64v n < 64) (h : A2bInv pre q lc pads out) :
    ∃ (m v : Nat), n = (m : Int) ∧ b64v (m : Int) = (v : Int) ∧ v < 64 ∧ nats (pre ++ [n]) = nats pre ++ [m] ∧ a2bSt (nats pre ++ [m]) = (if (a2bSt (nats pre)).1 = 0 then (1, v, 0, (a2bSt (nats pre)).2.2.2)
      else if (a2bSt (nats pre)).1 = 1 then (2, v % 16, 0, (a2bSt (nats pre)).2.2.2 ++ [(a2bSt (nats pre)).2.1 * 4 + v / 16])
      else if (a2bSt (nats pre)).1 = 2 then (3, v % 4, 0, (a2bSt (nats pre)).2.2.2 ++ [(a2bSt (nats pre)).2.1 * 16 + v / 4])
      else (0, 0, 0, (a2bSt (nats pre)).2.2.2 ++ [(a2bSt (nats pre)).2.1 * 64 + v])) := by
  obtain ⟨m, rfl⟩ : ∃ k : Nat, n = (k : Int) := ⟨n.toNat, by omega⟩
  have hl := b64v_lo m
  refine ⟨m, (b64v (m : Int)).toNat, rfl, by omega, by omega, nats_snoc pre m, ?_⟩
  rw [a2bSt_snoc, a2bStep, if_neg (by omega), if_neg (by omega)]
theorem or_add2 (a v k : Nat) (hv : v < 2 ^ k) : Builtin.bitOr ((a : Int) * 2 ^ k) (v : Int) = ((a * 2 ^ k + v : Nat) : Int) := by
  have e : (a : Int) * 2 ^ k = ((a * 2 ^ k : Nat) : Int) := by simp
  have := Nat.two_pow_add_eq_or_of_lt hv a
  rw [e, bitOr_nat, Nat.mul_comm a, this]
theorem a2b_q0 {pre : List Int} {n lc pads : Int} {out : List Int} (h : A2bInv pre 0 lc pads out) (h0 : 0 ≤ n) (hn : n ≠ 61) (hv : b64v n < 64) : A2bInv (pre ++ [n]) 1 (b64v n) 0 out := by
  obtain ⟨m, v, rfl, ev, hv', es, est⟩ := a2b_un h0 hn hv h
  obtain ⟨e1, e2, e3, e4, e5⟩ := h
  unfold A2bInv
  rw [es, est, if_pos (by omega), ev]
  exact ⟨rfl, rfl, rfl, e4, by simp; omega⟩
theorem a2b_q1 {pre : List Int} {n lc pads : Int} {out : List Int} (h : A2bInv pre 1 lc pads out) (h0 : 0 ≤ n) (hn : n ≠ 61) (hv : b64v n < 64) :
    A2bInv (pre ++ [n]) 2 (Builtin.bitAnd (b64v n) 15) 0 (out ++ [Builtin.bitOr (lc * 2 ^ Int.toNat 2) ((b64v n).fdiv (2 ^ Int.toNat 4))]) := by
  obtain ⟨m, v, rfl, ev, hv', es, est⟩ := a2b_un h0 hn hv h
  obtain ⟨e1, e2, e3, e4, e5⟩ := h
  unfold A2bInv
  have ed : (v : Int).fdiv (2 ^ Int.toNat 4) = ((v / 16 : Nat) : Int) := fdiv_nat v 16
  rw [es, est, if_neg (by omega), if_pos (by omega), ev, bitAnd_m4, ed, e2, e4]
  refine ⟨rfl, by dsimp only; omega, rfl, ?_, by rw [List.length_append, List.length_append, ← e4]; simp; omega⟩
  rw [List.map_append]
  have := or_add2 (a2bSt (nats pre)).2.1 (v / 16) 2 (by omega)
  exact congrArg (fun x => _ ++ [x]) this
theorem a2b_q2 {pre : List Int} {n lc pads : Int} {out : List Int} (h : A2bInv pre 2 lc pads out) (h0 : 0 ≤ n) (hn : n ≠ 61) (hv : b64v n < 64) :
    A2bInv (pre ++ [n]) 3 (Builtin.bitAnd (b64v n) 3) 0 (out ++ [Builtin.bitOr (lc * 2 ^ Int.toNat 4) ((b64v n).fdiv (2 ^ Int.toNat 2))]) := by
  obtain ⟨m, v, rfl, ev, hv', es, est⟩ := a2b_un h0 hn hv h
  obtain ⟨e1, e2, e3, e4, e5⟩ := h
  unfold A2bInv
  have ed : (v : Int).fdiv (2 ^ Int.toNat 2) = ((v / 4 : Nat) : Int) := fdiv_nat v 4
  rw [es, est, if_neg (by omega), if_neg (by omega), if_pos (by omega), ev, bitAnd_m2, ed, e2, e4]
  refine ⟨rfl, by dsimp only; omega, rfl, ?_, by rw [List.length_append, List.length_append, ← e4]; simp; omega⟩
  rw [List.map_append]
  have := or_add2 (a2bSt (nats pre)).2.1 (v / 4) 4 (by omega)
  exact congrArg (fun x => _ ++ [x]) this
theorem a2b_q3 {pre : List Int} {n lc pads : Int} {out : List Int} (h : A2bInv pre 3 lc pads out) (h0 : 0 ≤ n) (hn : n ≠ 61) (hv : b64v n < 64) :
    A2bInv (pre ++ [n]) 0 0 0 (out ++ [Builtin.bitOr (lc * 2 ^ Int.toNat 6) (b64v n)]) := by
  obtain ⟨m, v, rfl, ev, hv', es, est⟩ := a2b_un h0 hn hv h
  obtain ⟨e1, e2, e3, e4, e5⟩ := h
  unfold A2bInv
  rw [es, est, if_neg (by omega), if_neg (by omega), if_neg (by omega), ev, e2, e4]
  refine ⟨rfl, rfl, rfl, ?_, by rw [List.length_append, List.length_append, ← e4]; simp; omega⟩
  rw [List.map_append]
  have := or_add2 (a2bSt (nats pre)).2.1 v 6 (by omega)
  exact congrArg (fun x => _ ++ [x]) this
theorem a2b_q0' {pre : List Int} {q n lc pads : Int} {out : List Int} (h : A2bInv pre q lc pads out) (hq : q = 0) (h0 : 0 ≤ n) (hn : n ≠ 61) (hv : b64v n < 64) : A2bInv (pre ++ [n]) 1 (b64v n) 0 out := by
  subst hq; exact a2b_q0 h h0 hn hv
theorem a2b_q1' {pre : List Int} {q n lc pads : Int} {out : List Int} (h : A2bInv pre q lc pads out) (hq : q = 1) (h0 : 0 ≤ n) (hn : n ≠ 61) (hv : b64v n < 64) :
    A2bInv (pre ++ [n]) 2 (Builtin.bitAnd (b64v n) 15) 0 (out ++ [Builtin.bitOr (lc * 2 ^ Int.toNat 2) ((b64v n).fdiv (2 ^ Int.toNat 4))]) := by
  subst hq; exact a2b_q1 h h0 hn hv
theorem a2b_q2' {pre : List Int} {q n lc pads : Int} {out : List Int} (h : A2bInv pre q lc pads out) (hq : q = 2) (h0 : 0 ≤ n) (hn : n ≠ 61) (hv : b64v n < 64) :
    A2bInv (pre ++ [n]) 3 (Builtin.bitAnd (b64v n) 3) 0 (out ++ [Builtin.bitOr (lc * 2 ^ Int.toNat 4) ((b64v n).fdiv (2 ^ Int.toNat 2))]) := by
  subst hq; exact a2b_q2 h h0 hn hv
theorem a2b_q3' {pre : List Int} {q n lc pads : Int} {out : List Int} (h : A2bInv pre q lc pads out) (hr : q = 0 ∨ q = 1 ∨ q = 2 ∨ q = 3) (q0 : q ≠ 0) (q1 : q ≠ 1) (q2 : q ≠ 2) (h0 : 0 ≤ n) (hn : n ≠ 61) (hv : b64v n < 64) :
    A2bInv (pre ++ [n]) 0 0 0 (out ++ [Builtin.bitOr (lc * 2 ^ Int.toNat 6) (b64v n)]) := by
  have e : q = 3 := by omega
  subst e; exact a2b_q3 h h0 hn hv
theorem a2b_fin {b : Array UInt8} (hb : Text b) {q lc pads : Int} {out : List Int} (h : A2bInv (List.map (fun c => ((c.toNat : Nat) : Int)) b.toList) q lc pads out) :
    q ≠ 1 ∧ (q = 0 ∨ 4 ≤ q + pads) ∧ byteArr out = arr (a2bSt (oct b)).2.2.2 := by
  obtain ⟨e1, e2, e3, e4, e5⟩ := h
  rw [nats_ints] at e1 e3 e4
  have := hb.fin
  unfold oct at this
  refine ⟨by omega, by omega, ?_⟩
  rw [e4]; rfl

section
variable {prog : Program} {w : World} {A : Around} {E : Value → Shared → Prop} {s : Shared} {a b : Int} {t u : Tok} {Q : Value → Shared → Prop}
theorem eq_no (e : a ≠ b) (h : Q (.bool false) s) : wpAny (model prog w) A (compareOp .Eq (.int a t) (.int b u)) Q E s := PyProof.Rows.eq_int (by rw [beq_eq_false_iff_ne.mpr e]; exact h)
theorem ne_no (e : a = b) (h : Q (.bool false) s) : wpAny (model prog w) A (compareOp .NotEq (.int a t) (.int b u)) Q E s := PyProof.Rows.ne_int (by rw [e, bne_self_eq_false]; exact h)
theorem lt_no (e : b ≤ a) (h : Q (.bool false) s) : wpAny (model prog w) A (compareOp .Lt (.int a t) (.int b u)) Q E s := PyProof.Rows.lt_int (by rw [decide_eq_false (by omega)]; exact h)
end
theorem a2b_ctr (w : World) (mean : ExcName → Option Value) (mg mb : Str → Option Value) (b : Array UInt8) (tk : Tok) (hb : Text b) : Ctr w mean mg mb 6 60 85 [.bytes b tk] [(Str.ofString "strict_mode", .bool false)] (fun v => ∃ t, v = .bytes (arr (a2bSt (oct b)).2.2.2) t) := by
  k_with_none
  k_with "steps" => repeat' ((fail_if_success (with_reducible show wpAny _ _ (pyIter _) _ _ _)); first | (k_unfold; (try dsimp only)) | walk1 | (dsimp only; walk1) | fail "no step")
  k_with "exec For" => (k_here; (rename Fr _ _ _ _ => lF'); (with_unfolding_all refine' For_invVF lF' ?hole1k1 ?hole1k2 ?_; (case hole1k1 => exact rfl); (case hole1k2 => exact rfl); k_whole))
  k_with "exec For Name Call cons nil" => (k_here; (rename Fr _ _ _ _ => lF'); (with_unfolding_all refine' For_invVF lF' ?hole2k1 ?hole2k2 ?_; (case hole2k1 => exact rfl); (case hole2k2 => exact rfl); k_whole))
  k_with "exec For Name Name cons nil" => (k_here; (rename Fr _ _ _ _ => lF'); (with_unfolding_all refine' For_invVF lF' ?hole3k1 ?hole3k2 ?_; (case hole3k1 => exact rfl); (case hole3k2 => exact rfl); k_whole))
  k_with "call type:type" => (k_here; (with_reducible show wpAny _ _ (call _ [Value.bytes _ _]) _ _ _); refine call_type_of (Tx := "bytes") rfl (by decide +kernel) ?_)
  k_with "kba_in" => first | assumption | (refine in_snoc ?_ ?_; (focus (first | k_extra "kba_in" | kba_in)); (first | exact byte_in _ | decide | omega))
  k_with "kba_ints" => first | assumption | (refine ints_snoc ?_; (first | k_extra "kba_ints" | kba_listInts))
  k_with "call type:bytes" => (k_here; (with_reducible show wpAny _ _ (call (Value.type "bytes") [Value.ref _]) _ _ _); (rename News _ _ _ _ => nE'); (simp only [List.push_toArray] at nE'); k_dflt (refine' KBa.make_K ?hole7kbaF nE' ?hole7kbah ?hole7kbal ?hole7kbai ?hole7kbar ?hole7kban ?_; (case hole7kbaF => k_asm); (case hole7kbah => rfl); (case hole7kbal => exact News.isList nE' (by k_mem)); (case hole7kbai => first | k_extra "kba_ints" | kba_listInts); (case hole7kbar => first | k_extra "kba_in" | kba_in); (case hole7kban => kba_size)); intro _ _ _ F' N' kbaIn)
  k_with "binaryOp FloorDiv int int" => (k_here; first | (with_reducible refine floordiv_int (powN_ne (b := 256) (by decide) _) ?_ (Or.inl (pow256_py ?hole8kbp)); (case hole8kbp => omega)) | (with_reducible refine floordiv_int (powN_ne (b := 64) (by decide) _) ?_ (Or.inl (pow64_py ?hole8kbp)); (case hole8kbp => omega)))
  k_with "call builtin:len" => (k_here; (with_reducible show wpAny _ _ (call (Value.builtin "len") [Value.bytes _ _]) _ _ _); refine len_B ?hole9kl ?_; (case hole9kl => first | exact Nat.le_trans (Small.le (by assumption)) (by decide) | omega))
  k_with "call ref" => (k_here; (k_dflt (refine' Ctr.use (abuf_ctr _ _ _ _ _ _) ?hole10k1 ?hole10k2 ?hole10k3 ?hole10k4 ?hole10k5 ?hole10kK ?hole10kd ?hole10ku ?_; (case hole10k1 => k_asm); (case hole10k2 => k_asm); (case hole10k3 => k_asm); (case hole10k4 => k_asm); (case hole10k5 => k_asm); (case hole10kK => first | exact rfl | assumption); (case hole10kd => first | exact Nat.le_of_ble_eq_true rfl | exact room1 (by assumption) rfl | exact room2 (by assumption) rfl | ktr_room); (case hole10ku => first | exact Nat.le_of_ble_eq_true rfl | exact room1 (by assumption) rfl | exact room2 (by assumption) rfl | ktr_units); k_whole); intro v' h' tk' hv' F' N'; (first | (obtain ⟨t', hv'⟩ := hv'; subst hv') | subst hv'); (try k_sweep)))
  k_with "call ref" => (k_here; (k_dflt (refine' Ctr.use (truth_ctr _ _ _ _) ?hole11k1 ?hole11k2 ?hole11k3 ?hole11k4 ?hole11k5 ?hole11kK ?hole11kd ?hole11ku ?_; (case hole11k1 => k_asm); (case hole11k2 => k_asm); (case hole11k3 => k_asm); (case hole11k4 => k_asm); (case hole11k5 => k_asm); (case hole11kK => first | exact rfl | assumption); (case hole11kd => first | exact Nat.le_of_ble_eq_true rfl | exact room1 (by assumption) rfl | exact room2 (by assumption) rfl | ktr_room); (case hole11ku => first | exact Nat.le_of_ble_eq_true rfl | exact room1 (by assumption) rfl | exact room2 (by assumption) rfl | ktr_units); k_whole); intro v' h' tk' hv' F' N'; (first | (obtain ⟨t', hv'⟩ := hv'; subst hv') | subst hv'); (try k_sweep)))
  k_with "call ref" => (k_here; (k_dflt (refine' Ctr.use (b64v_ctr _ _ _ _ _ _ (by exact ⟨by assumption, by assumption⟩)) ?hole12k1 ?hole12k2 ?hole12k3 ?hole12k4 ?hole12k5 ?hole12kK ?hole12kd ?hole12ku ?_; (case hole12k1 => k_asm); (case hole12k2 => k_asm); (case hole12k3 => k_asm); (case hole12k4 => k_asm); (case hole12k5 => k_asm); (case hole12kK => first | exact rfl | assumption); (case hole12kd => first | exact Nat.le_of_ble_eq_true rfl | exact room1 (by assumption) rfl | exact room2 (by assumption) rfl | ktr_room); (case hole12ku => first | exact Nat.le_of_ble_eq_true rfl | exact room1 (by assumption) rfl | exact room2 (by assumption) rfl | ktr_units); k_whole); intro v' h' tk' hv' F' N'; (first | (obtain ⟨t', hv'⟩ := hv'; subst hv') | subst hv'); (try k_sweep)))
  k_dflt (refine' ctr_of (binds := [(Str.ofString "data", .bytes b tk), (Str.ofString "strict_mode", .bool false)]) ?k6 ?k7 ?k9 ?kB ?_ ?c2 ?c3 ?c4 ?c5; (case k6 => k_is); (case k7 => k_is); (case k9 => intro s _; exact BindsTo.of_eq rfl); (case kB => exact locs rfl); (case c5 => decide); (case c2 => exact rfl); (case c3 => exact rfl); (case c4 => exact rfl); k_whole)
  intro dp un gd cn cs a ccd cl outer base L s g L' h₁ Q F' N' B' X' T' hkc hD hU ret
  k_extra "steps"
  (k_with "state" => first | exact a2b_start | exact a2b_p (by assumption) | exact a2b_q0' (by assumption) (by assumption) (by assumption) (by assumption) (by assumption) | exact a2b_q1' (by assumption) (by assumption) (by assumption) (by assumption) (by assumption) | exact a2b_q2' (by assumption) (by assumption) (by assumption) (by assumption) (by assumption) | exact a2b_q3' (by assumption) (by assumption) (by assumption) (by assumption) (by assumption) (by assumption) (by assumption) (by assumption))
  have hnil : IntsAre [] [] := .nil
  k_state (fun pre q lc pads i out => A2bInv pre q lc pads out) "quad_pos" "leftchar" "pads" "i" "out"
  · have hsz : b.toList.length ≤ 100000 := by simpa using hb.le
    have hlen := kInv.2.2.2.2
    obtain ⟨hq, hlc, hlc2, hpd, _⟩ := a2b_rng kInv
    rcases a2b_kind hb kEq kLo kInv with h | ⟨h, hv, hp⟩
    · subst h
      refine absQ fun Qo hQo => ?_
      k_extra "steps"
      all_goals (refine hQo _ _ ?_; k_extra "steps")
    · have hv0 := b64v_lo kN
      subst hp
      refine absQ fun Qo hQo => ?_
      k_extra "steps"
      all_goals (refine hQo _ _ ?_; k_extra "steps")
  · have hsz : b.toList.length ≤ 100000 := by simpa using hb.le
    have hlen := kInv.2.2.2.2
    obtain ⟨hq, hlc, hlc2, hpd, hin⟩ := a2b_rng kInv
    obtain ⟨hf1, hf2, hf3⟩ := a2b_fin hb kInv
    k_with "compareOp Eq int int" => (k_here; with_reducible refine eq_no (by with_reducible assumption) ?_)
    k_with "compareOp NotEq int int" => (k_here; with_reducible refine ne_no (by with_reducible assumption) ?_)
    k_with "compareOp Lt int int" => (k_here; with_reducible refine lt_no (by with_reducible assumption) ?_)
    rcases hf2 with hf2 | hf2
    all_goals (k_extra "steps"; all_goals exact ret _ _ _ _ (by assumption) (bex hf3))


theorem dec_ctr (w : World) (mean : ExcName → Option Value) (mg mb : Str → Option Value) (b : Array UInt8) (tk : Tok) (hb : Text b) : Ctr w mean mg mb 8 80 109 [.bytes b tk] [] (fun v => ∃ t, v = .bytes (arr (a2bSt (oct b)).2.2.2) t) := by
  k_with_none
  k_with "steps" => repeat' ((fail_if_success (with_reducible show wpAny _ _ (pyIter _) _ _ _)); first | (k_unfold; (try dsimp only)) | walk1 | (dsimp only; walk1) | fail "no step")
  k_with "exec For" => (k_here; (rename Fr _ _ _ _ => lF'); (with_unfolding_all refine' For_invVF lF' ?hole1k1 ?hole1k2 ?_; (case hole1k1 => exact rfl); (case hole1k2 => exact rfl); k_whole))
  k_with "exec For Name Call cons nil" => (k_here; (rename Fr _ _ _ _ => lF'); (with_unfolding_all refine' For_invVF lF' ?hole2k1 ?hole2k2 ?_; (case hole2k1 => exact rfl); (case hole2k2 => exact rfl); k_whole))
  k_with "exec For Name Name cons nil" => (k_here; (rename Fr _ _ _ _ => lF'); (with_unfolding_all refine' For_invVF lF' ?hole3k1 ?hole3k2 ?_; (case hole3k1 => exact rfl); (case hole3k2 => exact rfl); k_whole))
  k_with "call type:type" => (k_here; (with_reducible show wpAny _ _ (call _ [Value.bytes _ _]) _ _ _); refine call_type_of (Tx := "bytes") rfl (by decide +kernel) ?_)
  k_with "kba_in" => first | assumption | (refine in_snoc ?_ ?_; (focus (first | k_extra "kba_in" | kba_in)); (first | exact byte_in _ | decide | omega))
  k_with "kba_ints" => first | assumption | (refine ints_snoc ?_; (first | k_extra "kba_ints" | kba_listInts))
  k_with "call type:bytes" => (k_here; (with_reducible show wpAny _ _ (call (Value.type "bytes") [Value.ref _]) _ _ _); (rename News _ _ _ _ => nE'); (simp only [List.push_toArray] at nE'); k_dflt (refine' KBa.make_K ?hole7kbaF nE' ?hole7kbah ?hole7kbal ?hole7kbai ?hole7kbar ?hole7kban ?_; (case hole7kbaF => k_asm); (case hole7kbah => rfl); (case hole7kbal => exact News.isList nE' (by k_mem)); (case hole7kbai => first | k_extra "kba_ints" | kba_listInts); (case hole7kbar => first | k_extra "kba_in" | kba_in); (case hole7kban => kba_size)); intro _ _ _ F' N' kbaIn)
  k_with "binaryOp FloorDiv int int" => (k_here; first | (with_reducible refine floordiv_int (powN_ne (b := 256) (by decide) _) ?_ (Or.inl (pow256_py ?hole8kbp)); (case hole8kbp => omega)) | (with_reducible refine floordiv_int (powN_ne (b := 64) (by decide) _) ?_ (Or.inl (pow64_py ?hole8kbp)); (case hole8kbp => omega)))
  k_with "call builtin:len" => (k_here; (with_reducible show wpAny _ _ (call (Value.builtin "len") [Value.bytes _ _]) _ _ _); refine len_B ?hole9kl ?_; (case hole9kl => first | exact Nat.le_trans (Small.le (by assumption)) (by decide) | omega))
  k_with "call ref" => (k_here; (k_dflt (refine' Ctr.use (abuf_ctr _ _ _ _ _ _) ?hole10k1 ?hole10k2 ?hole10k3 ?hole10k4 ?hole10k5 ?hole10kK ?hole10kd ?hole10ku ?_; (case hole10k1 => k_asm); (case hole10k2 => k_asm); (case hole10k3 => k_asm); (case hole10k4 => k_asm); (case hole10k5 => k_asm); (case hole10kK => first | exact rfl | assumption); (case hole10kd => first | exact Nat.le_of_ble_eq_true rfl | exact room1 (by assumption) rfl | exact room2 (by assumption) rfl | ktr_room); (case hole10ku => first | exact Nat.le_of_ble_eq_true rfl | exact room1 (by assumption) rfl | exact room2 (by assumption) rfl | ktr_units); k_whole); intro v' h' tk' hv' F' N'; (first | (obtain ⟨t', hv'⟩ := hv'; subst hv') | subst hv'); (try k_sweep)))
  k_with "call ref" => (k_here; (k_dflt (refine' Ctr.use (truth_ctr _ _ _ _) ?hole11k1 ?hole11k2 ?hole11k3 ?hole11k4 ?hole11k5 ?hole11kK ?hole11kd ?hole11ku ?_; (case hole11k1 => k_asm); (case hole11k2 => k_asm); (case hole11k3 => k_asm); (case hole11k4 => k_asm); (case hole11k5 => k_asm); (case hole11kK => first | exact rfl | assumption); (case hole11kd => first | exact Nat.le_of_ble_eq_true rfl | exact room1 (by assumption) rfl | exact room2 (by assumption) rfl | ktr_room); (case hole11ku => first | exact Nat.le_of_ble_eq_true rfl | exact room1 (by assumption) rfl | exact room2 (by assumption) rfl | ktr_units); k_whole); intro v' h' tk' hv' F' N'; (first | (obtain ⟨t', hv'⟩ := hv'; subst hv') | subst hv'); (try k_sweep)))
  k_with "call ref" => (k_here; (k_dflt (refine' Ctr.use (b64v_ctr _ _ _ _ _ _ (by exact ⟨by assumption, by assumption⟩)) ?hole12k1 ?hole12k2 ?hole12k3 ?hole12k4 ?hole12k5 ?hole12kK ?hole12kd ?hole12ku ?_; (case hole12k1 => k_asm); (case hole12k2 => k_asm); (case hole12k3 => k_asm); (case hole12k4 => k_asm); (case hole12k5 => k_asm); (case hole12kK => first | exact rfl | assumption); (case hole12kd => first | exact Nat.le_of_ble_eq_true rfl | exact room1 (by assumption) rfl | exact room2 (by assumption) rfl | ktr_room); (case hole12ku => first | exact Nat.le_of_ble_eq_true rfl | exact room1 (by assumption) rfl | exact room2 (by assumption) rfl | ktr_units); k_whole); intro v' h' tk' hv' F' N'; (first | (obtain ⟨t', hv'⟩ := hv'; subst hv') | subst hv'); (try k_sweep)))
  k_with "call ref" => (k_here; (k_dflt (refine' Ctr.use (bfd_ctr _ _ _ _ _ _) ?hole13k1 ?hole13k2 ?hole13k3 ?hole13k4 ?hole13k5 ?hole13kK ?hole13kd ?hole13ku ?_; (case hole13k1 => k_asm); (case hole13k2 => k_asm); (case hole13k3 => k_asm); (case hole13k4 => k_asm); (case hole13k5 => k_asm); (case hole13kK => first | exact rfl | assumption); (case hole13kd => first | exact Nat.le_of_ble_eq_true rfl | exact room1 (by assumption) rfl | exact room2 (by assumption) rfl | ktr_room); (case hole13ku => first | exact Nat.le_of_ble_eq_true rfl | exact room1 (by assumption) rfl | exact room2 (by assumption) rfl | ktr_units); k_whole); intro v' h' tk' hv' F' N'; (first | (obtain ⟨t', hv'⟩ := hv'; subst hv') | subst hv'); (try k_sweep)))
  k_with "call ref" => (k_here; (k_dflt (refine' Ctr.use (a2b_ctr _ _ _ _ _ _ (by assumption)) ?hole14k1 ?hole14k2 ?hole14k3 ?hole14k4 ?hole14k5 ?hole14kK ?hole14kd ?hole14ku ?_; (case hole14k1 => k_asm); (case hole14k2 => k_asm); (case hole14k3 => k_asm); (case hole14k4 => k_asm); (case hole14k5 => k_asm); (case hole14kK => first | exact rfl | assumption); (case hole14kd => first | exact Nat.le_of_ble_eq_true rfl | exact room1 (by assumption) rfl | exact room2 (by assumption) rfl | ktr_room); (case hole14ku => first | exact Nat.le_of_ble_eq_true rfl | exact room1 (by assumption) rfl | exact room2 (by assumption) rfl | ktr_units); k_whole); intro v' h' tk' hv' F' N'; (first | (obtain ⟨t', hv'⟩ := hv'; subst hv') | subst hv'); (try k_sweep)))
  k_dflt (refine' ctr_of (binds := [(Str.ofString "s", .bytes b tk), (Str.ofString "altchars", .none), (Str.ofString "validate", .bool false)]) ?k6 ?k7 ?k9 ?kB ?_ ?c2 ?c3 ?c4 ?c5; (case k6 => k_is); (case k7 => k_is); (case k9 => intro s X; exact binds_K X rfl (by k_is) rfl rfl rfl); (case kB => exact locs rfl); (case c5 => decide); (case c2 => exact rfl); (case c3 => exact rfl); (case c4 => exact rfl); k_whole)
  intro dp un gd cn cs a ccd cl outer base L s g L' h₁ Q F' N' B' X' T' hkc hD hU ret
  k_extra "steps"
  exact ret _ _ _ _ (by assumption) ⟨_, rfl⟩

end Mine
end

section
open PySem PySem.W PySem.Calls PyProof.Rows
set_option Elab.async false
set_option maxRecDepth 100000
set_option maxHeartbeats 8000000
namespace Mine
/-! contracts of defs that read a list of the caller's, or hand back a new list -/
noncomputable def CtrH (w : World) (mean : ExcName → Option Value) (mg mb : Str → Option Value) (D U : Nat) (f : Addr) (vs : List Value) (kw : List (Str × Value)) (H : Heap → Prop) (P : Value → Prop) : Prop :=
  ∀ (dp un : Nat) (gd : Option (List Code)) (cn : Str) (cs : Scope) (a : Addr) (ccd : Value) (cl : List (Str × Addr)) (outer : List Env) (A₀ : Around) (base h₀ : Heap) (L : Addr) (m : Str → Option Value) (news : List (Addr × Obj)) (s : Shared) (Q E : Value → Shared → Prop),
    Below A₀ base outer h₀ → Fr h₀ L s.heap m → (hd.heap_39 w.params).In h₀ → News h₀ L s.heap news →
    Top hd.view_39 (looseW hd.view_39 [Str.ofString "bytes_types", Str.ofString "a2b_base64", Str.ofString "b2a_base64", Str.ofString "b64encode", Str.ofString "b64decode"]) mean mg mb h₀ →
    cs.kind = .function → dp + D < recursionLimit → un + U < cLine → H s.heap →
    (∀ v h' tk', P v → Fr h₀ L h' m → News h₀ L h' news → Q v { s with heap := h', toks := tk' }) →
    wpAny (model PySem.Challenge.rw_qh0114_02.row.prog w) (ktrTop dp un gd cn cs L a ccd cl outer) (call (.ref f) vs kw) Q E s
noncomputable def CtrN (w : World) (mean : ExcName → Option Value) (mg mb : Str → Option Value) (D U : Nat) (f : Addr) (vs : List Value) (kw : List (Str × Value)) (P : Value → Addr → Obj → Prop) : Prop :=
  ∀ (dp un : Nat) (gd : Option (List Code)) (cn : Str) (cs : Scope) (a : Addr) (ccd : Value) (cl : List (Str × Addr)) (outer : List Env) (A₀ : Around) (base h₀ : Heap) (L : Addr) (m : Str → Option Value) (news : List (Addr × Obj)) (s : Shared) (Q E : Value → Shared → Prop),
    Below A₀ base outer h₀ → Fr h₀ L s.heap m → (hd.heap_39 w.params).In h₀ → News h₀ L s.heap news →
    Top hd.view_39 (looseW hd.view_39 [Str.ofString "bytes_types", Str.ofString "a2b_base64", Str.ofString "b2a_base64", Str.ofString "b64encode", Str.ofString "b64decode"]) mean mg mb h₀ →
    cs.kind = .function → dp + D < recursionLimit → un + U < cLine →
    (∀ v h' tk' Dn o, P v Dn o → Fr h₀ L h' m → News h₀ L h' ((Dn, o) :: news) → (∀ p ∈ news, p.1 ≠ Dn) → Q v { s with heap := h', toks := tk' }) →
    wpAny (model PySem.Challenge.rw_qh0114_02.row.prog w) (ktrTop dp un gd cn cs L a ccd cl outer) (call (.ref f) vs kw) Q E s

section
variable {w : World} {mean : ExcName → Option Value} {mg mb : Str → Option Value} {D U : Nat} {f : Addr} {vs : List Value} {kw : List (Str × Value)} {H : Heap → Prop} {P : Value → Prop} {PN : Value → Addr → Obj → Prop}
  {dp un : Nat} {gd : Option (List Code)} {cn : Str} {cs : Scope} {a : Addr} {ccd : Value} {cl : List (Str × Addr)} {outer : List Env} {A₀ : Around} {base h₀ : Heap} {L : Addr} {m : Str → Option Value} {news : List (Addr × Obj)} {s : Shared} {Q E : Value → Shared → Prop}
theorem CtrH.use (C : CtrH w mean mg mb D U f vs kw H P) (B : Below A₀ base outer h₀) (F : Fr h₀ L s.heap m) (X : (hd.heap_39 w.params).In h₀) (N : News h₀ L s.heap news)
    (T : Top hd.view_39 (looseW hd.view_39 [Str.ofString "bytes_types", Str.ofString "a2b_base64", Str.ofString "b2a_base64", Str.ofString "b64encode", Str.ofString "b64decode"]) mean mg mb h₀)
    (hk : cs.kind = .function) (hd : dp + D < recursionLimit) (hu : un + U < cLine) (hH : H s.heap)
    (h : ∀ v h' tk', P v → Fr h₀ L h' m → News h₀ L h' news → Q v { s with heap := h', toks := tk' }) :
    wpAny (model PySem.Challenge.rw_qh0114_02.row.prog w) (ktrTop dp un gd cn cs L a ccd cl outer) (call (.ref f) vs kw) Q E s :=
  C dp un gd cn cs a ccd cl outer A₀ base h₀ L m news s Q E B F X N T hk hd hu hH h
theorem CtrN.use (C : CtrN w mean mg mb D U f vs kw PN) (B : Below A₀ base outer h₀) (F : Fr h₀ L s.heap m) (X : (hd.heap_39 w.params).In h₀) (N : News h₀ L s.heap news)
    (T : Top hd.view_39 (looseW hd.view_39 [Str.ofString "bytes_types", Str.ofString "a2b_base64", Str.ofString "b2a_base64", Str.ofString "b64encode", Str.ofString "b64decode"]) mean mg mb h₀)
    (hk : cs.kind = .function) (hd : dp + D < recursionLimit) (hu : un + U < cLine)
    (h : ∀ v h' tk' Dn o, PN v Dn o → Fr h₀ L h' m → News h₀ L h' ((Dn, o) :: news) → (∀ p ∈ news, p.1 ≠ Dn) → Q v { s with heap := h', toks := tk' }) :
    wpAny (model PySem.Challenge.rw_qh0114_02.row.prog w) (ktrTop dp un gd cn cs L a ccd cl outer) (call (.ref f) vs kw) Q E s :=
  C dp un gd cn cs a ccd cl outer A₀ base h₀ L m news s Q E B F X N T hk hd hu h
end

section
variable {prog : Program} {w : World} {A A₀ : Around} {s : Shared} {K : Frag} {L : Addr} {h₀ base : Heap} {m mg mb : Str → Option Value} {news : List (Addr × Obj)} {p : Program} {loose : List Str} {mean : ExcName → Option Value}
/-- what the caller has again when a callee comes back with one new object -/
theorem backN {g h₁ : Heap} {L L' : Addr} {m m' : Str → Option Value} {news : List (Addr × Obj)} {h₀ : Heap} {Dn : Addr} {o : Obj} (F : Fr h₀ L g m) (N : News h₀ L g news) (F' : Fr g L' h₁ m')
    (hD : h₁.get? Dn = some o) (hs : g.get? Dn = none) : Fr h₀ L h₁ m ∧ News h₀ L h₁ ((Dn, o) :: news) ∧ ∀ p ∈ news, p.1 ≠ Dn := by
  have lt : ∀ p ∈ news, p.1 ≠ Dn := fun p hp e => by
    have h1 := (N p hp).1
    rw [e, hs] at h1
    cases h1
  refine ⟨⟨F.ns.keeps F'.keep, fun b o e => F'.keep b o (F.keep b o e), F.above⟩, fun q hq => ?_, lt⟩
  rcases List.mem_cons.mp hq with rfl | hq
  · refine ⟨hD, ?_, ?_⟩
    · show Dn ≠ L
      intro e
      obtain ⟨_, _, _, ho', _⟩ := F.ns
      rw [← e, hs] at ho'
      cases ho'
    · show h₀.get? Dn = none
      cases e : h₀.get? Dn with
      | none => rfl
      | some o' =>
        have h1 := F.keep Dn o' e
        rw [hs] at h1
        cases h1
  · exact ⟨F'.keep _ _ (N q hq).1, (N q hq).2⟩
theorem code_pureC2 {env : Env} {outer : List Env} {R : Result → Shared → Prop} {name qual : Str} {params : Arguments} {body : List Stmt} {scope : Scope} {dV kV doc pm cdv ct oc : Value} {an od : Option Addr} {osl : Array (Option Value)} {f : Addr} {args : Args} {binds : List (Str × Value)}
    (B : Below A₀ base outer h₀) (F : Fr h₀ L s.heap m) (X₀ : K.In h₀) (T : Top p loose mean mg mb h₀) (hA : A.frames = some (env :: outer)) (hf : env.frame = some L) (hke : env.scope.kind = .function)
    (ho : K.lookup f = some ⟨oc, od, .func (fnOf name qual params body scope dV kV doc pm an cdv ct), osl⟩) (hcd : codeIn K cdv qual = true) (hroom : A.depth < recursionLimit)
    (hbind : BindsTo s (fnOf name qual params body scope dV kV doc pm an cdv ct) args binds) (hkind : (binds.all fun y => scope.names.lookup y.1 == some .local || scope.names.lookup y.1 == some .cell) = true)
    (hnd : ((cellsFrom 0 scope.names []).map (·.1)).Nodup)
    (h : ∀ L' h₁ tk cells, Fr s.heap L' h₁ (bindL (envOfC qual scope L' f cdv).kindOf binds fun _ => none) → News s.heap L' h₁ cells →
      CellsAre (bindC (envOfC qual scope L' f cdv).kindOf binds fun _ => none) (cellsFrom (L' + 1) scope.names []) cells → Below A base (env :: outer) s.heap → K.In s.heap → Top p loose mean mg mb s.heap →
      wpAny (model prog w) (A.deeper (envOfC qual scope L' f cdv)) (execs body (envOfC qual scope L' f cdv))
        (fun fl s' => R (.ok (.ret (match fl with | .ret v => v | _ => .none))) s')
        (fun e s' => wpAny (model prog w) (A.deeper (envOfC qual scope L' f cdv)) (leaving (envOfC qual scope L' f cdv) e) (fun _ s'' => R (.error e) s'') (fun e' s'' => R (.error e') s'') s')
        { s with heap := h₁, toks := tk })
    (hco : scope.isCoroutine = false) (hgen : scope.isGenerator = false) (hk : scope.kind = .function) : codeAny (model prog w) A (.call (.ref f) args) R s := by
  have B₁ := pushX B F hf hke
  refine codeAny_call_function hroom ((X₀.keeps F.keep) _ _ ho) rfl hco hgen rfl (codeRec_of (X₀.keeps F.keep) hcd) (hbind _ _ _ _ ?_)
  refine wpAny_newFunctionEnv_cells hk (kindsX hkind _) fun env' he s' x => ?_
  subst he
  refine ⟨(T.nolimit.keeps F.keep).keeps x.toInCall.keep, codeAny_func ?_⟩
  obtain ⟨h₁, tk, rfl, _⟩ := x.done
  have hk₁ := x.toInCall.keep
  obtain ⟨cells, NC, Y⟩ := Cl.news (h₀ := s.heap) (Nat.le_refl _) fun n c hm => ⟨x.cell n c (lookup_of_mem_nodup (cellsFrom_names scope.names 0 (s.heap.objs.size + 1) [] [] rfl ▸ hnd) hm), x.above n c hm⟩
  exact h s.heap.objs.size h₁ tk cells ⟨x.toInCall.ns, hk₁, Nat.le_refl _⟩ NC Y ⟨hA, B₁.stays, B₁.frames⟩ (X₀.keeps F.keep) (T.keeps F.keep)
end
section
variable {w : World} {mean : ExcName → Option Value} {mg mb : Str → Option Value} {D U : Nat} {f : Addr} {vs : List Value} {kw : List (Str × Value)} {H : Heap → Prop} {P : Value → Prop} {PN : Value → Addr → Obj → Prop}
theorem ctrH_ofC {name qual : Str} {params : Arguments} {body : List Stmt} {scope : Scope} {dV kV doc pm cdv ct oc : Value} {an od : Option Addr} {osl : Array (Option Value)} {binds : List (Str × Value)}
    (ho : (hd.heap_39 w.params).lookup f = some ⟨oc, od, .func (fnOf name qual params body scope dV kV doc pm an cdv ct), osl⟩) (hcd : codeIn (hd.heap_39 w.params) cdv qual = true)
    (hbind : ∀ s : Shared, (hd.heap_39 w.params).In s.heap → BindsTo s (fnOf name qual params body scope dV kV doc pm an cdv ct) ⟨vs, kw⟩ binds)
    (hkind : (binds.all fun y => scope.names.lookup y.1 == some .local || scope.names.lookup y.1 == some .cell) = true) (hnd : ((cellsFrom 0 scope.names []).map (·.1)).Nodup)
    (h : ∀ (dp un : Nat) (gd : Option (List Code)) (cn : Str) (cs : Scope) (a : Addr) (ccd : Value) (cl : List (Str × Addr)) (outer : List Env) (base : Heap) (L : Addr) (s : Shared) (g : Heap) (L' : Addr) (h₁ : Heap) (tk : Nat) (cells : List (Addr × Obj)) (Q : Flow → Shared → Prop),
      Fr g L' h₁ (bindL (envOfC qual scope L' f cdv).kindOf binds fun _ => none) → News g L' h₁ cells → CellsAre (bindC (envOfC qual scope L' f cdv).kindOf binds fun _ => none) (cellsFrom (L' + 1) scope.names []) cells →
      Below (ktrTop dp un gd cn cs L a ccd cl outer) base (envX cn cs L a ccd cl :: outer) g → (hd.heap_39 w.params).In g →
      Top hd.view_39 (looseW hd.view_39 [Str.ofString "bytes_types", Str.ofString "a2b_base64", Str.ofString "b2a_base64", Str.ofString "b64encode", Str.ofString "b64decode"]) mean mg mb g →
      cs.kind = .function → dp + D < recursionLimit → un + U < cLine → H g →
      (∀ v m' h' tk', Fr g L' h' m' → P v → Q (.ret v) { s with heap := h', toks := tk' }) →
      wpAny (model PySem.Challenge.rw_qh0114_02.row.prog w) ((ktrTop dp un gd cn cs L a ccd cl outer).deeper (envOfC qual scope L' f cdv)) (execs body (envOfC qual scope L' f cdv)) Q (fun _ _ => False) { s with heap := h₁, toks := tk })
    (hco : scope.isCoroutine = false) (hgen : scope.isGenerator = false) (hk : scope.kind = .function) : CtrH w mean mg mb D U f vs kw H P := by
  intro dp un gd cn cs a ccd cl outer A₀ base h₀ L m news s Q E B F X N T hkc hd hu hH hret
  refine wpAny_call ?_
  refine code_pureC2 (env := envX cn cs L a ccd cl) B F X T rfl rfl hkc ho hcd (show dp < recursionLimit by omega) (hbind s (X.keeps F.keep)) hkind hnd (fun L' h₁ tk cells F' N' Y' B' X' T' => ?_) hco hgen hk
  refine wpAny_mono (h dp un gd cn cs a ccd cl outer base L s s.heap L' h₁ tk cells (fun fl s' => match fl with | .ret v => Q v s' | _ => False) F' N' Y' B' X' T' hkc hd hu hH fun v m' h' tk' F'' hp => ?_) (fun fl s' hq => ?_) fun _ _ e => e.elim
  · have := back F N (h₁ := h') fun b o e => F''.keep b o e
    exact hret v h' tk' hp this.1 this.2
  · cases fl with
    | ret v => exact hq
    | _ => exact hq.elim
theorem ctrN_ofC {name qual : Str} {params : Arguments} {body : List Stmt} {scope : Scope} {dV kV doc pm cdv ct oc : Value} {an od : Option Addr} {osl : Array (Option Value)} {binds : List (Str × Value)}
    (ho : (hd.heap_39 w.params).lookup f = some ⟨oc, od, .func (fnOf name qual params body scope dV kV doc pm an cdv ct), osl⟩) (hcd : codeIn (hd.heap_39 w.params) cdv qual = true)
    (hbind : ∀ s : Shared, (hd.heap_39 w.params).In s.heap → BindsTo s (fnOf name qual params body scope dV kV doc pm an cdv ct) ⟨vs, kw⟩ binds)
    (hkind : (binds.all fun y => scope.names.lookup y.1 == some .local || scope.names.lookup y.1 == some .cell) = true) (hnd : ((cellsFrom 0 scope.names []).map (·.1)).Nodup)
    (h : ∀ (dp un : Nat) (gd : Option (List Code)) (cn : Str) (cs : Scope) (a : Addr) (ccd : Value) (cl : List (Str × Addr)) (outer : List Env) (base : Heap) (L : Addr) (s : Shared) (g : Heap) (L' : Addr) (h₁ : Heap) (tk : Nat) (cells : List (Addr × Obj)) (Q : Flow → Shared → Prop),
      Fr g L' h₁ (bindL (envOfC qual scope L' f cdv).kindOf binds fun _ => none) → News g L' h₁ cells → CellsAre (bindC (envOfC qual scope L' f cdv).kindOf binds fun _ => none) (cellsFrom (L' + 1) scope.names []) cells →
      Below (ktrTop dp un gd cn cs L a ccd cl outer) base (envX cn cs L a ccd cl :: outer) g → (hd.heap_39 w.params).In g →
      Top hd.view_39 (looseW hd.view_39 [Str.ofString "bytes_types", Str.ofString "a2b_base64", Str.ofString "b2a_base64", Str.ofString "b64encode", Str.ofString "b64decode"]) mean mg mb g →
      cs.kind = .function → dp + D < recursionLimit → un + U < cLine →
      (∀ v m' h' tk' Dn o, Fr g L' h' m' → h'.get? Dn = some o → g.get? Dn = none → PN v Dn o → Q (.ret v) { s with heap := h', toks := tk' }) →
      wpAny (model PySem.Challenge.rw_qh0114_02.row.prog w) ((ktrTop dp un gd cn cs L a ccd cl outer).deeper (envOfC qual scope L' f cdv)) (execs body (envOfC qual scope L' f cdv)) Q (fun _ _ => False) { s with heap := h₁, toks := tk })
    (hco : scope.isCoroutine = false) (hgen : scope.isGenerator = false) (hk : scope.kind = .function) : CtrN w mean mg mb D U f vs kw PN := by
  intro dp un gd cn cs a ccd cl outer A₀ base h₀ L m news s Q E B F X N T hkc hd hu hret
  refine wpAny_call ?_
  refine code_pureC2 (env := envX cn cs L a ccd cl) B F X T rfl rfl hkc ho hcd (show dp < recursionLimit by omega) (hbind s (X.keeps F.keep)) hkind hnd (fun L' h₁ tk cells F' N' Y' B' X' T' => ?_) hco hgen hk
  refine wpAny_mono (h dp un gd cn cs a ccd cl outer base L s s.heap L' h₁ tk cells (fun fl s' => match fl with | .ret v => Q v s' | _ => False) F' N' Y' B' X' T' hkc hd hu fun v m' h' tk' Dn o F'' hD hl hp => ?_) (fun fl s' hq => ?_) fun _ _ e => e.elim
  · obtain ⟨e1, e2, e3⟩ := backN F N F'' hD hl
    exact hret v h' tk' Dn o hp e1 e2 e3
  · cases fl with
    | ret v => exact hq
    | _ => exact hq.elim
end
end Mine
end

section
open PySem PySem.W
set_option Elab.async false
set_option maxRecDepth 100000
namespace Mine

theorem genStep_xor (a b : Nat) : genStep (a ^^^ b) = genStep a ^^^ genStep b := by
  have h1 := xor_mod2 a b
  have h2 : (a ^^^ b) / 2 = a / 2 ^^^ b / 2 := Nat.xor_div_two
  unfold genStep
  rw [h2]
  rcases Nat.mod_two_eq_zero_or_one a with e | e <;> rcases Nat.mod_two_eq_zero_or_one b with f | f
  · rw [if_neg (by omega), if_neg (by omega), if_neg (by omega)]
  · rw [if_pos (by omega), if_neg (by omega), if_pos (by omega), Nat.xor_assoc]
  · rw [if_pos (by omega), if_pos (by omega), if_neg (by omega), Nat.xor_assoc, Nat.xor_assoc, Nat.xor_comm (b / 2)]
  · rw [if_neg (by omega), if_pos (by omega), if_pos (by omega), Nat.xor_assoc, Nat.xor_comm 3988292384, Nat.xor_assoc, Nat.xor_self, Nat.xor_zero]
theorem poly_lt {c : Nat} (h : c < 4294967296) : c ^^^ 3988292384 < 4294967296 := Nat.xor_lt_two_pow (n := 32) h (by decide)
theorem genStep_lt {c : Nat} (h : c < 4294967296) : genStep c < 4294967296 := by
  unfold genStep
  split
  · exact poly_lt (by omega)
  · omega
theorem genIt_xor : ∀ n a b, genIt n (a ^^^ b) = genIt n a ^^^ genIt n b
  | 0, _, _ => rfl
  | n + 1, a, b => by rw [genIt, genIt, genIt, genIt_xor n, genStep_xor]
theorem genIt_lt {c : Nat} (h : c < 4294967296) : ∀ n, genIt n c < 4294967296
  | 0 => h
  | n + 1 => genStep_lt (genIt_lt h n)
theorem genIt_add (m : Nat) (c : Nat) : ∀ n, genIt (m + n) c = genIt n (genIt m c)
  | 0 => rfl
  | n + 1 => by rw [← Nat.add_assoc, genIt, genIt, genIt_add m c n]
theorem onIt_gen (c : Nat) : ∀ n, onIt n c = genIt (8 * n) c
  | 0 => rfl
  | n + 1 => by rw [onIt, onIt_gen c n, Nat.mul_add, Nat.mul_one, genIt_add]
theorem onIt_xor (n a b : Nat) : onIt n (a ^^^ b) = onIt n a ^^^ onIt n b := by rw [onIt_gen, onIt_gen, onIt_gen, genIt_xor]
theorem onIt_lt {c : Nat} (h : c < 4294967296) (n : Nat) : onIt n c < 4294967296 := by rw [onIt_gen]; exact genIt_lt h _
theorem onIt_succ (n c : Nat) : onIt (n + 1) c = onIt n (genIt 8 c) := by
  rw [onIt_gen, onIt_gen, Nat.mul_add, Nat.mul_one, Nat.add_comm, genIt_add]
theorem stOf_split : ∀ (r : List Nat) (c : Nat), stOf c r = onIt r.length c ^^^ stOf 0 r
  | [], c => by simp [stOf, onIt]
  | o :: r, c => by
    have e1 : stOf c (o :: r) = stOf (genIt 8 (c ^^^ o)) r := rfl
    have e2 : stOf 0 (o :: r) = stOf (genIt 8 (0 ^^^ o)) r := rfl
    rw [e1, e2, stOf_split r, stOf_split r (genIt 8 (0 ^^^ o)), Nat.zero_xor, List.length_cons, onIt_succ, genIt_xor, onIt_xor]
    rw [Nat.xor_assoc]
theorem stOf_append (c : Nat) (w r : List Nat) : stOf c (w ++ r) = stOf (stOf c w) r := by simp [stOf, List.foldl_append]
theorem stOf_lt : ∀ (r : List Nat) (c : Nat), c < 4294967296 → (∀ x ∈ r, x < 256) → stOf c r < 4294967296
  | [], c, h, _ => h
  | o :: r, c, h, hr => by
    have ho := hr o (.head _)
    refine stOf_lt r _ (genIt_lt (Nat.xor_lt_two_pow (n := 32) h (by omega)) 8) fun x hx => hr x (.tail _ hx)
theorem ones_sub : ∀ (n x : Nat), x < 2 ^ n → 2 ^ n - 1 - x = (2 ^ n - 1) ^^^ x := by
  intro n
  induction n with
  | zero => intro x h; have : x = 0 := by omega
            subst this; decide
  | succ n ih =>
    intro x h
    have e : 2 ^ (n + 1) = 2 * 2 ^ n := by rw [Nat.pow_succ, Nat.mul_comm]
    have h0 : 0 < 2 ^ n := Nat.two_pow_pos n
    have h1 := ih (x / 2) (by omega)
    have h2 : ((2 ^ (n + 1) - 1) ^^^ x) / 2 = (2 ^ (n + 1) - 1) / 2 ^^^ x / 2 := Nat.xor_div_two
    have h3 : (2 ^ (n + 1) - 1) / 2 = 2 ^ n - 1 := by omega
    rw [h3] at h2
    have h4 := xor_mod2 (2 ^ (n + 1) - 1) x
    omega
theorem flip_eq {x : Nat} (h : x < 4294967296) : 4294967295 - x = 4294967295 ^^^ x := ones_sub 32 x h
theorem sumOf_eq {r : List Nat} (h : ∀ x ∈ r, x < 256) : sumOf r = 4294967295 ^^^ stOf 4294967295 r := flip_eq (stOf_lt r _ (by decide) h)
theorem sumOf_lt (r : List Nat) : sumOf r < 4294967296 := by unfold sumOf; omega
theorem xor_cut (a b : Nat) : a ^^^ b ^^^ b = a := by rw [Nat.xor_assoc, Nat.xor_self, Nat.xor_zero]
theorem sumOf_append {w r : List Nat} (hw : ∀ x ∈ w, x < 256) (hr : ∀ x ∈ r, x < 256) : sumOf (w ++ r) = onIt r.length (sumOf w) ^^^ sumOf r := by
  rw [sumOf_eq (fun x hx => (List.mem_append.mp hx).elim (hw x) (hr x)), sumOf_eq hw, sumOf_eq hr, stOf_append, stOf_split r (stOf _ w), stOf_split r 4294967295, onIt_xor]
  generalize onIt r.length 4294967295 = A
  generalize onIt r.length (stOf 4294967295 w) = B
  generalize stOf 0 r = C
  have e : A ^^^ B ^^^ (4294967295 ^^^ (A ^^^ C)) = 4294967295 ^^^ (B ^^^ C) := by
    apply Nat.eq_of_testBit_eq
    intro i
    simp only [Nat.testBit_xor]
    cases A.testBit i <;> cases B.testBit i <;> cases C.testBit i <;> cases Nat.testBit 4294967295 i <;> rfl
  exact e.symm
theorem back_gen {c : Nat} (h : c < 4294967296) : backStep (genStep c) = c := by
  unfold genStep
  split
  · rename_i ho
    have hd : (c / 2 ^^^ 3988292384) / 2 ^ 31 = c / 2 / 2 ^ 31 ^^^ 3988292384 / 2 ^ 31 := Nat.xor_div_two_pow
    have hz : c / 2 / 2 ^ 31 = 0 := by omega
    rw [hz] at hd
    have h3 : (0 ^^^ 3988292384 / 2 ^ 31 : Nat) = 1 := by decide
    rw [h3] at hd
    unfold backStep
    rw [if_pos (by omega), xor_cut]
    omega
  · unfold backStep
    rw [if_neg (by omega)]
    omega
theorem backIt_shift (c : Nat) : ∀ n, backIt (n + 1) c = backIt n (backStep c)
  | 0 => rfl
  | n + 1 => by rw [backIt, backIt_shift c n]; rfl
theorem backIt_genIt {c : Nat} (h : c < 4294967296) : ∀ n, backIt n (genIt n c) = c
  | 0 => rfl
  | n + 1 => by rw [backIt_shift, genIt, back_gen (genIt_lt h n), backIt_genIt h n]
theorem backIt_onIt {c : Nat} (h : c < 4294967296) (n : Nat) : backIt (8 * n) (onIt n c) = c := by rw [onIt_gen, backIt_genIt h]
theorem sum_last {w r : List Nat} (hw : ∀ x ∈ w, x < 256) (hr : ∀ x ∈ r, x < 256) : backIt (8 * r.length) (sumOf (w ++ r) ^^^ sumOf r) = sumOf w := by
  rw [sumOf_append hw hr, xor_cut, backIt_onIt (sumOf_lt w)]
theorem sum_first {w r : List Nat} (hw : ∀ x ∈ w, x < 256) (hr : ∀ x ∈ r, x < 256) : sumOf (r ++ w) ^^^ onIt w.length (sumOf r) = sumOf w := by
  rw [sumOf_append hr hw, Nat.xor_comm (onIt _ _), xor_cut]
end Mine
end

section
open PySem PySem.W
set_option Elab.async false
set_option maxRecDepth 100000
namespace Mine
theorem sg_back : ∀ i, i < 64 → b64v (sg i : Int) = i ∧ sg i ≠ 61 := by decide
theorem a2b_sg {σ : Nat × Nat × Nat × List Nat} {i : Nat} (hi : i < 64) : a2bStep σ (sg i) = if σ.1 = 0 then (1, i, 0, σ.2.2.2)
    else if σ.1 = 1 then (2, i % 16, 0, σ.2.2.2 ++ [σ.2.1 * 4 + i / 16])
    else if σ.1 = 2 then (3, i % 4, 0, σ.2.2.2 ++ [σ.2.1 * 16 + i / 4])
    else (0, 0, 0, σ.2.2.2 ++ [σ.2.1 * 64 + i]) := by
  obtain ⟨e, n⟩ := sg_back i hi
  unfold a2bStep
  rw [if_neg n, e, Int.toNat_natCast, if_neg (by omega)]
end Mine
end

section
open PySem PySem.W
namespace Mine
noncomputable def encOf (l : List Nat) : List Nat := b2aFin (b2aSt l)
end Mine
end

section
open PySem PySem.W
set_option Elab.async false
set_option maxRecDepth 100000
namespace Mine
/-! plain laws of law 2: numbers and their figures -/
noncomputable def num (b : Nat) (l : List Nat) : Nat := l.foldl (fun n o => n * b + o) 0
noncomputable def dig (b m x : Nat) : List Nat := (List.range m).map fun k => x / b ^ (m - 1 - k) % b
theorem num_snoc (b : Nat) (l : List Nat) (o : Nat) : num b (l ++ [o]) = num b l * b + o := by simp [num, List.foldl_append]
theorem dig_len (b m x : Nat) : (dig b m x).length = m := by simp [dig]
theorem dig_succ (b m x : Nat) : dig b (m + 1) x = dig b m (x / b) ++ [x % b] := by
  unfold dig
  rw [List.range_succ, List.map_append, List.map_cons, List.map_nil]
  congr 1
  · refine List.map_congr_left fun k hk => ?_
    have hk' : k < m := List.mem_range.mp hk
    rw [Nat.div_div_eq_div_mul, show m + 1 - 1 - k = (m - 1 - k) + 1 by omega, Nat.pow_succ, Nat.mul_comm b]
  · rw [show m + 1 - 1 - m = 0 by omega, Nat.pow_zero, Nat.div_one]
theorem dig_lt {b : Nat} (hb : 0 < b) (m x : Nat) : ∀ y ∈ dig b m x, y < b := by
  intro y hy
  obtain ⟨k, _, rfl⟩ := List.mem_map.mp hy
  exact Nat.mod_lt _ hb
theorem snoc_ind {P : List Nat → Prop} (h0 : P []) (h1 : ∀ l x, P l → P (l ++ [x])) (l : List Nat) : P l := by
  have : ∀ r : List Nat, P r.reverse := by
    intro r
    induction r with
    | nil => exact h0
    | cons x r ih => rw [List.reverse_cons]; exact h1 _ _ ih
  have h := this l.reverse
  rwa [List.reverse_reverse] at h
theorem num_lt {b : Nat} (hb : 0 < b) (l : List Nat) : (∀ x ∈ l, x < b) → num b l < b ^ l.length := by
  refine snoc_ind (P := fun l => (∀ x ∈ l, x < b) → num b l < b ^ l.length) (fun _ => by simp [num]) (fun l x ih h => ?_) l
  have h1 := ih fun y hy => h y (List.mem_append_left _ hy)
  have h2 := h x (List.mem_append_right _ (.head _))
  rw [num_snoc, List.length_append, List.length_singleton, Nat.pow_succ]
  calc num b l * b + x < num b l * b + b := by omega
    _ = (num b l + 1) * b := by rw [Nat.add_mul, Nat.one_mul]
    _ ≤ b ^ l.length * b := Nat.mul_le_mul_right _ h1
theorem dig_num {b : Nat} (hb : 0 < b) (l : List Nat) : (∀ x ∈ l, x < b) → dig b l.length (num b l) = l := by
  refine snoc_ind (P := fun l => (∀ x ∈ l, x < b) → dig b l.length (num b l) = l) (fun _ => rfl) (fun l x ih h => ?_) l
  have h1 := ih fun y hy => h y (List.mem_append_left _ hy)
  have h2 := h x (List.mem_append_right _ (.head _))
  rw [List.length_append, List.length_singleton, dig_succ, num_snoc]
  have e1 : (num b l * b + x) / b = num b l := by
    rw [Nat.add_comm, Nat.add_mul_div_right _ _ hb, Nat.div_eq_of_lt h2, Nat.zero_add]
  have e2 : (num b l * b + x) % b = x := by
    rw [Nat.add_comm, Nat.add_mul_mod_self_right, Nat.mod_eq_of_lt h2]
  rw [e1, e2, h1]
theorem num_dig {b : Nat} (hb : 0 < b) : ∀ (m x : Nat), x < b ^ m → num b (dig b m x) = x
  | 0, x, h => by
    have : x = 0 := by simpa using h
    subst this; rfl
  | m + 1, x, h => by
    rw [dig_succ, num_snoc, num_dig hb m (x / b) (by rw [Nat.div_lt_iff_lt_mul hb]; rwa [Nat.pow_succ] at h)]
    have := Nat.div_add_mod x b
    rw [Nat.mul_comm] at this
    exact this
theorem num_app (b : Nat) (l r : List Nat) : num b (l ++ r) = num b l * b ^ r.length + num b r := by
  refine snoc_ind (P := fun r => num b (l ++ r) = num b l * b ^ r.length + num b r) (by simp [num]) (fun r x ih => ?_) r
  rw [← List.append_assoc, num_snoc, ih, num_snoc, List.length_append, List.length_singleton, Nat.pow_succ, Nat.add_mul, Nat.mul_assoc, Nat.add_assoc]

theorem lo {b M x : Nat} (h : x < b) : (M * b + x) / b = M := by
  rw [Nat.mul_comm, Nat.mul_add_div (Nat.lt_of_le_of_lt (Nat.zero_le _) h), Nat.div_eq_of_lt h, Nat.add_zero]
theorem l0 (M x : Nat) : (M % 65536 * 256 + x) % 65536 = (M * 256 + x) % 65536 := by
  rw [Nat.add_mod, Nat.mul_mod, Nat.mod_mod, ← Nat.mul_mod, ← Nat.add_mod]
theorem cutm (y n k d : Nat) (h : d ∣ k) : y % (n * k) / n % d = y / n % d := by rw [Nat.mod_mul_right_div_self, Nat.mod_mod_of_dvd _ h]
theorem l1 (y : Nat) : y % 65536 / 4 % 64 = y / 4 % 64 := cutm y 4 16384 64 (by decide)
theorem l2 (y : Nat) : y % 65536 / 16 % 64 = y / 16 % 64 := cutm y 16 4096 64 (by decide)
theorem l3 (y : Nat) : y % 65536 / 64 % 64 = y / 64 % 64 := cutm y 64 1024 64 (by decide)
theorem l4 (y : Nat) : y % 65536 % 64 = y % 64 := Nat.mod_mod_of_dvd y (by decide)
theorem dd {b M x : Nat} (u v c : Nat) (h : x < b) (e : u * v = b * c) : (M * b + x) / u / v = M / c := by rw [Nat.div_div_eq_div_mul, e, ← Nat.div_div_eq_div_mul, lo h]
theorem d4 {M x : Nat} (h : x < 256) : (M * 256 + x) / 4 / 64 = M := by rw [dd 4 64 1 h rfl, Nat.div_one]
theorem d16 {M x : Nat} (h : x < 256) : (M * 256 + x) / 16 / 64 = M / 4 := dd 16 64 4 h rfl
theorem d64 {M x : Nat} (h : x < 256) : (M * 256 + x) / 64 / 64 = M / 16 := dd 64 64 16 h rfl
theorem e16 (M : Nat) : M % 65536 % 4 * 16 = M * 2 ^ 4 % 64 := by rw [Nat.mod_mod_of_dvd M (by decide : 4 ∣ 65536)]; exact (Nat.mul_mod_mul_right 16 M 4).symm
theorem e16d (M : Nat) : M * 2 ^ 4 / 64 = M / 4 := Nat.mul_div_mul_right M 4 (by decide : 0 < 16)
theorem e4 (M : Nat) : M % 65536 % 16 * 4 = M * 2 ^ 2 % 64 := by rw [Nat.mod_mod_of_dvd M (by decide : 16 ∣ 65536)]; exact (Nat.mul_mod_mul_right 4 M 16).symm
theorem e4d (M : Nat) : M * 2 ^ 2 / 64 = M / 16 := Nat.mul_div_mul_right M 16 (by decide : 0 < 4)
theorem a64 {M x : Nat} (h : x < 64) : (M * 64 + x) % 64 = x := by rw [Nat.add_comm, Nat.add_mul_mod_self_right, Nat.mod_eq_of_lt h]
theorem a64d {M x : Nat} (h : x < 64) : (M * 64 + x) / 64 = M := lo h
theorem a16 (M x : Nat) : (M * 64 + x) % 16 = x % 16 := by rw [show M * 64 = M * 4 * 16 from (Nat.mul_assoc M 4 16).symm, Nat.add_comm, Nat.add_mul_mod_self_right]
theorem a16d {M x : Nat} (h : x < 64) : (M * 64 + x) / 16 / 256 = M / 64 := dd 16 256 64 h rfl
theorem a16m {M x : Nat} (h : x < 64) : (M * 64 + x) / 16 % 256 = M % 64 * 4 + x / 16 := by omega
theorem a4 (M x : Nat) : (M * 64 + x) % 4 = x % 4 := by rw [show M * 64 = M * 16 * 4 from (Nat.mul_assoc M 16 4).symm, Nat.add_comm, Nat.add_mul_mod_self_right]
theorem a4d {M x : Nat} (h : x < 64) : (M * 64 + x) / 4 / 256 = M / 16 := dd 4 256 16 h rfl
theorem a4m {M x : Nat} (h : x < 64) : (M * 64 + x) / 4 % 256 = M % 16 * 16 + x / 4 := by omega
theorem a1d {M x : Nat} (h : x < 64) : (M * 64 + x) / 256 = M / 4 := by
  have := dd 256 1 4 (M := M) h rfl
  rwa [Nat.div_one] at this
theorem a1m {M x : Nat} (h : x < 64) : (M * 64 + x) % 256 = M % 4 * 64 + x := by omega
/-- what b2a does, told by the number -/
theorem b2a_num (l : List Nat) : (∀ x ∈ l, x < 256) → ∃ j, (l.length = 3 * j ∧ b2aSt l = (num 256 l % 65536, 0, (dig 64 (4 * j) (num 256 l)).map sg)) ∨
    (l.length = 3 * j + 1 ∧ b2aSt l = (num 256 l % 65536, 2, (dig 64 (4 * j + 1) (num 256 l / 4)).map sg)) ∨ (l.length = 3 * j + 2 ∧ b2aSt l = (num 256 l % 65536, 4, (dig 64 (4 * j + 2) (num 256 l / 16)).map sg)) := by
  refine snoc_ind (P := fun l => (∀ x ∈ l, x < 256) → ∃ j, (l.length = 3 * j ∧ b2aSt l = (num 256 l % 65536, 0, (dig 64 (4 * j) (num 256 l)).map sg)) ∨
    (l.length = 3 * j + 1 ∧ b2aSt l = (num 256 l % 65536, 2, (dig 64 (4 * j + 1) (num 256 l / 4)).map sg)) ∨ (l.length = 3 * j + 2 ∧ b2aSt l = (num 256 l % 65536, 4, (dig 64 (4 * j + 2) (num 256 l / 16)).map sg)))
    (fun _ => ⟨0, .inl ⟨rfl, rfl⟩⟩) (fun l x ih h => ?_) l
  have hx := h x (List.mem_append_right _ (.head _))
  obtain ⟨j, h1⟩ := ih fun y hy => h y (List.mem_append_left _ hy)
  rw [b2aSt_snoc, num_snoc, List.length_append, List.length_singleton]
  generalize num 256 l = M at *
  rcases h1 with ⟨hl, e⟩ | ⟨hl, e⟩ | ⟨hl, e⟩
  · refine ⟨j, .inr (.inl ⟨by omega, ?_⟩)⟩
    rw [e, b2aStep]
    dsimp only
    rw [if_pos rfl, dig_succ, List.map_append, List.map_cons, List.map_nil, l0,
      l1, d4 hx]
  · refine ⟨j, .inr (.inr ⟨by omega, ?_⟩)⟩
    rw [e, b2aStep]
    dsimp only
    rw [if_neg (by decide), if_pos rfl, dig_succ 64 (4 * j + 1) ((M * 256 + x) / 16), List.map_append, List.map_cons, List.map_nil, l0,
      l2, d16 hx]
  · refine ⟨j + 1, .inl ⟨by omega, ?_⟩⟩
    rw [e, b2aStep]
    dsimp only
    rw [if_neg (by decide), if_neg (by decide), show 4 * (j + 1) = 4 * j + 2 + 1 + 1 by omega, dig_succ 64 (4 * j + 2 + 1) (M * 256 + x), dig_succ 64 (4 * j + 2) ((M * 256 + x) / 64), List.map_append, List.map_append, List.map_cons, List.map_nil, List.map_cons, List.map_nil,
      l0, l3,
      l4, d64 hx, List.append_assoc]
    rfl
/-- the figures of a row -/
noncomputable def cnt (n : Nat) : Nat := (8 * n + 5) / 6
noncomputable def figs (l : List Nat) : List Nat := dig 64 (cnt l.length) (num 256 l * 2 ^ (6 * cnt l.length - 8 * l.length))
noncomputable def pad (m : Nat) : Nat := (4 - m % 4) % 4
noncomputable def signs (fs : List Nat) : List Nat := fs.map sg ++ List.replicate (pad fs.length) 61
theorem figs_len (l : List Nat) : (figs l).length = cnt l.length := dig_len ..
theorem figs_lt (l : List Nat) : ∀ f ∈ figs l, f < 64 := dig_lt (by decide) _ _
theorem enc_signs {l : List Nat} (h : ∀ x ∈ l, x < 256) : encOf l = signs (figs l) := by
  obtain ⟨j, h1⟩ := b2a_num l h
  unfold encOf signs
  rw [figs_len]
  unfold figs
  generalize num 256 l = M at *
  rcases h1 with ⟨hl, e⟩ | ⟨hl, e⟩ | ⟨hl, e⟩
  · have hc : cnt l.length = 4 * j := by unfold cnt; omega
    have hp : pad (4 * j) = 0 := by unfold pad; omega
    rw [e, hc, hl, hp, show 6 * (4 * j) - 8 * (3 * j) = 0 by omega]
    simp [b2aFin]
  · have hc : cnt l.length = 4 * j + 1 + 1 := by unfold cnt; omega
    have hp : pad (4 * j + 1 + 1) = 2 := by unfold pad; omega
    rw [e, hc, hl, hp, show 6 * (4 * j + 1 + 1) - 8 * (3 * j + 1) = 4 by omega, dig_succ 64 (4 * j + 1) (M * 2 ^ 4), b2aFin]
    dsimp only
    rw [if_pos rfl, e16, e16d]
    simp [List.replicate]
  · have hc : cnt l.length = 4 * j + 2 + 1 := by unfold cnt; omega
    have hp : pad (4 * j + 2 + 1) = 1 := by unfold pad; omega
    rw [e, hc, hl, hp, show 6 * (4 * j + 2 + 1) - 8 * (3 * j + 2) = 2 by omega, dig_succ 64 (4 * j + 2) (M * 2 ^ 2), b2aFin]
    dsimp only
    rw [if_neg (by decide), if_pos rfl, e4, e4d]
    simp [List.replicate]
/-- what a2b does, told by the number -/
theorem a2b_num (fs : List Nat) : (∀ f ∈ fs, f < 64) → ∃ j, (fs.length = 4 * j ∧ a2bSt (fs.map sg) = (0, 0, 0, dig 256 (3 * j) (num 64 fs))) ∨ (fs.length = 4 * j + 1 ∧ a2bSt (fs.map sg) = (1, num 64 fs % 64, 0, dig 256 (3 * j) (num 64 fs / 64))) ∨
    (fs.length = 4 * j + 2 ∧ a2bSt (fs.map sg) = (2, num 64 fs % 16, 0, dig 256 (3 * j + 1) (num 64 fs / 16))) ∨ (fs.length = 4 * j + 3 ∧ a2bSt (fs.map sg) = (3, num 64 fs % 4, 0, dig 256 (3 * j + 2) (num 64 fs / 4))) := by
  refine snoc_ind (P := fun fs => (∀ f ∈ fs, f < 64) → ∃ j, (fs.length = 4 * j ∧ a2bSt (fs.map sg) = (0, 0, 0, dig 256 (3 * j) (num 64 fs))) ∨ (fs.length = 4 * j + 1 ∧ a2bSt (fs.map sg) = (1, num 64 fs % 64, 0, dig 256 (3 * j) (num 64 fs / 64))) ∨
    (fs.length = 4 * j + 2 ∧ a2bSt (fs.map sg) = (2, num 64 fs % 16, 0, dig 256 (3 * j + 1) (num 64 fs / 16))) ∨ (fs.length = 4 * j + 3 ∧ a2bSt (fs.map sg) = (3, num 64 fs % 4, 0, dig 256 (3 * j + 2) (num 64 fs / 4))))
    (fun _ => ⟨0, .inl ⟨rfl, rfl⟩⟩) (fun l x ih h => ?_) fs
  have hx := h x (List.mem_append_right _ (.head _))
  obtain ⟨j, h1⟩ := ih fun y hy => h y (List.mem_append_left _ hy)
  rw [List.map_append, List.map_cons, List.map_nil, a2bSt_snoc, num_snoc, List.length_append, List.length_singleton]
  generalize num 64 l = M at *
  rcases h1 with ⟨hl, e⟩ | ⟨hl, e⟩ | ⟨hl, e⟩ | ⟨hl, e⟩
  · refine ⟨j, .inr (.inl ⟨by omega, ?_⟩)⟩
    rw [e, a2b_sg hx, if_pos rfl, a64 hx, a64d hx]
  · refine ⟨j, .inr (.inr (.inl ⟨by omega, ?_⟩))⟩
    rw [e, a2b_sg hx, if_neg (by simp), if_pos rfl, dig_succ 256 (3 * j) ((M * 64 + x) / 16), a16, a16d hx,
      a16m hx]
  · refine ⟨j, .inr (.inr (.inr ⟨by omega, ?_⟩))⟩
    rw [e, a2b_sg hx, if_neg (by simp), if_neg (by simp), if_pos rfl, show 3 * j + 2 = 3 * j + 1 + 1 by omega, dig_succ 256 (3 * j + 1) ((M * 64 + x) / 4), a4, a4d hx,
      a4m hx]
  · refine ⟨j + 1, .inl ⟨by omega, ?_⟩⟩
    rw [e, a2b_sg hx, if_neg (by simp), if_neg (by simp), if_neg (by simp), show 3 * (j + 1) = 3 * j + 2 + 1 by omega, dig_succ 256 (3 * j + 2) (M * 64 + x), a1d hx,
      a1m hx]
noncomputable def octs (fs : List Nat) : List Nat := dig 256 (6 * fs.length / 8) (num 64 fs / 2 ^ (6 * fs.length - 8 * (6 * fs.length / 8)))
theorem a2b_pad (σ : Nat × Nat × Nat × List Nat) : ∀ p, (List.replicate p 61).foldl a2bStep σ = (σ.1, σ.2.1, σ.2.2.1 + p, σ.2.2.2)
  | 0 => rfl
  | p + 1 => by
    rw [List.replicate_succ, List.foldl_cons, a2b_pad _ p, a2bStep, if_pos rfl]
    dsimp only
    rw [show σ.2.2.1 + 1 + p = σ.2.2.1 + (p + 1) by omega]
theorem dec_signs {fs : List Nat} (h : ∀ f ∈ fs, f < 64) (h1 : fs.length % 4 ≠ 1) : (a2bSt (signs fs)).2.2.2 = octs fs ∧ (a2bSt (signs fs)).1 ≠ 1 ∧ ((a2bSt (signs fs)).1 = 0 ∨ 4 ≤ (a2bSt (signs fs)).1 + (a2bSt (signs fs)).2.2.1) := by
  obtain ⟨j, h2⟩ := a2b_num fs h
  have e : a2bSt (signs fs) = ((a2bSt (fs.map sg)).1, (a2bSt (fs.map sg)).2.1, (a2bSt (fs.map sg)).2.2.1 + pad fs.length, (a2bSt (fs.map sg)).2.2.2) := by
    unfold signs
    rw [a2bSt, List.foldl_append, a2b_pad]; rfl
  rw [e]
  dsimp only
  unfold octs
  rcases h2 with ⟨hl, e2⟩ | ⟨hl, e2⟩ | ⟨hl, e2⟩ | ⟨hl, e2⟩
  · rw [e2, show 6 * fs.length / 8 = 3 * j by omega, show 6 * fs.length - 8 * (3 * j) = 0 by omega, Nat.pow_zero, Nat.div_one]
    exact ⟨rfl, by simp, .inl rfl⟩
  · exact absurd (by omega) h1
  · rw [e2, show 6 * fs.length / 8 = 3 * j + 1 by omega, show 6 * fs.length - 8 * (3 * j + 1) = 4 by omega]
    have : pad fs.length = 2 := by unfold pad; omega
    exact ⟨rfl, by simp, .inr (by rw [this]; simp)⟩
  · rw [e2, show 6 * fs.length / 8 = 3 * j + 2 by omega, show 6 * fs.length - 8 * (3 * j + 2) = 2 by omega]
    have : pad fs.length = 1 := by unfold pad; omega
    exact ⟨rfl, by simp, .inr (by rw [this]; simp)⟩
end Mine
end

section
open PySem PySem.W
set_option Elab.async false
set_option maxRecDepth 100000
namespace Mine
/-! the smudge, told by numbers -/
noncomputable def le : List Nat → Nat
  | [] => 0
  | e :: r => e + 256 * le r
theorem genIt_zero : ∀ n, genIt n 0 = 0
  | 0 => rfl
  | n + 1 => by rw [genIt, genIt_zero n]; rfl
theorem gen_even2 (y : Nat) : genStep (2 * y) = y := by
  unfold genStep
  rw [if_neg (by omega)]; omega
theorem genIt_shift (c : Nat) : ∀ n, genIt (n + 1) c = genIt n (genStep c)
  | 0 => rfl
  | n + 1 => by rw [genIt, genIt_shift c n]; rfl
theorem genIt_pow (x : Nat) : ∀ n, genIt n (2 ^ n * x) = x
  | 0 => by simp [genIt]
  | n + 1 => by rw [genIt_shift, show 2 ^ (n + 1) * x = 2 * (2 ^ n * x) by rw [Nat.pow_succ]; rw [Nat.mul_comm (2 ^ n) 2, Nat.mul_assoc], gen_even2, genIt_pow x n]
theorem le_xor {e x : Nat} (h : e < 256) : e + 256 * x = e ^^^ 256 * x := by
  apply Nat.eq_of_testBit_eq
  intro i
  have e1 : e + 256 * x = 2 ^ 8 * x + e := by omega
  rw [e1, Nat.testBit_xor, Nat.testBit_two_pow_mul_add x (i := 8) h, show 256 * x = 2 ^ 8 * x from rfl, Nat.testBit_two_pow_mul]
  by_cases hi : i < 8
  · rw [if_pos hi]
    have : decide (i ≥ 8) = false := decide_eq_false (by omega)
    rw [this]; simp
  · rw [if_neg hi]
    have h2 : e.testBit i = false := Nat.testBit_lt_two_pow (Nat.lt_of_lt_of_le h (Nat.pow_le_pow_right (n := 2) (i := 8) (by decide) (by omega)))
    have : decide (i ≥ 8) = true := decide_eq_true (by omega)
    rw [h2, this]; simp
theorem stOf_le : ∀ (E : List Nat) (c : Nat), (∀ x ∈ E, x < 256) → stOf c E = genIt (8 * E.length) (c ^^^ le E)
  | [], c, _ => by simp [stOf, le, genIt]
  | e :: r, c, h => by
    have h1 : stOf c (e :: r) = stOf (genIt 8 (c ^^^ e)) r := rfl
    rw [h1, stOf_le r _ fun x hx => h x (.tail _ hx), List.length_cons, Nat.mul_add, Nat.mul_one, Nat.add_comm (8 * r.length) 8, genIt_add, le, le_xor (h e (.head _)), ← Nat.xor_assoc]
    have e9 : genIt 8 (c ^^^ e ^^^ 256 * le r) = genIt 8 (c ^^^ e) ^^^ le r := by
      rw [genIt_xor 8 (c ^^^ e)]
      exact congrArg (fun z => genIt 8 (c ^^^ e) ^^^ z) (genIt_pow (le r) 8)
    rw [e9]
theorem stOf_zip : ∀ (r s : List Nat) (a b : Nat), r.length = s.length → stOf a r ^^^ stOf b s = stOf (a ^^^ b) (List.zipWith (· ^^^ ·) r s)
  | [], [], _, _, _ => rfl
  | x :: r, y :: s, a, b, h => by
    have h1 : stOf a (x :: r) = stOf (genIt 8 (a ^^^ x)) r := rfl
    have h2 : stOf b (y :: s) = stOf (genIt 8 (b ^^^ y)) s := rfl
    have h3 : stOf (a ^^^ b) (List.zipWith (· ^^^ ·) (x :: r) (y :: s)) = stOf (genIt 8 (a ^^^ b ^^^ (x ^^^ y))) (List.zipWith (· ^^^ ·) r s) := rfl
    rw [h1, h2, h3, stOf_zip r s _ _ (by simpa using h), ← genIt_xor]
    congr 2
    apply Nat.eq_of_testBit_eq
    intro i
    simp only [Nat.testBit_xor]
    cases a.testBit i <;> cases b.testBit i <;> cases x.testBit i <;> cases y.testBit i <;> rfl
  | [], _ :: _, _, _, h => by simp at h
  | _ :: _, [], _, _, h => by simp at h
theorem stOf_zeros : ∀ (k : Nat) (r : List Nat), (∀ j, j < k → r.getD j 0 = 0) → k ≤ r.length → stOf 0 r = stOf 0 (r.drop k)
  | 0, _, _, _ => rfl
  | k + 1, [], _, h => by simp at h
  | k + 1, x :: r, h, hl => by
    have hx : x = 0 := h 0 (by omega)
    subst hx
    have h1 : stOf 0 (0 :: r) = stOf (genIt 8 (0 ^^^ 0)) r := rfl
    rw [h1, Nat.xor_self, genIt_zero, List.drop_succ_cons, stOf_zeros k r (fun j hj => h (j + 1) (by omega)) (by simpa using hl)]
theorem le_lt : ∀ (e : Nat) (X : List Nat), (∀ x ∈ X, x < 256) → (∀ j, e ≤ j → X.getD j 0 = 0) → le X < 256 ^ e
  | _, [], _, _ => Nat.pow_pos (by decide)
  | 0, x :: r, h, hz => by
    have hx : x = 0 := hz 0 (Nat.le_refl _)
    have := le_lt 0 r (fun y hy => h y (.tail _ hy)) fun j _ => hz (j + 1) (by omega)
    rw [le, hx]
    simp only [Nat.pow_zero] at this ⊢
    omega
  | e + 1, x :: r, h, hz => by
    have h1 := le_lt e r (fun y hy => h y (.tail _ hy)) fun j hj => hz (j + 1) (by omega)
    have hx := h x (.head _)
    rw [le, Nat.pow_succ]
    omega
theorem le_dig : ∀ (j : Nat) (X : List Nat), (∀ x ∈ X, x < 256) → le X / 256 ^ j % 256 = X.getD j 0
  | _, [], _ => by simp [le]
  | 0, x :: r, h => by
    have hx := h x (.head _)
    rw [le, Nat.pow_zero, Nat.div_one]
    show (x + 256 * le r) % 256 = x
    omega
  | j + 1, x :: r, h => by
    have hx := h x (.head _)
    rw [le, show (256 : Nat) ^ (j + 1) = 256 * 256 ^ j by rw [Nat.pow_succ, Nat.mul_comm], ← Nat.div_div_eq_div_mul, show (x + 256 * le r) / 256 = le r by omega, le_dig j r fun y hy => h y (.tail _ hy)]
    rfl
/-- the law's own way back -/
noncomputable def startOf (c : Nat) (row : List Nat) : Nat := row.foldl (fun s o => backIt 8 s ^^^ o) c
theorem start_ones (row : List Nat) : (∀ x ∈ row, x < 256) → ∀ c, c < 4294967296 → startOf (stOf c row) row.reverse = c := by
  refine snoc_ind (P := fun row => (∀ x ∈ row, x < 256) → ∀ c, c < 4294967296 → startOf (stOf c row) row.reverse = c) (fun _ _ _ => rfl) (fun l x ih h c hc => ?_) row
  have hl := fun y hy => h y (List.mem_append_left _ hy)
  have hx := h x (List.mem_append_right _ (.head _))
  have h1 : stOf c (l ++ [x]) = genIt 8 (stOf c l ^^^ x) := by simp [stOf, List.foldl_append]
  have h2 := stOf_lt l c hc hl
  rw [List.reverse_append, List.reverse_singleton, List.singleton_append, h1]
  show startOf (backIt 8 (genIt 8 (stOf c l ^^^ x)) ^^^ x) l.reverse = c
  rw [backIt_genIt (Nat.xor_lt_two_pow (n := 32) h2 (by omega)), xor_cut, ih hl c hc]

theorem dig_get (b m x k : Nat) (h : k < m) : (dig b m x).getD k 0 = x / b ^ (m - 1 - k) % b := by
  unfold dig
  rw [List.getD_eq_getElem?_getD, List.getElem?_map, List.getElem?_range h]; rfl
/-- octet k of a number of m figures -/
theorem octs_get (fs : List Nat) (k : Nat) (h : k < 6 * fs.length / 8) : (octs fs).getD k 0 = num 64 fs / 2 ^ (6 * fs.length - 8 * k - 8) % 256 := by
  unfold octs
  rw [dig_get _ _ _ _ h, Nat.div_div_eq_div_mul, show (256 : Nat) = 2 ^ 8 from rfl, ← Nat.pow_mul, ← Nat.pow_add]
  congr 3
  have hc := Nat.mul_div_le (6 * fs.length) 8
  generalize 6 * fs.length / 8 = c at *
  omega
theorem hi_same {A X X' B B' w q t : Nat} (h1 : X * 64 ^ q + B < 64 ^ (w + q)) (h2 : X' * 64 ^ q + B' < 64 ^ (w + q)) (ht : 6 * (w + q) ≤ t) :
    ((A * 64 ^ w + X) * 64 ^ q + B) / 2 ^ t = ((A * 64 ^ w + X') * 64 ^ q + B') / 2 ^ t := by
  have e0 : (2 : Nat) ^ t = 64 ^ (w + q) * 2 ^ (t - 6 * (w + q)) := by
    rw [show (64 : Nat) = 2 ^ 6 from rfl, ← Nat.pow_mul, ← Nat.pow_add]
    congr 1; omega
  have e : ∀ Y C, Y * 64 ^ q + C < 64 ^ (w + q) → ((A * 64 ^ w + Y) * 64 ^ q + C) / 64 ^ (w + q) = A := by
    intro Y C hY
    rw [Nat.add_mul, Nat.mul_assoc, ← Nat.pow_add, Nat.add_assoc, Nat.add_comm, Nat.add_mul_div_right _ _ (Nat.pow_pos (by decide)), Nat.div_eq_of_lt hY, Nat.zero_add]
  rw [e0, ← Nat.div_div_eq_div_mul, ← Nat.div_div_eq_div_mul, e X B h1, e X' B' h2]
theorem lo_same {P P' B q t : Nat} (ht : t + 8 ≤ 6 * q) : (P * 64 ^ q + B) / 2 ^ t % 256 = (P' * 64 ^ q + B) / 2 ^ t % 256 := by
  have e : ∀ P, (P * 64 ^ q + B) / 2 ^ t % 256 = B % (2 ^ t * 256) / 2 ^ t := by
    intro P
    rw [← Nat.mod_mul_right_div_self]
    congr 1
    have e1 : P * 64 ^ q = (2 ^ t * 256) * (2 ^ (6 * q - (t + 8)) * P) := by
      rw [show (64 : Nat) = 2 ^ 6 from rfl, ← Nat.pow_mul, show (256 : Nat) = 2 ^ 8 from rfl, ← Nat.pow_add, ← Nat.mul_assoc, ← Nat.pow_add, show t + 8 + (6 * q - (t + 8)) = 6 * q by omega, Nat.mul_comm]
    rw [e1, Nat.add_comm, Nat.add_mul_mod_self_left]
  rw [e P, e P']
end Mine
end

section
open PySem PySem.W
set_option Elab.async false
set_option maxRecDepth 100000
namespace Mine
/-! what a smudge does to the octets, and how it is mended -/
theorem cnt_six (n : Nat) : 6 * cnt n / 8 = n := by unfold cnt; omega
theorem cnt_ge (n : Nat) : 8 * n ≤ 6 * cnt n := by unfold cnt; omega
theorem cnt_no1 (n : Nat) : cnt n % 4 ≠ 1 := by unfold cnt; omega
theorem pow64 (m : Nat) : (64 : Nat) ^ m = 2 ^ (6 * m) := by rw [show (64 : Nat) = 2 ^ 6 from rfl, ← Nat.pow_mul]
theorem pow256 (m : Nat) : (256 : Nat) ^ m = 2 ^ (8 * m) := by rw [show (256 : Nat) = 2 ^ 8 from rfl, ← Nat.pow_mul]
theorem num_figs {l : List Nat} (h : ∀ x ∈ l, x < 256) : num 64 (figs l) = num 256 l * 2 ^ (6 * cnt l.length - 8 * l.length) := by
  unfold figs
  refine num_dig (by decide) _ _ ?_
  have h1 := num_lt (b := 256) (by decide) l h
  have h2 := cnt_ge l.length
  have h3 : (64 : Nat) ^ cnt l.length = 256 ^ l.length * 2 ^ (6 * cnt l.length - 8 * l.length) := by
    rw [pow64, pow256, ← Nat.pow_add]; congr 1; omega
  rw [h3]
  exact Nat.mul_lt_mul_of_pos_right h1 (Nat.two_pow_pos _)
theorem octs_figs {l : List Nat} (h : ∀ x ∈ l, x < 256) : octs (figs l) = l := by
  unfold octs
  rw [figs_len, cnt_six, num_figs h, Nat.mul_div_cancel _ (Nat.two_pow_pos _)]
  exact dig_num (by decide) l h
theorem octs_len (fs : List Nat) : (octs fs).length = 6 * fs.length / 8 := dig_len ..
theorem octs_lt (fs : List Nat) : ∀ x ∈ octs fs, x < 256 := dig_lt (by decide) _ _

noncomputable def spoil (fs : List Nat) (p : Nat) (S : List Nat) : List Nat := fs.take p ++ S ++ fs.drop (p + S.length)
theorem spoil_len {fs S : List Nat} {p : Nat} (h : p + S.length ≤ fs.length) : (spoil fs p S).length = fs.length := by
  simp only [spoil, List.length_append, List.length_take, List.length_drop]; omega
theorem spoil_lt {fs S : List Nat} {p : Nat} (h : ∀ f ∈ fs, f < 64) (hS : ∀ f ∈ S, f < 64) : ∀ f ∈ spoil fs p S, f < 64 := by
  intro f hf
  rcases List.mem_append.mp hf with hf | hf
  · rcases List.mem_append.mp hf with hf | hf
    · exact h f (List.mem_of_mem_take hf)
    · exact hS f hf
  · exact h f (List.mem_of_mem_drop hf)
theorem num_spoil (fs S : List Nat) (p : Nat) : num 64 (spoil fs p S) = (num 64 (fs.take p) * 64 ^ S.length + num 64 S) * 64 ^ (fs.length - (p + S.length)) + num 64 (fs.drop (p + S.length)) := by
  unfold spoil
  rw [num_app, num_app, List.length_drop]
theorem spoil_self {fs : List Nat} {p w : Nat} (h : p + w ≤ fs.length) : spoil fs p ((fs.drop p).take w) = fs ∧ ((fs.drop p).take w).length = w := by
  have e : ((fs.drop p).take w).length = w := by rw [List.length_take, List.length_drop]; omega
  refine ⟨?_, e⟩
  unfold spoil
  rw [e, List.append_assoc]
  have h1 : (fs.drop p).take w ++ fs.drop (p + w) = fs.drop p := by
    rw [← List.drop_drop]; exact List.take_append_drop w _
  rw [h1, List.take_append_drop]
theorem num_tail_lt {fs S : List Nat} {p : Nat} (h : ∀ f ∈ fs, f < 64) (hS : ∀ f ∈ S, f < 64) (hl : p + S.length ≤ fs.length) :
    num 64 S * 64 ^ (fs.length - (p + S.length)) + num 64 (fs.drop (p + S.length)) < 64 ^ (S.length + (fs.length - (p + S.length))) := by
  have e := num_app 64 S (fs.drop (p + S.length))
  rw [List.length_drop] at e
  rw [← e]
  have h1 := num_lt (b := 64) (by decide) (S ++ fs.drop (p + S.length)) fun x hx => (List.mem_append.mp hx).elim (hS x) fun q => h x (List.mem_of_mem_drop q)
  rw [List.length_append, List.length_drop] at h1
  exact h1
theorem spoil_get {fs S S' : List Nat} {p k : Nat} (h : ∀ f ∈ fs, f < 64) (hS : ∀ f ∈ S, f < 64) (hS' : ∀ f ∈ S', f < 64) (e : S'.length = S.length) (hl : p + S.length ≤ fs.length) (hk : k < 6 * fs.length / 8)
    (hc : 8 * k + 8 ≤ 6 * p ∨ 6 * (p + S.length) ≤ 8 * k) : (octs (spoil fs p S)).getD k 0 = (octs (spoil fs p S')).getD k 0 := by
  have l1 := spoil_len hl
  have l2 := spoil_len (fs := fs) (S := S') (p := p) (by rw [e]; exact hl)
  rw [octs_get _ _ (by rw [l1]; exact hk), octs_get _ _ (by rw [l2]; exact hk), l1, l2, num_spoil, num_spoil, e]
  rcases hc with hc | hc
  · congr 1
    have b1 := num_tail_lt h hS hl
    have b2 := num_tail_lt (p := p) h hS' (by rw [e]; exact hl)
    rw [e] at b2
    exact hi_same b1 b2 (by omega)
  · exact lo_same (by omega)

structure Smudge (r : List Nat) (p : Nat) (S : List Nat) : Prop where
  oct : ∀ x ∈ r, x < 256
  sig : ∀ x ∈ S, x < 64
  fit : p + S.length ≤ cnt r.length
  w4 : S.length ≤ 4
noncomputable def gotOf (r : List Nat) (p : Nat) (S : List Nat) : List Nat := octs (spoil (figs r) p S)
section
variable {r S : List Nat} {p : Nat}
theorem Smudge.len (h : Smudge r p S) : (gotOf r p S).length = r.length := by
  unfold gotOf
  rw [octs_len, spoil_len (by rw [figs_len]; exact h.fit), figs_len, cnt_six]
theorem Smudge.same (h : Smudge r p S) {k : Nat} (hk : k < r.length) (hc : 8 * k + 8 ≤ 6 * p ∨ 6 * (p + S.length) ≤ 8 * k) : (gotOf r p S).getD k 0 = r.getD k 0 := by
  have hl : p + S.length ≤ (figs r).length := by rw [figs_len]; exact h.fit
  obtain ⟨e1, e2⟩ := spoil_self hl
  have h1 := spoil_get (S' := ((figs r).drop p).take S.length) (figs_lt r) h.sig (fun f hf => figs_lt r f (List.mem_of_mem_drop (List.mem_of_mem_take hf))) e2 hl (by rw [figs_len, cnt_six]; exact hk) hc
  rw [e1, octs_figs h.oct] at h1
  exact h1
noncomputable def xorOf (a b : List Nat) : List Nat := List.zipWith (· ^^^ ·) a b
theorem xorOf_get : ∀ (a b : List Nat) (k : Nat), a.length = b.length → (xorOf a b).getD k 0 = a.getD k 0 ^^^ b.getD k 0
  | [], [], k, _ => by simp [xorOf]
  | x :: a, y :: b, 0, _ => rfl
  | x :: a, y :: b, k + 1, h => by
    have := xorOf_get a b k (by simpa using h)
    simpa [xorOf] using this
  | [], _ :: _, _, h => by simp at h
  | _ :: _, [], _, h => by simp at h
theorem xorOf_len (a b : List Nat) (h : a.length = b.length) : (xorOf a b).length = b.length := by simp [xorOf, h]
theorem xorOf_lt : ∀ {a b : List Nat}, (∀ x ∈ a, x < 256) → (∀ x ∈ b, x < 256) → ∀ x ∈ xorOf a b, x < 256
  | [], [], _, _, _, hx => nomatch hx
  | [], _ :: _, _, _, _, hx => nomatch hx
  | _ :: _, [], _, _, _, hx => nomatch hx
  | u :: a, v :: b, ha, hb, x, hx => by
    rcases List.mem_cons.mp (show x ∈ (u ^^^ v) :: xorOf a b from hx) with rfl | hx
    · exact Nat.xor_lt_two_pow (n := 8) (ha u (.head _)) (hb v (.head _))
    · exact xorOf_lt (fun y hy => ha y (.tail _ hy)) (fun y hy => hb y (.tail _ hy)) x hx
theorem drop_get (X : List Nat) (f j : Nat) : (X.drop f).getD j 0 = X.getD (f + j) 0 := by
  rw [List.getD_eq_getElem?_getD, List.getD_eq_getElem?_getD, List.getElem?_drop]
theorem get_out {X : List Nat} {j : Nat} (h : X.length ≤ j) : X.getD j 0 = 0 := by
  rw [List.getD_eq_getElem?_getD, List.getElem?_eq_none h]; rfl
noncomputable def lastOf (r : List Nat) (p w : Nat) : Nat := min r.length ((6 * (p + w) + 7) / 8)
theorem Smudge.zero (h : Smudge r p S) (k : Nat) (hk : k < 6 * p / 8 ∨ lastOf r p S.length ≤ k) : (xorOf (gotOf r p S) r).getD k 0 = 0 := by
  by_cases hn : k < r.length
  · rw [xorOf_get _ _ _ h.len, h.same hn (by unfold lastOf at hk; omega), Nat.xor_self]
  · exact get_out (by rw [xorOf_len _ _ h.len]; omega)
theorem Smudge.gotlt (_h : Smudge r p S) : ∀ x ∈ gotOf r p S, x < 256 := octs_lt _
theorem Smudge.xlt (h : Smudge r p S) : ∀ x ∈ (xorOf (gotOf r p S) r).drop (6 * p / 8), x < 256 := fun x hx => xorOf_lt h.gotlt h.oct x (List.mem_of_mem_drop hx)
theorem Smudge.lelt (h : Smudge r p S) : le ((xorOf (gotOf r p S) r).drop (6 * p / 8)) < 256 ^ (lastOf r p S.length - 6 * p / 8) :=
  le_lt _ _ h.xlt fun j hj => by rw [drop_get]; exact h.zero _ (.inr (by omega))
theorem Smudge.width (h : Smudge r p S) : lastOf r p S.length - 6 * p / 8 ≤ 4 := by
  have := h.w4
  unfold lastOf; omega
theorem Smudge.first (h : Smudge r p S) : 6 * p / 8 ≤ r.length := by
  have h1 := h.fit
  have h2 := cnt_six r.length
  omega
theorem Smudge.crc (h : Smudge r p S) : sumOf (gotOf r p S) ^^^ sumOf r = stOf 0 (xorOf (gotOf r p S) r) := by
  rw [sumOf_eq h.gotlt, sumOf_eq h.oct]
  have e := stOf_zip (gotOf r p S) r 4294967295 4294967295 h.len
  rw [Nat.xor_self] at e
  show _ = stOf 0 (List.zipWith _ _ _)
  rw [← e]
  generalize stOf 4294967295 (gotOf r p S) = A
  generalize stOf 4294967295 r = B
  apply Nat.eq_of_testBit_eq
  intro i
  simp only [Nat.testBit_xor]
  cases A.testBit i <;> cases B.testBit i <;> cases Nat.testBit 4294967295 i <;> rfl
noncomputable def flipsOf (r : List Nat) (p : Nat) (S : List Nat) : Nat := le ((xorOf (gotOf r p S) r).drop (6 * p / 8))
theorem Smudge.flips (h : Smudge r p S) : backIt (8 * (r.length - 6 * p / 8)) (sumOf (gotOf r p S) ^^^ sumOf r) = flipsOf r p S := by
  have hf := h.first
  have el := xorOf_len _ _ h.len
  have hx := h.xlt
  rw [h.crc, stOf_zeros (6 * p / 8) _ (fun j hj => h.zero j (.inl hj)) (by rw [el]; exact hf), stOf_le _ _ hx, Nat.zero_xor, List.length_drop, el]
  refine backIt_genIt ?_ _
  refine Nat.lt_of_lt_of_le h.lelt ?_
  exact Nat.pow_le_pow_right (n := 256) (by decide) h.width
theorem Smudge.small (h : Smudge r p S) : flipsOf r p S < 256 ^ (lastOf r p S.length - 6 * p / 8) := h.lelt
theorem Smudge.mend (h : Smudge r p S) {k : Nat} (h1 : 6 * p / 8 ≤ k) : (gotOf r p S).getD k 0 ^^^ flipsOf r p S / 256 ^ (k - 6 * p / 8) % 256 = r.getD k 0 := by
  unfold flipsOf
  rw [le_dig _ _ h.xlt, drop_get, show 6 * p / 8 + (k - 6 * p / 8) = k by omega, xorOf_get _ _ _ h.len, ← Nat.xor_assoc, Nat.xor_self, Nat.zero_xor]
theorem getD_ext {a b : List Nat} (hl : a.length = b.length) (h : ∀ k, k < b.length → a.getD k 0 = b.getD k 0) : a = b := by
  refine List.ext_getElem hl fun k h1 h2 => ?_
  have := h k h2
  rw [List.getD_eq_getElem?_getD, List.getD_eq_getElem?_getD, List.getElem?_eq_getElem h1, List.getElem?_eq_getElem h2] at this
  exact this
theorem Smudge.whole (h : Smudge r p S) {M : List Nat} (hl : M.length = r.length - 6 * p / 8) (hM : ∀ i, i < M.length → M.getD i 0 = (gotOf r p S).getD (6 * p / 8 + i) 0 ^^^ flipsOf r p S / 256 ^ i % 256) :
    (gotOf r p S).take (6 * p / 8) ++ M = r := by
  have hf := h.first
  have e1 : ((gotOf r p S).take (6 * p / 8)).length = 6 * p / 8 := by rw [List.length_take, h.len]; omega
  refine getD_ext (by rw [List.length_append, e1, hl]; omega) fun k hk => ?_
  rw [List.getD_eq_getElem?_getD]
  by_cases hc : k < 6 * p / 8
  · rw [List.getElem?_append_left (by rw [e1]; exact hc), List.getElem?_take, if_pos hc, ← List.getD_eq_getElem?_getD]
    exact h.same hk (.inl (by omega))
  · rw [List.getElem?_append_right (by rw [e1]; omega), e1, ← List.getD_eq_getElem?_getD, hM _ (by rw [hl]; omega), show 6 * p / 8 + (k - 6 * p / 8) = k by omega]
    exact h.mend (by omega)
end
theorem start_row {r : List Nat} (h : ∀ x ∈ r, x < 256) : startOf (4294967295 - sumOf r) r.reverse = 4294967295 := by
  have h1 := stOf_lt r 4294967295 (by decide) h
  have h2 : 4294967295 - sumOf r = stOf 4294967295 r := by unfold sumOf; omega
  rw [h2]
  exact start_ones r h _ (by decide)
end Mine
end

section
open PySem PySem.W PySem.Calls PyProof.Rows
set_option Elab.async false
set_option maxRecDepth 100000
set_option maxHeartbeats 8000000
namespace Mine

example : (fun (_ : OpenLaw) (_ : Params → Frag) => True) PySem.Challenge.rw_qh0114_02 hd.heap_39 := by
  k_fill; trivial
noncomputable def intsOf (l : List Nat) : List Int := l.map fun (x : Nat) => (x : Int)
structure Ten (b : Array UInt8) : Prop where
  le : b.size ≤ 10
theorem pow2_le {e : Int} (h : e ≤ 6) : (2 : Int) ^ e.toNat ≤ 64 := by
  have h1 : (2 : Nat) ^ e.toNat ≤ 2 ^ 6 := Nat.pow_le_pow_right (by decide) (by omega)
  have h2 : ((2 ^ e.toNat : Nat) : Int) = (2 : Int) ^ e.toNat := by simp
  omega
theorem pow2_pos (e : Int) : 0 < (2 : Int) ^ e.toNat := pow_pos_of (by decide) _
theorem mul_p2 {prog : Program} {w : World} {A : Around} {E : Value → Shared → Prop} {s : Shared} {a e : Int} {t u : Tok} {Q : Value → Shared → Prop} (he : e ≤ 6) (h : Q (.int (a * 2 ^ e.toNat) s.toks) { s with toks := s.toks + 1 }) :
    wpAny (model prog w) A (binaryOp .Mult (.int a t) (.int (2 ^ e.toNat) u)) Q E s := by
  have h1 := pow2_le he
  have h2 := pow2_pos e
  refine mul_int h (IntMulOk.of_right (PySem.intBits_le_64 ?_ ?_))
  · exact Int.lt_trans (by decide) h2
  · exact Int.lt_of_le_of_lt h1 (by decide)
theorem pow2_py {x k : Int} (h : k < 1000) : Builtin.divisionGoesByPylong x (2 ^ k.toNat) = false := powN_py (b := 2) (e := 1) rfl (by omega) (.inr (by decide))
theorem sub_lo {k c : Int} (h0 : 0 ≤ k) (h : k < 0 + (((c - 0).toNat : Nat) : Int)) : 0 ≤ c - 1 - k := by omega
theorem sub_hi {k c : Int} (h : 0 ≤ k) (hc : c ≤ 14) : c - 1 - k ≤ 1000000 := by omega
theorem sub_lt {k c : Int} (h : 0 ≤ k) (hc : c ≤ 14) : c - 1 - k < 1000 := by omega
theorem num_int (b : Nat) (l : List Nat) (o : Nat) : ((num b l : Nat) : Int) * (b : Int) + (o : Int) = ((num b (l ++ [o]) : Nat) : Int) := by
  rw [num_snoc]; simp
theorem fig_turn {c n : Int} {pre : List Int} (h : c = ((num 256 (nats pre) : Nat) : Int)) (hn : 0 ≤ n) : c * 256 + n = ((num 256 (nats (pre ++ [n])) : Nat) : Int) := by
  subst h
  obtain ⟨k, rfl⟩ : ∃ k : Nat, n = (k : Int) := ⟨n.toNat, by omega⟩
  rw [nats_snoc]
  exact num_int 256 (nats pre) k
theorem cnt_int {n : Nat} : (8 * (n : Int) + 5).fdiv 6 = ((cnt n : Nat) : Int) := by
  unfold cnt
  rw [Int.fdiv_eq_ediv_of_nonneg _ (by decide)]; omega
theorem fig_vals (x m : Nat) : List.map (fun k' : Int => ((x : Int).fdiv (64 ^ ((m : Int) - 1 - k').toNat)).fmod 64) (rangeKs 0 ((m : Int) - 0).toNat) = intsOf (dig 64 m x) := by
  unfold intsOf dig rangeKs
  rw [List.map_map, List.map_map, show ((m : Int) - 0).toNat = m by omega]
  refine List.map_congr_left fun k hk => ?_
  have hk' : k < m := List.mem_range.mp hk
  show ((x : Int).fdiv (64 ^ ((m : Int) - 1 - (0 + (k : Int))).toNat)).fmod 64 = _
  have e1 : ((m : Int) - 1 - (0 + (k : Int))).toNat = m - 1 - k := by omega
  have e2 : (64 : Int) ^ (m - 1 - k) = ((64 ^ (m - 1 - k) : Nat) : Int) := by simp
  rw [e1, e2, fdiv_nat]
  exact fmod_nat _ 64
theorem figures_ctr (w : World) (mean : ExcName → Option Value) (mg mb : Str → Option Value) (b : Array UInt8) (tk : Tok) (hb : Ten b) : CtrN w mean mg mb 4 40 114 [.bytes b tk] [] (fun v D o => ∃ vs n, v = .ref D ∧ o = listOf (List.toArray vs) n ∧ IntsAre vs (intsOf (figs (oct b)))) := by
  k_with_none
  k_with "steps" => repeat' ((fail_if_success (with_reducible show wpAny _ _ (pyIter _) _ _ _)); first | (k_unfold; (try dsimp only)) | walk1 | (dsimp only; walk1) | fail "no step")
  k_with "exec For" => (k_here; (rename Fr _ _ _ _ => lF'); (with_unfolding_all refine' For_invVF lF' ?hole1k1 ?hole1k2 ?_; (case hole1k1 => exact rfl); (case hole1k2 => exact rfl); k_whole))
  k_with "exec For Name Call cons nil" => (k_here; (rename Fr _ _ _ _ => lF'); (with_unfolding_all refine' For_invVF lF' ?hole2k1 ?hole2k2 ?_; (case hole2k1 => exact rfl); (case hole2k2 => exact rfl); k_whole))
  k_with "exec For Name Name cons nil" => (k_here; (rename Fr _ _ _ _ => lF'); (with_unfolding_all refine' For_invVF lF' ?hole3k1 ?hole3k2 ?_; (case hole3k1 => exact rfl); (case hole3k2 => exact rfl); k_whole))
  k_with "call type:type" => (k_here; (with_reducible show wpAny _ _ (call _ [Value.bytes _ _]) _ _ _); refine call_type_of (Tx := "bytes") rfl (by decide +kernel) ?_)
  k_with "kba_in" => first | assumption | (refine in_snoc ?_ ?_; (focus (first | k_extra "kba_in" | kba_in)); (first | exact byte_in _ | decide | omega))
  k_with "kba_ints" => first | assumption | (refine ints_snoc ?_; (first | k_extra "kba_ints" | kba_listInts))
  k_with "call type:bytes" => (k_here; (with_reducible show wpAny _ _ (call (Value.type "bytes") [Value.ref _]) _ _ _); (rename News _ _ _ _ => nE'); (simp only [List.push_toArray] at nE'); k_dflt (refine' KBa.make_K ?hole7kbaF nE' ?hole7kbah ?hole7kbal ?hole7kbai ?hole7kbar ?hole7kban ?_; (case hole7kbaF => k_asm); (case hole7kbah => rfl); (case hole7kbal => exact News.isList nE' (by k_mem)); (case hole7kbai => first | k_extra "kba_ints" | kba_listInts); (case hole7kbar => first | k_extra "kba_in" | kba_in); (case hole7kban => kba_size)); intro _ _ _ F' N' kbaIn)
  k_with "binaryOp FloorDiv int int" => (k_here; first | (with_reducible refine floordiv_int (powN_ne (b := 256) (by decide) _) ?_ (Or.inl (pow256_py ?hole8kbp)); (case hole8kbp => omega)) | (with_reducible refine floordiv_int (powN_ne (b := 64) (by decide) _) ?_ (Or.inl (pow64_py ?hole8kbp)); (case hole8kbp => omega)))
  k_with "call builtin:len" => (k_here; (with_reducible show wpAny _ _ (call (Value.builtin "len") [Value.bytes _ _]) _ _ _); refine len_B ?hole9kl ?_; (case hole9kl => first | exact Nat.le_trans (Small.le (by assumption)) (by decide) | omega))
  k_with "binaryOp Mult int int" => (k_here; with_reducible refine mul_p2 (by assumption) ?_; (try dsimp only))
  k_with "binaryOp FloorDiv int int" => (k_here; (with_reducible refine floordiv_int (powN_ne (b := 64) (by decide) _) ?_ (Or.inl (pow64_py ?hole11kbp)); (case hole11kbp => exact sub_lt (by with_reducible assumption) (by with_reducible assumption))))
  k_with "binaryOp Pow int int" => (k_here; with_reducible refine pow_int_small (sub_lo (by with_reducible assumption) (by with_reducible assumption)) (sub_hi (by with_reducible assumption) (by with_reducible assumption)) (by decide) ?_)
  k_dflt (refine' ctrN_ofC (binds := [(Str.ofString "row", .bytes b tk)]) ?k6 ?k7 ?k9 ?kB ?kD ?_ ?c2 ?c3 ?c4; (case k6 => k_is); (case k7 => k_is); (case k9 => intro s _; exact BindsTo.of_eq rfl); (case kB => exact rfl); (case kD => decide +kernel); (case c2 => exact rfl); (case c3 => exact rfl); (case c4 => exact rfl); k_whole)
  intro dp un gd cn cs a ccd cl outer base L s g L' h₁ tk' cells Q F' N' Y' B' X' T' hkc hD hU ret
  k_cells Y'
  (try simp only [List.cons_append, List.nil_append] at N')
  k_extra "steps"
  (with_unfolding_all refine' KStb.kst_bytes (ks := KBw.bInts b) (len := b.size) (σ := Int × Obj) (fun c => [(_, _), (_, c.2)]) (fun _ => []) (fun c => ∃ t, c.2.data = .cell (some (.int c.1 t))) [] (fun pre c => c.1 = ((num 256 (nats pre) : Nat) : Int)) (0, _) rfl (KBw.ints_length b) (by rfl) (by assumption) (by assumption) ⟨_, by assumption⟩ (List.forall_mem_nil _) (by exact rfl) ?_ ?_)
  · rintro ⟨v, og⟩ pre post n kt u kH kTk own kEq kLt kLo kHi kOff ⟨t₀, kC⟩ kInv kFr kNews
    dsimp only at kC kInv kFr kNews ⊢
    try simp only [List.cons_append, List.nil_append] at kNews
    simp only [List.map_cons, List.map_nil] at kOff
    have kMark := kstMark
    k_extra "steps"
    rename Fr _ _ _ _ => F9
    rename News _ _ _ _ => N9
    exact kst_end (v * 256 + n, _) F9 N9 (by kst_in) (by intro p hp; kst_mem) (by rfl) ⟨_, by assumption⟩ (List.forall_mem_nil _) (fun z h1 _ _ => by show (if z = _ then _ else _) = _; rw [if_neg h1]; rfl) (fig_turn kInv kLo)
  · rintro ⟨v, og⟩ u kH kTk kLen ⟨t₀, kC⟩ kInv kFr kNews
    dsimp only at kC kInv kFr kNews ⊢
    have hle := hb.le
    have he : 6 * (8 * (b.size : Int) + 5).fdiv 6 - 8 * (b.size : Int) ≤ 6 := by
      rw [cnt_int]; unfold cnt; omega
    have hc : (8 * (b.size : Int) + 5).fdiv 6 ≤ 14 := by
      rw [cnt_int]; unfold cnt; omega
    k_extra "steps"
    rename Fr _ _ _ _ => F9
    rename News _ _ _ _ => N9
    refine ret _ _ _ _ _ _ F9 (N9 _ (.head _)).1 (N9 _ (.head _)).2.2 ⟨_, _, rfl, rfl, ?_⟩
    have e1 : KBw.bInts b = intsOf (oct b) := by
      unfold intsOf oct KBw.bInts
      rw [List.map_map]; rfl
    have e2 : nats (KBw.bInts b) = oct b := by
      rw [e1]; unfold nats intsOf
      rw [List.map_map]
      exact (List.map_congr_left (g := id) fun x _ => by simp).trans (List.map_id _)
    have e3 : (oct b).length = b.size := by unfold oct; simp
    have e4 : v * 2 ^ (6 * (8 * (b.size : Int) + 5).fdiv 6 - 8 * (b.size : Int)).toNat = ((num 256 (oct b) * 2 ^ (6 * cnt b.size - 8 * b.size) : Nat) : Int) := by
      rw [kInv, e2, cnt_int, show (6 * ((cnt b.size : Nat) : Int) - 8 * (b.size : Int)).toNat = 6 * cnt b.size - 8 * b.size by omega]
      simp
    have e5 := fig_vals (num 256 (oct b) * 2 ^ (6 * cnt b.size - 8 * b.size)) (cnt b.size)
    rw [← e4, ← cnt_int] at e5
    have e6 : dig 64 (cnt b.size) (num 256 (oct b) * 2 ^ (6 * cnt b.size - 8 * b.size)) = figs (oct b) := by unfold figs; rw [e3]
    rw [e6] at e5
    rw [← e5]
    assumption
theorem intsOf_nonneg {l : List Nat} {n : Int} (h : n ∈ intsOf l) : 0 ≤ n := by
  obtain ⟨x, _, rfl⟩ := List.mem_map.mp h
  omega
theorem intsOf_len (l : List Nat) : (intsOf l).length = l.length := by unfold intsOf; rw [List.length_map]
theorem nats_intsOf (l : List Nat) : nats (intsOf l) = l := by
  unfold nats intsOf
  rw [List.map_map]
  exact (List.map_congr_left (g := id) fun x _ => by simp).trans (List.map_id _)
section
variable {prog : Program} {w : World} {A : Around} {E : Value → Shared → Prop} {s : Shared} {g : Heap} {L l : Addr} {m : Str → Option Value} {xs : List Value} {k : Nat}
theorem len_g {Q : Value → Shared → Prop} (F : Fr g L s.heap m) (hl : g.IsList l xs.toArray) (e : xs.length = k) (hk : k ≤ 1000) (h : Q (.int (k : Nat) (s.toks + 1)) { s with toks := s.toks + 1 + 1 }) :
    wpAny (model prog w) A (call (.builtin "len") [.ref l]) Q E s := by
  refine Calls.call_len_list (F.lst hl) (by rw [List.size_toArray, e]; omega) ?_
  rw [List.size_toArray, e]; exact h
end
end Mine
end

section
open PySem PySem.W PySem.Calls PyProof.Rows
set_option Elab.async false
set_option maxRecDepth 100000
set_option maxHeartbeats 8000000
namespace Mine

example : (fun (_ : OpenLaw) (_ : Params → Frag) => True) PySem.Challenge.rw_qh0114_02 hd.heap_39 := by
  k_fill; trivial
theorem oct_turn {c n : Int} {pre : List Int} (h : c = ((num 64 (nats pre) : Nat) : Int)) (hn : 0 ≤ n) : c * 64 + n = ((num 64 (nats (pre ++ [n])) : Nat) : Int) := by
  subst h
  obtain ⟨k, rfl⟩ : ∃ k : Nat, n = (k : Int) := ⟨n.toNat, by omega⟩
  rw [nats_snoc]
  exact num_int 64 (nats pre) k
theorem cnt8_int {n : Nat} : (6 * (n : Int)).fdiv 8 = ((6 * n / 8 : Nat) : Int) := by
  rw [Int.fdiv_eq_ediv_of_nonneg _ (by decide)]; omega
theorem oct_vals (x n : Nat) : List.map (fun k' : Int => (((x : Int).fdiv (2 ^ (6 * (n : Int) - 8 * (6 * (n : Int)).fdiv 8).toNat)).fdiv (256 ^ ((6 * (n : Int)).fdiv 8 - 1 - k').toNat)).fmod 256) (rangeKs 0 ((6 * (n : Int)).fdiv 8 - 0).toNat) =
    (dig 256 (6 * n / 8) (x / 2 ^ (6 * n - 8 * (6 * n / 8)))).map fun (x : Nat) => (x : Int) := by
  rw [cnt8_int, show (6 * (n : Int) - 8 * ((6 * n / 8 : Nat) : Int)).toNat = 6 * n - 8 * (6 * n / 8) by omega]
  generalize 6 * n / 8 = m
  have e0 : (x : Int).fdiv (2 ^ (6 * n - 8 * m)) = ((x / 2 ^ (6 * n - 8 * m) : Nat) : Int) := by
    have e2 : (2 : Int) ^ (6 * n - 8 * m) = ((2 ^ (6 * n - 8 * m) : Nat) : Int) := by simp
    rw [e2, fdiv_nat]
  rw [e0]
  generalize x / 2 ^ (6 * n - 8 * m) = y
  unfold dig rangeKs
  rw [List.map_map, List.map_map, show ((m : Int) - 0).toNat = m by omega]
  refine List.map_congr_left fun k hk => ?_
  have hk' : k < m := List.mem_range.mp hk
  show ((y : Int).fdiv (256 ^ ((m : Int) - 1 - (0 + (k : Int))).toNat)).fmod 256 = _
  have e1 : ((m : Int) - 1 - (0 + (k : Int))).toNat = m - 1 - k := by omega
  have e2 : (256 : Int) ^ (m - 1 - k) = ((256 ^ (m - 1 - k) : Nat) : Int) := by simp
  rw [e1, e2, fdiv_nat]
  exact fmod_nat _ 256
structure Few (fs : List Nat) : Prop where
  le : fs.length ≤ 16
theorem octets_ctr (w : World) (mean : ExcName → Option Value) (mg mb : Str → Option Value) (l : Addr) (xs : List Value) (fs : List Nat) (hi : IntsAre xs (intsOf fs)) (hb : Few fs) :
    CtrH w mean mg mb 4 40 119 [.ref l] [] (fun g => g.IsList l xs.toArray) (fun v => ∃ t, v = .bytes (arr (octs fs)) t) := by
  k_with_none
  k_with "steps" => repeat' ((fail_if_success (with_reducible show wpAny _ _ (pyIter _) _ _ _)); first | (k_unfold; (try dsimp only)) | walk1 | (dsimp only; walk1) | fail "no step")
  k_with "exec For" => (k_here; (rename Fr _ _ _ _ => lF'); (with_unfolding_all refine' For_invVF lF' ?hole1k1 ?hole1k2 ?_; (case hole1k1 => exact rfl); (case hole1k2 => exact rfl); k_whole))
  k_with "exec For Name Call cons nil" => (k_here; (rename Fr _ _ _ _ => lF'); (with_unfolding_all refine' For_invVF lF' ?hole2k1 ?hole2k2 ?_; (case hole2k1 => exact rfl); (case hole2k2 => exact rfl); k_whole))
  k_with "exec For Name Name cons nil" => (k_here; (rename Fr _ _ _ _ => lF'); (with_unfolding_all refine' For_invVF lF' ?hole3k1 ?hole3k2 ?_; (case hole3k1 => exact rfl); (case hole3k2 => exact rfl); k_whole))
  k_with "call type:type" => (k_here; (with_reducible show wpAny _ _ (call _ [Value.bytes _ _]) _ _ _); refine call_type_of (Tx := "bytes") rfl (by decide +kernel) ?_)
  k_with "kba_in" => first | assumption | (refine in_snoc ?_ ?_; (focus (first | k_extra "kba_in" | kba_in)); (first | exact byte_in _ | decide | omega))
  k_with "kba_ints" => first | assumption | (refine ints_snoc ?_; (first | k_extra "kba_ints" | kba_listInts))
  k_with "call type:bytes" => (k_here; (with_reducible show wpAny _ _ (call (Value.type "bytes") [Value.ref _]) _ _ _); (rename News _ _ _ _ => nE'); (simp only [List.push_toArray] at nE'); k_dflt (refine' KBa.make_K ?hole7kbaF nE' ?hole7kbah ?hole7kbal ?hole7kbai ?hole7kbar ?hole7kban ?_; (case hole7kbaF => k_asm); (case hole7kbah => rfl); (case hole7kbal => exact News.isList nE' (by k_mem)); (case hole7kbai => first | k_extra "kba_ints" | kba_listInts); (case hole7kbar => first | k_extra "kba_in" | kba_in); (case hole7kban => kba_size)); intro _ _ _ F' N' kbaIn)
  k_with "binaryOp FloorDiv int int" => (k_here; first | (with_reducible refine floordiv_int (powN_ne (b := 256) (by decide) _) ?_ (Or.inl (pow256_py ?hole8kbp)); (case hole8kbp => omega)) | (with_reducible refine floordiv_int (powN_ne (b := 64) (by decide) _) ?_ (Or.inl (pow64_py ?hole8kbp)); (case hole8kbp => omega)))
  k_with "call builtin:len" => (k_here; (with_reducible show wpAny _ _ (call (Value.builtin "len") [Value.bytes _ _]) _ _ _); refine len_B ?hole9kl ?_; (case hole9kl => first | exact Nat.le_trans (Small.le (by assumption)) (by decide) | omega))
  k_with "binaryOp FloorDiv int int" => (k_here; first | (with_reducible refine floordiv_int (powN_ne (b := 256) (by decide) _) ?_ (Or.inl (pow256_py ?hole10kbp)); (case hole10kbp => exact sub_lt (by with_reducible assumption) (by with_reducible assumption))) | (with_reducible refine floordiv_int (powN_ne (b := 2) (by decide) _) ?_ (Or.inl (pow2_py ?hole10kbp)); (case hole10kbp => omega)))
  k_with "call builtin:len" => (k_here; k_dflt (refine' len_g ?hole11k1 ?hole11k2 ?hole11k3 ?hole11k4 ?_; (case hole11k1 => k_asm); (case hole11k2 => assumption); (case hole11k3 => assumption); (case hole11k4 => assumption)); (try dsimp only))
  k_with "binaryOp Pow int int" => (k_here; with_reducible refine pow_int_small (sub_lo (by with_reducible assumption) (by with_reducible assumption)) (sub_hi (by with_reducible assumption) (by with_reducible assumption)) (by decide) ?_)
  k_dflt (refine' ctrH_ofC (binds := [(Str.ofString "figures", .ref l)]) ?k6 ?k7 ?k9 ?kB ?kD ?_ ?c2 ?c3 ?c4; (case k6 => k_is); (case k7 => k_is); (case k9 => intro s _; exact BindsTo.of_eq rfl); (case kB => exact rfl); (case kD => decide +kernel); (case c2 => exact rfl); (case c3 => exact rfl); (case c4 => exact rfl); k_whole)
  intro dp un gd cn cs a ccd cl outer base L s g L' h₁ tk' cells Q F' N' Y' B' X' T' hkc hD hU hH ret
  k_cells Y'
  (try simp only [List.cons_append, List.nil_append] at N')
  k_extra "steps"
  (with_unfolding_all refine' kst_list (σ := Int × Obj) (fun c => [(_, _), (_, c.2)]) (fun _ => []) (fun c => ∃ t, c.2.data = .cell (some (.int c.1 t))) [] (fun pre c => c.1 = ((num 64 (nats pre) : Nat) : Int)) (0, _) (by rfl) hH hi (by assumption) (by assumption) ⟨_, by assumption⟩ (List.forall_mem_nil _) (by exact rfl) ?_ ?_)
  · rintro ⟨v, og⟩ pre post n kt u kH kTk own kEq kMem kOff ⟨t₀, kC⟩ kInv kFr kNews
    dsimp only at kC kInv kFr kNews ⊢
    try simp only [List.cons_append, List.nil_append] at kNews
    simp only [List.map_cons, List.map_nil] at kOff
    have kMark := kstMark
    have kLo := intsOf_nonneg kMem
    clear kEq kMem
    k_extra "steps"
    rename Fr _ _ _ _ => F9
    rename News _ _ _ _ => N9
    exact kst_end (v * 64 + n, _) F9 N9 (by kst_in) (by intro p hp; kst_mem) (by rfl) ⟨_, by assumption⟩ (List.forall_mem_nil _) (fun z h1 _ _ => by show (if z = _ then _ else _) = _; rw [if_neg h1]; rfl) (oct_turn kInv kLo)
  · rintro ⟨v, og⟩ u kH kTk ⟨t₀, kC⟩ kInv kFr kNews
    dsimp only at kC kInv kFr kNews ⊢
    have hle := hb.le
    have hxl : xs.length = fs.length := by rw [hi.length, intsOf_len]
    have hle9 : fs.length ≤ 1000 := by omega
    have hc8 : (6 * (fs.length : Int)).fdiv 8 ≤ 14 := by rw [cnt8_int]; omega
    have hc7 : 0 ≤ (6 * (fs.length : Int)).fdiv 8 := by rw [cnt8_int]; omega
    have he8 : 6 * (fs.length : Int) - 8 * (6 * (fs.length : Int)).fdiv 8 ≤ 6 := by rw [cnt8_int]; omega
    have he7 : 0 ≤ 6 * (fs.length : Int) - 8 * (6 * (fs.length : Int)).fdiv 8 := by rw [cnt8_int]; omega
    k_extra "steps"
    rename Fr _ _ _ _ => F9
    refine ret _ _ _ _ F9 (bex ?_)
    rw [kInv, nats_intsOf, oct_vals]
    rfl
end Mine
end

section
open PySem PySem.W PySem.Calls PyProof.Rows
set_option Elab.async false
set_option maxRecDepth 100000
set_option maxHeartbeats 8000000
namespace Mine

example : (fun (_ : OpenLaw) (_ : Params → Frag) => True) PySem.Challenge.rw_qh0114_02 hd.heap_39 := by
  k_fill; trivial
structure Figs (fs : List Nat) : Prop where
  le : fs.length ≤ 16
  lt : ∀ f ∈ fs, f < 64
theorem figs_in {fs : List Nat} (h : Figs fs) {k : Int} (hk : k ∈ intsOf fs) : 0 ≤ k ∧ k < 64 := by
  obtain ⟨x, hx, rfl⟩ := List.mem_map.mp hk
  have := h.lt x hx
  omega
noncomputable def sgv (k : Int) : Int := if 0 ≤ k ∧ k < 64 then ((tab.getD k.toNat 0).toNat : Int) else k
theorem sgv_map {fs : List Nat} (h : Figs fs) : List.map sgv (intsOf fs) = (fs.map sg).map fun (x : Nat) => (x : Int) := by
  unfold intsOf
  rw [List.map_map, List.map_map]
  refine List.map_congr_left fun x hx => ?_
  have hl := h.lt x hx
  show (if 0 ≤ (x : Int) ∧ (x : Int) < 64 then _ else _) = ((sg x : Nat) : Int)
  rw [if_pos ⟨by omega, by omega⟩, Int.toNat_natCast]
  rfl
theorem sgv_in {fs : List Nat} (h : Figs fs) : KBa.In (List.map sgv (intsOf fs)) := by
  rw [sgv_map h]
  intro n hn
  obtain ⟨x, hx, rfl⟩ := List.mem_map.mp hn
  obtain ⟨y, _, rfl⟩ := List.mem_map.mp hx
  have := sg_lt y
  omega
theorem add_B {prog : Program} {w : World} {A : Around} {E : Value → Shared → Prop} {s : Shared} {b c : Array UInt8} {t u : Tok} {Q : Value → Shared → Prop} (hb : b.size ≤ 1000) (hc : c.size ≤ 1000) (h : ∀ t' k, Q (.bytes (b ++ c) t') { s with toks := k }) :
    wpAny (model prog w) A (binaryOp .Add (.bytes b t) (.bytes c u)) Q E s :=
  KBa.add_K (ks := KBw.bInts b) (ls := KBw.bInts c) rfl rfl (by rw [KBw.ints_length, KBw.ints_length]; omega) fun t' k _ => h t' k
theorem pad_arr {n : Nat} (_h : n ≤ 1000) : ((List.replicate ((-(n : Int)).fmod 4).toNat ([61] : List UInt8)).flatten).toArray = arr (List.replicate (pad n) 61) := by
  have e : ((-(n : Int)).fmod 4).toNat = pad n := by
    unfold pad
    rw [Int.fmod_eq_emod_of_nonneg _ (by decide)]; omega
  rw [e]
  generalize pad n = k
  unfold arr byteArr
  rw [List.map_map]
  congr 1
  induction k with
  | zero => rfl
  | succ k ih => rw [List.replicate_succ, List.flatten_cons, ih, List.replicate_succ, List.map_cons]; rfl
theorem pad_size {n : Nat} (h : n ≤ 1000) : (((List.replicate ((-(n : Int)).fmod 4).toNat ([61] : List UInt8)).flatten).toArray).size ≤ 1000 := by
  rw [pad_arr h]
  unfold arr
  rw [byteArr_size, List.length_map, List.length_replicate]
  unfold pad; omega
theorem written_ctr (w : World) (mean : ExcName → Option Value) (mg mb : Str → Option Value) (l : Addr) (xs : List Value) (fs : List Nat) (hi : IntsAre xs (intsOf fs)) (hb : Figs fs) :
    CtrH w mean mg mb 4 40 124 [.ref l] [] (fun g => g.IsList l xs.toArray) (fun v => ∃ t, v = .bytes (arr (signs fs)) t) := by
  k_with_none
  k_with "steps" => repeat' ((fail_if_success (with_reducible show wpAny _ _ (pyIter _) _ _ _)); first | (k_unfold; (try dsimp only)) | walk1 | (dsimp only; walk1) | fail "no step")
  k_with "exec For" => (k_here; (rename Fr _ _ _ _ => lF'); (with_unfolding_all refine' For_invVF lF' ?hole1k1 ?hole1k2 ?_; (case hole1k1 => exact rfl); (case hole1k2 => exact rfl); k_whole))
  k_with "exec For Name Call cons nil" => (k_here; (rename Fr _ _ _ _ => lF'); (with_unfolding_all refine' For_invVF lF' ?hole2k1 ?hole2k2 ?_; (case hole2k1 => exact rfl); (case hole2k2 => exact rfl); k_whole))
  k_with "exec For Name Name cons nil" => (k_here; (rename Fr _ _ _ _ => lF'); (with_unfolding_all refine' For_invVF lF' ?hole3k1 ?hole3k2 ?_; (case hole3k1 => exact rfl); (case hole3k2 => exact rfl); k_whole))
  k_with "call type:type" => (k_here; (with_reducible show wpAny _ _ (call _ [Value.bytes _ _]) _ _ _); refine call_type_of (Tx := "bytes") rfl (by decide +kernel) ?_)
  k_with "kba_in" => first | assumption | (refine in_snoc ?_ ?_; (focus (first | k_extra "kba_in" | kba_in)); (first | exact byte_in _ | decide | omega))
  k_with "kba_ints" => first | assumption | (refine ints_snoc ?_; (first | k_extra "kba_ints" | kba_listInts))
  k_with "call type:bytes" => (k_here; (with_reducible show wpAny _ _ (call (Value.type "bytes") [Value.ref _]) _ _ _); (rename News _ _ _ _ => nE'); (simp only [List.push_toArray] at nE'); k_dflt (refine' KBa.make_K ?hole7kbaF nE' ?hole7kbah ?hole7kbal ?hole7kbai ?hole7kbar ?hole7kban ?_; (case hole7kbaF => k_asm); (case hole7kbah => rfl); (case hole7kbal => exact News.isList nE' (by k_mem)); (case hole7kbai => first | k_extra "kba_ints" | kba_listInts); (case hole7kbar => first | k_extra "kba_in" | kba_in); (case hole7kban => kba_size)); intro _ _ _ F' N' kbaIn)
  k_with "binaryOp FloorDiv int int" => (k_here; first | (with_reducible refine floordiv_int (powN_ne (b := 256) (by decide) _) ?_ (Or.inl (pow256_py ?hole8kbp)); (case hole8kbp => omega)) | (with_reducible refine floordiv_int (powN_ne (b := 64) (by decide) _) ?_ (Or.inl (pow64_py ?hole8kbp)); (case hole8kbp => omega)))
  k_with "call builtin:len" => (k_here; (with_reducible show wpAny _ _ (call (Value.builtin "len") [Value.bytes _ _]) _ _ _); refine len_B ?hole9kl ?_; (case hole9kl => first | exact Nat.le_trans (Small.le (by assumption)) (by decide) | omega))
  k_with "subscriptTail" => (k_here; (with_reducible show wpAny _ _ (subscriptTail _ _ (Value.bytes _ _) (Value.int _ _)) _ _ _); refine KBy.item_N (by decide) (figs_in (by assumption) (by assumption)).1 (figs_in (by assumption) (by assumption)).2 ?_)
  k_with "call builtin:len" => (k_here; k_dflt (refine' len_g ?hole11k1 ?hole11k2 ?hole11k3 ?hole11k4 ?_; (case hole11k1 => k_asm); (case hole11k2 => assumption); (case hole11k3 => assumption); (case hole11k4 => assumption)); (try dsimp only))
  k_with "CompSrc" => (k_here; k_dflt (refine LCg.CompSrc.base (by rfl) (by k_asm) (by k_asm) (by assumption) (by assumption) ?_; intro g'; (refine' kcf_list _ (by assumption) (fun k' t' I' oI' C' oC' D' m' ys' h' tk' E' hk' hC' hx' F' N' off' ne' hMark' => ?_) ?_); (all_goals (try (simp only [LCg.Off3, and_true] at off'))); (all_goals (try (have hkf' := figs_in (by assumption) hk'))); kcf_last))
  k_with "call type:bytes" => (k_here; (with_reducible show wpAny _ _ (call (Value.type "bytes") [Value.ref _]) _ _ _); (rename News _ _ _ _ => nE'); (try simp only [List.push_toArray] at nE'); k_dflt (refine' KBa.make_K ?hole13kbaF nE' ?hole13kbah ?hole13kbal ?hole13kbai ?hole13kbar ?hole13kban ?_; (case hole13kbaF => k_asm); (case hole13kbah => rfl); (case hole13kbal => exact News.isList nE' (by k_mem)); (case hole13kbai => first | k_extra "kba_ints" | kba_listInts); (case hole13kbar => exact sgv_in (by assumption)); (case hole13kban => (rw [List.length_map, intsOf_len]; omega))); intro _ _ _ F' N' kbaIn; (try dsimp only))
  k_with "binaryOp Mult bytes int" => (k_here; refine bytes_mul_any (b := [61]) (by decide) (Int.le_trans (by decide) (by assumption)) (Int.le_trans (by assumption) (by decide)) (by decide) ?_; intro _ _; (try dsimp only))
  k_with "binaryOp Add bytes bytes" => (k_here; refine add_B (by rw [byteArr_size, List.length_map, intsOf_len]; assumption) (pad_size (by assumption)) ?_; intro _ _; (try dsimp only))
  k_dflt (refine' ctrH_ofC (binds := [(Str.ofString "figures", .ref l)]) ?k6 ?k7 ?k9 ?kB ?kD ?_ ?c2 ?c3 ?c4; (case k6 => k_is); (case k7 => k_is); (case k9 => intro s _; exact BindsTo.of_eq rfl); (case kB => exact rfl); (case kD => decide +kernel); (case c2 => exact rfl); (case c3 => exact rfl); (case c4 => exact rfl); k_whole)
  intro dp un gd cn cs a ccd cl outer base L s g L' h₁ tk' cells Q F' N' Y' B' X' T' hkc hD hU hH ret
  k_cells Y'
  (try simp only [List.cons_append, List.nil_append] at N')
  have hle := hb.le
  have hxl : xs.length = fs.length := by rw [hi.length, intsOf_len]
  have hle9 : fs.length ≤ 1000 := by omega
  have hsz : xs.toArray.size ≤ sizeLine := by rw [List.size_toArray, hxl, sizeLine_eq]; omega
  have hm0 : 0 ≤ (-(fs.length : Int)).fmod 4 := fmod_lo _ (by decide)
  have hm4 : (-(fs.length : Int)).fmod 4 ≤ 4 := Int.le_of_lt (fmod_hi _ (by decide))
  k_extra "steps"
  rename Fr _ _ _ _ => F9
  refine ret _ _ _ _ F9 (bex ?_)
  rw [pad_arr hle9]
  have e : arr (signs fs) = arr (fs.map sg) ++ arr (List.replicate (pad fs.length) 61) := by simp [signs, arr, byteArr]
  rw [e]
  exact congrArg (fun x => byteArr x ++ _) (sgv_map hb)
end Mine
end

section
open PySem PySem.W PySem.Calls PyProof.Rows
set_option Elab.async false
set_option maxRecDepth 100000
set_option maxHeartbeats 8000000
namespace Mine

example : (fun (_ : OpenLaw) (_ : Params → Frag) => True) PySem.Challenge.rw_qh0114_02 hd.heap_39 := by
  k_fill; trivial
theorem startOf_lt : ∀ (row : List Nat) (c : Nat), c < 4294967296 → (∀ x ∈ row, x < 256) → startOf c row < 4294967296
  | [], c, h, _ => h
  | o :: r, c, h, hr => by
    have ho := hr o (.head _)
    exact startOf_lt r _ (Nat.xor_lt_two_pow (n := 32) (backIt_lt h 8) (by omega)) fun x hx => hr x (.tail _ hx)
theorem startOf_snoc (c : Nat) (row : List Nat) (o : Nat) : startOf c (row ++ [o]) = backIt 8 (startOf c row) ^^^ o := by simp [startOf, List.foldl_append]
noncomputable def StInv (x : Nat) (pre : List Int) (st : Int) : Prop := st = ((startOf x (nats pre) : Nat) : Int) ∧ 0 ≤ st ∧ st < 4294967296
theorem st_turn {st n : Int} {x : Nat} {pre : List Int} (h : StInv x pre st) (h0 : 0 ≤ n) (h1 : n < 256) :
    StInv x (pre ++ [n]) (Builtin.bitXor ((backIt (8 * Int.toNat 1) st.toNat : Nat) : Int) n) := by
  obtain ⟨e, l1, l2⟩ := h
  obtain ⟨k, rfl⟩ : ∃ k : Nat, n = (k : Int) := ⟨n.toNat, by omega⟩
  have e2 : st.toNat = startOf x (nats pre) := by omega
  have hl : startOf x (nats pre) < 4294967296 := by omega
  have hx : backIt 8 (startOf x (nats pre)) ^^^ k < 4294967296 := Nat.xor_lt_two_pow (n := 32) (backIt_lt hl 8) (by omega)
  have e3 : Builtin.bitXor ((backIt (8 * Int.toNat 1) st.toNat : Nat) : Int) (k : Int) = ((backIt 8 (startOf x (nats pre)) ^^^ k : Nat) : Int) := by
    rw [show 8 * Int.toNat 1 = 8 by decide, bitXor_nat, e2]
  rw [e3]
  refine ⟨by rw [nats_snoc, startOf_snoc], by omega, by omega⟩
theorem st_start {c : Int} (h0 : 0 ≤ c) (h1 : c < 4294967296) : StInv (4294967295 - c.toNat) [] (2 ^ Int.toNat 32 - 1 - c) := by
  have e : (2 : Int) ^ Int.toNat 32 = 4294967296 := by decide
  rw [e]
  have e2 : startOf (4294967295 - c.toNat) (nats []) = 4294967295 - c.toNat := by simp only [nats, List.map_nil, startOf, List.foldl_nil]
  refine ⟨?_, by omega, by omega⟩
  rw [e2]; omega
theorem one_hk {m : Str → Option Value} {y : Str} {a : Int} {t : Tok} (e : m y = some (.int a t)) : ∀ p ∈ [(y, Value.int a t)], m p.1 = some p.2 := fun p hp => by
  rw [List.mem_singleton.mp hp]; exact e
theorem start_ctr (w : World) (mean : ExcName → Option Value) (mg mb : Str → Option Value) (c : Int) (b : Array UInt8) (tk tb : Tok) (hc0 : 0 ≤ c) (hc1 : c < 4294967296) (hb : b.size ≤ 100000) :
    Ctr w mean mg mb 4 40 145 [.int c tk, .bytes b tb] [] (fun v => ∃ t, v = .int (startOf (4294967295 - c.toNat) (oct b).reverse : Nat) t) := by
  k_with_none
  k_with "steps" => repeat' ((fail_if_success (with_reducible show wpAny _ _ (pyIter _) _ _ _)); first | (k_unfold; (try dsimp only)) | walk1 | (dsimp only; walk1) | fail "no step")
  k_with "exec For" => (k_here; (rename Fr _ _ _ _ => lF'); (with_unfolding_all refine' For_invVF lF' ?hole1k1 ?hole1k2 ?_; (case hole1k1 => exact rfl); (case hole1k2 => exact rfl); k_whole))
  k_with "exec For Name Call cons nil" => (k_here; (rename Fr _ _ _ _ => lF'); (with_unfolding_all refine' For_invVF lF' ?hole2k1 ?hole2k2 ?_; (case hole2k1 => exact rfl); (case hole2k2 => exact rfl); k_whole))
  k_with "exec For Name Name cons nil" => (k_here; (rename Fr _ _ _ _ => lF'); (with_unfolding_all refine' For_invVF lF' ?hole3k1 ?hole3k2 ?_; (case hole3k1 => exact rfl); (case hole3k2 => exact rfl); k_whole))
  k_with "call type:type" => (k_here; (with_reducible show wpAny _ _ (call _ [Value.bytes _ _]) _ _ _); refine call_type_of (Tx := "bytes") rfl (by decide +kernel) ?_)
  k_with "kba_in" => first | assumption | (refine in_snoc ?_ ?_; (focus (first | k_extra "kba_in" | kba_in)); (first | exact byte_in _ | decide | omega))
  k_with "kba_ints" => first | assumption | (refine ints_snoc ?_; (first | k_extra "kba_ints" | kba_listInts))
  k_with "call type:bytes" => (k_here; (with_reducible show wpAny _ _ (call (Value.type "bytes") [Value.ref _]) _ _ _); (rename News _ _ _ _ => nE'); (simp only [List.push_toArray] at nE'); k_dflt (refine' KBa.make_K ?hole7kbaF nE' ?hole7kbah ?hole7kbal ?hole7kbai ?hole7kbar ?hole7kban ?_; (case hole7kbaF => k_asm); (case hole7kbah => rfl); (case hole7kbal => exact News.isList nE' (by k_mem)); (case hole7kbai => first | k_extra "kba_ints" | kba_listInts); (case hole7kbar => first | k_extra "kba_in" | kba_in); (case hole7kban => kba_size)); intro _ _ _ F' N' kbaIn)
  k_with "binaryOp FloorDiv int int" => (k_here; first | (with_reducible refine floordiv_int (powN_ne (b := 256) (by decide) _) ?_ (Or.inl (pow256_py ?hole8kbp)); (case hole8kbp => omega)) | (with_reducible refine floordiv_int (powN_ne (b := 64) (by decide) _) ?_ (Or.inl (pow64_py ?hole8kbp)); (case hole8kbp => omega)))
  k_with "call builtin:len" => (k_here; (with_reducible show wpAny _ _ (call (Value.builtin "len") [Value.bytes _ _]) _ _ _); refine len_B ?hole9kl ?_; (case hole9kl => first | exact Nat.le_trans (Small.le (by assumption)) (by decide) | omega))
  k_with "exec For Name Subscript cons nil" => (k_here; (rename Fr _ _ _ _ => lF'); (with_unfolding_all refine' For_invVF lF' ?hole10k1 ?hole10k2 ?_; (case hole10k1 => exact rfl); (case hole10k2 => exact rfl); k_whole))
  k_with "call ref" => (k_here; (k_dflt (refine' Ctr.use (back_ctr _ _ _ _ _ _ (by exact ⟨by assumption, by assumption⟩) (by decide) _ _) ?hole11k1 ?hole11k2 ?hole11k3 ?hole11k4 ?hole11k5 ?hole11kK ?hole11kd ?hole11ku ?_; (case hole11k1 => k_asm); (case hole11k2 => k_asm); (case hole11k3 => k_asm); (case hole11k4 => k_asm); (case hole11k5 => k_asm); (case hole11kK => first | exact rfl | assumption); (case hole11kd => first | exact Nat.le_of_ble_eq_true rfl | exact room1 (by assumption) rfl | exact room2 (by assumption) rfl | ktr_room); (case hole11ku => first | exact Nat.le_of_ble_eq_true rfl | exact room1 (by assumption) rfl | exact room2 (by assumption) rfl | ktr_units); k_whole); intro v' h' tk' hv' F' N'; (first | (obtain ⟨t', hv'⟩ := hv'; subst hv') | subst hv'); (try k_sweep)))
  k_with "subscriptTail" => (k_here; (with_reducible show wpAny _ _ (subscriptTail _ (PySem.Expr.Slice none none (some _) _) (Value.bytes _ _) (Value.ref _)) _ _ _); (with_reducible rename Fr _ _ _ _ => F'); (with_reducible rename News _ _ _ _ => N'); (refine slice_rev (s := ⟨_, _, _, _, _⟩) F' N' (IsPart.int _ _) (by assumption) ?_); intro cR' _ _ _ _ _ hR')
  k_dflt (refine' ctr_of (binds := [(Str.ofString "crc", .int c tk), (Str.ofString "row", .bytes b tb)]) ?k6 ?k7 ?k9 ?kB ?_ ?c2 ?c3 ?c4 ?c5; (case k6 => k_is); (case k7 => k_is); (case k9 => intro s _; exact BindsTo.of_eq rfl); (case kB => exact locs rfl); (case c5 => decide); (case c2 => exact rfl); (case c3 => exact rfl); (case c4 => exact rfl); k_whole)
  intro dp un gd cn cs a ccd cl outer base L s g L' h₁ Q F' N' B' X' T' hkc hD hU ret
  k_extra "steps"
  (k_with "state" => first | exact st_start (by assumption) (by assumption) | exact st_turn (by assumption) (by assumption) (by assumption))
  k_state (fun pre st => StInv (4294967295 - c.toNat) pre st) "state"
  · have hlo := kInv.2.1
    have hhi := kInv.2.2
    repeat' ((fail_if_success (with_reducible show InvEndN _ _ _ _ _ _ _)); first | (k_unfold; (try dsimp only)) | walk1 | (dsimp only; walk1) | fail "no step")
    rename Fr _ _ _ _ => F9
    rename News _ _ _ _ => N9
    refine' kst_end (_, _) F9 N9 ?ga ?gb ?gc trivial ?gk ?gr (st_turn (n := kN) kInv kLo kHi)
    case gk => (intro p hp; rw [List.mem_singleton.mp hp]; exact rfl)
    case ga => exact List.forall_mem_nil _
    case gb => exact fun p hp => hp
    case gc => rfl
    case gr =>
      intro z h1 h2 _
      have h3 := h2 _ (.head _)
      show (if z = Str.ofString "state" then _ else if z = Str.ofString "octet" then _ else if z = Str.ofString "state" then _ else _) = _
      rw [if_neg h3, if_neg h1, if_neg h3]
      rfl
  · k_extra "steps"
    obtain ⟨e, -, -⟩ := kInv
    rw [nats_ints, hR', List.map_reverse] at e
    exact ret _ _ _ _ (by assumption) ⟨_, by rw [e]; rfl⟩
end Mine
end

section
open PySem PySem.W PySem.Calls PyProof.Rows
set_option Elab.async false
set_option maxRecDepth 100000
set_option maxHeartbeats 8000000
namespace Mine
/-! contracts of law 2 over rows and figures -/
structure Oct (l : List Nat) : Prop where
  oct : ∀ x ∈ l, x < 256
  le : l.length ≤ 1000
structure FigsT (fs : List Nat) : Prop where
  lt : ∀ f ∈ fs, f < 64
  le : fs.length ≤ 16
  no1 : fs.length % 4 ≠ 1
noncomputable def le4 (c : Nat) : List Nat := [c % 256, c / 256 % 256, c / 65536 % 256, c / 16777216 % 256]
theorem oct_byteArr {ns : List Int} (h : KBa.In ns) : oct (byteArr ns) = nats ns := by
  unfold oct byteArr nats
  rw [List.map_map]
  refine List.map_congr_left fun n hn => ?_
  have hb := h n hn
  show (n.toNat.toUInt8).toNat = n.toNat
  rw [Nat.toUInt8, UInt8.toNat_ofNat']
  omega
theorem oct_arr {l : List Nat} (h : ∀ x ∈ l, x < 256) : oct (arr l) = l := by
  unfold arr
  rw [oct_byteArr]
  · exact nats_intsOf l
  · intro n hn
    obtain ⟨x, hx, rfl⟩ := List.mem_map.mp hn
    have := h x hx
    omega
theorem arr_size (l : List Nat) : (arr l).size = l.length := by unfold arr; rw [byteArr_size, List.length_map]
theorem arr_append (a b : List Nat) : arr (a ++ b) = arr a ++ arr b := by simp [arr, byteArr]
theorem arr_small {l : List Nat} (h : l.length ≤ 100000) : Small (arr l) := ⟨by rw [arr_size]; exact h⟩
noncomputable def sealOf (c : Nat) : Array UInt8 := arr (encOf (le4 c))
theorem le4_lt (c : Nat) : ∀ x ∈ le4 c, x < 256 := by
  intro x hx
  unfold le4 at hx
  simp only [List.mem_cons, List.not_mem_nil, or_false] at hx
  rcases hx with rfl | rfl | rfl | rfl <;> exact Nat.mod_lt _ (by decide)
theorem signs_lt {fs : List Nat} : ∀ x ∈ signs fs, x < 256 := by
  intro x hx
  rcases List.mem_append.mp hx with hx | hx
  · obtain ⟨f, _, rfl⟩ := List.mem_map.mp hx
    exact sg_lt f
  · rw [List.eq_of_mem_replicate hx]; decide
theorem text_signs {fs : List Nat} (h : FigsT fs) : Text (arr (signs fs)) := by
  have eo : oct (arr (signs fs)) = signs fs := oct_arr signs_lt
  have hp : pad fs.length ≤ 4 := by unfold pad; omega
  have hl := h.le
  refine ⟨?_, ⟨fs.map sg, pad fs.length, by rw [eo]; rfl, fun c hc => ?_⟩, ?_⟩
  · rw [arr_size]
    unfold signs
    rw [List.length_append, List.length_map, List.length_replicate]; omega
  · obtain ⟨f, hf, rfl⟩ := List.mem_map.mp hc
    obtain ⟨e, n⟩ := sg_back f (h.lt f hf)
    have := h.lt f hf
    exact ⟨by rw [e]; omega, n⟩
  · rw [eo]
    obtain ⟨_, h2, h3⟩ := dec_signs h.lt h.no1
    exact ⟨h2, h3⟩
theorem figs_t {l : List Nat} (h : l.length ≤ 10) : FigsT (figs l) := ⟨figs_lt l, by rw [figs_len]; unfold cnt; omega, by rw [figs_len]; exact cnt_no1 _⟩
theorem Ctr.mono {w : World} {mean : ExcName → Option Value} {mg mb : Str → Option Value} {D U : Nat} {f : Addr} {vs : List Value} {kw : List (Str × Value)} {P P' : Value → Prop}
    (C : Ctr w mean mg mb D U f vs kw P) (h : ∀ v, P v → P' v) : Ctr w mean mg mb D U f vs kw P' := by
  intro dp un gd cn cs a ccd cl outer A₀ base h₀ L m news s Q E B F X N T hkc hD hU hret
  exact C dp un gd cn cs a ccd cl outer A₀ base h₀ L m news s Q E B F X N T hkc hD hU fun v h' tk' hp => hret v h' tk' (h v hp)
theorem vint_of {a b : Int} (e : a = b) {v : Value} (h : ∃ t, v = .int a t) : ∃ t, v = .int b t := e ▸ h
theorem vbytes_of {a b : Array UInt8} (e : a = b) {v : Value} (h : ∃ t, v = .bytes a t) : ∃ t, v = .bytes b t := e ▸ h
section
variable (w : World) (mean : ExcName → Option Value) (mg mb : Str → Option Value)
theorem sum_l (l : List Nat) (tk : Tok) (h : Oct l) : Ctr w mean mg mb 4 40 131 [.bytes (arr l) tk] [] (fun v => ∃ t, v = .int (sumOf l : Nat) t) :=
  (sum_ctr w mean mg mb (arr l) tk).mono fun v => vint_of (by
    rw [oct_arr h.oct]
    have := stOf_lt l 4294967295 (by decide) h.oct
    unfold sumOf
    omega)
theorem enc_l (l : List Nat) (tk : Tok) (h : Oct l) : Ctr w mean mg mb 8 80 101 [.bytes (arr l) tk] [] (fun v => ∃ t, v = .bytes (arr (signs (figs l))) t) :=
  (enc_ctr w mean mg mb (arr l) tk (arr_small (Nat.le_trans h.le (by decide)))).mono fun v => vbytes_of (by rw [oct_arr h.oct, ← enc_signs h.oct]; rfl)
theorem enc_le4 (c : Nat) (tk : Tok) : Ctr w mean mg mb 8 80 101 [.bytes (arr (le4 c)) tk] [] (fun v => ∃ t, v = .bytes (sealOf c) t) :=
  (enc_ctr w mean mg mb (arr (le4 c)) tk (arr_small (by show 4 ≤ _; decide))).mono fun v => vbytes_of (by rw [oct_arr (le4_lt c)]; rfl)
theorem dec_l (fs : List Nat) (tk : Tok) (h : FigsT fs) : Ctr w mean mg mb 8 80 109 [.bytes (arr (signs fs)) tk] [] (fun v => ∃ t, v = .bytes (arr (octs fs)) t) :=
  (dec_ctr w mean mg mb (arr (signs fs)) tk (text_signs h)).mono fun v => vbytes_of (by rw [oct_arr signs_lt, (dec_signs h.lt h.no1).1])
theorem dec_seal (c : Nat) (tk : Tok) : Ctr w mean mg mb 8 80 109 [.bytes (sealOf c) tk] [] (fun v => ∃ t, v = .bytes (arr (le4 c)) t) := by
  have e : sealOf c = arr (signs (figs (le4 c))) := by unfold sealOf; rw [enc_signs (le4_lt c)]
  rw [e]
  exact (dec_l w mean mg mb (figs (le4 c)) tk (figs_t (l := le4 c) (by show 4 ≤ 10; decide))).mono fun v => vbytes_of (by rw [octs_figs (le4_lt c)])
theorem back_flips {r S : List Nat} {p : Nat} (h : Smudge r p S) (hr : r.length ≤ 10) (tk tn : Tok) :
    Ctr w mean mg mb 2 20 138 [.int (Builtin.bitXor ((sumOf (gotOf r p S) : Nat) : Int) ((sumOf r : Nat) : Int)) tk, .int ((r.length : Int) - ((6 * p / 8 : Nat) : Int)) tn] [] (fun v => ∃ t, v = .int (flipsOf r p S : Nat) t) := by
  have hf := h.first
  have hx : sumOf (gotOf r p S) ^^^ sumOf r < 4294967296 := Nat.xor_lt_two_pow (n := 32) (sumOf_lt _) (sumOf_lt _)
  rw [bitXor_nat, show (r.length : Int) - ((6 * p / 8 : Nat) : Int) = ((r.length - 6 * p / 8 : Nat) : Int) by omega]
  exact (back_ctr w mean mg mb ((sumOf (gotOf r p S) ^^^ sumOf r : Nat) : Int) ((r.length - 6 * p / 8 : Nat) : Int) (by omega) (by omega) tk tn).mono fun v => vint_of (by rw [Int.toNat_natCast, Int.toNat_natCast, h.flips])
theorem start_l (r : List Nat) (tk tb : Tok) (h : Oct r) : Ctr w mean mg mb 4 40 145 [.int (sumOf r : Nat) tk, .bytes (arr r) tb] [] (fun v => ∃ t, v = .int 4294967295 t) := by
  have hl := sumOf_lt r
  have hle := h.le
  exact (start_ctr w mean mg mb ((sumOf r : Nat) : Int) (arr r) tk tb (by omega) (by omega) (by rw [arr_size]; omega)).mono fun v => vint_of (by
    rw [Int.toNat_natCast, oct_arr h.oct, start_row h.oct]; rfl)
theorem figures_l (r : List Nat) (tk : Tok) (h : Oct r) (hr : r.length ≤ 10) : CtrN w mean mg mb 4 40 114 [.bytes (arr r) tk] [] (fun v D o => ∃ vs n, v = .ref D ∧ o = listOf (List.toArray vs) n ∧ IntsAre vs (intsOf (figs r))) := by
  have := figures_ctr w mean mg mb (arr r) tk ⟨by rw [arr_size]; exact hr⟩
  rw [oct_arr h.oct] at this
  exact this
end
end Mine
end

section
open PySem PySem.W PySem.Calls PyProof.Rows
set_option Elab.async false
set_option maxRecDepth 100000
set_option maxHeartbeats 8000000
namespace Mine

example : (fun (_ : OpenLaw) (_ : Params → Frag) => True) PySem.Challenge.rw_qh0114_02 hd.heap_39 := by
  k_fill
  trivial
theorem news_drop1 {h₀ h : Heap} {L : Addr} {a b : Addr × Obj} {r : List (Addr × Obj)} (N : News h₀ L h (a :: b :: r)) : News h₀ L h (a :: r) := fun p hp => N p (by
  rcases List.mem_cons.mp hp with e | e
  · rw [e]; exact .head _
  · exact .tail _ (.tail _ e))
theorem off1_of {D : Addr} : ∀ {l : List (Addr × Obj)}, (∀ p ∈ l, p.1 ≠ D) → LCg.Off1 D l
  | [], _ => trivial
  | _ :: _, h => ⟨h _ (.head _), off1_of fun q hq => h q (.tail _ hq)⟩
theorem news_tail {h₀ h : Heap} {L : Addr} {a : Addr × Obj} {r : List (Addr × Obj)} (N : News h₀ L h (a :: r)) : News h₀ L h r := fun p hp => N p (.tail _ hp)
theorem rng_size (n : Nat) : Builtin.Range.rangeSize 0 (n : Int) 1 = (n : Int) := by
  unfold Builtin.Range.rangeSize
  rw [if_pos (by decide)]
  split <;> omega
theorem fitsL {i : Int} (h1 : -1000000 ≤ i) (h2 : i ≤ 1000000) : Builtin.Range.rangeFitsLong i = true := by
  unfold Builtin.Range.rangeFitsLong
  rw [Bool.and_eq_true]
  exact ⟨decide_eq_true (by omega), decide_eq_true (by omega)⟩
theorem rng_small {n : Nat} (h : n ≤ 1000) : Builtin.Range.small 0 (n : Int) 1 = true := by
  unfold Builtin.Range.small
  rw [rng_size n, fitsL (by omega) (by omega), fitsL (by omega) (by omega), fitsL (by omega) (by omega), fitsL (by omega) (by omega), if_pos (by decide)]
  simp
/-- what a turn of the loop over the places keeps -/
noncomputable def JP (F D a1 a2 a3 a4 a5 a6 : Addr) (r : List Nat) (vF vs : List Value) (nF n wd : Nat) (_i : Nat) (m : Str → Option Value) (rest : List (Addr × Obj)) : Prop :=
  ∃ (o1 o2 o3 o4 o5 o6 : Obj) (tr tw tt td : Tok), rest = [(F, listOf vF.toArray nF), (D, listOf vs.toArray n), (a6, o6), (a5, o5), (a4, o4), (a3, o3), (a2, o2), (a1, o1)] ∧ o1.data = .cell (some (.ref D)) ∧
    ((∃ v, o3.data = .cell v) ∧ (∃ v, o4.data = .cell v) ∧ (∃ v, o5.data = .cell v) ∧ (∃ v, o6.data = .cell v)) ∧
    m (Str.ofString "row") = some (.bytes (arr r) tr) ∧ m (Str.ofString "figures") = some (.ref F) ∧ m (Str.ofString "writing") = some (.bytes (arr (signs (figs r))) tw) ∧ m (Str.ofString "told") = some (.int ((sumOf r : Nat) : Int) tt) ∧ m (Str.ofString "width") = some (.int (wd : Int) td)
theorem fr_put5 {h₀ h : Heap} {L : Addr} {m : Str → Option Value} {x1 x2 x3 x4 x5 : Str} {v1 v2 v3 v4 v5 : Value} (m1 : m x1 = some v1) (m2 : m x2 = some v2) (m3 : m x3 = some v3) (m4 : m x4 = some v4) (m5 : m x5 = some v5) (F : Fr h₀ L h m) :
    Fr h₀ L h (fun y => if y = x1 then some v1 else if y = x2 then some v2 else if y = x3 then some v3 else if y = x4 then some v4 else if y = x5 then some v5 else m y) := by
  have e : (fun y => if y = x1 then some v1 else if y = x2 then some v2 else if y = x3 then some v3 else if y = x4 then some v4 else if y = x5 then some v5 else m y) = m := by
    funext y
    by_cases h1 : y = x1
    · rw [if_pos h1, h1, m1]
    rw [if_neg h1]
    by_cases h2 : y = x2
    · rw [if_pos h2, h2, m2]
    rw [if_neg h2]
    by_cases h3 : y = x3
    · rw [if_pos h3, h3, m3]
    rw [if_neg h3]
    by_cases h4 : y = x4
    · rw [if_pos h4, h4, m4]
    rw [if_neg h4]
    by_cases h5 : y = x5
    · rw [if_pos h5, h5, m5]
    rw [if_neg h5]
  rw [e]; exact F
theorem cut_st {prog : Program} {w : World} {A : Around} {t : Sem Flow} {Q : Flow → Shared → Prop} {E : Value → Shared → Prop} {s : Shared} (P : Shared → Prop) (hif : ∀ Qo : Flow → Shared → Prop, (∀ s', P s' → Qo .next s') → wpAny (model prog w) A t Qo E s)
    (tail : ∀ s', P s' → Q .next s') : wpAny (model prog w) A t Q E s :=
  wpAny_mono (hif (fun f s' => f = .next ∧ P s') fun s' h => ⟨rfl, h⟩) (fun f s' hq => by obtain ⟨e, h⟩ := hq; subst e; exact tail s' h) fun _ _ e => e
/-- the smudge is laid -/
noncomputable def JS (h₀ : Heap) (L : Addr) (m₀ : Str → Option Value) (base : List (Addr × Obj)) (wd : Nat) (s : Shared) (s' : Shared) : Prop :=
  ∃ (h : Heap) (tk : Nat) (B : Addr) (ys : List Value) (S : List Nat), s' = { s with heap := h, toks := tk } ∧ Fr h₀ L h (fun y => if y = Str.ofString "smudged" then some (.ref B) else m₀ y) ∧ News h₀ L h ((B, LCg.lst ys) :: base) ∧ LCg.Off1 B base ∧
    IntsAre ys (intsOf S) ∧ (∀ x ∈ S, x < 64) ∧ S.length = wd
theorem js_end {h₀ h : Heap} {L B : Addr} {m₀ : Str → Option Value} {base : List (Addr × Obj)} {wd : Nat} {s : Shared} {tk : Nat} {ys : List Value} {zs : List Int} (F : Fr h₀ L h (fun y => if y = Str.ofString "smudged" then some (.ref B) else m₀ y)) (N : News h₀ L h ((B, LCg.lst ys) :: base)) (O : LCg.Off1 B base)
    (hI : IntsAre ys zs) (hz : ∀ z ∈ zs, 0 ≤ z ∧ z < 64) (hl : zs.length = wd) : JS h₀ L m₀ base wd s { s with heap := h, toks := tk } := by
  have e : intsOf (nats zs) = zs := by
    unfold intsOf nats
    rw [List.map_map]
    refine (List.map_congr_left (g := id) fun x hx => ?_).trans (List.map_id _)
    have := hz x hx
    show ((x.toNat : Nat) : Int) = x
    omega
  refine ⟨h, tk, B, ys, nats zs, rfl, F, N, O, by rw [e]; exact hI, fun x hx => ?_, by unfold nats; rw [List.length_map]; exact hl⟩
  obtain ⟨z, hz', rfl⟩ := List.mem_map.mp hx
  have := hz z hz'
  omega
/-- the smudged writing's figures are laid -/
noncomputable def JE (h₀ : Heap) (L : Addr) (m₀ : Str → Option Value) (f d a6 a5 a4 a3 a2 a1 i : Addr) (base : List (Addr × Obj)) (fs : List Nat) (s : Shared) (s' : Shared) : Prop :=
  ∃ (h : Heap) (tk : Nat) (B : Addr) (ws : List Value), s' = { s with heap := h, toks := tk } ∧ Fr h₀ L h (fun y => if y = Str.ofString "spoilt" then some (.ref B) else m₀ y) ∧ News h₀ L h ((B, listOf ws.toArray 0) :: base) ∧
    (f < B ∧ d < B ∧ a6 < B ∧ a5 < B ∧ a4 < B ∧ a3 < B ∧ a2 < B ∧ a1 < B ∧ i < B) ∧ IntsAre ws (intsOf fs)
theorem spoil_ints (fs S : List Nat) (i wd : Nat) (hl : S.length = wd) : (intsOf fs).take ((i : Int)).toNat ++ intsOf S ++ (intsOf fs).drop ((i : Int) + (wd : Int)).toNat = intsOf (spoil fs i S) := by
  subst hl
  rw [Int.toNat_natCast, show ((i : Int) + ((S.length : Nat) : Int)).toNat = i + S.length by omega]
  unfold intsOf spoil
  rw [List.map_append, List.map_append, List.map_take, List.map_drop]
noncomputable def zl (z : Nat) : Nat → List Nat
  | 0 => []
  | k + 1 => (z + (k + 1)) :: zl z k
theorem zl_mem {z : Nat} : ∀ {k x : Nat}, x ∈ zl z k → x ≤ z + k
  | 0, _, h => nomatch h
  | k + 1, x, h => by
    rcases List.mem_cons.mp h with e | h
    · exact Nat.le_of_eq e
    · exact Nat.le_succ_of_le (zl_mem h)
theorem zl_nd (z : Nat) : ∀ k, (zl z k).Nodup
  | 0 => List.nodup_nil
  | k + 1 => List.nodup_cons.mpr ⟨fun h => Nat.lt_irrefl _ (zl_mem h), zl_nd z k⟩
theorem nd9 {f d z i : Nat} (h1 : z + 1 + 1 + 1 + 1 + 1 + 1 < d) (h2 : d ≠ f) (h6 : z + 1 + 1 + 1 + 1 + 1 + 1 ≠ f) (h5 : z + 1 + 1 + 1 + 1 + 1 ≠ f) (h4 : z + 1 + 1 + 1 + 1 ≠ f) (h3 : z + 1 + 1 + 1 ≠ f) (h7 : z + 1 + 1 ≠ f) (h8 : z + 1 ≠ f) (hf : f < i) (hd : d < i) :
    @List.Nodup Addr [f, d, z + 1 + 1 + 1 + 1 + 1 + 1, z + 1 + 1 + 1 + 1 + 1, z + 1 + 1 + 1 + 1, z + 1 + 1 + 1, z + 1 + 1, z + 1, i] := by
  have hz : (zl z 6 ++ [i]).Nodup := by
    refine List.nodup_append.mpr ⟨zl_nd z 6, List.nodup_cons.mpr ⟨List.not_mem_nil, List.nodup_nil⟩, fun x hx y hy e => ?_⟩
    have h9 := zl_mem (z := z) (k := 6) hx
    rw [e, List.mem_singleton.mp hy] at h9
    exact Nat.lt_irrefl _ (Nat.lt_of_le_of_lt h9 (Nat.lt_trans h1 hd))
  refine List.nodup_cons.mpr ⟨fun h => ?_, List.nodup_cons.mpr ⟨fun h => ?_, hz⟩⟩
  · rcases List.mem_cons.mp h with e | h
    · exact h2 e.symm
    rcases List.mem_cons.mp h with e | h
    · exact h6 e.symm
    rcases List.mem_cons.mp h with e | h
    · exact h5 e.symm
    rcases List.mem_cons.mp h with e | h
    · exact h4 e.symm
    rcases List.mem_cons.mp h with e | h
    · exact h3 e.symm
    rcases List.mem_cons.mp h with e | h
    · exact h7 e.symm
    rcases List.mem_cons.mp h with e | h
    · exact h8 e.symm
    · exact Nat.ne_of_lt hf (List.mem_singleton.mp h)
  · rcases List.mem_append.mp (show d ∈ zl z 6 ++ [i] from h) with h | h
    · exact Nat.lt_irrefl _ (Nat.lt_of_lt_of_le h1 (zl_mem (z := z) (k := 6) h))
    · exact Nat.ne_of_lt hd (List.mem_singleton.mp h)
theorem nd10 {b f d a6 a5 a4 a3 a2 a1 i : Nat} (h : f < b ∧ d < b ∧ a6 < b ∧ a5 < b ∧ a4 < b ∧ a3 < b ∧ a2 < b ∧ a1 < b ∧ i < b) (hn : @List.Nodup Addr [f, d, a6, a5, a4, a3, a2, a1, i]) : @List.Nodup Addr [b, f, d, a6, a5, a4, a3, a2, a1, i] := by
  refine List.nodup_cons.mpr ⟨?_, hn⟩
  show ¬ @Membership.mem Nat _ _ _ _
  simp only [List.mem_cons, List.not_mem_nil, or_false, not_or]
  omega
theorem up_mem {x : Addr} {o : Obj} : ∀ {pre post : List (Addr × Obj)}, ((pre ++ (x, o) :: post).map (·.1)).Nodup → UpdF x o (pre ++ (x, o) :: post) (fun o' => pre ++ (x, o') :: post)
  | [], _, h => .head fun p hp e => (List.nodup_cons.mp h).1 (List.mem_map.mpr ⟨p, hp, e⟩)
  | p :: pre, post, h => .tail (fun e => (List.nodup_cons.mp h).1 (List.mem_map.mpr ⟨(x, o), by simp, e.symm⟩)) (up_mem (List.nodup_cons.mp h).2)
section
variable {b f d a6 a5 a4 a3 a2 a1 i : Addr} {ob of od o6 o5 o4 o3 o2 o1 oi : Obj}
theorem up9_3 (h : [f, d, a6, a5, a4, a3, a2, a1, i].Nodup) : UpdF a3 o3 [(f, of), (d, od), (a6, o6), (a5, o5), (a4, o4), (a3, o3), (a2, o2), (a1, o1), (i, oi)] (fun o' => [(f, of), (d, od), (a6, o6), (a5, o5), (a4, o4), (a3, o'), (a2, o2), (a1, o1), (i, oi)]) := up_mem (pre := [(f, of), (d, od), (a6, o6), (a5, o5), (a4, o4)]) h
theorem up10_6 (h : [b, f, d, a6, a5, a4, a3, a2, a1, i].Nodup) : UpdF a6 o6 [(b, ob), (f, of), (d, od), (a6, o6), (a5, o5), (a4, o4), (a3, o3), (a2, o2), (a1, o1), (i, oi)] (fun o' => [(b, ob), (f, of), (d, od), (a6, o'), (a5, o5), (a4, o4), (a3, o3), (a2, o2), (a1, o1), (i, oi)]) := up_mem (pre := [(b, ob), (f, of), (d, od)]) h
theorem up10_5 (h : [b, f, d, a6, a5, a4, a3, a2, a1, i].Nodup) : UpdF a5 o5 [(b, ob), (f, of), (d, od), (a6, o6), (a5, o5), (a4, o4), (a3, o3), (a2, o2), (a1, o1), (i, oi)] (fun o' => [(b, ob), (f, of), (d, od), (a6, o6), (a5, o'), (a4, o4), (a3, o3), (a2, o2), (a1, o1), (i, oi)]) := up_mem (pre := [(b, ob), (f, of), (d, od), (a6, o6)]) h
theorem up10_4 (h : [b, f, d, a6, a5, a4, a3, a2, a1, i].Nodup) : UpdF a4 o4 [(b, ob), (f, of), (d, od), (a6, o6), (a5, o5), (a4, o4), (a3, o3), (a2, o2), (a1, o1), (i, oi)] (fun o' => [(b, ob), (f, of), (d, od), (a6, o6), (a5, o5), (a4, o'), (a3, o3), (a2, o2), (a1, o1), (i, oi)]) := up_mem (pre := [(b, ob), (f, of), (d, od), (a6, o6), (a5, o5)]) h
end
local macro_rules | `(tactic| k_updF) => `(tactic| k_extra "updF")
section
variable {prog : Program} {w : World} {A : Around} {t : Sem Flow} {Q : Flow → Shared → Prop} {E : Value → Shared → Prop} {s : Shared} {h₀ hx : Heap} {L : Addr} {m₀ : Str → Option Value} {base : List (Addr × Obj)}
theorem cut_s1 (_F : Fr h₀ L hx m₀) (_N : News h₀ L hx base) (wd : Nat) (hif : ∀ Qo : Flow → Shared → Prop, (∀ s', JS h₀ L m₀ base wd s s' → Qo .next s') → wpAny (model prog w) A t Qo E s)
    (tail : ∀ s', JS h₀ L m₀ base wd s s' → Q .next s') : wpAny (model prog w) A t Q E s := cut_st (JS h₀ L m₀ base wd s) hif tail
theorem cut_s2 {b f d a6 a5 a4 a3 a2 a1 i : Addr} {ob of od o6 o5 o4 o3 o2 o1 oi : Obj} (fs : List Nat) (_F : Fr h₀ L hx m₀) (_N : News h₀ L hx [(b, ob), (f, of), (d, od), (a6, o6), (a5, o5), (a4, o4), (a3, o3), (a2, o2), (a1, o1), (i, oi)])
    (hif : ∀ Qo : Flow → Shared → Prop, (∀ s', JE h₀ L m₀ f d a6 a5 a4 a3 a2 a1 i [(f, of), (d, od), (a6, o6), (a5, o5), (a4, o4), (a3, o3), (a2, o2), (a1, o1), (i, oi)] fs s s' → Qo .next s') → wpAny (model prog w) A t Qo E s)
    (tail : ∀ s', JE h₀ L m₀ f d a6 a5 a4 a3 a2 a1 i [(f, of), (d, od), (a6, o6), (a5, o5), (a4, o4), (a3, o3), (a2, o2), (a1, o1), (i, oi)] fs s s' → Q .next s') : wpAny (model prog w) A t Q E s := cut_st _ hif tail
theorem news_drop4 {h₀ h : Heap} {L : Addr} {a b c d e : Addr × Obj} {r : List (Addr × Obj)} (N : News h₀ L h (a :: b :: c :: d :: e :: r)) : News h₀ L h (a :: r) := fun p hp => N p (by
  rcases List.mem_cons.mp hp with e | e
  · rw [e]; exact .head _
  · exact .tail _ (.tail _ (.tail _ (.tail _ (.tail _ e)))))
end
section
variable {prog : Program} {w : World} {A : Around} {E : Value → Shared → Prop} {s : Shared} {h₀ : Heap} {L : Addr} {m : Str → Option Value} {news : List (Addr × Obj)}
theorem k_le4 {k : Int} (h : k < 0 + (((4 - 0 : Int).toNat : Nat) : Int)) : k ≤ 1000000 := by omega
theorem k_lt4 {k : Int} (h : k < 0 + (((4 - 0 : Int).toNat : Nat) : Int)) : k < 1000 := by omega
theorem idx_lo {k : Int} {f : Nat} (h : (f : Int) ≤ k) : 0 ≤ k := by omega
theorem idx_hi {k : Int} {f n l : Nat} (h : k < (f : Int) + ((((n : Int) - (f : Int)).toNat : Nat) : Int)) (e : l = n) (hf : f ≤ n) : k < (l : Int) := by omega
theorem idx_sub {k : Int} {f : Nat} (h : (f : Int) ≤ k) : 0 ≤ k - (f : Int) := by omega
theorem idx_le {k : Int} {f n : Nat} (h : k < (f : Int) + ((((n : Int) - (f : Int)).toNat : Nat) : Int)) (hf : f ≤ n) (hn : n ≤ 10) : k - (f : Int) ≤ 1000000 := by omega
theorem idx_lt {k : Int} {f n : Nat} (h : k < (f : Int) + ((((n : Int) - (f : Int)).toNat : Nat) : Int)) (hf : f ≤ n) (hn : n ≤ 10) : k - (f : Int) < 1000 := by omega
theorem item_arr {l : List Nat} {i : Int} {t ui : Tok} {value slice : Expr} {Q : Value → Shared → Prop} (hl : Oct l) (h0 : 0 ≤ i) (h1 : i < (l.length : Int))
    (h : Q (.int ((l.getD i.toNat 0 : Nat) : Int) s.toks) { s with toks := s.toks + 1 })
    (hs : ∀ b : Array UInt8, subscripted slice false (.bytes b t) (.int i ui) = operate [.bytes b t, .int i ui] (getItem (.bytes b t) (.int i ui)) := by intro _; with_unfolding_all rfl)
    (ht : ∀ (b : Array UInt8) r, letTemporaryGo value (.bytes b t) r = pure () := by intro _ _; with_unfolding_all rfl) :
    wpAny (model prog w) A (subscriptTail value slice (.bytes (arr l) t) (.int i ui)) Q E s := by
  have hz := arr_size l
  have ho := oct_arr hl.oct
  have hle := hl.le
  revert h hz ho
  generalize arr l = b
  obtain ⟨x⟩ := b
  intro h hz ho
  have hz' : x.length = l.length := hz
  refine KBy.item_N (x := x) (by omega) h0 (by omega) ?_ (hs _) (ht _)
  have e : (x.getD i.toNat 0).toNat = l.getD i.toNat 0 := by
    rw [← ho]
    unfold oct
    rw [List.getD_eq_getElem?_getD, List.getD_eq_getElem?_getD, List.getElem?_map]
    cases x[i.toNat]? <;> rfl
  rw [e]; exact h
theorem picked_arr {l : List Nat} {f : Nat} (hf : f ≤ l.length) : KBy.picked (arr l) none (some (f : Int)) = arr (l.take f) := by
  rw [KBc.picked_eq]
  show (((arr l).toList.drop 0).take (clipAt (arr l).size (f : Int) - 0)).toArray = _
  rw [List.drop_zero, clipAt_nat, Nat.sub_zero, arr_size, Nat.min_eq_left hf]
  unfold arr byteArr
  rw [← List.map_take, ← List.map_take]
theorem slice_arr {l : List Nat} {f : Nat} {t tf : Tok} {value slice : Expr} {Q : Value → Shared → Prop} (hF : Fr h₀ L s.heap m) (hN : News h₀ L s.heap news) (hl : l.length ≤ 1000) (hf : f ≤ l.length)
    (h : ∀ h' t' k, Fr h₀ L h' m → News h₀ L h' news → Q (.bytes (arr (l.take f)) t') { s with heap := h', toks := k })
    (hs : ∀ b : Array UInt8, subscripted slice false (.bytes b t) (.ref s.heap.objs.size) = operate [.ref s.heap.objs.size, .bytes b t] (getItem (.bytes b t) (.ref s.heap.objs.size)) := by intro _; with_unfolding_all rfl)
    (ht : ∀ (b : Array UInt8) r, letTemporaryGo value (.bytes b t) r = pure () := by intro _ _; with_unfolding_all rfl) :
    wpAny (model prog w) A (subscriptTail value slice (.bytes (arr l) t) (.ref s.heap.objs.size)) Q E { s with heap := s.heap.push { cls := .type "slice", data := .fields #[.none, .int (f : Int) tf, .none] } } :=
  KBc.slice_K (ks := KBw.bInts (arr l)) hF hN rfl IsPart.none (IsPart.int _ _) (by rw [KBw.ints_length, arr_size]; omega) (fun h' t' k F' N' _ => by rw [picked_arr hf]; exact h h' t' k F' N') (hs _) (ht _)
theorem add_is {b c d : Array UInt8} {t u : Tok} {Q : Value → Shared → Prop} (e : b ++ c = d) (hd : d.size ≤ 1000) (h : ∀ t' k, Q (.bytes d t') { s with toks := k }) : wpAny (model prog w) A (binaryOp .Add (.bytes b t) (.bytes c u)) Q E s := by
  subst e
  rw [Array.size_append] at hd
  exact add_B (by omega) (by omega) h
theorem fdiv8_is {a d : Int} {t u : Tok} {Q : Value → Shared → Prop} (e : a.fdiv 8 = d) (h : Q (.int d s.toks) { s with toks := s.toks + 1 }) : wpAny (model prog w) A (binaryOp .FloorDiv (.int a t) (.int 8 u)) Q E s :=
  floordiv_int (by decide) (e ▸ h) (Or.inl (PyProof.noPylong_of_log2 (by decide)))
theorem ge_no {a b : Int} {t u : Tok} {Q : Value → Shared → Prop} (e : a < b) (h : Q (.bool false) s) : wpAny (model prog w) A (compareOp .GtE (.int a t) (.int b u)) Q E s :=
  PyProof.Rows.ge_int (by rw [decide_eq_false (by omega)]; exact h)
end
theorem dec_got (w : World) (mean : ExcName → Option Value) (mg mb : Str → Option Value) (r S : List Nat) (p : Nat) (tk : Tok) (h : FigsT (spoil (figs r) p S)) : Ctr w mean mg mb 8 80 109 [.bytes (arr (signs (spoil (figs r) p S))) tk] [] (fun v => ∃ t, v = .bytes (arr (gotOf r p S)) t) := dec_l w mean mg mb _ tk h
theorem octets_got (w : World) (mean : ExcName → Option Value) (mg mb : Str → Option Value) (l : Addr) (xs : List Value) (r S : List Nat) (p : Nat) (hi : IntsAre xs (intsOf (spoil (figs r) p S))) (hb : Few (spoil (figs r) p S)) :
    CtrH w mean mg mb 4 40 119 [.ref l] [] (fun g => g.IsList l xs.toArray) (fun v => ∃ t, v = .bytes (arr (gotOf r p S)) t) := octets_ctr w mean mg mb l xs _ hi hb
theorem mend_vals {r S : List Nat} {p : Nat} (h : Smudge r p S) : List.map (fun k' : Int => Builtin.bitXor (((gotOf r p S).getD k'.toNat 0 : Nat) : Int) ((((flipsOf r p S : Nat) : Int).fdiv (256 ^ (k' - ((6 * p / 8 : Nat) : Int)).toNat)).fmod 256)) (rangeKs ((6 * p / 8 : Nat) : Int) ((r.length : Int) - ((6 * p / 8 : Nat) : Int)).toNat) = intsOf (r.drop (6 * p / 8)) := by
  have hf := h.first
  have hm := fun k => h.mend (k := k)
  generalize 6 * p / 8 = f at *
  have e : r.drop f = (List.range (r.length - f)).map fun i => r.getD (f + i) 0 := by
    refine List.ext_getElem (by simp) fun i h1 h2 => ?_
    rw [List.getElem_drop, List.getElem_map, List.getElem_range, List.getD_eq_getElem?_getD, List.getElem?_eq_getElem (by rw [List.length_drop] at h1; omega)]
    rfl
  rw [e]
  unfold intsOf rangeKs
  rw [List.map_map, List.map_map, show ((r.length : Int) - (f : Int)).toNat = r.length - f by omega]
  refine List.map_congr_left fun i hi => ?_
  show Builtin.bitXor (((gotOf r p S).getD ((f : Int) + (i : Int)).toNat 0 : Nat) : Int) ((((flipsOf r p S : Nat) : Int).fdiv (256 ^ ((f : Int) + (i : Int) - (f : Int)).toNat)).fmod 256) = ((r.getD (f + i) 0 : Nat) : Int)
  rw [show ((f : Int) + (i : Int)).toNat = f + i by omega, show ((f : Int) + (i : Int) - (f : Int)).toNat = i by omega]
  have e2 : (256 : Int) ^ i = ((256 ^ i : Nat) : Int) := by simp
  rw [e2, fdiv_nat]
  have e3 : (((flipsOf r p S / 256 ^ i : Nat) : Int)).fmod 256 = ((flipsOf r p S / 256 ^ i % 256 : Nat) : Int) := fmod_nat _ 256
  rw [e3, bitXor_nat]
  have := hm (f + i) (by omega)
  rw [show f + i - f = i by omega] at this
  rw [this]
theorem in_ints {l : List Nat} (h : ∀ x ∈ l, x < 256) : KBa.In (intsOf l) := fun n hn => by
  obtain ⟨x, hx, rfl⟩ := List.mem_map.mp hn
  have := h x hx
  omega
theorem take_got {r S : List Nat} {p : Nat} (h : Smudge r p S) : (gotOf r p S).take (6 * p / 8) ++ r.drop (6 * p / 8) = r := by
  have hf := h.first
  have e : (gotOf r p S).take (6 * p / 8) = r.take (6 * p / 8) := by
    refine getD_ext (by rw [List.length_take, List.length_take, h.len]) fun k hk => ?_
    rw [List.length_take] at hk
    have := h.same (k := k) (by omega) (.inl (by omega))
    rw [List.getD_eq_getElem?_getD, List.getD_eq_getElem?_getD, List.getElem?_take, List.getElem?_take, if_pos (by omega), if_pos (by omega), ← List.getD_eq_getElem?_getD, ← List.getD_eq_getElem?_getD]
    exact this
  rw [e, List.take_append_drop]
/-- what the rest of the turn needs to know of the numbers -/
structure Turn (r S : List Nat) (p wd : Nat) : Prop where
  sm : Smudge r p S
  f8 : (6 * (p : Int)).fdiv 8 = ((6 * p / 8 : Nat) : Int)
  g8 : (6 * ((p : Int) + (wd : Int)) + 7).fdiv 8 = (((6 * (p + wd) + 7) / 8 : Nat) : Int)
  la : min (r.length : Int) (((6 * (p + wd) + 7) / 8 : Nat) : Int) = ((lastOf r p wd : Nat) : Int)
  e0 : 0 ≤ ((lastOf r p wd : Nat) : Int) - ((6 * p / 8 : Nat) : Int)
  e1 : ((lastOf r p wd : Nat) : Int) - ((6 * p / 8 : Nat) : Int) ≤ 1000000
  fl : ((flipsOf r p S : Nat) : Int) < 256 ^ (((lastOf r p wd : Nat) : Int) - ((6 * p / 8 : Nat) : Int)).toNat
  og : Oct (gotOf r p S)
  lg : (gotOf r p S).length = r.length
  ff : 6 * p / 8 ≤ r.length
theorem turn_of {r S : List Nat} {p wd : Nat} (h : Smudge r p S) (hr : r.length ≤ 10) (hS : S.length = wd) : Turn r S p wd := by
  subst hS
  have hf := h.first
  have hl := h.small
  have hge : 6 * p / 8 ≤ lastOf r p S.length := by unfold lastOf; omega
  have hle : lastOf r p S.length ≤ 10 := by unfold lastOf; omega
  refine ⟨h, cnt8_int, ?_, ?_, by omega, by omega, ?_, ⟨h.gotlt, by rw [h.len]; omega⟩, h.len, hf⟩
  · rw [Int.fdiv_eq_ediv_of_nonneg _ (by decide)]; omega
  · unfold lastOf; omega
  · rw [show (((lastOf r p S.length : Nat) : Int) - ((6 * p / 8 : Nat) : Int)).toNat = lastOf r p S.length - 6 * p / 8 by omega]
    have e : (256 : Int) ^ (lastOf r p S.length - 6 * p / 8) = ((256 ^ (lastOf r p S.length - 6 * p / 8) : Nat) : Int) := by simp
    rw [e]
    exact Int.ofNat_lt.mpr hl
theorem smudge_in {ns : List Int} {i wd : Nat} : ∀ z ∈ List.map (fun k' : Int => ((ns.getD (((i : Int) + k').fmod (ns.length : Int)).toNat 0).fdiv 256).fmod 64) (rangeKs 0 ((wd : Int) - 0).toNat), 0 ≤ z ∧ z < 64 := fun z hz => by
  obtain ⟨k, _, rfl⟩ := List.mem_map.mp hz
  exact ⟨fmod_lo _ (by decide), fmod_hi _ (by decide)⟩
theorem jp_end {h₀ h' : Heap} {L F D a1 a2 a3 a4 a5 a6 eb i : Addr} {m' : Str → Option Value} {r : List Nat} {vF vs : List Value} {nF n wd k : Nat} {o1 o2 o3 o4 o5 o6 ob oi : Obj} {tr tw tt td : Tok} {c3 c4 c5 c6 : Option Value} {s : Shared} {tk' : Nat} {Q : Flow → Shared → Prop} (FF : Fr h₀ L h' m')
    (N : News h₀ L h' [(eb, ob), (F, listOf vF.toArray nF), (D, listOf vs.toArray n), (a6, o6), (a5, o5), (a4, o4), (a3, o3), (a2, o2), (a1, o1), (i, oi)]) (ho1 : o1.data = .cell (some (.ref D))) (h3 : o3.data = .cell c3) (h4 : o4.data = .cell c4) (h5 : o5.data = .cell c5) (h6 : o6.data = .cell c6)
    (m1 : m' (Str.ofString "row") = some (.bytes (arr r) tr)) (m2 : m' (Str.ofString "figures") = some (.ref F)) (m3 : m' (Str.ofString "writing") = some (.bytes (arr (signs (figs r))) tw)) (m4 : m' (Str.ofString "told") = some (.int ((sumOf r : Nat) : Int) tt)) (m5 : m' (Str.ofString "width") = some (.int (wd : Int) td)) :
    LedPost h₀ L (JP F D a1 a2 a3 a4 a5 a6 r vF vs nF n wd k) [(i, oi)] s Q .next { s with heap := h', toks := tk' } :=
  ⟨h', tk', m', [(F, listOf vF.toArray nF), (D, listOf vs.toArray n), (a6, o6), (a5, o5), (a4, o4), (a3, o3), (a2, o2), (a1, o1)], rfl, FF, news_tail N, o1, o2, o3, o4, o5, o6, tr, tw, tt, td, rfl, ho1, ⟨⟨_, h3⟩, ⟨_, h4⟩, ⟨_, h5⟩, ⟨_, h6⟩⟩, m1, m2, m3, m4, m5⟩
/-- the row of numbers is laid -/
noncomputable def JN (h₀ : Heap) (L : Addr) (m₀ : Str → Option Value) (a1 a2 a3 a4 a5 a6 : Addr) (o2 o3 o4 o5 o6 : Obj) (s : Shared) (f : Flow) (s' : Shared) : Prop :=
  f = .next ∧ ∃ (h : Heap) (tk : Nat) (D : Addr) (vs : List Value) (ns : List Int) (n : Nat) (o1 : Obj), s' = { s with heap := h, toks := tk } ∧ Fr h₀ L h m₀ ∧
    News h₀ L h [(D, listOf vs.toArray n), (a6, o6), (a5, o5), (a4, o4), (a3, o3), (a2, o2), (a1, o1)] ∧ o1.data = .cell (some (.ref D)) ∧ IntsAre vs ns ∧ 1 ≤ ns.length ∧ ns.length ≤ 10 ∧ @LT.lt Nat _ a6 D
theorem cut_n {prog : Program} {w : World} {A : Around} {t : Sem Flow} {Q : Flow → Shared → Prop} {E : Value → Shared → Prop} {s : Shared} {h₀ hx : Heap} {L a1 a2 a3 a4 a5 a6 : Addr} {m₀ : Str → Option Value} {o1 o2 o3 o4 o5 o6 : Obj} (_F : Fr h₀ L hx m₀) (_N : News h₀ L hx [(a6, o6), (a5, o5), (a4, o4), (a3, o3), (a2, o2), (a1, o1)])
    (hif : ∀ Qo : Flow → Shared → Prop, (∀ f s', JN h₀ L m₀ a1 a2 a3 a4 a5 a6 o2 o3 o4 o5 o6 s f s' → Qo f s') → wpAny (model prog w) A t Qo E s) (tail : ∀ s', JN h₀ L m₀ a1 a2 a3 a4 a5 a6 o2 o3 o4 o5 o6 s .next s' → Q .next s') : wpAny (model prog w) A t Q E s :=
  wpAny_mono (hif (JN h₀ L m₀ a1 a2 a3 a4 a5 a6 o2 o3 o4 o5 o6 s) fun _ _ h => h) (fun f s' hq => by cases hq.1; exact tail s' hq) fun _ _ e => e
theorem ints4 {t1 t2 t3 t4 : Tok} : IntsAre [.int 2811 t1, .int 767 t2, .int 10430 t3, .int 1357 t4] [2811, 767, 10430, 1357] := .cons _ _ (.cons _ _ (.cons _ _ (.cons _ _ .nil)))
section
variable {prog : Program} {w : World} {A : Around} {E : Value → Shared → Prop} {s : Shared} {h₀ : Heap} {L D : Addr} {m : Str → Option Value} {news news' : List (Addr × Obj)}
theorem bytes_any {vs : List Value} {ns : List Int} {nl : Nat} {Q : Value → Shared → Prop} (F : Fr h₀ L s.heap m) (N : News h₀ L s.heap ((D, listOf vs.toArray nl) :: news)) (hh : A.handled = none) (hi : IntsAre vs ns) (hr : KBa.In ns) (hn : ns.length ≤ 1000)
    (h : ∀ h' t' k, Fr h₀ L h' m → News h₀ L h' news → Q (.bytes (arr (nats ns)) t') { s with heap := h', toks := k }) : wpAny (model prog w) A (call (.type "bytes") [.ref D]) Q E s := by
  refine KBa.make_K F (fun p hp => N p (.tail _ hp)) hh (News.isList N (.head _)) hi hr (by omega) fun h' t' k F' N' _ => ?_
  have e : arr (nats ns) = byteArr ns := by
    unfold arr nats
    rw [List.map_map]
    congr 1
    refine (List.map_congr_left (g := id) fun x hx => ?_).trans (List.map_id _)
    have := hr x hx
    show ((x.toNat : Nat) : Int) = x
    omega
  have h1 := h h' t' k F' N'
  rw [e] at h1
  exact h1
end
theorem in_fmod {ns : List Int} : KBa.In (List.map (fun k' : Int => k'.fmod 256) ns) := fun x hx => by
  obtain ⟨k, _, rfl⟩ := List.mem_map.mp hx
  exact ⟨fmod_lo _ (by decide), fmod_hi _ (by decide)⟩
theorem oct_row {ns : List Int} (h : ns.length ≤ 10) : Oct (nats (List.map (fun k' : Int => k'.fmod 256) ns)) := ⟨fun x hx => by
  obtain ⟨y, hy, rfl⟩ := List.mem_map.mp hx
  have := in_fmod y hy
  omega, by unfold nats; rw [List.length_map, List.length_map]; omega⟩
section
variable {prog : Program} {w : World} {A : Around} {E : Value → Shared → Prop} {s : Shared} {h₀ : Heap} {L D : Addr} {m : Str → Option Value} {news news' : List (Addr × Obj)}
theorem min_is {a b c : Int} {t u : Tok} {Q : Value → Shared → Prop} (F : Fr h₀ L s.heap m) (N : News h₀ L s.heap news) (hh : A.handled = none) (e : min a b = c) (h : ∀ h' t' k, Fr h₀ L h' m → News h₀ L h' news → Q (.int c t') { s with heap := h', toks := k }) :
    wpAny (model prog w) A (call (.builtin "min") [.int a t, .int b u]) Q E s :=
  PySem.Flt.min_two_split hh (.int a t) (.int b u) (k := decide (b < a)) rfl F N
    (fun c' h' tk F' N' => by
      have c2 := of_decide_eq_true c'
      have e2 : b = c := by omega
      rw [e2]; exact h _ _ _ F' N')
    (fun c' h' tk F' N' => by
      have c2 := of_decide_eq_false c'
      have e2 : a = c := by omega
      rw [e2]; exact h _ _ _ F' N')
theorem in_fmod2 {f : Int → Int} {ks : List Int} : KBa.In (List.map (fun k' => (f k').fmod 256) ks) := fun x hx => by
  obtain ⟨k, _, rfl⟩ := List.mem_map.mp hx
  exact ⟨fmod_lo _ (by decide), fmod_hi _ (by decide)⟩
theorem le4_vals (n : Nat) : nats (List.map (fun k' : Int => ((n : Int).fdiv (256 ^ k'.toNat)).fmod 256) (rangeKs 0 (4 - 0 : Int).toNat)) = le4 n := by
  have e : ∀ k : Nat, (((n : Int).fdiv (256 ^ k)).fmod 256).toNat = n / 256 ^ k % 256 := by
    intro k
    have e1 : (256 : Int) ^ k = ((256 ^ k : Nat) : Int) := by simp
    rw [e1, fdiv_nat]
    show (Int.fmod ((n / 256 ^ k : Nat) : Int) ((256 : Nat) : Int)).toNat = _
    rw [fmod_nat, Int.toNat_natCast]
  have r : rangeKs 0 (4 - 0 : Int).toNat = [0, 1, 2, 3] := by decide
  rw [r]
  show [(((n : Int).fdiv (256 ^ 0)).fmod 256).toNat, (((n : Int).fdiv (256 ^ 1)).fmod 256).toNat, (((n : Int).fdiv (256 ^ 2)).fmod 256).toNat, (((n : Int).fdiv (256 ^ 3)).fmod 256).toNat] = _
  rw [e, e, e, e]
  simp [le4]
theorem le4_sum (c : Nat) (hc : c < 4294967296) : (enVals (fun i c => (c : Int) * 256 ^ i) (arr (le4 c)) (arr (le4 c)).size).sum = (c : Int) := by
  have e : oct (arr (le4 c)) = le4 c := oct_arr (le4_lt c)
  have hz : (arr (le4 c)).size = 4 := by simp [arr, byteArr, le4]
  have g : ∀ i : Nat, ((arr (le4 c))[i]?.getD 0).toNat = ((le4 c)[i]?).getD 0 := by
    intro i
    have : (oct (arr (le4 c)))[i]? = (le4 c)[i]? := by rw [e]
    rw [← this]
    unfold oct
    rw [List.getElem?_map, Array.getElem?_toList]
    cases (arr (le4 c))[i]? <;> rfl
  unfold enVals
  rw [hz]
  have r : List.range 4 = [0, 1, 2, 3] := by decide
  rw [r]
  simp only [List.map_cons, List.map_nil, g]
  simp [le4]
  omega
theorem sum_le4 {l : Addr} {vs : List Value} {c : Nat} {Q : Value → Shared → Prop} (F : Fr h₀ L s.heap m) (N : News h₀ L s.heap news) (hh : A.handled = none) (hl : s.heap.IsList l vs.toArray) (hc : c < 4294967296)
    (hi : IntsAre vs (enVals (fun i c => (c : Int) * 256 ^ i) (arr (le4 c)) (arr (le4 c)).size)) (h : ∀ h' tk t', Fr h₀ L h' m → News h₀ L h' news → Q (.int (c : Nat) t') { s with heap := h', toks := tk }) :
    wpAny (model prog w) A (call (.builtin "sum") [.ref l]) Q E s :=
  sum_any hh hl hi fun h' tk t' hk => by rw [le4_sum c hc]; exact h h' tk t' (F.keptAll hk) (N.grown hk)
theorem len_vs {l : Addr} {vs : List Value} {k n : Nat} {Q : Value → Shared → Prop} (N : News h₀ L s.heap news) (hm : (l, listOf vs.toArray n) ∈ news) (e : vs.length = k) (hk : k ≤ 1000) (h : Q (.int (k : Nat) (s.toks + 1)) { s with toks := s.toks + 1 + 1 }) : wpAny (model prog w) A (call (.builtin "len") [.ref l]) Q E s := by
  refine Calls.call_len_list (News.isList N hm) (by rw [List.size_toArray, e]; omega) ?_
  rw [List.size_toArray, e]; exact h
theorem len_arr {l : List Nat} {t : Tok} {Q : Value → Shared → Prop} (h : l.length ≤ 10) (k : Q (.int ((l.length : Nat) : Int) (s.toks + 1)) { s with toks := s.toks + 1 + 1 }) : wpAny (model prog w) A (call (.builtin "len") [.bytes (arr l) t]) Q E s :=
  len_B (by rw [arr_size]; omega) (by rw [arr_size]; exact k)
end
theorem all9 {b g1 g2 g3 g4 f d a6 a5 a4 a3 a2 a1 i : Addr} {p1 p2 p3 p4 of od o6 o5 o4 o3 o2 o1 oi : Obj} (l : ∀ p ∈ [(g1, p1), (g2, p2), (g3, p3), (g4, p4), (f, of), (d, od), (a6, o6), (a5, o5), (a4, o4), (a3, o3), (a2, o2), (a1, o1), (i, oi)], p.1 < b) :
    f < b ∧ d < b ∧ a6 < b ∧ a5 < b ∧ a4 < b ∧ a3 < b ∧ a2 < b ∧ a1 < b ∧ i < b :=
  let l0 := (List.forall_mem_cons.mp (List.forall_mem_cons.mp (List.forall_mem_cons.mp (List.forall_mem_cons.mp l).2).2).2).2
  let l1 := List.forall_mem_cons.mp l0
  let l2 := List.forall_mem_cons.mp l1.2
  let l3 := List.forall_mem_cons.mp l2.2
  let l4 := List.forall_mem_cons.mp l3.2
  let l5 := List.forall_mem_cons.mp l4.2
  let l6 := List.forall_mem_cons.mp l5.2
  let l7 := List.forall_mem_cons.mp l6.2
  let l8 := List.forall_mem_cons.mp l7.2
  let l9 := List.forall_mem_cons.mp l8.2
  ⟨l1.1, l2.1, l3.1, l4.1, l5.1, l6.1, l7.1, l8.1, l9.1⟩
theorem ne_same {prog : Program} {w : World} {A : Around} {E : Value → Shared → Prop} {s : Shared} {b : Array UInt8} {t u : Tok} {Q : Value → Shared → Prop} (h : Q (.bool false) s) : wpAny (model prog w) A (compareOp .NotEq (.bytes b t) (.bytes b u)) Q E s :=
  ne_bytes (by rw [bne_self_eq_false]; exact h)
theorem lawtry : PySem.Challenge.rw_qh0114_02.Holds := hd (by
  k_with_none
  k_with "steps" => repeat' ((fail_if_success (with_reducible show wpAny _ _ (pyIter _) _ _ _)); first | (k_unfold; (try dsimp only)) | walk1 | (dsimp only; walk1) | fail "no step")
  k_with "exec For" => (k_here; (rename Fr _ _ _ _ => lF'); (with_unfolding_all refine' For_invVF lF' ?hole1k1 ?hole1k2 ?_; (case hole1k1 => exact rfl); (case hole1k2 => exact rfl); k_whole))
  k_with "exec For Name Call cons nil" => (k_here; (rename Fr _ _ _ _ => lF'); (with_unfolding_all refine' For_invVF lF' ?hole2k1 ?hole2k2 ?_; (case hole2k1 => exact rfl); (case hole2k2 => exact rfl); k_whole))
  k_with "exec For Name Name cons nil" => (k_here; (rename Fr _ _ _ _ => lF'); (with_unfolding_all refine' For_invVF lF' ?hole3k1 ?hole3k2 ?_; (case hole3k1 => exact rfl); (case hole3k2 => exact rfl); k_whole))
  k_with "call type:type" => (k_here; (with_reducible show wpAny _ _ (call _ [Value.bytes _ _]) _ _ _); refine call_type_of (Tx := "bytes") rfl (by decide +kernel) ?_)
  k_with "kba_in" => first | assumption | (refine in_snoc ?_ ?_; (focus (first | k_extra "kba_in" | kba_in)); (first | exact byte_in _ | decide | omega))
  k_with "kba_ints" => first | assumption | (refine ints_snoc ?_; (first | k_extra "kba_ints" | kba_listInts))
  k_with "call type:bytes" => (k_here; (with_reducible show wpAny _ _ (call (Value.type "bytes") [Value.ref _]) _ _ _); (rename News _ _ _ _ => nE'); (simp only [List.push_toArray] at nE'); k_dflt (refine' KBa.make_K ?hole7kbaF nE' ?hole7kbah ?hole7kbal ?hole7kbai ?hole7kbar ?hole7kban ?_; (case hole7kbaF => k_asm); (case hole7kbah => rfl); (case hole7kbal => exact News.isList nE' (by k_mem)); (case hole7kbai => first | k_extra "kba_ints" | kba_listInts); (case hole7kbar => first | k_extra "kba_in" | kba_in); (case hole7kban => kba_size)); intro _ _ _ F' N' kbaIn)
  k_with "binaryOp FloorDiv int int" => (k_here; first | (with_reducible refine floordiv_int (powN_ne (b := 256) (by decide) _) ?_ (Or.inl (pow256_py ?hole8kbp)); (case hole8kbp => omega)) | (with_reducible refine floordiv_int (powN_ne (b := 64) (by decide) _) ?_ (Or.inl (pow64_py ?hole8kbp)); (case hole8kbp => omega)))
  k_with "call builtin:len" => (k_here; (with_reducible show wpAny _ _ (call (Value.builtin "len") [Value.bytes _ _]) _ _ _); refine len_B ?hole9kl ?_; (case hole9kl => first | exact Nat.le_trans (Small.le (by assumption)) (by decide) | omega))
  k_with "steps" => repeat' ((fail_if_success (with_reducible show wpAny _ _ (pyIter _) _ _ _)); (fail_if_success (with_reducible show wpAny _ _ (exec (Stmt.For _ _ _ _ _) _) _ _ _)); (fail_if_success (with_reducible show LedPost _ _ _ _ _ _ _ _)); (fail_if_success (with_reducible show wpAny _ _ (execs _ (envOf _ _ _ _ _)) _ _ _)); (fail_if_success (with_reducible show wpAny _ _ (call (Value.type "bytes") [Value.ref _]) _ _ _)); first | (k_unfold; (try dsimp only)) | walk1 | (dsimp only; walk1) | fail "no step")
  k_with "updF" => first | exact up9_3 (by assumption) | exact up10_6 (by assumption) | exact up10_5 (by assumption) | exact up10_4 (by assumption)
  k_with "eval ListComp" => (k_here; (with_reducible show wpAny _ _ (eval (Expr.ListComp _ [⟨Expr.Tuple _ _ _, _, _, _⟩] _ _) _) _ _ _); k_dflt (refine comp_enum (N := 10) (by decide) (fun i c => (c : Int) * 256 ^ i) rfl (by with_unfolding_all rfl) (by decide) (by rfl) (by decide) (by rfl) (by rfl) (by decide) (fun C m₂ s i c t t' Q E hn hk ho hi hc h => el_mul (by rfl) (by rfl) (by rfl) hn hk ho hi hc (by decide) (by decide) h) ?_))
  k_with "call type:enumerate" => (k_here; (with_reducible show wpAny _ _ (call _ [Value.bytes _ _]) _ _ _); refine call_enumB ?_; intro hE' enE' enI' enZ' enK')
  k_with "call builtin:sum" => (k_here; (rename News _ _ _ _ => nE'); (rename Fr _ _ _ _ => fE'); k_dflt (refine sum_le4 fE' nE' (by rfl) (News.isList nE' (List.Mem.head _)) (sumOf_lt _) (by assumption) ?_); clear nE' fE'; intro h' tk' t' F' N'; (replace N' := news_tail N'); (try k_sweep))
  k_with "call builtin:min" => (k_here; (rename News _ _ _ _ => nE'); (rename Fr _ _ _ _ => fE'); k_dflt (refine min_is fE' nE' (by rfl) (by assumption) ?_); clear nE' fE'; intro h' t' tk' F' N'; (try k_sweep))
  k_with "call builtin:len" => (k_here; first | ((with_reducible show wpAny _ _ (call (Value.builtin "len") [Value.ref _]) _ _ _); (rename News _ _ _ _ => nE'); k_dflt (refine len_vs nE' (by k_mem) (by with_reducible assumption) (by omega) ?_); (try dsimp only)) | ((with_reducible show wpAny _ _ (call (Value.builtin "len") [Value.bytes _ _]) _ _ _); refine len_arr (by with_reducible assumption) ?_; (try dsimp only)))
  k_with "call ref" => (k_here; (with_reducible show wpAny _ _ (call (Value.ref 131) _ _) _ _ _); (k_dflt (refine' Ctr.use (sum_l _ _ _ _ _ _ (by with_reducible assumption)) ?hole17k1 ?hole17k2 ?hole17k3 ?hole17k4 ?hole17k5 ?hole17kK ?hole17kd ?hole17ku ?_; (case hole17k1 => k_asm); (case hole17k2 => k_asm); (case hole17k3 => k_asm); (case hole17k4 => k_asm); (case hole17k5 => k_asm); (case hole17kK => first | exact rfl | assumption); (case hole17kd => first | exact Nat.le_of_ble_eq_true rfl | exact room1 (by assumption) rfl | exact room2 (by assumption) rfl | ktr_room); (case hole17ku => first | exact Nat.le_of_ble_eq_true rfl | exact room1 (by assumption) rfl | exact room2 (by assumption) rfl | ktr_units); k_whole); intro v' h' tk' hv' F' N'; (first | (obtain ⟨t', hv'⟩ := hv'; subst hv') | subst hv'); (try k_sweep)))
  k_with "call ref" => (k_here; (with_reducible show wpAny _ _ (call (Value.ref 101) _ _) _ _ _); (k_dflt (refine' Ctr.use (enc_l _ _ _ _ _ _ (by with_reducible assumption)) ?hole18k1 ?hole18k2 ?hole18k3 ?hole18k4 ?hole18k5 ?hole18kK ?hole18kd ?hole18ku ?_; (case hole18k1 => k_asm); (case hole18k2 => k_asm); (case hole18k3 => k_asm); (case hole18k4 => k_asm); (case hole18k5 => k_asm); (case hole18kK => first | exact rfl | assumption); (case hole18kd => first | exact Nat.le_of_ble_eq_true rfl | exact room1 (by assumption) rfl | exact room2 (by assumption) rfl | ktr_room); (case hole18ku => first | exact Nat.le_of_ble_eq_true rfl | exact room1 (by assumption) rfl | exact room2 (by assumption) rfl | ktr_units); k_whole); intro v' h' tk' hv' F' N'; (first | (obtain ⟨t', hv'⟩ := hv'; subst hv') | subst hv'); (try k_sweep)))
  k_with "call ref" => (k_here; (with_reducible show wpAny _ _ (call (Value.ref 101) [Value.bytes (arr (le4 _)) _] _) _ _ _); (k_dflt (refine' Ctr.use (enc_le4 _ _ _ _ _ _) ?hole19k1 ?hole19k2 ?hole19k3 ?hole19k4 ?hole19k5 ?hole19kK ?hole19kd ?hole19ku ?_; (case hole19k1 => k_asm); (case hole19k2 => k_asm); (case hole19k3 => k_asm); (case hole19k4 => k_asm); (case hole19k5 => k_asm); (case hole19kK => first | exact rfl | assumption); (case hole19kd => first | exact Nat.le_of_ble_eq_true rfl | exact room1 (by assumption) rfl | exact room2 (by assumption) rfl | ktr_room); (case hole19ku => first | exact Nat.le_of_ble_eq_true rfl | exact room1 (by assumption) rfl | exact room2 (by assumption) rfl | ktr_units); k_whole); intro v' h' tk' hv' F' N'; (first | (obtain ⟨t', hv'⟩ := hv'; subst hv') | subst hv'); (try k_sweep)))
  k_with "call ref" => (k_here; (with_reducible show wpAny _ _ (call (Value.ref 109) _ _) _ _ _); (k_dflt (refine' Ctr.use (dec_l _ _ _ _ _ _ (by with_reducible assumption)) ?hole20k1 ?hole20k2 ?hole20k3 ?hole20k4 ?hole20k5 ?hole20kK ?hole20kd ?hole20ku ?_; (case hole20k1 => k_asm); (case hole20k2 => k_asm); (case hole20k3 => k_asm); (case hole20k4 => k_asm); (case hole20k5 => k_asm); (case hole20kK => first | exact rfl | assumption); (case hole20kd => first | exact Nat.le_of_ble_eq_true rfl | exact room1 (by assumption) rfl | exact room2 (by assumption) rfl | ktr_room); (case hole20ku => first | exact Nat.le_of_ble_eq_true rfl | exact room1 (by assumption) rfl | exact room2 (by assumption) rfl | ktr_units); k_whole); intro v' h' tk' hv' F' N'; (first | (obtain ⟨t', hv'⟩ := hv'; subst hv') | subst hv'); (try k_sweep)))
  k_with "call ref" => (k_here; (with_reducible show wpAny _ _ (call (Value.ref 109) [Value.bytes (arr (signs (spoil _ _ _))) _] _) _ _ _); (k_dflt (refine' Ctr.use (dec_got _ _ _ _ _ _ _ _ (by with_reducible assumption)) ?hole21k1 ?hole21k2 ?hole21k3 ?hole21k4 ?hole21k5 ?hole21kK ?hole21kd ?hole21ku ?_; (case hole21k1 => k_asm); (case hole21k2 => k_asm); (case hole21k3 => k_asm); (case hole21k4 => k_asm); (case hole21k5 => k_asm); (case hole21kK => first | exact rfl | assumption); (case hole21kd => first | exact Nat.le_of_ble_eq_true rfl | exact room1 (by assumption) rfl | exact room2 (by assumption) rfl | ktr_room); (case hole21ku => first | exact Nat.le_of_ble_eq_true rfl | exact room1 (by assumption) rfl | exact room2 (by assumption) rfl | ktr_units); k_whole); intro v' h' tk' hv' F' N'; (first | (obtain ⟨t', hv'⟩ := hv'; subst hv') | subst hv'); (try k_sweep)))
  k_with "binaryOp FloorDiv int int" => (k_here; first | (with_reducible refine fdiv8_is (by with_reducible assumption) ?_; (try dsimp only)) | ((with_reducible refine floordiv_int (powN_ne (b := 256) (by decide) _) ?_ (Or.inl (pow256_py ?hole22kbp))); (case hole22kbp => first | exact idx_lt (by with_reducible assumption) (by with_reducible assumption) (by with_reducible assumption) | exact k_lt4 (by with_reducible assumption) | omega)))
  k_with "binaryOp Pow int int" => (k_here; first | (with_reducible refine pow_int_small (by with_reducible assumption) (by with_reducible assumption) (by decide) ?_) | (with_reducible refine pow_int_small (by with_reducible assumption) (k_le4 (by with_reducible assumption)) (by decide) ?_) | (with_reducible refine pow_int_small (idx_sub (by with_reducible assumption)) (idx_le (by with_reducible assumption) (by with_reducible assumption) (by with_reducible assumption)) (by decide) ?_))
  k_with "compareOp GtE int int" => (k_here; with_reducible refine ge_no (by with_reducible assumption) ?_)
  k_with "binaryOp Add bytes bytes" => (k_here; refine add_is (by with_reducible assumption) (by rw [arr_size]; omega) ?_; intro t' k'; (try dsimp only))
  k_with "subscriptTail" => (k_here; (with_reducible show wpAny _ _ (subscriptTail _ _ (Value.bytes (arr _) _) (Value.int _ _)) _ _ _); refine item_arr (by with_reducible assumption) (idx_lo (by with_reducible assumption)) (idx_hi (by with_reducible assumption) (by with_reducible assumption) (by with_reducible assumption)) ?_)
  k_with "subscriptTail" => (k_here; (with_reducible show wpAny _ _ (subscriptTail _ (Expr.Slice none (some _) none _) (Value.bytes (arr _) _) (Value.ref _)) _ _ _); (rename News _ _ _ _ => nE'); (rename Fr _ _ _ _ => fE'); (refine slice_arr (s := ⟨_, _, _, _, _⟩) fE' nE' (by omega) (by with_reducible assumption) ?_); clear nE' fE'; intro h' t' k' F' N')
  k_with "call ref" => (k_here; (with_reducible show wpAny _ _ (call (Value.ref 109) [Value.bytes (sealOf _) _] _) _ _ _); (k_dflt (refine' Ctr.use (dec_seal _ _ _ _ _ _) ?hole28k1 ?hole28k2 ?hole28k3 ?hole28k4 ?hole28k5 ?hole28kK ?hole28kd ?hole28ku ?_; (case hole28k1 => k_asm); (case hole28k2 => k_asm); (case hole28k3 => k_asm); (case hole28k4 => k_asm); (case hole28k5 => k_asm); (case hole28kK => first | exact rfl | assumption); (case hole28kd => first | exact Nat.le_of_ble_eq_true rfl | exact room1 (by assumption) rfl | exact room2 (by assumption) rfl | ktr_room); (case hole28ku => first | exact Nat.le_of_ble_eq_true rfl | exact room1 (by assumption) rfl | exact room2 (by assumption) rfl | ktr_units); k_whole); intro v' h' tk' hv' F' N'; (first | (obtain ⟨t', hv'⟩ := hv'; subst hv') | subst hv'); (try k_sweep)))
  k_with "call ref" => (k_here; (with_reducible show wpAny _ _ (call (Value.ref 138) _ _) _ _ _); (k_dflt (refine' Ctr.use (back_flips _ _ _ _ (by with_reducible assumption) (by with_reducible assumption) _ _) ?hole29k1 ?hole29k2 ?hole29k3 ?hole29k4 ?hole29k5 ?hole29kK ?hole29kd ?hole29ku ?_; (case hole29k1 => k_asm); (case hole29k2 => k_asm); (case hole29k3 => k_asm); (case hole29k4 => k_asm); (case hole29k5 => k_asm); (case hole29kK => first | exact rfl | assumption); (case hole29kd => first | exact Nat.le_of_ble_eq_true rfl | exact room1 (by assumption) rfl | exact room2 (by assumption) rfl | ktr_room); (case hole29ku => first | exact Nat.le_of_ble_eq_true rfl | exact room1 (by assumption) rfl | exact room2 (by assumption) rfl | ktr_units); k_whole); intro v' h' tk' hv' F' N'; (first | (obtain ⟨t', hv'⟩ := hv'; subst hv') | subst hv'); (try k_sweep)))
  k_with "call ref" => (k_here; (with_reducible show wpAny _ _ (call (Value.ref 145) _ _) _ _ _); (k_dflt (refine' Ctr.use (start_l _ _ _ _ _ _ _ (by with_reducible assumption)) ?hole30k1 ?hole30k2 ?hole30k3 ?hole30k4 ?hole30k5 ?hole30kK ?hole30kd ?hole30ku ?_; (case hole30k1 => k_asm); (case hole30k2 => k_asm); (case hole30k3 => k_asm); (case hole30k4 => k_asm); (case hole30k5 => k_asm); (case hole30kK => first | exact rfl | assumption); (case hole30kd => first | exact Nat.le_of_ble_eq_true rfl | exact room1 (by assumption) rfl | exact room2 (by assumption) rfl | ktr_room); (case hole30ku => first | exact Nat.le_of_ble_eq_true rfl | exact room1 (by assumption) rfl | exact room2 (by assumption) rfl | ktr_units); k_whole); intro v' h' tk' hv' F' N'; (first | (obtain ⟨t', hv'⟩ := hv'; subst hv') | subst hv'); (try k_sweep)))
  k_with "call ref" => (k_here; (with_reducible show wpAny _ _ (call (Value.ref 114) _ _) _ _ _); (rename News _ _ _ _ => nE'); k_dflt (refine' CtrN.use (figures_l _ _ _ _ _ _ ?hole31ka ?hole31kb) ?hole31k1 ?hole31k2 ?hole31k3 nE' ?hole31k5 ?hole31kK ?hole31kd ?hole31ku ?_; (case hole31ka => with_reducible assumption); (case hole31kb => with_reducible assumption); (case hole31k1 => k_asm); (case hole31k2 => k_asm); (case hole31k3 => k_asm); (case hole31k5 => k_asm); (case hole31kK => first | exact rfl | assumption); (case hole31kd => exact Nat.le_of_ble_eq_true rfl); (case hole31ku => exact Nat.le_of_ble_eq_true rfl); k_whole); intro v' h' tk' Dn on hv' F' N' lN'; obtain ⟨vF, nF, hv1, hv2, hIF⟩ := hv'; subst hv1; subst hv2; have lO' := off1_of lN'; clear lN'; (simp only [LCg.Off1, and_true] at lO'); clear nE'; (try k_sweep))
  k_with "call ref" => (k_here; (with_reducible show wpAny _ _ (call (Value.ref 124) _ _) _ _ _); (rename News _ _ _ _ => nE'); k_dflt (refine' CtrH.use (written_ctr _ _ _ _ _ _ _ ?hole32ka ?hole32kb) ?hole32k1 ?hole32k2 ?hole32k3 nE' ?hole32k5 ?hole32kK ?hole32kd ?hole32ku ?hole32kH ?_; (case hole32kH => exact News.isList nE' (by k_mem)); (case hole32ka => assumption); (case hole32kb => assumption); (case hole32k1 => k_asm); (case hole32k2 => k_asm); (case hole32k3 => k_asm); (case hole32k5 => k_asm); (case hole32kK => first | exact rfl | assumption); (case hole32kd => exact Nat.le_of_ble_eq_true rfl); (case hole32ku => exact Nat.le_of_ble_eq_true rfl); k_whole); intro v' h' tk' hv' F' N'; obtain ⟨t', hv1⟩ := hv'; subst hv1; clear nE'; (try k_sweep))
  k_with "call ref" => (k_here; (with_reducible show wpAny _ _ (call (Value.ref 119) _ _) _ _ _); (rename News _ _ _ _ => nE'); k_dflt (refine' CtrH.use (octets_got _ _ _ _ _ _ _ _ _ ?hole33ka ?hole33kb) ?hole33k1 ?hole33k2 ?hole33k3 nE' ?hole33k5 ?hole33kK ?hole33kd ?hole33ku ?hole33kH ?_; (case hole33kH => exact News.isList nE' (by k_mem)); (case hole33ka => assumption); (case hole33kb => assumption); (case hole33k1 => k_asm); (case hole33k2 => k_asm); (case hole33k3 => k_asm); (case hole33k5 => k_asm); (case hole33kK => first | exact rfl | assumption); (case hole33kd => exact Nat.le_of_ble_eq_true rfl); (case hole33ku => exact Nat.le_of_ble_eq_true rfl); k_whole); intro v' h' tk' hv' F' N'; obtain ⟨t', hv1⟩ := hv'; subst hv1; clear nE'; (try k_sweep))
  k_with "call builtin:isinstance" => (k_here; with_reducible refine isi_bytes ?_)
  k_with "compareOp NotEq bytes bytes" => (k_here; refine ne_same ?_)
  k_with "binaryOp Add ref ref" => (k_here; (rename News _ _ _ _ => nE'); (rename Fr _ _ _ _ => fE'); k_dflt (refine' kmk_add_ints fE' nE' ?hole36ka ?hole36kb ?hole36ki ?hole36kj ?_ ?hole36kz; (case hole36ka => exact News.isList nE' (by k_mem)); (case hole36kb => exact News.isList nE' (by k_mem)); (case hole36ki => assumption); (case hole36kj => assumption); (case hole36kz => (rw [sizeLine_eq]; simp only [List.length_append, List.length_take, List.length_drop, intsOf_len, figs_len]; omega))); intro D' ws' h' F' N' l1 hI'; clear nE' fE'; (try k_sweep))
  k_with "subscriptTail Name Slice ref ref" => (k_here; (with_reducible show wpAny _ _ (subscriptTail _ (PySem.Expr.Slice _ _ none _) (Value.ref _) (Value.ref _)) _ _ _); k_dflt (refine' kmk_slice_ints ?hole37kF ?hole37kN ?hole37kl ?hole37kp ?hole37kq ?hole37ki ?hole37km ?hole37kc ?_ ?hole37ks ?hole37kt ?hole37kz; (case hole37kF => k_asm); (case hole37kN => k_asm); (case hole37kl => kmk_list); (case hole37kp => kmk_part); (case hole37kq => kmk_part); (case hole37ki => assumption); (case hole37km => first | exact kmk_upto (by assumption) (by omega) | exact kmk_from (by assumption) (by omega)); (case hole37kc => exact rfl); (case hole37ks => with_unfolding_all rfl); (case hole37kt => kmk_pure); (case hole37kz => (rw [List.size_toArray, sizeLine_eq]; omega))); intro D' ws' h' F' N' l1 hI' hC' hL'; clear hC' hL'; (try k_sweep))
  w_strict (k_go0; (all_goals try k_fold))
  repeat' ((fail_if_success (with_reducible show wpAny _ _ (exec (Stmt.Assign [Expr.Name "numbers" _] _ _) _) _ _ _)); first | (k_unfold; (try dsimp only)) | walk1 | (dsimp only; walk1) | fail "no step")
  rename News _ _ _ _ => N9
  rename Fr _ _ _ _ => F9
  refine cut_n F9 N9 (fun Qo hQo => ?_) ?_
  · k_extra "steps"
    · exact hQo _ _ ⟨rfl, _, _, _, _, _, _, _, rfl, by assumption, by assumption, by assumption, by assumption, by omega, by omega, by (show @LT.lt Nat _ _ _; omega)⟩
    · exact hQo _ _ ⟨rfl, _, _, _, _, _, _, _, rfl, by assumption, news_drop1 (by assumption), by assumption, ints4, by decide, by decide, by (show @LT.lt Nat _ _ _; omega)⟩
  · clear N9 F9
    rintro s' ⟨-, h, tk, D, vs, ns, n, o1, rfl, F0, N0, ho1, hI0, hlo, hhi, hD⟩
    dsimp only
    k_extra "steps"
    rename IntsAre _ (List.map _ _) => hI8
    rename Fr _ _ _ _ => F8
    rename News _ _ _ _ => N8
    refine bytes_any F8 N8 rfl hI8 in_fmod (by rw [List.length_map]; omega) fun h2 t2 k2 F2 N2 => ?_
    have hro := oct_row hhi
    have hrl : (nats (List.map (fun k' : Int => k'.fmod 256) ns)).length = ns.length := by unfold nats; rw [List.length_map, List.length_map]
    obtain ⟨r, hr⟩ : ∃ r, r = nats (List.map (fun k' : Int => k'.fmod 256) ns) := ⟨_, rfl⟩
    rw [← hr] at hro hrl ⊢
    clear hr F8 N8 hI8
    have hr10 : r.length ≤ 10 := by omega
    have hr1 : 1 ≤ r.length := by omega
    have hfT := figs_t hr10
    have hfS : Figs (figs r) := ⟨hfT.le, hfT.lt⟩
    have hfF : Few (figs r) := ⟨hfT.le⟩
    have hvl : vs.length = ns.length := hI0.length
    k_extra "steps"
    rename IntsAre _ (List.map _ _) => hI8
    rename Fr _ _ _ _ => F8
    rename News _ _ _ _ => N8
    refine bytes_any F8 N8 rfl hI8 in_fmod2 (by rw [List.length_map]; decide) fun h3 t3 k3 F3 N3 => ?_
    rw [le4_vals]
    clear F8 N8 hI8
    have hvF : vF.length = cnt r.length := (IntsAre.length (by assumption)).trans (by rw [intsOf_len, figs_len])
    have hc14 : cnt r.length ≤ 14 := by unfold cnt; omega
    obtain ⟨wd, hw⟩ : ∃ wd, wd = min 4 (cnt r.length) := ⟨_, rfl⟩
    have hwi : min (4 : Int) ((cnt r.length : Nat) : Int) = (wd : Int) := by omega
    k_extra "steps"
    refine srcEn_of (by assumption) (by assumption) (by assumption) (by assumption) (by assumption) (by assumption) ?_ ?_
    · rw [arr_size]; exact Nat.le_of_ble_eq_true rfl
    · intro DS hS' tkS ysS FS NS ltS hIS
      clear ltS
      dsimp only
      k_extra "steps"
      refine wpAny_For ?_
      k_extra "steps"
      rename IsRange _ _ _ _ _ _ _ _ => hR9
      rename Fr _ _ _ _ => F8
      rename News _ _ _ _ => N8
      have hn9 : ((cnt r.length : Nat) : Int) - (wd : Int) + 1 = ((cnt r.length - wd + 1 : Nat) : Int) := by omega
      rw [hn9] at hR9
      refine for_rng (n := cnt r.length - wd + 1) (JP _ _ _ _ _ _ _ _ r vF vs nF n wd) rfl hR9 (rng_small (by omega)) (rng_size _) F8 N8 ⟨_, _, _, _, _, _, _, _, _, _, rfl, by assumption, ⟨⟨_, by assumption⟩, ⟨_, by assumption⟩, ⟨_, by assumption⟩, ⟨_, by assumption⟩⟩, rfl, rfl, rfl, rfl, rfl⟩ ?_ ?_ ?_
      · rintro i t m rest I oI h5 tk5 hi ⟨o1', o2', o3', o4', o5', o6', tr, tw, tt, td, rfl, ho1', hoC', m1, m2, m3, m4, m5⟩ F5 N5 hlt
        have F6 := fr_put5 m1 m2 m3 m4 m5 F5
        clear F5
        simp only [List.cons_append, List.nil_append] at N5
        obtain ⟨⟨c3, hd3⟩, ⟨c4, hd4⟩, ⟨c5, hd5⟩, ⟨c6, hd6⟩⟩ := hoC'
        simp only [AllLt, and_true] at hlt
        have hnd := nd9 hD lO'.1 lO'.2.1 lO'.2.2.1 lO'.2.2.2.1 lO'.2.2.2.2.1 lO'.2.2.2.2.2.1 lO'.2.2.2.2.2.2 hlt.1 hlt.2.1
        have hiw : i + wd ≤ cnt r.length := by omega
        have hw4 : wd ≤ 4 := by omega
        clear F8 N8 hIS hwi hn9 m1 m2 m3 m4 m5 hi hlt hD lO' hw
        repeat' ((fail_if_success (with_reducible show wpAny _ _ (exec (Stmt.Assign [Expr.Name (Str.ofString "smudged") _] _ _) _) _ _ _)); first | (k_unfold; (try dsimp only)) | walk1 | (dsimp only; walk1) | fail "no step")
        rename Fr _ _ _ _ => F8
        rename News _ _ _ _ => N8
        refine cut_s1 F8 N8 wd (fun Qo hQo => ?_) ?_
        · k_extra "steps"
          exact hQo _ (js_end (by assumption) (by assumption) (by simp only [LCg.Off1, and_true]; assumption) (by assumption) smudge_in (by rw [List.length_map, rangeKs_length]; omega))
        rintro s' ⟨hs, tks, SB, ysB, S, rfl, FB, NB, OB, hIB, hS64, hSl⟩
        clear F8 N8
        dsimp only at NB ⊢
        have hSm : Smudge r i S := ⟨hro.oct, hS64, by omega, by omega⟩
        have hTu := turn_of hSm hr10 hSl
        refine absQ fun Qz hQz => ?_
        repeat' ((fail_if_success (with_reducible show wpAny _ _ (exec (Stmt.Assign [Expr.Name (Str.ofString "spoilt") _] _ _) _) _ _ _)); first | (k_unfold; (try dsimp only)) | walk1 | (dsimp only; walk1) | fail "no step")
        refine cut_s2 (spoil (figs r) i S) FB NB (fun Qo hQo => ?_) ?_
        · clear OB hTu hSm hnd
          k_extra "steps"
          rename Fr _ _ _ _ => F9
          rename News _ _ _ _ => N9
          rename (∀ p : Addr × Obj, p ∈ _ → p.1 < _) => l9
          rename IntsAre _ _ => I9
          exact hQo _ ⟨_, _, _, _, rfl, F9, news_drop4 N9, all9 l9, by rw [← spoil_ints (figs r) S i wd hSl]; exact I9⟩
        rintro s' ⟨hs, tks, EB, wsE, rfl, FE, NE, hE, hIE⟩
        clear FB NB OB
        dsimp only at NE ⊢
        have hnd10 := nd10 hE hnd
        have hspl : (spoil (figs r) i S).length = cnt r.length := by rw [spoil_len (by rw [figs_len, hSl]; exact hiw), figs_len]
        have hET : FigsT (spoil (figs r) i S) := ⟨spoil_lt (figs_lt r) hS64, by rw [hspl]; omega, by rw [hspl]; exact cnt_no1 _⟩
        have hES : Figs (spoil (figs r) i S) := ⟨hET.le, hET.lt⟩
        have hEF : Few (spoil (figs r) i S) := ⟨hET.le⟩
        have f8 := hTu.f8
        have g8 := hTu.g8
        have la := hTu.la
        have fl := hTu.fl
        have og := hTu.og
        have lg := hTu.lg
        have ff := hTu.ff
        have fg : 6 * i / 8 ≤ (gotOf r i S).length := by rw [lg]; exact ff
        have pe0 := hTu.e0
        have pe1 := hTu.e1
        have hrl2 : arr ((gotOf r i S).take (6 * i / 8)) ++ arr (r.drop (6 * i / 8)) = arr r := by rw [← arr_append, take_got hSm]
        clear hE hnd hTu hIB hSl hiw
        k_extra "steps"
        rename IntsAre _ (List.map _ _) => hI8
        rename Fr _ _ _ _ => F8
        rename News _ _ _ _ => N8
        rw [mend_vals hSm] at hI8
        have hdr : ∀ x ∈ r.drop (6 * i / 8), x < 256 := fun x hx => hro.oct x (List.mem_of_mem_drop hx)
        refine bytes_any F8 N8 rfl hI8 (in_ints hdr) (by rw [intsOf_len, List.length_drop]; exact Nat.le_trans (Nat.sub_le _ _) (Nat.le_trans hr10 (by decide))) fun h9 t9 k9 F9 N9 => ?_
        rw [nats_intsOf]
        clear F8 N8 hI8
        k_extra "steps"
        rename Fr _ _ _ _ => F9
        rename News _ _ _ _ => N9
        exact hQz _ _ (jp_end F9 N9 (by assumption) (by assumption) (by assumption) (by assumption) (by assumption) rfl rfl rfl rfl rfl)
      · rintro i m rest ⟨o1', o2', o3', o4', o5', o6', tr, tw, tt, td, rfl, _⟩
        rfl
      · rintro m rest h5 tk5 ⟨o1', o2', o3', o4', o5', o6', tr, tw, tt, td, rfl, ho1', hoC', m1, m2, m3, m4, m5⟩ F5 N5
        have F6 := fr_put5 m1 m2 m3 m4 m5 F5
        clear F5
        k_extra "steps"
        all_goals (k_end; kc_close))
end Mine
end

end

set_option maxRecDepth 100000 in
set_option maxHeartbeats 8000000 in
theorem PySem.Challenge.cw_qh0114_02_holds : PySem.Challenge.rw_qh0114_02.Holds := by
  exact Mine.lawtry
