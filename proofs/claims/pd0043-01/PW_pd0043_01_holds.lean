import PyProof.Rows.All
import Wide.All
import OpenK.AllK
import Wide.FinOn
import PyProof.FactsAll.object_1
import PyProof.FactsAll.list_1
import PyProof.FactsAll.tuple_2
import PyProof.AutoSeq1
import PyProof.FactsAll.range_2
import PyProof.ListOps
import PyProof.MeetsSeq3
import PyProof.ZipIter
import PyProof.WalksPairs
import KE.LcTurns
import KE.RegLcTurns
import KE.KDictIter
import KE.KTurns
import KE.KMinKey
import KE.KPairComp
import KE.KSortTup
import KE.TryLedger
import PySem.Challenge.RW_pd0043_01
open PySem PySem.W PyProof.Rows
set_option Elab.async false
set_option maxRecDepth 100000
set_option maxHeartbeats 8000000
namespace Mine
/-- the text's statements that the head pins -/
def vw : Program := view PySem.Challenge.pw_pd0043_01 [0, 2, 3, 4, 5, 8, 9, 10, 15, 16, 17, 18, 19]
/-- the head, its run of the top in one check of the kernel -/
theorem head_at (H : Hook) {d : DefRec} {kwd : List (Str × Expr)} (k1 : (OpenLaw.row PySem.Challenge.rw_pd0043_01).wellSaid = true) (hdef : defOf vw (OpenLaw.row PySem.Challenge.rw_pd0043_01).name = some (d, kwd))
    (hp : (OpenLaw.row PySem.Challenge.rw_pd0043_01).prog.theDef (OpenLaw.row PySem.Challenge.rw_pd0043_01).name = some (d.params, d.body, d.scope)) (hk : kwWritten? d.params.kwonlyargs d.params.kw_defaults = some kwd)
    (hl : LeftO (OpenLaw.row PySem.Challenge.rw_pd0043_01).prog vw [Str.ofString "nsmallest", Str.ofString "b2a_base64", Str.ofString "b64encode"] (fun s => xlAt vw [] s && recOk (RowW.records (OpenRow.toRowW (OpenLaw.row PySem.Challenge.rw_pd0043_01))) s) (Hook.obs H) (Hook.val H) 1134)
    (hw : (OpenRow.toRowW (OpenLaw.row PySem.Challenge.rw_pd0043_01)).promised)
    (hc : WalkO vw [Str.ofString "nsmallest", Str.ofString "b2a_base64", Str.ofString "b64encode"] (XL vw []) (Hook.says H) (OpenRow.toRowW (OpenLaw.row PySem.Challenge.rw_pd0043_01)) d kwd fun f vs => PySem.call f vs) :
    (OpenLaw.row PySem.Challenge.rw_pd0043_01).Holds :=
  holds_open hl (Hook.of H) (Hook.keeps H) (fun s e => xl_of s (Bool.and_eq_true_iff.mp e).1) XL.keeps hdef hp hk (fun s e => recFacts_of (Bool.and_eq_true_iff.mp e).2) (by rfl) k1 (by decide +kernel) ⟨rfl, rfl, rfl, rfl, rfl, by decide +kernel⟩ hw hc
local macro_rules | `(tactic| o_head $H) => `(tactic| (apply head_at $H (by first | assumption | decide +kernel) (by rfl) (by rfl) (by rfl); (case hl => exact fun w => by kernel_rfl)))
open_top hd for PySem.Challenge.rw_pd0043_01
end Mine
section
open PySem PySem.W PyProof.Rows PySem.Calls
set_option Elab.async false
set_option maxRecDepth 100000
set_option maxHeartbeats 8000000
namespace Mine
section
open PySem PySem.W PyProof.Rows PySem.Calls
set_option Elab.async false
set_option maxRecDepth 100000
set_option maxHeartbeats 8000000

/-- a heap is a frozen part g and some owned objects -/
structure Sep (g h : Heap) (news : List (Addr × Obj)) : Prop where
  sub : ∀ b o, g.get? b = some o → h.get? b = some o
  size : g.objs.size ≤ h.objs.size
  own : ∀ p ∈ news, h.get? p.1 = some p.2 ∧ g.get? p.1 = none

theorem Sep.of {g h : Heap} {L : Addr} {m : Str → Option Value} {news : List (Addr × Obj)} (F : Fr g L h m) (N : News g L h news) : Sep g h news :=
  ⟨F.keep, Nat.le_trans F.above (Nat.le_of_lt F.ns.lt), fun p hp => ⟨(N p hp).1, (N p hp).2.2⟩⟩
theorem Sep.drop {g h : Heap} {news news' : List (Addr × Obj)} (S : Sep g h news) (hs : ∀ p ∈ news', p ∈ news) : Sep g h news' :=
  ⟨S.sub, S.size, fun p hp => S.own p (hs p hp)⟩

/-- what every call of the text leans on -/
structure Gnd (K : Frag) (p : Program) (loose : List Str) (mean : ExcName → Option Value) (mg mb : Str → Option Value) (A : Around) (base : Heap) (outer : List Env) (g : Heap) : Prop where
  B : Below A base outer g
  X : K.In g
  T : Top p loose mean mg mb g

section
variable {K : Frag} {prog : Program} {w : World} {A A₀ : Around} {s : Shared} {p : Program} {loose : List Str} {mean : ExcName → Option Value} {mg mb : Str → Option Value} {base g : Heap} {outer : List Env} {news : List (Addr × Obj)}
  {R : Result → Shared → Prop} {name qual : Str} {params : Arguments} {body : List Stmt} {scope : Scope} {dV kV doc pm cdv ct oc : Value} {an od : Option Addr} {osl : Array (Option Value)} {f : Addr} {args : Args} {binds : List (Str × Value)}

/-- a plain def is entered: the frozen part stands below its frame -/
theorem enterP (G : Gnd K p loose mean mg mb A base outer g) (S : Sep g s.heap news)
    (ho : K.lookup f = some ⟨oc, od, .func (fnOf name qual params body scope dV kV doc pm an cdv ct), osl⟩) (hcd : codeIn K cdv qual = true) (hroom : A.depth < recursionLimit)
    (hbind : BindsTo s (fnOf name qual params body scope dV kV doc pm an cdv ct) args binds) (hloc : ∀ y ∈ binds, scope.names.lookup y.1 = some .local)
    (h : ∀ L' h₁, L' = s.heap.objs.size → Fr g L' h₁ (fun y => binds.reverse.lookup y) → News g L' h₁ news →
      wpAny (model prog w) (A.deeper (envOf qual scope L' f cdv)) (execs body (envOf qual scope L' f cdv))
        (fun fl s' => R (.ok (.ret (match fl with | .ret v => v | _ => .none))) s') (fun _ _ => False)
        { s with heap := h₁, toks := s.toks + binds.length })
    (hco : scope.isCoroutine = false) (hgen : scope.isGenerator = false) (hk : scope.kind = .function)
    (hcell : ∀ x ∈ scope.names, x.2 ≠ .cell) : codeAny (model prog w) A (.call (.ref f) args) R s := by
  have XS : K.In s.heap := G.X.keeps S.sub
  refine codeAny_call_def (fd := fnOf name qual params body scope dV kV doc pm an cdv ct) (body := body) (binds := binds) hroom (XS _ _ ho) rfl (G.T.nolimit.keeps S.sub) (codeRec_of XS hcd) rfl hbind hcell hloc (fun h₁ hns hk₁ => ?_) hco hgen hk
  refine wpAny_mono (h s.heap.objs.size h₁ rfl ⟨hns, fun b o e => hk₁ b o (S.sub b o e), S.size⟩ (fun p hp => ⟨hk₁ _ _ (S.own p hp).1, Nat.ne_of_lt (Heap.lt_size (S.own p hp).1), (S.own p hp).2⟩)) (fun _ _ x => x) fun _ _ x => x.elim

/-- likewise a def with cells of its own -/
theorem enterC (G : Gnd K p loose mean mg mb A base outer g) (S : Sep g s.heap news)
    (ho : K.lookup f = some ⟨oc, od, .func (fnOf name qual params body scope dV kV doc pm an cdv ct), osl⟩) (hcd : codeIn K cdv qual = true) (hroom : A.depth < recursionLimit)
    (hbind : BindsTo s (fnOf name qual params body scope dV kV doc pm an cdv ct) args binds) (hkind : (binds.all fun y => scope.names.lookup y.1 == some .local || scope.names.lookup y.1 == some .cell) = true)
    (hnd : ((cellsFrom 0 scope.names []).map (·.1)).Nodup)
    (h : ∀ L' h₁ tk cells, L' = s.heap.objs.size → Fr g L' h₁ (bindL (envOfC qual scope L' f cdv).kindOf binds fun _ => none) → News g L' h₁ (cells ++ news) →
      CellsAre (bindC (envOfC qual scope L' f cdv).kindOf binds fun _ => none) (cellsFrom (L' + 1) scope.names []) cells → (∀ p ∈ news, p.1 < L') →
      wpAny (model prog w) (A.deeper (envOfC qual scope L' f cdv)) (execs body (envOfC qual scope L' f cdv))
        (fun fl s' => R (.ok (.ret (match fl with | .ret v => v | _ => .none))) s') (fun _ _ => False)
        { s with heap := h₁, toks := tk })
    (hco : scope.isCoroutine = false) (hgen : scope.isGenerator = false) (hk : scope.kind = .function) : codeAny (model prog w) A (.call (.ref f) args) R s := by
  have XS : K.In s.heap := G.X.keeps S.sub
  refine codeAny_call_function hroom (XS _ _ ho) rfl hco hgen rfl (codeRec_of XS hcd) (hbind _ _ _ _ ?_)
  refine wpAny_newFunctionEnv_cells hk (kindsX hkind _) fun env' he s' x => ?_
  subst he
  refine ⟨(G.T.nolimit.keeps S.sub).keeps x.toInCall.keep, codeAny_func ?_⟩
  obtain ⟨h₁, tk, rfl, _⟩ := x.done
  have hk₁ := x.toInCall.keep
  obtain ⟨cells, NC, Y⟩ := Cl.news (h₀ := s.heap) (Nat.le_refl _) fun n c hm => ⟨x.cell n c (lookup_of_mem_nodup (cellsFrom_names scope.names 0 (s.heap.objs.size + 1) [] [] rfl ▸ hnd) hm), x.above n c hm⟩
  refine wpAny_mono (h s.heap.objs.size h₁ tk cells rfl ⟨x.toInCall.ns, fun b o e => hk₁ b o (S.sub b o e), S.size⟩ (fun p hp => ?_) Y (fun p hp => Heap.lt_size (S.own p hp).1)) (fun _ _ x => x) fun _ _ x => x.elim
  rcases List.mem_append.mp hp with hp | hp
  · refine ⟨(NC p hp).1, (NC p hp).2.1, ?_⟩
    cases q : g.get? p.1 with
    | none => rfl
    | some o => have := S.sub _ _ q; rw [(NC p hp).2.2] at this; cases this
  · exact ⟨hk₁ _ _ (S.own p hp).1, Nat.ne_of_lt (Heap.lt_size (S.own p hp).1), (S.own p hp).2⟩

/-- the caller's side: all but the handed objects is frozen for the call -/
theorem handOver {h₀ : Heap} {L : Addr} {m : Str → Option Value} {env : Env} {hid rest : List (Addr × Obj)} {h : Heap}
    (G : Gnd K p loose mean mg mb A₀ base outer h₀) (F : Fr h₀ L h m) (N : News h₀ L h (hid ++ rest)) (hA : A.frames = some (env :: outer)) (hf : env.frame = some L) (hke : env.scope.kind = .function)
    (hap : ∀ q ∈ rest, q.1 ∉ hid.map (·.1)) :
    ∃ g', Gnd K p loose mean mg mb A base (env :: outer) g' ∧ Sep g' h hid ∧ (∀ b o, h.get? b = some o → b ∉ hid.map (·.1) → g'.get? b = some o) ∧ g'.objs.size = h.objs.size ∧ (∀ b o, h₀.get? b = some o → g'.get? b = some o) ∧
      ∀ h' hid', Sep g' h' hid' → Fr h₀ L h' m ∧ News h₀ L h' (hid' ++ rest) := by
  have N1 : News h₀ L h hid := fun q hq => N q (List.mem_append.mpr (.inl hq))
  have gx := groundX (R := fun (_ : Result) _ => True) (s := { heap := h }) G.B F N1 hA hf hke
  obtain ⟨FG, BG, st, _⟩ := gx
  have nm : ∀ b o, h₀.get? b = some o → b ∉ hid.map (·.1) := fun b o e q => by
    obtain ⟨p, hp, rfl⟩ := List.mem_map.mp q
    rw [(N1 p hp).2.2] at e; cases e
  have nL : L ∉ hid.map (·.1) := fun q => by
    obtain ⟨p, hp, e⟩ := List.mem_map.mp q
    exact (N1 p hp).2.1 e
  refine ⟨hideAll h (hid.map fun x : Addr × Obj => x.1), ⟨BG, G.X.keeps st, G.T.keeps st⟩, ⟨fun b o e => of_hideAll _ e, Nat.le_of_eq (hideAll_size _ _), fun p hp => ⟨(N1 p hp).1, hideAll_none _ (List.mem_map_of_mem hp)⟩⟩, fun b o e n => hideAll_get _ e n, hideAll_size _ _, st, fun h' hid' S' => ?_⟩
  obtain ⟨oL, es, ep, hL, hLd, hLk, hLf⟩ := F.ns
  have hLg := hideAll_get (hid.map (·.1)) hL nL
  refine ⟨⟨⟨oL, es, ep, S'.sub L oL hLg, hLd, hLk, hLf⟩, fun b o e => S'.sub b o (st b o e), F.above⟩, fun q hq => ?_⟩
  rcases List.mem_append.mp hq with hq | hq
  · refine ⟨(S'.own q hq).1, fun e => ?_, ?_⟩
    · have := (S'.own q hq).2; rw [e, hLg] at this; cases this
    · cases z : h₀.get? q.1 with
      | none => rfl
      | some o => have := (S'.own q hq).2; rw [st _ _ z] at this; cases this
  · have Q := N q (List.mem_append.mpr (.inr hq))
    exact ⟨S'.sub _ _ (hideAll_get _ Q.1 (hap q hq)), Q.2⟩

theorem callOver {h₀ : Heap} {L : Addr} {m : Str → Option Value} {env : Env} {hid rest : List (Addr × Obj)} {fv : Value} {pos : List Value} {kw : List (Str × Value)} {Q : Value → Shared → Prop} {E : Value → Shared → Prop}
    (G : Gnd K p loose mean mg mb A₀ base outer h₀) (F : Fr h₀ L s.heap m) (N : News h₀ L s.heap (hid ++ rest)) (hA : A.frames = some (env :: outer)) (hf : env.frame = some L) (hke : env.scope.kind = .function)
    (hap : ∀ q ∈ rest, q.1 ∉ hid.map (·.1))
    (h : ∀ g', Gnd K p loose mean mg mb A base (env :: outer) g' → Sep g' s.heap hid → (∀ b o, s.heap.get? b = some o → b ∉ hid.map (·.1) → g'.get? b = some o) → g'.objs.size = s.heap.objs.size → (∀ b o, h₀.get? b = some o → g'.get? b = some o) →
      (∀ h' hid', Sep g' h' hid' → Fr h₀ L h' m ∧ News h₀ L h' (hid' ++ rest)) →
      codeAny (model prog w) A (.call fv ⟨pos, kw⟩) (fun r s' => match r with | .ok (.ret v) => Q v s' | .ok _ => False | .error e => E e s') s) :
    wpAny (model prog w) A (call fv pos kw) Q E s := by
  obtain ⟨g', G', S', hfz, hsz, hsub, hback⟩ := handOver G F N hA hf hke hap
  exact wpAny_call (h g' G' S' hfz hsz hsub hback)
end
end
section
open PySem PySem.W PyProof.Rows PySem.Calls
set_option Elab.async false
set_option maxRecDepth 100000
set_option maxHeartbeats 8000000

theorem slot_bytes_lt : Slot "bytes" (cmpInfo .Lt).2.1 "bytes.__lt__" :=
  .of (owner := "bytes") (n := "__lt__") (by rw [typeLookup_type, builtinLookup_eq_fast]; kernel_rfl) (by decide +kernel) (by decide +kernel) (by decide +kernel)
    (by first | exact .inl (by decide +kernel) | exact .inr (by decide +kernel)) (by rw [isSubtype_type]; kernel_rfl)
theorem entry_bytes_lt : entryFor table "bytes.__lt__" = some Builtin.«bytes.__lt__» := entryFor_of_fast (by kernel_rfl)
theorem args_bytes_lt_2 (a b : Value) : argsOk "bytes.__lt__" ⟨[a, b], []⟩ := by
  unfold argsOk; kernel_rfl

/-- the order of two bytes -/
def bl (a b : List UInt8) : Bool := Builtin.Bytes.order a b == .lt

theorem gives_bytes_lt (b c : Array UInt8) (t u : Tok) : Gives (Builtin.«bytes.__lt__» ⟨[.bytes b t, .bytes c u], []⟩) (.val (.bool (bl b.toList c.toList))) := by
  refine .of_wp fun M A E s Q hq => ?_
  show wpAny M A (isInstance (.bytes c u) (.type "bytes") >>= fun r => _) _ E s
  refine wpAny_bind (wpAny_isInstance (typeIs_bytes s c u) F.sub_bytes_bytes ?_)
  exact wpAny_pure ⟨_, rfl, hq⟩

section
variable {prog : Program} {w : World} {A : Around} {E : Value → Shared → Prop} {s : Shared}
theorem rc_lt_bytes {b c : Array UInt8} {t u : Tok} {Q : Value → Shared → Prop} (h : Q (.bool (bl b.toList c.toList)) s) : wpAny (model prog w) A (richCompare .Lt (.bytes b t) (.bytes c u)) Q E s :=
  richCompare_gives (op := .Lt) (T := "bytes") rfl rfl slot_bytes_lt entry_bytes_lt (args_bytes_lt_2 _ _) (gives_bytes_lt b c t u) (fun x => nomatch x) h
theorem lt_bytes {b c : Array UInt8} {t u : Tok} {Q : Value → Shared → Prop} (h : Q (.bool (bl b.toList c.toList)) s) : wpAny (model prog w) A (compareOp .Lt (.bytes b t) (.bytes c u)) Q E s := rc_lt_bytes h
end

/-- a thing of the heap: a tuple of a bytes, an int and an element -/
structure Item where
  a : Addr
  k : Array UInt8
  o : Int
  e : Value
  tk : Tok
  tq : Tok
  n : Nat
def Item.obj (i : Item) : Obj := { cls := .type "tuple", data := .seq #[.bytes i.k i.tk, .int i.o i.tq, i.e] i.n }
def Item.lt (i j : Item) : Bool := bl i.k.toList j.k.toList || (decide (i.k.toList = j.k.toList) && decide (i.o < j.o))
/-- the items lie in a heap, their numbers tell them apart -/
structure ItemsIn (h : Heap) (its : List Item) : Prop where
  at_ : ∀ i ∈ its, h.get? i.a = some i.obj
  inj : ∀ i ∈ its, ∀ j ∈ its, i.o = j.o → i = j
theorem ItemsIn.keeps {h h' : Heap} {its : List Item} (I : ItemsIn h its) (k : ∀ b o, h.get? b = some o → h'.get? b = some o) : ItemsIn h' its := ⟨fun i hi => k _ _ (I.at_ i hi), I.inj⟩

theorem bl_irrefl (a : List UInt8) : bl a a = false := by
  induction a with
  | nil => rfl
  | cons x a ih => unfold bl at *; simp [Builtin.Bytes.order, ih]

section
variable {prog : Program} {w : World} {A : Around} {E : Value → Shared → Prop} {s : Shared}

theorem tuple_lt_tree {i j : Item} {P : Fin → Shared → Prop} (hi : s.heap.get? i.a = some i.obj) (hj : s.heap.get? j.a = some j.obj) (inj : i.o = j.o → i = j)
    (h : P (.done (.ret (.bool (i.lt j)))) s) : wpAny (model prog w) A (Builtin.«tuple.__lt__» ⟨[.ref i.a, .ref j.a], []⟩) P E s := by
  have hTb : s.TypeIs (.ref j.a) "tuple" := ⟨_, hj, rfl⟩
  show wpAny _ _ (isInstance (.ref j.a) (.type "tuple") >>= _) _ _ s
  refine wpAny_bind (wpAny_isInstance hTb isSubtype_tuple_tuple ?_)
  simp only [Bool.not_true, Bool.false_eq_true, if_false]
  refine wpAny_bind (wpAny_tupleItemsOf hi rfl ?_)
  refine wpAny_bind (wpAny_tupleItemsOf hj rfl ?_)
  refine wpAny_bind ?_
  show wpAny _ _ (forIn [(Value.bytes i.k i.tk, Value.bytes j.k j.tk), (Value.int i.o i.tq, Value.int j.o j.tq), (i.e, j.e)] _ _) _ _ s
  rw [List.forIn_cons]
  refine wpAny_bind (wpAny_bind (eqBool_bytes ?_))
  by_cases hk : i.k.toList = j.k.toList
  · rw [decide_eq_true hk]
    simp only [Bool.not_true, Bool.false_eq_true, if_false]
    refine wpAny_pure ?_
    dsimp only
    rw [List.forIn_cons]
    refine wpAny_bind (wpAny_bind (wpAny_eqBool_int ?_))
    by_cases ho : i.o = j.o
    · have e := inj ho
      subst e
      rw [show (i.o == i.o) = true by simp]
      simp only [Bool.not_true, Bool.false_eq_true, if_false]
      refine wpAny_pure ?_
      dsimp only
      rw [List.forIn_cons]
      refine wpAny_bind (wpAny_bind ?_)
      unfold eqBool
      try with_reducible refine wpAny_holding ?_
      show wpAny _ _ (if (i.e == i.e) = true then _ else _) _ _ s
      rw [if_pos (by simp)]
      refine wpAny_bind (wpAny_rule (wpAny_pure ?_))
      simp only [Bool.not_true, Bool.false_eq_true, if_false]
      refine wpAny_pure ?_
      dsimp only
      rw [List.forIn_nil]
      refine wpAny_pure ?_
      have hf : i.lt i = false := by simp [Item.lt, bl_irrefl]
      rw [hf] at h
      exact wpAny_pure h
    · rw [show (i.o == j.o) = false by simpa using ho]
      simp only [Bool.not_false, if_true]
      refine wpAny_bind (wpAny_rule ?_)
      refine wpAny_bind (wpAny_richCompare_same (op := .Lt) (typeIs_int s _ _) (typeIs_int s _ _) slot_int_lt (call_int_lt ⟨by simp, ?_⟩))
      have hf : i.lt j = decide (i.o < j.o) := by simp [Item.lt, hk, bl_irrefl]
      rw [hf] at h
      exact wpAny_bind (wpAny_pure (wpAny_pure (wpAny_pure (wpAny_pure h))))
  · rw [decide_eq_false hk]
    simp only [Bool.not_false, if_true]
    refine wpAny_bind (wpAny_rule ?_)
    refine wpAny_bind (rc_lt_bytes ?_)
    have hf : i.lt j = bl i.k.toList j.k.toList := by simp [Item.lt, hk]
    rw [hf] at h
    exact wpAny_bind (wpAny_pure (wpAny_pure (wpAny_pure (wpAny_pure h))))

theorem lt_items {i j : Item} {Q : Value → Shared → Prop} (hi : s.heap.get? i.a = some i.obj) (hj : s.heap.get? j.a = some j.obj) (inj : i.o = j.o → i = j) (hu : A.units < cLine)
    (h : Q (.bool (i.lt j)) s) : wpAny (model prog w) A (compareOp .Lt (.ref i.a) (.ref j.a)) Q E s := by
  show wpAny (model prog w) A (richCompare .Lt (.ref i.a) (.ref j.a)) Q E s
  have hT : s.TypeIs (.ref i.a) "tuple" := ⟨_, hi, rfl⟩
  have hT' : s.TypeIs (.ref j.a) "tuple" := ⟨_, hj, rfl⟩
  exact wpAny_richCompare_same_room (op := .Lt) hT hT' F.slot_tuple_lt
      (wpAny_call_entry F.slot_tuple_lt hT F.entry_tuple_lt (tuple_lt_tree hi hj inj ⟨_, rfl, (fun e => nomatch e), h⟩) (F.args_tuple_lt_2 _ _)) hu
end
end
section
/-! The heap's laws, over plain lists. -/

structure LtOrd {α : Type} (lt : α → α → Bool) : Prop where
  irrefl : ∀ a, lt a a = false
  trans : ∀ a b c, lt a b = true → lt b c = true → lt a c = true
  neg : ∀ a b c, lt a c = true → lt a b = true ∨ lt b c = true

section
variable {α : Type} {lt : α → α → Bool}
theorem LtOrd.asymm (O : LtOrd lt) {a b : α} (h : lt a b = true) : lt b a = false := by
  cases q : lt b a with
  | false => rfl
  | true => have := O.trans _ _ _ h q; rw [O.irrefl] at this; cases this
theorem LtOrd.ge_trans (O : LtOrd lt) {a b c : α} (h1 : lt a b = false) (h2 : lt b c = false) : lt a c = false := by
  cases q : lt a c with
  | false => rfl
  | true => rcases O.neg _ b _ q with z | z
            · rw [h1] at z; cases z
            · rw [h2] at z; cases z
theorem LtOrd.gt_ge (O : LtOrd lt) {a b c : α} (h1 : lt b a = true) (h2 : lt b c = false) : lt a c = false :=
  O.ge_trans (O.asymm h1) h2

def isChild (p c : Nat) : Prop := c = 2 * p + 1 ∨ c = 2 * p + 2

def HeapFrom (lt : α → α → Bool) (s : Nat) (l : List α) : Prop := ∀ p c, s ≤ p → isChild p c → ∀ x y, l[p]? = some x → l[c]? = some y → lt x y = false
/-- all edges from s on, but the one above i; i's children lie under i's parent -/
structure HeapBut (lt : α → α → Bool) (s i : Nat) (l : List α) : Prop where
  but : ∀ p c, s ≤ p → isChild p c → c ≠ i → ∀ x y, l[p]? = some x → l[c]? = some y → lt x y = false
  grand : ∀ q c, s ≤ q → isChild q i → isChild i c → ∀ x y, l[q]? = some x → l[c]? = some y → lt x y = false
inductive Desc (s : Nat) : Nat → Prop
  | refl : Desc s s
  | left {p : Nat} : Desc s p → Desc s (2 * p + 1)
  | right {p : Nat} : Desc s p → Desc s (2 * p + 2)

theorem Desc.le {s p : Nat} (h : Desc s p) : s ≤ p := by induction h <;> (first | lia | omega)
theorem Desc.up {s p : Nat} (h : Desc s p) (hp : s < p) : Desc s ((p - 1) / 2) ∧ isChild ((p - 1) / 2) p := by
  cases h with
  | refl => (first | lia | omega)
  | @left q h => rw [show (2 * q + 1 - 1) / 2 = q by (first | lia | omega)]; exact ⟨h, .inl rfl⟩
  | @right q h => rw [show (2 * q + 2 - 1) / 2 = q by (first | lia | omega)]; exact ⟨h, .inr rfl⟩

theorem heapBut_top {s : Nat} {l : List α} (H : HeapBut lt s s l) : HeapFrom lt s l := by
  intro p c hp hc x y hx hy
  exact H.but p c hp hc (by unfold isChild at hc; (first | lia | omega)) x y hx hy

theorem heapBut_stop (O : LtOrd lt) {s i q : Nat} {l : List α} (H : HeapBut lt s i l) (hq : isChild q i) {x y : α} (hx : l[q]? = some x) (hy : l[i]? = some y) (h : lt x y = false) : HeapFrom lt s l := by
  intro p c hp hc a b ha hb
  by_cases e : c = i
  · subst e
    have : p = q := by unfold isChild at *; (first | lia | omega)
    subst this
    rw [hx] at ha; rw [hy] at hb; cases ha; cases hb; exact h
  · exact H.but p c hp hc e a b ha hb

/-- the turn of siftdown: the parent comes down -/
theorem heapBut_up (O : LtOrd lt) {s i q : Nat} {l : List α} (H : HeapBut lt s i l) (hsq : s ≤ q) (hq : isChild q i) {x y : α} (hy : l[q]? = some y) (hx : l[i]? = some x) (h : lt y x = true) :
    HeapBut lt s q ((l.set i y).set q x) := by
  have hqi : q ≠ i := by unfold isChild at hq; (first | lia | omega)
  have hil : i < l.length := (List.getElem?_eq_some_iff.mp hx).1
  have hql : q < l.length := (List.getElem?_eq_some_iff.mp hy).1
  have at_q : ((l.set i y).set q x)[q]? = some x := by simp [hql]
  have at_i : ((l.set i y).set q x)[i]? = some y := by simp [List.getElem?_set, hqi, hil]
  have at_o : ∀ j, j ≠ i → j ≠ q → ((l.set i y).set q x)[j]? = l[j]? := by
    intro j h1 h2
    simp [List.getElem?_set, Ne.symm h1, Ne.symm h2]
  constructor
  · intro p c hp hc hcq a b ha hb
    by_cases e : p = q
    · subst e
      rw [at_q] at ha; cases ha
      by_cases ec : c = i
      · subst ec; rw [at_i] at hb; cases hb; exact O.asymm h
      · rw [at_o c ec hcq] at hb
        exact O.gt_ge h (H.but p c hp hc ec y b hy hb)
    · by_cases e2 : p = i
      · subst e2
        rw [at_i] at ha; cases ha
        have : c ≠ p := by unfold isChild at hc; (first | lia | omega)
        rw [at_o c this hcq] at hb
        exact H.grand q c hsq hq hc y b hy hb
      · rw [at_o p e2 e] at ha
        have hci : c ≠ i := by unfold isChild at *; (clear hsq hy hx h hqi hil hql at_q at_i hp hcq ha hb e2; lia)
        rw [at_o c hci hcq] at hb
        exact H.but p c hp hc hci a b ha hb
  · intro u c hu huq hqc a b ha hb
    have e1 : u ≠ q := by unfold isChild at *; (first | lia | omega)
    have e2 : u ≠ i := by unfold isChild at *; (clear hsq hy hx h hqi hil hql at_q at_i hu hqc ha hb e1; lia)
    rw [at_o u e2 e1] at ha
    have e3 : c ≠ q := by unfold isChild at *; (first | lia | omega)
    have uq : lt a y = false := H.but u q hu huq hqi a y ha hy
    by_cases ec : c = i
    · subst ec; rw [at_i] at hb; cases hb; exact uq
    · rw [at_o c ec e3] at hb
      exact O.ge_trans uq (H.but q c hsq hqc ec y b hy hb)

theorem set_set_perm {i q : Nat} {l : List α} {x y : α} (hqi : q ≠ i) (hy : l[q]? = some y) (hx : l[i]? = some x) : ((l.set i y).set q x).Perm l := by
  have hil : i < l.length := (List.getElem?_eq_some_iff.mp hx).1
  have hql : q < l.length := (List.getElem?_eq_some_iff.mp hy).1
  have := List.set_set_perm (as := l) (i := i) (j := q) hil hql
  rw [show l[q] = y from (List.getElem?_eq_some_iff.mp hy).2, show l[i] = x from (List.getElem?_eq_some_iff.mp hx).2] at this
  exact this

/-- while siftup goes down: the stale item stands at i; either nothing has moved yet, or the list as it stands is a heap -/
def DownInv (lt : α → α → Bool) (s i : Nat) (l : List α) : Prop :=
  (∀ p c, s ≤ p → isChild p c → p ≠ s → ∀ x y, l[p]? = some x → l[c]? = some y → lt x y = false) ∧ (i ≠ s → HeapFrom lt s l)

theorem downInv_step (O : LtOrd lt) {s i c : Nat} {l : List α} (H : DownInv lt s i l) (hsi : s ≤ i) (hc : isChild i c) {y : α} (hy : l[c]? = some y) (hi : i < l.length)
    (hbig : ∀ r z, isChild i r → l[r]? = some z → lt y z = false) : DownInv lt s c (l.set i y) := by
  have hic : i ≠ c := by unfold isChild at hc; (first | lia | omega)
  have at_i : (l.set i y)[i]? = some y := by simp [hi]
  have at_o : ∀ j, j ≠ i → (l.set i y)[j]? = l[j]? := fun j h1 => by simp [List.getElem?_set, Ne.symm h1]
  have main : HeapFrom lt s (l.set i y) := by
    intro p d hp hd a b ha hb
    by_cases e : p = i
    · subst e
      rw [at_i] at ha; cases ha
      have : d ≠ p := by unfold isChild at hd; (first | lia | omega)
      rw [at_o d this] at hb
      exact hbig d b hd hb
    · rw [at_o p e] at ha
      by_cases e2 : d = i
      · subst e2
        rw [at_i] at hb; cases hb
        have hds : d ≠ s := by unfold isChild at hd; (first | lia | omega)
        have HF := H.2 hds
        obtain ⟨z, hz⟩ : ∃ z, l[d]? = some z := ⟨l[d], by simp [hi]⟩
        exact O.ge_trans (HF p d hp hd a z ha hz) (HF d c hsi hc z y hz hy)
      · rw [at_o d e2] at hb
        by_cases es : i = s
        · have hps : p ≠ s := by (first | lia | omega)
          exact H.1 p d hp hd hps a b ha hb
        · exact H.2 es p d hp hd a b ha hb
  exact ⟨fun p d hp hd _ => main p d hp hd, fun _ => main⟩

/-- at the leaf the new item is laid -/
theorem downInv_leaf {s i : Nat} {l : List α} (H : DownInv lt s i l) (hsi : s ≤ i) (hi : i < l.length) (hleaf : l.length ≤ 2 * i + 1) (x : α) : HeapBut lt s i (l.set i x) := by
  have at_o : ∀ j, j ≠ i → (l.set i x)[j]? = l[j]? := fun j h1 => by simp [List.getElem?_set, Ne.symm h1]
  have none_c : ∀ c, isChild i c → (l.set i x)[c]? = none := fun c hc => by
    rw [List.getElem?_eq_none_iff, List.length_set]; unfold isChild at hc; (first | lia | omega)
  constructor
  · intro p c hp hc hci a b ha hb
    by_cases e : p = i
    · subst e; rw [none_c c hc] at hb; cases hb
    · rw [at_o p e] at ha
      rw [at_o c hci] at hb
      by_cases es : p = s
      · have : i ≠ s := by (first | lia | omega)
        exact H.2 this p c hp hc a b ha hb
      · exact H.1 p c hp hc es a b ha hb
  · intro q c hq _ hic a b ha hb
    rw [none_c c hic] at hb; cases hb

theorem downInv_start {s : Nat} {l : List α} (H : HeapFrom lt (s + 1) l) : DownInv lt s s l :=
  ⟨fun p c hp hc hps => H p c (by (first | lia | omega)) hc, fun h => absurd rfl h⟩

/-- a heap's root is its greatest -/
theorem heap_root (O : LtOrd lt) {l : List α} (H : HeapFrom lt 0 l) {r : α} (hr : l[0]? = some r) : ∀ (i : Nat) x, l[i]? = some x → lt r x = false := by
  intro i
  induction i using Nat.strongRecOn with
  | ind i ih =>
    intro x hx
    by_cases h0 : i = 0
    · subst h0; rw [hr] at hx; cases hx; exact O.irrefl _
    · have hl : i < l.length := (List.getElem?_eq_some_iff.mp hx).1
      have hp : (i - 1) / 2 < l.length := by omega
      have hpx : l[(i - 1) / 2]? = some l[(i - 1) / 2] := List.getElem?_eq_getElem hp
      have h1 := ih ((i - 1) / 2) (by (first | lia | omega)) _ hpx
      have h2 := H ((i - 1) / 2) i (Nat.zero_le _) (by unfold isChild; (first | lia | omega)) _ _ hpx hx
      exact O.ge_trans h1 h2
end
end
section
local macro_rules | `(tactic| walk_at "k!") => `(tactic| repeat' (first
  | (fail_if_success (with_reducible show wpAny _ _ (exec (Stmt.While _ _ _ _) _) _ _ _)
     fail_if_success (with_reducible show wpAny _ _ (exec (Stmt.For _ _ _ _ _) _) _ _ _)
     fail_if_success (with_reducible show wpAny _ _ (call _ _ _) _ _ _)
     fail_if_success (with_reducible show wpAny _ _ (subscriptTail _ _ _ _) _ _ _)
     fail_if_success (with_reducible show wpAny _ _ (setItem _ _ _) _ _ _)
     fail_if_success (with_reducible show wpAny _ _ (compareOp _ (Value.ref _) _) _ _ _)
     (first | (k_unfold; (try dsimp only)) | walk1 | (dsimp only; walk1) | dsimp only))
  | fail "no step"))
section
open PySem PySem.W PyProof.Rows PySem.Calls
set_option Elab.async false
set_option maxRecDepth 100000
set_option maxHeartbeats 8000000

def vals (its : List Item) : List Value := its.map fun i => Value.ref i.a

def ov (m : Str → Option Value) : List (Str × Value) → Str → Option Value
  | [] => m
  | (x, v) :: r => fun y => if y = x then some v else ov m r y
def Binds (m : Str → Option Value) (ps : List (Str × Value)) : Prop := ∀ p ∈ ps, m p.1 = some p.2
theorem bn {m : Str → Option Value} : Binds m [] := fun _ h => nomatch h
theorem bc {m : Str → Option Value} {x : Str} {v : Value} {r : List (Str × Value)} (h : m x = some v) (hr : Binds m r) : Binds m ((x, v) :: r) := by
  intro p hp
  rcases List.mem_cons.mp hp with rfl | hp
  · exact h
  · exact hr p hp
theorem ov_self {m : Str → Option Value} : ∀ {ps : List (Str × Value)}, Binds m ps → ov m ps = m
  | [], _ => rfl
  | (x, v) :: r, h => by
    funext y
    show (if y = x then some v else ov m r y) = m y
    rw [ov_self fun p hp => h p (.tail _ hp)]
    split
    · rename_i e; rw [e]; exact (h (x, v) (.head _)).symm
    · rfl


theorem fill43 : PySem.Challenge.rw_pd0043_01.prog = PySem.Challenge.rw_pd0043_01.prog → hd.heap_39 = hd.heap_39 := by
  k_fill
  exact fun _ => rfl

theorem set_item {prog : Program} {w : World} {A : Around} {E : Value → Shared → Prop} {s : Shared} {h₀ : Heap} {L D : Addr} {m : Str → Option Value} {news news' : List (Addr × Obj)} {vs : List Value} {n : Nat} {k : Int} {t : Tok} {v : Value}
    {Q : Unit → Shared → Prop} (F : Fr h₀ L s.heap m) (N : News h₀ L s.heap news) (U : Upd D (listOf vs.toArray n) (listOf (vs.set k.toNat v).toArray n) news news') (h0 : 0 ≤ k) (h1 : k < vs.length) (hfit : k < 2 ^ 63)
    (h : ∀ h', Fr h₀ L h' m → News h₀ L h' news' → Q () { s with heap := h' }) : wpAny (model prog w) A (setItem (.ref D) (.int k t) v) Q E s := by
  obtain ⟨pre, post, rfl, rfl, a, b⟩ := U.split
  have z := N (D, listOf vs.toArray n) (List.mem_append.mpr (.inr (.head _)))
  refine ki_setAt z.1 h0 hfit (by simpa using h1) (h _ (F.change (Heap.SameBut.update ..) z.2.1 z.2.2) (ki_turn _ N a b ?_ ?_))
  · show vs.toArray.setIfInBounds k.toNat v = (vs.set k.toNat v).toArray
    apply Array.toList_inj.mp
    simp
  · simp

theorem vals_set (its : List Item) (k : Nat) (x : Item) : (vals its).set k (.ref x.a) = vals (its.set k x) := by
  simp [vals, List.map_set]
theorem vals_length (its : List Item) : (vals its).length = its.length := by simp [vals]
theorem vals_get {its : List Item} {k : Nat} {x : Item} (h : its[k]? = some x) : (vals its)[k]? = some (.ref x.a) := by simp [vals, h]
theorem set_self {α : Type} {l : List α} {k : Nat} {x : α} (h : l[k]? = some x) : l.set k x = l := by
  obtain ⟨hk, rfl⟩ := List.getElem?_eq_some_iff.mp h
  exact List.set_getElem_self hk

theorem order_trans : ∀ a b c : List UInt8, bl a b = true → bl b c = true → bl a c = true
  | [], [], _, h, _ => by simp [bl, Builtin.Bytes.order] at h
  | [], _ :: _, [], _, h => by simp [bl, Builtin.Bytes.order] at h
  | [], _ :: _, _ :: _, _, _ => by simp [bl, Builtin.Bytes.order]
  | _ :: _, [], _, h, _ => by simp [bl, Builtin.Bytes.order] at h
  | _ :: _, _ :: _, [], _, h => by simp [bl, Builtin.Bytes.order] at h
  | x :: a, y :: b, z :: c, h1, h2 => by
    have ih := order_trans a b c
    simp only [bl, Builtin.Bytes.order] at *
    simp only [UInt8.lt_iff_toNat_lt, gt_iff_lt] at *
    by_cases e1 : x.toNat < y.toNat
    · by_cases e2 : y.toNat < z.toNat
      · rw [if_pos (by (first | lia | omega))]; rfl
      · rw [if_neg e2] at h2
        by_cases e3 : z.toNat < y.toNat
        · rw [if_pos e3] at h2; simp at h2
        · rw [if_pos (by (first | lia | omega))]; rfl
    · rw [if_neg e1] at h1
      by_cases e4 : y.toNat < x.toNat
      · rw [if_pos e4] at h1; simp at h1
      · rw [if_neg e4] at h1
        by_cases e2 : y.toNat < z.toNat
        · rw [if_pos (by (first | lia | omega))]; rfl
        · rw [if_neg e2] at h2
          by_cases e3 : z.toNat < y.toNat
          · rw [if_pos e3] at h2; simp at h2
          · rw [if_neg e3] at h2
            rw [if_neg (by (first | lia | omega)), if_neg (by (first | lia | omega))]
            exact ih h1 h2
theorem order_total : ∀ a b : List UInt8, bl a b = true ∨ a = b ∨ bl b a = true
  | [], [] => .inr (.inl rfl)
  | [], _ :: _ => .inl (by simp [bl, Builtin.Bytes.order])
  | _ :: _, [] => .inr (.inr (by simp [bl, Builtin.Bytes.order]))
  | x :: a, y :: b => by
    have ih := order_total a b
    simp only [bl, Builtin.Bytes.order] at *
    simp only [UInt8.lt_iff_toNat_lt, gt_iff_lt] at *
    by_cases e1 : x.toNat < y.toNat
    · left; rw [if_pos e1]; rfl
    · by_cases e2 : y.toNat < x.toNat
      · right; right; rw [if_pos e2]; rfl
      · rw [if_neg e1, if_neg e2, if_neg e2, if_neg e1]
        have : x = y := UInt8.toNat_inj.mp (by (first | lia | omega))
        rcases ih with h | h | h
        · exact .inl h
        · exact .inr (.inl (by rw [this, h]))
        · exact .inr (.inr h)
theorem bl_asymm {a b : List UInt8} (h : bl a b = true) : bl b a = false := by
  cases q : bl b a with
  | false => rfl
  | true => have := order_trans _ _ _ h q; rw [bl_irrefl] at this; cases this

theorem itemOrd : LtOrd Item.lt where
  irrefl a := by simp [Item.lt, bl_irrefl]
  trans a b c h1 h2 := by
    simp only [Item.lt, Bool.or_eq_true, Bool.and_eq_true, decide_eq_true_eq] at *
    rcases h1 with h1 | ⟨e1, h1⟩
    · rcases h2 with h2 | ⟨e2, h2⟩
      · exact .inl (order_trans _ _ _ h1 h2)
      · exact .inl (e2 ▸ h1)
    · rcases h2 with h2 | ⟨e2, h2⟩
      · exact .inl (e1 ▸ h2)
      · exact .inr ⟨e1.trans e2, by (first | lia | omega)⟩
  neg a b c h := by
    simp only [Item.lt, Bool.or_eq_true, Bool.and_eq_true, decide_eq_true_eq] at *
    rcases order_total a.k.toList b.k.toList with q | q | q
    · exact .inl (.inl q)
    · rcases h with h | ⟨e, h⟩
      · exact .inr (.inl (q ▸ h))
      · by_cases z : a.o < b.o
        · exact .inl (.inr ⟨q, z⟩)
        · exact .inr (.inr ⟨q.symm.trans e, by (first | lia | omega)⟩)
    · rcases h with h | ⟨e, h⟩
      · exact .inr (.inl (order_trans _ _ _ q h))
      · exact .inr (.inl (e ▸ q))

section
variable {w : World} {p : Program} {loose : List Str} {mean : ExcName → Option Value} {mg mb : Str → Option Value} {A : Around} {base g : Heap} {outer : List Env} {s : Shared}

theorem siftdown_spec {l : Addr} {its : List Item} {n st ps : Nat} {t1 t2 : Tok} {R : Result → Shared → Prop}
    (G : Gnd (hd.heap_39 w.params) p loose mean mg mb A base outer g) (S : Sep g s.heap [(l, listOf (vals its).toArray n)]) (I : ItemsIn g its)
    (hroom : A.depth < recursionLimit) (hu : A.units + 20 < cLine) (hlen : its.length < 2 ^ 62) (hD : Desc st ps) (hps : ps < its.length) (hB : HeapBut Item.lt st ps its)
    (h : ∀ h' tk' its', Sep g h' [(l, listOf (vals its').toArray n)] → its'.Perm its → HeapFrom Item.lt st its' → R (.ok (.ret .none)) { s with heap := h', toks := tk' }) :
    codeAny (model PySem.Challenge.rw_pd0043_01.row.prog w) A (.call (.ref 42) ⟨[.ref l, .int st t1, .int ps t2], []⟩) R s := by
  obtain ⟨B, X, T⟩ := id G
  refine enterP (binds := [(Str.ofString "heap", .ref l), (Str.ofString "startpos", .int st t1), (Str.ofString "pos", .int ps t2)]) G S (by k_is) (by k_is) hroom (BindsTo.of_eq rfl) (locs rfl) ?_ rfl rfl rfl (by decide)
  intro L' h₁ hL' F' N'
  try dsimp only
  k_fold
  walk_at "k!"
  obtain ⟨x, hx⟩ : ∃ x, its[ps]? = some x := ⟨its[ps], List.getElem?_eq_getElem hps⟩
  refine kim_list (l := vals its) (n := n) N' (by k_mem) rfl rfl (by (first | lia | omega)) (by (first | lia | omega)) (x := .ref x.a) (by simp [vals, hx]) ?_
  walk_at "k!"
  rename_i h2 F2 N2
  refine While_inv2 (fun k m₁ news₁ => ∃ (pos : Nat) (t : Tok) (cur : List Item), k = pos ∧ Desc st pos ∧ pos < its.length ∧ cur.length = its.length ∧ (cur.set pos x).Perm its ∧ HeapBut Item.lt st pos (cur.set pos x) ∧
      (∀ i ∈ cur, i ∈ its) ∧ Binds m₁ [(Str.ofString "heap", Value.ref l), (Str.ofString "startpos", .int st t1), (Str.ofString "pos", .int pos t), (Str.ofString "newitem", .ref x.a)] ∧ news₁ = [(l, listOf (vals cur).toArray n)]) (n₀ := ps) F2 N2 ?_ ?_ ?_
  · refine ⟨ps, t2, its, rfl, hD, hps, rfl, ?_, ?_, fun _ h => h, ?_, rfl⟩
    · rw [set_self hx]
    · rw [set_self hx]; exact hB
    · exact bc rfl (bc rfl (bc rfl (bc rfl bn)))
  · rintro k m₁ news₁ h₃ tk₃ F₃ N₃ ⟨pos, t, cur, rfl, hD', hpos, hcl, hperm, hB', hmem, hm, rfl⟩
    rw [← ov_self hm] at F₃
    dsimp only [ov] at F₃
    walk_at "k!"
    · rename_i hlt h4 F4 N4
      dsimp only at F4 N4 ⊢
      have hq : ((k : Int) - 1).fdiv (2 ^ Int.toNat 1) = (((k - 1) / 2 : Nat) : Int) := by
        rw [show (2 : Int) ^ Int.toNat 1 = 2 from rfl, Int.fdiv_eq_ediv_of_nonneg _ (by (first | lia | omega))]; (first | lia | omega)
      rw [hq] at F4 ⊢
      have hkst : st < k := by (first | lia | omega)
      obtain ⟨hDq, hcq⟩ := hD'.up hkst
      have hql : (k - 1) / 2 < cur.length := by (first | lia | omega)
      have hne : (k - 1) / 2 ≠ k := by (first | lia | omega)
      obtain ⟨y, hy⟩ : ∃ y, cur[(k - 1) / 2]? = some y := ⟨cur[(k - 1) / 2], List.getElem?_eq_getElem hql⟩
      have hyi : y ∈ its := hmem y (List.mem_of_getElem? hy)
      have hxi : x ∈ its := List.mem_of_getElem? hx
      have hyv : (cur.set k x)[(k - 1) / 2]? = some y := by rw [List.getElem?_set_ne (Ne.symm hne)]; exact hy
      have hxv : (cur.set k x)[k]? = some x := by simp [hcl, hpos]
      refine kim_list (l := vals cur) (n := n) N4 (by k_mem) rfl rfl (by (first | lia | omega)) (by (clear hroom hu hL' hx hpos hlt hq hkst hne hy hyv hxv; omega)) (x := .ref y.a) (vals_get (by rw [Int.toNat_natCast]; exact hy)) ?_
      walk_at "k!"
      rename_i h5 F5 N5
      refine lt_items (F5.keep _ _ (I.at_ y hyi)) (F5.keep _ _ (I.at_ x hxi)) (I.inj y hyi x hxi) (by simp; (first | lia | omega)) ?_
      walk_at "k!"
      · rename_i hyx
        refine set_item F5 N5 (by k_upd) (by (first | lia | omega)) (by rw [vals_length]; (first | lia | omega)) (by (first | lia | omega)) ?_
        intro h6 F6 N6
        rw [Int.toNat_natCast, vals_set] at N6
        walk_at "k!"
        rename_i h7 F7 N7
        refine ⟨h7, _, _, _, (k - 1) / 2, rfl, F7, N7, by (first | lia | omega), (k - 1) / 2, _, cur.set k y, rfl, hDq, by (clear hroom hu hlen hps hL' hx hpos hlt hq hkst hne hy hyv hxv hyx; omega), by simp [hcl], ?_, ?_, ?_, bc rfl (bc rfl (bc rfl (bc rfl bn))), rfl⟩
        · have e := set_set_perm hne hyv hxv
          rw [List.set_set] at e
          exact e.trans hperm
        · have e := heapBut_up itemOrd hB' hDq.le hcq hyv hxv hyx
          rw [List.set_set] at e
          exact e
        · intro i hi
          rcases List.mem_or_eq_of_mem_set hi with q | rfl
          · exact hmem i q
          · exact hyi
      · rename_i hyx
        unfold WhileStep2
        dsimp only
        walk_at "k!"
        refine set_item F5 N5 (by k_upd) (by (first | lia | omega)) (by rw [vals_length]; (first | lia | omega)) (by (first | lia | omega)) ?_
        intro h6 F6 N6
        rw [Int.toNat_natCast, vals_set] at N6
        walk_at "k!"
        exact h _ _ _ (Sep.of F6 N6) hperm (heapBut_stop itemOrd hB' hcq hyv hxv hyx)
    · rename_i hlt
      refine set_item F₃ N₃ (by k_upd) (by (first | lia | omega)) (by rw [vals_length]; (first | lia | omega)) (by (first | lia | omega)) ?_
      intro h6 F6 N6
      rw [Int.toNat_natCast, vals_set] at N6
      walk_at "k!"
      have e : k = st := by have := hD'.le; (first | lia | omega)
      subst e
      exact h _ _ _ (Sep.of F6 N6) hperm (heapBut_top hB')
  · intro _ _ h; exact h.elim
end
end
section
open PySem PySem.W PyProof.Rows PySem.Calls
set_option Elab.async false
set_option maxRecDepth 100000
set_option maxHeartbeats 8000000
theorem fill43b : PySem.Challenge.rw_pd0043_01.prog = PySem.Challenge.rw_pd0043_01.prog → hd.heap_39 = hd.heap_39 := by
  k_fill
  exact fun _ => rfl

section
variable {w : World} {p : Program} {loose : List Str} {mean : ExcName → Option Value} {mg mb : Str → Option Value} {A : Around} {base g : Heap} {outer : List Env} {s : Shared}

structure UpI (its : List Item) (l : Addr) (n ps : Nat) (x : Item) (k : Nat) (m₁ : Str → Option Value) (news₁ : List (Addr × Obj)) (i : Nat) (t t' t'' t3 : Tok) (cur : List Item) : Prop where
  k_ : k = its.length - i
  desc : Desc ps i
  lt : i < its.length
  len : cur.length = its.length
  perm : (cur.set i x).Perm its
  inv : DownInv Item.lt ps i cur
  mem : ∀ i ∈ cur, i ∈ its
  binds : Binds m₁ [(Str.ofString "heap", Value.ref l), (Str.ofString "startpos", .int ps t3), (Str.ofString "pos", .int i t), (Str.ofString "newitem", .ref x.a), (Str.ofString "endpos", .int its.length t'), (Str.ofString "childpos", .int (2 * (i : Int) + 1) t'')]
  news : news₁ = [(l, listOf (vals cur).toArray n)]
abbrev upJ (its : List Item) (l : Addr) (n ps : Nat) (x : Item) (k : Nat) (m₁ : Str → Option Value) (news₁ : List (Addr × Obj)) : Prop :=
  ∃ (i : Nat) (t t' t'' t3 : Tok) (cur : List Item), UpI its l n ps x k m₁ news₁ i t t' t'' t3 cur

theorem siftup_spec {l : Addr} {its : List Item} {n ps : Nat} {t2 : Tok} {R : Result → Shared → Prop}
    (G : Gnd (hd.heap_39 w.params) p loose mean mg mb A base outer g) (S : Sep g s.heap [(l, listOf (vals its).toArray n)]) (I : ItemsIn g its)
    (hroom : A.depth + 1 < recursionLimit) (hu : A.units + 40 < cLine) (hlen : its.length < 2 ^ 20) (hps : ps < its.length) (hB : HeapFrom Item.lt (ps + 1) its)
    (h : ∀ h' tk' its', Sep g h' [(l, listOf (vals its').toArray n)] → its'.Perm its → HeapFrom Item.lt ps its' → R (.ok (.ret .none)) { s with heap := h', toks := tk' }) :
    codeAny (model PySem.Challenge.rw_pd0043_01.row.prog w) A (.call (.ref 49) ⟨[.ref l, .int ps t2], []⟩) R s := by
  obtain ⟨B, X, T⟩ := id G
  refine enterP (binds := [(Str.ofString "heap", .ref l), (Str.ofString "pos", .int ps t2)]) G S (by k_is) (by k_is) (by (first | lia | omega)) (BindsTo.of_eq rfl) (locs rfl) ?_ rfl rfl rfl (by decide)
  intro L' h₁ hL' F' N'
  try dsimp only
  k_fold
  walk_at "k!"
  refine call_len_list (items := (vals its).toArray) ⟨_, (N' _ (by k_mem)).1, rfl, n, rfl⟩ (by simp [vals_length]; (first | lia | omega)) ?_
  rw [List.size_toArray, vals_length]
  walk_at "k!"
  rename_i h2 F2 N2
  obtain ⟨x, hx⟩ : ∃ x, its[ps]? = some x := ⟨its[ps], List.getElem?_eq_getElem hps⟩
  refine kim_list (l := vals its) (n := n) N2 (by k_mem) rfl rfl (by (first | lia | omega)) (by (first | lia | omega)) (x := .ref x.a) (vals_get (by rw [Int.toNat_natCast]; exact hx)) ?_
  walk_at "k!"
  rename_i h3 F3 N3
  dsimp only at F3
  refine While_inv2 (upJ its l n ps x) (n₀ := its.length - ps) F3 N3 ?_ ?_ ?_
  · refine ⟨ps, _, _, _, _, its, rfl, .refl, hps, rfl, ?_, downInv_start hB, fun _ h => h, bc rfl (bc rfl (bc rfl (bc rfl (bc rfl (bc rfl bn))))), rfl⟩
    rw [set_self hx]
  · rintro k m₁ news₁ h₄ tk₄ F₄ N₄ ⟨i, t, t', t'', t3, cur, rfl, hD, hi, hcl, hperm, hI, hmem, hm, rfl⟩
    rw [← ov_self hm] at F₄
    dsimp only [ov] at F₄
    have hxi : x ∈ its := List.mem_of_getElem? hx
    have key : ∀ (c : Nat) (y : Item), isChild i c → c < its.length → cur[c]? = some y → (∀ r z, isChild i r → cur[r]? = some z → y.lt z = false) →
        Desc ps c ∧ (cur.set i y).length = its.length ∧ ((cur.set i y).set c x).Perm its ∧ DownInv Item.lt ps c (cur.set i y) ∧ (∀ j ∈ cur.set i y, j ∈ its) := by
      intro c y hc hcl' hy hbig
      have hne : c ≠ i := by unfold isChild at hc; (first | lia | omega)
      refine ⟨?_, by simp [hcl], ?_, downInv_step itemOrd hI hD.le hc hy (by (first | lia | omega)) hbig, ?_⟩
      · rcases hc with rfl | rfl
        · exact hD.left
        · exact hD.right
      · have e := set_set_perm (i := i) (q := c) (l := cur.set i x) (x := x) (y := y) hne (by rw [List.getElem?_set_ne (Ne.symm hne)]; exact hy) (by simp [hcl, hi])
        rw [List.set_set] at e
        exact e.trans hperm
      · intro j hj
        rcases List.mem_or_eq_of_mem_set hj with q | rfl
        · exact hmem j q
        · exact hmem _ (List.mem_of_getElem? hy)
    walk_at "k!"
    · rename_i hlt h5 F5 N5 hr
      dsimp only at F5
      obtain ⟨yc, hyc⟩ : ∃ y, cur[2 * i + 1]? = some y := ⟨cur[2 * i + 1], List.getElem?_eq_getElem (by (first | lia | omega))⟩
      obtain ⟨yr, hyr⟩ : ∃ y, cur[2 * i + 2]? = some y := ⟨cur[2 * i + 2], List.getElem?_eq_getElem (by (first | lia | omega))⟩
      have hci : yc ∈ its := hmem _ (List.mem_of_getElem? hyc)
      have hri : yr ∈ its := hmem _ (List.mem_of_getElem? hyr)
      refine kim_list (l := vals cur) (n := n) N5 (by k_mem) rfl rfl (by (first | lia | omega)) (by (first | lia | omega)) (x := .ref yr.a) (vals_get (by rw [show (2 * (i : Int) + 1 + 1).toNat = 2 * i + 2 by (first | lia | omega)]; exact hyr)) ?_
      walk_at "k!"
      refine kim_list (l := vals cur) (n := n) N5 (by k_mem) rfl rfl (by (first | lia | omega)) (by (first | lia | omega)) (x := .ref yc.a) (vals_get (by rw [show (2 * (i : Int) + 1).toNat = 2 * i + 1 by (first | lia | omega)]; exact hyc)) ?_
      walk_at "k!"
      refine lt_items (F5.keep _ _ (I.at_ yr hri)) (F5.keep _ _ (I.at_ yc hci)) (I.inj yr hri yc hci) (by simp; (first | lia | omega)) ?_
      walk_at "k!"
      · rename yr.lt yc = true => hlt'
        refine kim_list (l := vals cur) (n := n) N5 (by k_mem) rfl rfl (by (first | lia | omega)) (by (first | lia | omega)) (x := .ref yc.a) (vals_get (by rw [show (2 * (i : Int) + 1).toNat = 2 * i + 1 by (first | lia | omega)]; exact hyc)) ?_
        walk_at "k!"
        refine set_item F5 N5 (by k_upd) (by (first | lia | omega)) (by rw [vals_length]; (first | lia | omega)) (by (first | lia | omega)) ?_
        intro h6 F6 N6
        rw [Int.toNat_natCast, vals_set] at N6
        walk_at "k!"
        rename_i h7 F7 N7
        dsimp only at F7
        obtain ⟨a1, a2, a3, a4, a5⟩ := key (2 * i + 1) yc (.inl rfl) (by (first | lia | omega)) hyc (by
          intro r z hr hz
          rcases hr with rfl | rfl
          · rw [hyc] at hz; cases hz; exact itemOrd.irrefl _
          · rw [hyr] at hz; cases hz; exact itemOrd.asymm hlt')
        exact ⟨h7, _, _, _, its.length - (2 * i + 1), rfl, F7, N7, by (first | lia | omega), 2 * i + 1, _, _, _, _, cur.set i yc, rfl, a1, by (first | lia | omega), a2, a3, a4, a5, bc rfl (bc rfl (bc rfl (bc rfl (bc rfl (bc rfl bn))))), rfl⟩
      · rename yr.lt yc = false => hlt'
        rename_i h5' F5' N5'
        refine kim_list (l := vals cur) (n := n) N5' (by k_mem) rfl rfl (by (first | lia | omega)) (by (first | lia | omega)) (x := .ref yr.a) (vals_get (by rw [show (2 * (i : Int) + 1 + 1).toNat = 2 * i + 2 by (first | lia | omega)]; exact hyr)) ?_
        walk_at "k!"
        refine set_item F5' N5' (by k_upd) (by (first | lia | omega)) (by rw [vals_length]; (first | lia | omega)) (by (first | lia | omega)) ?_
        intro h6 F6 N6
        rw [Int.toNat_natCast, vals_set] at N6
        walk_at "k!"
        rename_i h7 F7 N7
        dsimp only at F7
        obtain ⟨a1, a2, a3, a4, a5⟩ := key (2 * i + 2) yr (.inr rfl) (by (first | lia | omega)) hyr (by
          intro r z hr hz
          rcases hr with rfl | rfl
          · rw [hyc] at hz; cases hz; exact hlt'
          · rw [hyr] at hz; cases hz; exact itemOrd.irrefl _)
        have e1 : (2 * (i : Int) + 1 + 1) = ((2 * i + 2 : Nat) : Int) := by (first | lia | omega)
        rw [e1] at F7
        exact ⟨h7, _, _, _, its.length - (2 * i + 2), rfl, F7, N7, by (first | lia | omega), 2 * i + 2, _, _, _, _, cur.set i yr, rfl, a1, by (first | lia | omega), a2, a3, a4, a5, bc rfl (bc rfl (bc rfl (bc rfl (bc rfl (bc rfl bn))))), rfl⟩
    · rename_i hlt h5 F5 N5 hr
      dsimp only at F5
      obtain ⟨yc, hyc⟩ : ∃ y, cur[2 * i + 1]? = some y := ⟨cur[2 * i + 1], List.getElem?_eq_getElem (by (first | lia | omega))⟩
      refine kim_list (l := vals cur) (n := n) N5 (by k_mem) rfl rfl (by (first | lia | omega)) (by (first | lia | omega)) (x := .ref yc.a) (vals_get (by rw [show (2 * (i : Int) + 1).toNat = 2 * i + 1 by (first | lia | omega)]; exact hyc)) ?_
      walk_at "k!"
      refine set_item F5 N5 (by k_upd) (by (first | lia | omega)) (by rw [vals_length]; (first | lia | omega)) (by (first | lia | omega)) ?_
      intro h6 F6 N6
      rw [Int.toNat_natCast, vals_set] at N6
      walk_at "k!"
      rename_i h7 F7 N7
      dsimp only at F7
      obtain ⟨a1, a2, a3, a4, a5⟩ := key (2 * i + 1) yc (.inl rfl) (by (first | lia | omega)) hyc (by
        intro r z hr' hz
        rcases hr' with rfl | rfl
        · rw [hyc] at hz; cases hz; exact itemOrd.irrefl _
        · have := (List.getElem?_eq_some_iff.mp hz).1; (first | lia | omega))
      exact ⟨h7, _, _, _, its.length - (2 * i + 1), rfl, F7, N7, by (first | lia | omega), 2 * i + 1, _, _, _, _, cur.set i yc, rfl, a1, by (first | lia | omega), a2, a3, a4, a5, bc rfl (bc rfl (bc rfl (bc rfl (bc rfl (bc rfl bn))))), rfl⟩
    · rename_i hlt
      refine set_item F₄ N₄ (by k_upd) (by (first | lia | omega)) (by rw [vals_length]; (first | lia | omega)) (by (first | lia | omega)) ?_
      intro h6 F6 N6
      rw [Int.toNat_natCast, vals_set] at N6
      walk_at "k!"
      have hleaf : cur.length ≤ 2 * i + 1 := by (first | lia | omega)
      refine callOver (hid := [(l, listOf (vals (cur.set i x)).toArray n)]) (rest := []) G F6 N6 (Around.frames_deeper B.stack) rfl rfl (fun _ h => nomatch h) fun g' G' S' hfz hsz hsub hback => ?_
      refine siftdown_spec G' S' ⟨fun j hj => hsub _ _ (I.at_ j (hperm.mem_iff.mp hj)), fun a ha b hb => I.inj a (hperm.mem_iff.mp ha) b (hperm.mem_iff.mp hb)⟩ (by simp only [depth_deeper]; (first | lia | omega)) (by simp; (first | lia | omega)) (by rw [hperm.length_eq]; (first | lia | omega)) hD (by rw [hperm.length_eq]; exact hi) (downInv_leaf hI hD.le (by (first | lia | omega)) hleaf x) ?_
      intro h9 tk9 its9 S9 hp9 hH9
      obtain ⟨F9, N9⟩ := hback _ _ S9
      walk_at "k!"
      exact h _ _ _ (Sep.of F9 N9) (hp9.trans hperm) hH9
  · intro _ _ h; exact h.elim
end
end
section
open PySem PySem.W PyProof.Rows PySem.Calls
set_option Elab.async false
set_option maxRecDepth 100000
set_option maxHeartbeats 8000000

def revRange (a n c : Int) : Obj := { cls := .type "range_iterator", dict := none, data := .fields #[rawInt a, rawInt n, rawInt c], slots := #[] }
theorem asInt_int (i : Int) (t : Tok) : asInt? (.int i t) = pure (some i) := rfl
theorem sub_ri_reversed : isSubtype (.type "range_iterator") (.type "reversed") = pure false := by rw [isSubtype_type]; kernel_rfl

section
variable {prog : Program} {w : World} {A : Around} {E : Value → Shared → Prop} {s : Shared}

theorem rangeFields_at {r : Addr} {a b c : Int} {t u v : Tok} {Q : Int × Int × Int → Shared → Prop} (hl : IsRange s.heap r a b c t u v) (h : Q (a, b, c) s) : wpAny (model prog w) A (Builtin.Range.rangeFields (.ref r)) Q E s := by
  show wpAny _ _ (field (.ref r) 0 >>= _) _ _ s
  refine wpAny_bind (wpAny_field hl rfl (x := .int a t) rfl ?_)
  refine wpAny_bind (wpAny_of_eq (asInt_int _ _) ?_)
  refine wpAny_bind (wpAny_field hl rfl (x := .int b u) rfl ?_)
  refine wpAny_bind (wpAny_of_eq (asInt_int _ _) ?_)
  refine wpAny_bind (wpAny_field hl rfl (x := .int c v) rfl ?_)
  refine wpAny_bind (wpAny_of_eq (asInt_int _ _) ?_)
  exact wpAny_pure h

theorem call_range_reversed {r : Addr} {k : Nat} {t u v : Tok} {Q : Value → Shared → Prop} (hl : IsRange s.heap r 0 k 1 t u v) (hk : k < 2 ^ 62)
    (h : Q (.ref s.heap.objs.size) { s with heap := s.heap.push (revRange ((k : Int) - 1) k (-1)) }) : wpAny (model prog w) A (call (.builtin "range.__reversed__") [.ref r]) Q E s := by
  have hT : s.TypeIs (.ref r) "range" := ⟨_, hl, rfl⟩
  refine wpAny_call_entry F.slot_range_reversed hT F.entry_range_reversed ?_ (F.args_range_reversed_1 _)
  unfold Builtin.«range.__reversed__»
  refine wpAny_bind (wpAny_of_eq (a := Value.ref r) rfl ?_)
  refine wpAny_bind (rangeFields_at hl ?_)
  dsimp only
  have hn : Builtin.Range.rangeSize 0 k 1 = k := by
    unfold Builtin.Range.rangeSize
    rw [if_pos (by decide)]
    split <;> (first | lia | omega)
  have hs : (Builtin.Range.rangeFitsLong 0 && Builtin.Range.rangeFitsLong k && Builtin.Range.rangeFitsLong 1 && Builtin.Range.rangeFitsLong (-1) && Builtin.Range.rangeFitsLong (0 - 1) && Builtin.Range.rangeFitsLong k) = true := by
    simp only [Builtin.Range.rangeFitsLong, Bool.and_eq_true, decide_eq_true_eq]
    (first | lia | omega)
  rw [hn, hs]
  simp only [Bool.not_true, Bool.false_eq_true, if_false, if_true]
  refine wpAny_bind (wpAny_newObj_type ?_)
  rw [show (0 : Int) + ((k : Int) - 1) * 1 = (k : Int) - 1 by (first | lia | omega)]
  exact wpAny_pure ⟨_, rfl, h⟩

theorem code_reversed_new_range {r : Addr} {k : Nat} {t u v : Tok} {Q₁ : Value → Shared → Prop} (hl : IsRange s.heap r 0 k 1 t u v) (hk : k < 2 ^ 62)
    (h : Q₁ (.ref s.heap.objs.size) { s with heap := s.heap.push (revRange ((k : Int) - 1) k (-1)) }) :
    codeAny (model prog w) A (.call (.builtin "reversed.__new__") ⟨[.type "reversed", .ref r], []⟩) (wants Q₁ E) s := by
  have hT : s.TypeIs (.ref r) "range" := ⟨_, hl, rfl⟩
  refine codeAny_of_tree ?_
  show wpAny _ A.in1 (do checkBuiltinCall "reversed.__new__" ⟨[.type "reversed", .ref r], []⟩; again (.builtin "reversed.__new__" ⟨[.type "reversed", .ref r], []⟩)) _ _ s
  refine wpAny_bind (wpAny_of_eq (F.newCall_reversed_1 _) (wpAny_pure ⟨plainId_quiet F.plain_reversed_new _, codeAny_builtin F.entry_reversed_new ?_⟩))
  rw [Around.under_plainId F.plain_reversed_new _]
  unfold Builtin.«reversed.__new__»
  refine wpAny_bind (wpAny_of_eq (newClass_reversed _) ?_)
  try dsimp only
  refine wpAny_bind (wpAny_of_eq (a := ()) (by first | rfl | kernel_rfl) ?_)
  refine wpAny_bind (wpAny_of_eq (a := ()) (by first | rfl | kernel_rfl) ?_)
  try dsimp only
  refine wpAny_bind (wpAny_specialOf hT F.slot_range_reversed.lookup ?_)
  try dsimp only
  refine wpAny_bind (wpAny_of_eq (F.slot_range_reversed.bind _) ?_)
  try dsimp only
  first
  | rw [if_neg (show ¬ ((Value.builtin "range.__reversed__" == Value.none) = true) from Bool.false_ne_true)]
  | (show wpAny _ _ (if (Value.builtin "range.__reversed__" == Value.none) = true then _ else _) _ _ _; rw [if_neg (show ¬ ((Value.builtin "range.__reversed__" == Value.none) = true) from Bool.false_ne_true)])
  refine wpAny_bind (wpAny_rule ?_)
  refine wpAny_bind (m := runValue (.call (.builtin "range.__reversed__") ⟨[.ref r], []⟩)) (show wpAny _ _ (call (.builtin "range.__reversed__") [.ref r]) _ _ _ from call_range_reversed hl hk ?_)
  first
  | exact wpAny_pure h
  | exact wpAny_bind (wpAny_pure (wpAny_pure h))

theorem call_reversed_range {r : Addr} {k : Nat} {t u v : Tok} {Q : Value → Shared → Prop} (hl : IsRange s.heap r 0 k 1 t u v) (hk : k < 2 ^ 62)
    (h : Q (.ref s.heap.objs.size) { s with heap := s.heap.push (revRange ((k : Int) - 1) k (-1)) }) : wpAny (model prog w) A (call (.type "reversed") [.ref r]) Q E s := by
  refine callType_other (U := "range_iterator") (Q₁ := fun obj s₁ => obj = .ref s.heap.objs.size ∧ s₁ = { s with heap := s.heap.push (revRange ((k : Int) - 1) k (-1)) }) (by decide +kernel) F.create_reversed ⟨_, _, F.mro_reversed⟩ F.made_reversed sub_ri_reversed (F.typeCall_reversed_1 _) (code_reversed_new_range hl hk ⟨rfl, rfl⟩) ?_
  rintro obj s₁ ⟨rfl, rfl⟩
  exact ⟨⟨_, Heap.get?_push_size _ rfl, rfl⟩, h⟩
end

theorem News.pushK {h₀ h : Heap} {L : Addr} {news : List (Addr × Obj)} (N : News h₀ L h news) (o : Obj) : News h₀ L (h.push o) news := fun p hp => ⟨Heap.get?_push_of_some _ (N p hp).1, (N p hp).2⟩
theorem Fr.newNone {h₀ h : Heap} {L : Addr} {m : Str → Option Value} (F : Fr h₀ L h m) {a : Addr} (ha : h.objs.size ≤ a) : h₀.get? a = none := by
  cases q : h₀.get? a with
  | none => rfl
  | some o => exact absurd (Heap.lt_size (F.keep _ _ q)) (Nat.not_lt.mpr ha)

/-- what a turn of a for loop must leave behind -/
def TurnPost (s : Shared) (h₀ : Heap) (L : Addr) (wr : List Addr) (fix : List (Addr × Obj)) (J : (Str → Option Value) → List (Addr × Obj) → Prop) (Q : Flow → Shared → Prop) (f : Flow) (s₃ : Shared) : Prop :=
  match f with
  | .next | .cont => ∃ h' tk' m' news', s₃ = { s with heap := h', toks := tk' } ∧ Fr h₀ L h' m' ∧ News h₀ L h' (fix ++ news') ∧ (∀ p ∈ news', p.1 ∉ wr) ∧ J m' news'
  | .brk => Q .next s₃
  | .ret v => Q (.ret v) s₃

section
variable {prog : Program} {w : World} {A : Around} {s : Shared} {h₀ : Heap} {L I : Addr} {m : Str → Option Value} {news fz : List (Addr × Obj)} {env : Env}
  {fp wr : List Addr} {n : Nat} {P : Nat → Value → Prop} {St : Nat → Heap → Prop}

theorem forW {target : Expr} {body : List Stmt} {Q : Flow → Shared → Prop} {Rerr : Value → Shared → Prop} (J : Nat → (Str → Option Value) → List (Addr × Obj) → Prop)
    (W : Walks prog w A I fp wr n P St) (hLf : L ∉ fp) (hwr0 : ∀ b ∈ wr, h₀.get? b = none) (hob : ∀ i h, St i h → ∀ b ∈ wr, ∃ o, h.get? b = some o)
    (hfz : ∀ b ∈ fp, b ∉ wr → (∃ o, h₀.get? b = some o) ∨ (∃ o, (b, o) ∈ fz)) (hfzw : ∀ p ∈ fz, p.1 ∉ wr)
    (hst : St 0 s.heap) (F : Fr h₀ L s.heap m) (N : News h₀ L s.heap (fz ++ news)) (hnw : ∀ p ∈ news, p.1 ∉ wr) (hJ : J 0 m news)
    (turn : ∀ i v m₁ news₁ h tk own, i < n → P i v → J i m₁ news₁ → (∀ p ∈ own, p.1 ∈ wr) → (∀ b ∈ wr, ∃ o, (b, o) ∈ own) → (∀ p ∈ news₁, p.1 ∉ wr) → Fr h₀ L h m₁ → News h₀ L h ((own ++ fz) ++ news₁) →
      wpAny (model prog w) A (assign target env v) (fun _ s₂ => wpAny (model prog w) A (execs body env) (TurnPost s h₀ L wr (own ++ fz) (J (i + 1)) Q) (fun _ _ => False) s₂) (fun _ _ => False) { s with heap := h, toks := tk })
    (done : ∀ m₁ news₁ h tk, J n m₁ news₁ → Fr h₀ L h m₁ → News h₀ L h (fz ++ news₁) → Q .next { s with heap := h, toks := tk })
    (ht : ∀ v, letOwnedTupleGo target (.ref I) v = pure () := by intro _; rfl) :
    codeAny (model prog w) A (.forLoop target (.ref I) body [] env) (fun r s' => match r with | .ok f => Q f s' | .error e => Rerr e s') s := by
  have hLw : L ∉ wr := fun h => hLf (W.sub _ h)
  refine codeAny_forLoop (fun k s' => ∃ i h tk m₁ news₁, k = n - i ∧ i ≤ n ∧ s' = { s with heap := h, toks := tk } ∧ St i h ∧ Fr h₀ L h m₁ ∧ News h₀ L h (fz ++ news₁) ∧ (∀ p ∈ news₁, p.1 ∉ wr) ∧ J i m₁ news₁) ?_ n
    ⟨0, s.heap, s.toks, m, news, rfl, Nat.zero_le _, rfl, hst, F, N, hnw, hJ⟩ ht
  rintro k s' ⟨i, h, tk, m₁, news₁, rfl, hin, rfl, hst', F₁, N₁, hnw₁, hJ₁⟩
  have keepF : ∀ h', (∀ b o, b ∉ wr → h.get? b = some o → h'.get? b = some o) → Fr h₀ L h' m₁ := fun h' hk => by
    obtain ⟨oL, a1, a2, hoL, a3⟩ := F₁.ns
    exact ⟨⟨oL, a1, a2, hk _ _ hLw hoL, a3⟩, fun b o e => hk b o (fun hb => by rw [hwr0 b hb] at e; cases e) (F₁.keep b o e), F₁.above⟩
  have keepN : ∀ h', (∀ b o, b ∉ wr → h.get? b = some o → h'.get? b = some o) → News h₀ L h' (fz ++ news₁) := fun h' hk p hp =>
    ⟨hk _ _ ((List.mem_append.mp hp).elim (hfzw p) (hnw₁ p)) (N₁ p hp).1, (N₁ p hp).2⟩
  by_cases hi : i < n
  · refine W.item i _ _ _ hi hst' fun v h' tk' hP hst'' hk => ?_
    dsimp only at hk ⊢
    -- the iterator's objects as they stand now
    obtain ⟨own, hown1, hown2⟩ : ∃ own : List (Addr × Obj), (∀ p ∈ own, p.1 ∈ wr ∧ h'.get? p.1 = some p.2) ∧ ∀ b ∈ wr, ∃ o, (b, o) ∈ own := by
      have hex := hob _ _ hst''
      clear turn done hfzw hfz hnw hnw₁ hwr0 hLw keepF keepN hk W hLf hob
      induction wr with
      | nil => exact ⟨[], (fun _ h => nomatch h), (fun _ h => nomatch h)⟩
      | cons b r ih =>
        obtain ⟨own, o1, o2⟩ := ih fun c hc => hex c (.tail _ hc)
        obtain ⟨o, ho⟩ := hex b (.head _)
        refine ⟨(b, o) :: own, fun p hp => ?_, fun c hc => ?_⟩
        · rcases List.mem_cons.mp hp with rfl | hp
          · exact ⟨.head _, ho⟩
          · exact ⟨.tail _ (o1 p hp).1, (o1 p hp).2⟩
        · rcases List.mem_cons.mp hc with rfl | hc
          · exact ⟨o, .head _⟩
          · obtain ⟨o', ho'⟩ := o2 c hc; exact ⟨o', .tail _ ho'⟩
    have N₂ : News h₀ L h' ((own ++ fz) ++ news₁) := fun p hp => by
      rw [List.append_assoc] at hp
      rcases List.mem_append.mp hp with hp | hp
      · exact ⟨(hown1 p hp).2, fun e => hLw (e ▸ (hown1 p hp).1), hwr0 _ (hown1 p hp).1⟩
      · exact keepN h' hk p hp
    refine wpAny_mono (turn i v m₁ news₁ h' tk' own hi hP hJ₁ (fun p hp => (hown1 p hp).1) hown2 hnw₁ (keepF h' hk) N₂) (fun _ s₂ h₂ => ?_) fun _ _ x => x.elim
    refine wpAny_mono h₂ (fun f s₃ h₃ => ?_) fun _ _ x => x.elim
    have back : (∃ h' tk' m' news', s₃ = { s with heap := h', toks := tk' } ∧ Fr h₀ L h' m' ∧ News h₀ L h' ((own ++ fz) ++ news') ∧ (∀ p ∈ news', p.1 ∉ wr) ∧ J (i + 1) m' news') →
        ∃ k', k' < n - i ∧ ∃ i h tk m₁ news₁, k' = n - i ∧ i ≤ n ∧ s₃ = { s with heap := h, toks := tk } ∧ St i h ∧ Fr h₀ L h m₁ ∧ News h₀ L h (fz ++ news₁) ∧ (∀ p ∈ news₁, p.1 ∉ wr) ∧ J i m₁ news₁ := by
      rintro ⟨h3, tk3, m3, news3, rfl, F3, N3, hw3, hJ3⟩
      refine ⟨n - (i + 1), by (first | lia | omega), i + 1, h3, tk3, m3, news3, rfl, hi, rfl, ?_, F3, fun p hp => N3 p ?_, hw3, hJ3⟩
      · refine W.frame _ _ _ hst'' fun b hb o ho => ?_
        by_cases hbw : b ∈ wr
        · obtain ⟨o', ho'⟩ := hown2 b hbw
          have e1 := (hown1 _ ho').2
          have e2 := (N3 (b, o') (List.mem_append.mpr (.inl (List.mem_append.mpr (.inl ho'))))).1
          dsimp only at e1 e2
          rw [ho] at e1; cases e1; exact e2
        · rcases hfz b hb hbw with ⟨o', ho'⟩ | ⟨o', ho'⟩
          · have e1 := (keepF h' hk).keep _ _ ho'
            rw [ho] at e1; cases e1; exact F3.keep _ _ ho'
          · have e1 := (N₂ (b, o') (List.mem_append.mpr (.inl (List.mem_append.mpr (.inr ho'))))).1
            have e2 := (N3 (b, o') (List.mem_append.mpr (.inl (List.mem_append.mpr (.inr ho'))))).1
            dsimp only at e1 e2
            rw [ho] at e1; cases e1; exact e2
      · rcases List.mem_append.mp hp with hp | hp
        · exact List.mem_append.mpr (.inl (List.mem_append.mpr (.inr hp)))
        · exact List.mem_append.mpr (.inr hp)
    cases f with
    | next => exact back h₃
    | cont => exact back h₃
    | brk => exact h₃
    | ret v => exact h₃
  · have e : i = n := by (first | lia | omega)
    subst e
    refine W.done _ _ _ hst' fun h' tk' hk => ?_
    dsimp only at hk ⊢
    exact wpAny_execs_nil (done m₁ news₁ h' tk' hJ₁ (keepF h' hk) (keepN h' hk))
end
end
section
open PySem PySem.W PyProof.Rows PySem.Calls
set_option Elab.async false
set_option maxRecDepth 100000
set_option maxHeartbeats 8000000
example : PySem.Challenge.rw_pd0043_01.prog = PySem.Challenge.rw_pd0043_01.prog → hd.heap_39 = hd.heap_39 := by
  k_fill
  exact fun _ => rfl

section
variable {w : World} {p : Program} {loose : List Str} {mean : ExcName → Option Value} {mg mb : Str → Option Value} {A : Around} {base g : Heap} {outer : List Env} {s : Shared}

theorem heapreplace_spec {l : Addr} {its : List Item} {n : Nat} {x y : Item} {R : Result → Shared → Prop}
    (G : Gnd (hd.heap_39 w.params) p loose mean mg mb A base outer g) (S : Sep g s.heap [(l, listOf (vals its).toArray n)]) (I : ItemsIn g (its.set 0 y))
    (hroom : A.depth + 2 < recursionLimit) (hu : A.units + 60 < cLine) (hlen : its.length < 2 ^ 20) (hx : its[0]? = some x) (hB : HeapFrom Item.lt 0 its)
    (h : ∀ h' tk' its', Sep g h' [(l, listOf (vals its').toArray n)] → its'.Perm (its.set 0 y) → HeapFrom Item.lt 0 its' → R (.ok (.ret (.ref x.a))) { s with heap := h', toks := tk' }) :
    codeAny (model PySem.Challenge.rw_pd0043_01.row.prog w) A (.call (.ref 28) ⟨[.ref l, .ref y.a], []⟩) R s := by
  obtain ⟨B, X, T⟩ := id G
  refine enterP (binds := [(Str.ofString "heap", .ref l), (Str.ofString "item", .ref y.a)]) G S (by k_is) (by k_is) (by (first | lia | omega)) (BindsTo.of_eq rfl) (locs rfl) ?_ rfl rfl rfl (by decide)
  intro L' h₁ hL' F' N'
  try dsimp only
  k_fold
  have hpos : 0 < its.length := (List.getElem?_eq_some_iff.mp hx).1
  walk_at "k!"
  refine kim_list (l := vals its) (n := n) N' (by k_mem) rfl rfl (by (first | lia | omega)) (by (first | lia | omega)) (x := .ref x.a) (vals_get hx) ?_
  walk_at "k!"
  rename_i h2 F2 N2
  refine set_item F2 N2 (by k_upd) (by (first | lia | omega)) (by rw [vals_length]; (first | lia | omega)) (by (first | lia | omega)) ?_
  intro h3 F3 N3
  rw [show (0 : Int).toNat = 0 from rfl, vals_set] at N3
  walk_at "k!"
  refine callOver (hid := [(l, listOf (vals (its.set 0 y)).toArray n)]) (rest := []) G F3 N3 (Around.frames_deeper B.stack) rfl rfl (fun _ h => nomatch h) fun g' G' S' hfz hsz hsub hback => ?_
  refine siftup_spec (ps := 0) G' S' (I.keeps hsub) (by simp only [depth_deeper]; omega) (by simp; (first | lia | omega)) (by simpa using hlen) (by simpa using hpos) ?_ ?_
  · intro q c hq hc a b ha hb
    rw [List.getElem?_set_ne (by (first | lia | omega))] at ha
    rw [List.getElem?_set_ne (by unfold isChild at hc; (first | lia | omega))] at hb
    exact hB q c (Nat.zero_le _) hc a b ha hb
  · intro h9 tk9 its9 S9 hp9 hH9
    obtain ⟨F9, N9⟩ := hback _ _ S9
    walk_at "k!"
    exact h _ _ _ (Sep.of F9 N9) hp9 hH9

theorem heapify_spec {l : Addr} {its : List Item} {n : Nat} {R : Result → Shared → Prop}
    (G : Gnd (hd.heap_39 w.params) p loose mean mg mb A base outer g) (S : Sep g s.heap [(l, listOf (vals its).toArray n)]) (I : ItemsIn g its)
    (hroom : A.depth + 2 < recursionLimit) (hu : A.units + 60 < cLine) (hh : A.handled = none) (hlen : its.length < 2 ^ 20)
    (h : ∀ h' tk' its', Sep g h' [(l, listOf (vals its').toArray n)] → its'.Perm its → HeapFrom Item.lt 0 its' → R (.ok (.ret .none)) { s with heap := h', toks := tk' }) :
    codeAny (model PySem.Challenge.rw_pd0043_01.row.prog w) A (.call (.ref 35) ⟨[.ref l], []⟩) R s := by
  obtain ⟨B, X, T⟩ := id G
  refine enterP (binds := [(Str.ofString "x", .ref l)]) G S (by k_is) (by k_is) (by (first | lia | omega)) (BindsTo.of_eq rfl) (locs rfl) ?_ rfl rfl rfl (by decide)
  intro L' h₁ hL' F' N'
  try dsimp only
  k_fold
  walk_at "k!"
  refine call_len_list (items := (vals its).toArray) ⟨_, (N' _ (by k_mem)).1, rfl, n, rfl⟩ (by simp [vals_length]; (first | lia | omega)) ?_
  rw [List.size_toArray, vals_length]
  walk_at "k!"
  rename_i h2 F2 N2
  try k_gentoks
  refine wpAny_For ?_
  walk_at "k!"
  have hk : ((its.length : Nat) : Int).fdiv 2 = ((its.length / 2 : Nat) : Int) := by
    rw [Int.fdiv_eq_ediv_of_nonneg _ (by (first | lia | omega))]; (first | lia | omega)
  rw [hk]
  generalize hkk : its.length / 2 = k
  refine call_range_1 ?_
  walk_at "k!"
  refine call_reversed_range (k := k) (IsRange.new _ _ _ _ _ _ _) (by (first | lia | omega)) ?_
  refine wpAny_pyIter_rangeiter (x := (k : Int) - 1) (left := k) (step := -1) (Heap.get?_push_size _ rfl) ?_
  dsimp only
  generalize hr : ({ cls := .type "range", data := .fields #[.int 0 (tk + 1 + 1), .int k (tk + 1), .int 1 (tk + 1 + 1 + 1)] } : Obj) = ro
  have F3 := (F2.push ro).push (revRange ((k : Int) - 1) k (-1))
  have N3 := (News.pushK (News.pushK N2 ro) (revRange ((k : Int) - 1) k (-1)))
  have hI : h2.objs.size ≤ (h2.push ro).objs.size := by rw [size_push']; (first | lia | omega)
  have hL2 : L' < h2.objs.size := F2.ns.lt
  have hl2 : l < h2.objs.size := Heap.lt_size (N2 _ (.head _)).1
  refine forW (fz := []) (fun i m₁ news₁ => ∃ cur : List Item, cur.Perm its ∧ HeapFrom Item.lt (k - i) cur ∧ Binds m₁ [(Str.ofString "x", Value.ref l)] ∧ news₁ = [(l, listOf (vals cur).toArray n)])
    (Walks.range (by exact hh) _ ((k : Int) - 1) (-1) k) (L := L') (h₀ := g) ?_ ?_ ?_ ?_ ?_ ?_ F3 N3 ?_ ?_ ?_ ?_
  · intro q; rw [List.mem_singleton] at q; exact absurd q (Nat.ne_of_lt (Nat.lt_of_lt_of_le hL2 hI))
  · intro b hb; rw [List.mem_singleton] at hb; subst hb; exact Fr.newNone F2 hI
  · intro i h' hs b hb; rw [List.mem_singleton] at hb; subst hb; exact ⟨_, hs⟩
  · intro b hb hnb; exact absurd hb hnb
  · intro _ q; exact nomatch q
  · have e := Heap.get?_push_size (h2.push ro) (o := revRange ((k : Int) - 1) k (-1)) rfl
    show Heap.get? _ _ = _
    rw [e]; simp [revRange]
  · intro q hq; rw [List.mem_singleton] at hq ⊢; subst hq; exact Nat.ne_of_lt (Nat.lt_of_lt_of_le hl2 hI)
  · refine ⟨its, .refl _, ?_, bc rfl bn, rfl⟩
    intro q c hq hc a b ha hb
    have := (List.getElem?_eq_some_iff.mp hb).1
    unfold isChild at hc; (first | lia | omega)
  · rintro i v m₁ news₁ h₄ tk₄ own hi ⟨t, rfl⟩ ⟨cur, hperm, hH, hm, rfl⟩ hown _ hnw F₄ N₄
    rw [← ov_self hm] at F₄
    dsimp only [ov] at F₄
    rw [show (k : Int) - 1 + (i : Int) * -1 = ((k - 1 - i : Nat) : Int) by (clear hroom hu hh hlen hL' hk hkk hr hI hL2 hl2; omega)]
    walk_at "k!"
    rename Fr _ _ _ _ => F5
    rename News _ _ _ _ => N5
    refine callOver (hid := [(l, listOf (vals cur).toArray n)]) (rest := own) G F5 (fun q hq => N5 q ?_) (Around.frames_deeper B.stack) rfl rfl ?_ fun g' G' S' hfz hsz hsub hback => ?_
    · rcases List.mem_append.mp hq with hq | hq
      · exact List.mem_append.mpr (.inr hq)
      · exact List.mem_append.mpr (.inl (List.mem_append.mpr (.inl hq)))
    · intro q hq hl
      rw [List.map_singleton, List.mem_singleton] at hl
      exact hnw (l, _) (.head _) (hl ▸ hown q hq)
    · have hcl := hperm.length_eq
      refine siftup_spec G' S' ⟨fun j hj => hsub _ _ (I.at_ j (hperm.mem_iff.mp hj)), fun a ha b hb => I.inj a (hperm.mem_iff.mp ha) b (hperm.mem_iff.mp hb)⟩ (by simp only [depth_deeper]; omega) (by simp; (first | lia | omega)) (by (first | lia | omega)) (by (clear hroom hu hh hL' hk hr hI hL2 hl2 hsz; omega)) ?_ ?_
      · rw [show k - 1 - i + 1 = k - i by (first | lia | omega)]; exact hH
      · intro h9 tk9 its9 S9 hp9 hH9
        obtain ⟨F9, N9⟩ := hback _ _ S9
        walk_at "k!"
        refine ⟨_, _, _, _, rfl, F9, fun q hq => N9 q ?_, ?_, its9, hp9.trans hperm, ?_, bc rfl bn, rfl⟩
        · rw [List.append_nil] at hq
          rcases List.mem_append.mp hq with hq | hq
          · exact List.mem_append.mpr (.inr hq)
          · exact List.mem_append.mpr (.inl hq)
        · intro q hq; rw [List.mem_singleton] at hq; subst hq; exact hnw (l, listOf (vals cur).toArray n) (.head _)
        · rw [show k - (i + 1) = k - 1 - i by (first | lia | omega)]; exact hH9
  · rintro m₁ news₁ h₄ tk₄ ⟨cur, hperm, hH, hm, rfl⟩ F₄ N₄
    rw [Nat.sub_self] at hH
    walk_at "k!"
    exact h _ _ _ (Sep.of F₄ N₄) hperm hH
end
end
section
open PySem PySem.W PyProof.Rows PySem.Calls
set_option Elab.async false
set_option maxRecDepth 100000
set_option maxHeartbeats 8000000
example : PySem.Challenge.rw_pd0043_01.prog = PySem.Challenge.rw_pd0043_01.prog → hd.heap_39 = hd.heap_39 := by
  k_fill
  exact fun _ => rfl

theorem bitOr_low {a x : Int} (ha : 0 ≤ a) (h0 : 0 ≤ x) (h1 : x < 256) : Builtin.bitOr (a * 256) x = a * 256 + x := by
  obtain ⟨n, rfl⟩ := Int.eq_ofNat_of_zero_le ha
  obtain ⟨k, rfl⟩ := Int.eq_ofNat_of_zero_le h0
  have e : Builtin.bitOr ((n : Int) * 256) (k : Int) = ((n * 256 ||| k : Nat) : Int) := by
    unfold Builtin.bitOr Builtin.bitAnd Builtin.bitNot
    have q1 : decide ((0 : Int) ≤ -((n : Int) * 256) - 1) = false := by simp; (first | lia | omega)
    have q2 : decide ((0 : Int) ≤ -(k : Int) - 1) = false := by simp; (first | lia | omega)
    simp only [q1, q2]
    have q3 : (-(-((n : Int) * 256) - 1) - 1).toNat = n * 256 := by (first | lia | omega)
    have q4 : (-(-(k : Int) - 1) - 1).toNat = k := by (first | lia | omega)
    rw [q3, q4]
    (first | lia | omega)
  rw [e]
  have hk : k < 2 ^ 8 := by (first | lia | omega)
  have := Nat.shiftLeft_add_eq_or_of_lt hk n
  rw [Nat.shiftLeft_eq] at this
  rw [show n * 256 = n * 2 ^ 8 from rfl, ← this]
  (first | lia | omega)

theorem upd_mid {D : Addr} {o o' : Obj} {post : List (Addr × Obj)} (h2 : ∀ p ∈ post, p.1 ≠ D) : ∀ {pre : List (Addr × Obj)}, (∀ p ∈ pre, p.1 ≠ D) → Upd D o o' (pre ++ (D, o) :: post) (pre ++ (D, o') :: post)
  | [], _ => .head h2
  | q :: r, h => .tail (h q (.head _)) (upd_mid h2 fun p hp => h p (.tail _ hp))

/-- the alphabet, by its codes -/
def alph : List Int := [65, 66, 67, 68, 69, 70, 71, 72, 73, 74, 75, 76, 77, 78, 79, 80, 81, 82, 83, 84, 85, 86, 87, 88, 89, 90, 97, 98, 99, 100, 101, 102, 103, 104, 105, 106, 107, 108, 109, 110, 111, 112, 113, 114, 115, 116, 117, 118, 119, 120, 121, 122, 48, 49, 50, 51, 52, 53, 54, 55, 56, 57, 43, 47]
def al (i : Int) : Int := alph.getD i.toNat 0
/-- the signs that are written while the octets are read -/
def full : List Int → List Int
  | a :: b :: c :: r => al (a / 4) :: al (a % 4 * 16 + b / 16) :: al (b % 16 * 4 + c / 64) :: al (c % 64) :: full r
  | [a, b] => [al (a / 4), al (a % 4 * 16 + b / 16)]
  | [a] => [al (a / 4)]
  | [] => []
/-- the signs behind the last octet -/
def padS : List Int → List Int
  | _ :: _ :: _ :: r => padS r
  | [_, b] => [al (b % 16 * 4), 61]
  | [a] => [al (a % 4 * 16), 61, 61]
  | [] => []
def b64I (l : List Int) : List Int := full l ++ padS l
/-- what is left of the bits -/
def left : List Int → Int
  | _ :: _ :: _ :: r => left r
  | [_, _] => 4
  | [_] => 2
  | [] => 0
def lastOK (lc : Int) : List Int → Prop
  | _ :: _ :: _ :: r => lastOK lc r
  | [_, b] => lc % 16 = b % 16
  | [a] => lc % 4 = a % 4
  | [] => True

/-- one octet more, by what is left -/
theorem full_length : ∀ l : List Int, (full l).length ≤ 2 * l.length
  | [] => by simp [full]
  | [_] => by simp [full]
  | [_, _] => by simp [full]
  | _ :: _ :: _ :: r => by have := full_length r; simp only [full, List.length_cons] at *; (first | lia | omega)
theorem padS_length : ∀ l : List Int, (padS l).length ≤ 3
  | [] => by simp [padS]
  | [_] => by simp [padS]
  | [_, _] => by simp [padS]
  | _ :: _ :: _ :: r => by have := padS_length r; simp only [padS] at *; omega
theorem al_in (i : Int) : 0 ≤ al i ∧ al i < 256 := KBw.getD_in (ks := alph) (j := i.toNat) (by decide)
theorem full_in : ∀ l : List Int, KBa.In (full l)
  | [] => fun _ h => nomatch h
  | [_] => by intro n hn; simp only [full, List.mem_cons, List.not_mem_nil, or_false] at hn; rcases hn with rfl; exact al_in _
  | [_, _] => by intro n hn; simp only [full, List.mem_cons, List.not_mem_nil, or_false] at hn; rcases hn with rfl | rfl <;> exact al_in _
  | _ :: _ :: _ :: r => by
    have ih := full_in r
    intro n hn
    simp only [full, List.mem_cons] at hn
    rcases hn with rfl | rfl | rfl | rfl | hn
    · exact al_in _
    · exact al_in _
    · exact al_in _
    · exact al_in _
    · exact ih n hn
theorem padS_in : ∀ l : List Int, KBa.In (padS l)
  | [] => fun _ h => nomatch h
  | [_] => by intro n hn; simp only [padS, List.mem_cons, List.not_mem_nil, or_false] at hn; rcases hn with rfl | rfl | rfl; exact al_in _; decide; decide
  | [_, _] => by intro n hn; simp only [padS, List.mem_cons, List.not_mem_nil, or_false] at hn; rcases hn with rfl | rfl; exact al_in _; decide
  | _ :: _ :: _ :: r => padS_in r
theorem b64I_in (l : List Int) : KBa.In (b64I l) := by
  intro n hn
  rcases List.mem_append.mp hn with h | h
  · exact full_in l n h
  · exact padS_in l n h
theorem b64I_length (l : List Int) : (b64I l).length ≤ 2 * l.length + 3 := by
  have := full_length l
  have := padS_length l
  rw [b64I, List.length_append]; (first | lia | omega)
theorem pad_cases : ∀ l : List Int, (left l = 0 ∧ padS l = []) ∨ (left l = 2 ∧ ∀ lc : Int, lastOK lc l → padS l = [al (lc % 4 * 16), 61, 61]) ∨ (left l = 4 ∧ ∀ lc : Int, lastOK lc l → padS l = [al (lc % 16 * 4), 61])
  | [] => .inl ⟨rfl, rfl⟩
  | [a] => .inr (.inl ⟨rfl, fun lc h => by have h' : lc % 4 = a % 4 := h; rw [h']; rfl⟩)
  | [a, b] => .inr (.inr ⟨rfl, fun lc h => by have h' : lc % 16 = b % 16 := h; rw [h']; rfl⟩)
  | _ :: _ :: _ :: r => pad_cases r

theorem full_snoc (x : Int) : ∀ l : List Int, (left l = 0 ∧ full (l ++ [x]) = full l ++ [al (x / 4)] ∧ left (l ++ [x]) = 2 ∧ (∀ lc : Int, lc % 4 = x % 4 → lastOK lc (l ++ [x]))) ∨
    (left l = 2 ∧ left (l ++ [x]) = 4 ∧ (∀ lc : Int, lc % 16 = x % 16 → lastOK lc (l ++ [x])) ∧ ∀ lc : Int, lastOK lc l → full (l ++ [x]) = full l ++ [al (lc % 4 * 16 + x / 16)]) ∨
    (left l = 4 ∧ left (l ++ [x]) = 0 ∧ (∀ lc : Int, lastOK lc (l ++ [x])) ∧ ∀ lc : Int, lastOK lc l → full (l ++ [x]) = full l ++ [al (lc % 16 * 4 + x / 64), al (x % 64)])
  | [] => .inl ⟨rfl, rfl, rfl, fun _ h => h⟩
  | [a] => .inr (.inl ⟨rfl, rfl, fun _ h => h, fun lc h => by
      have h' : lc % 4 = a % 4 := h
      simp [full, h']⟩)
  | [a, b] => .inr (.inr ⟨rfl, rfl, fun _ => trivial, fun lc h => by
      have h' : lc % 16 = b % 16 := h
      simp [full, h']⟩)
  | a :: b :: c :: r => by
    rcases full_snoc x r with ⟨h1, h2, h3, h4⟩ | ⟨h1, h2, h3, h4⟩ | ⟨h1, h2, h3, h4⟩
    · exact .inl ⟨h1, by simp only [List.cons_append, full, h2], h3, h4⟩
    · exact .inr (.inl ⟨h1, h2, h3, fun lc h => by simp only [List.cons_append, full, h4 lc h]⟩)
    · exact .inr (.inr ⟨h1, h2, h3, fun lc h => by simp only [List.cons_append, full, h4 lc h]⟩)

section
variable {w : World} {p : Program} {loose : List Str} {mean : ExcName → Option Value} {mg mb : Str → Option Value} {A : Around} {base g : Heap} {outer : List Env} {s : Shared}

theorem buffer_spec {b : Array UInt8} {t : Tok} {R : Result → Shared → Prop}
    (G : Gnd (hd.heap_39 w.params) p loose mean mg mb A base outer g) (S : Sep g s.heap [])
    (hroom : A.depth < recursionLimit)
    (h : ∀ h' tk', Sep g h' [] → R (.ok (.ret (.bytes b t))) { s with heap := h', toks := tk' }) :
    codeAny (model PySem.Challenge.rw_pd0043_01.row.prog w) A (.call (.ref 62) ⟨[.bytes b t], []⟩) R s := by
  obtain ⟨B, X, T⟩ := id G
  refine enterP (binds := [(Str.ofString "data", .bytes b t)]) G S (by k_is) (by k_is) (by omega) (BindsTo.of_eq rfl) (locs rfl) ?_ rfl rfl rfl (by decide)
  intro L' h₁ hL' F' N'
  try dsimp only
  k_fold
  walk_at "k!"
  refine call_type_of (typeIs_bytes _ _ _) rfl ?_
  walk_at "k!"
  rename_i h2 F2 N2
  exact h _ _ (Sep.of F2 N2)

theorem truth_spec {R : Result → Shared → Prop}
    (G : Gnd (hd.heap_39 w.params) p loose mean mg mb A base outer g) (S : Sep g s.heap [])
    (hroom : A.depth < recursionLimit)
    (h : ∀ h' tk', Sep g h' [] → R (.ok (.ret (.bool false))) { s with heap := h', toks := tk' }) :
    codeAny (model PySem.Challenge.rw_pd0043_01.row.prog w) A (.call (.ref 69) ⟨[.bool false], []⟩) R s := by
  obtain ⟨B, X, T⟩ := id G
  refine enterP (binds := [(Str.ofString "x", .bool false)]) G S (by k_is) (by k_is) (by omega) (BindsTo.of_eq rfl) (locs rfl) ?_ rfl rfl rfl (by decide)
  intro L' h₁ hL' F' N'
  try dsimp only
  k_fold
  walk_at "k!"
  refine call_type_of (Tx := "bool") (by exact rfl) rfl ?_
  walk_at "k!"
  rename Fr _ _ _ _ => F2
  rename News _ _ _ _ => N2
  exact h _ _ (Sep.of F2 N2)

structure B2I (pre : List Int) (D : Addr) (m₁ : Str → Option Value) (news₁ : List (Addr × Obj)) (vs : List Value) (e : Nat) (lc : Int) (t1 t2 : Tok) : Prop where
  vals_ : IntsAre vs (full pre)
  low_ : 0 ≤ lc
  high_ : lc < 65536
  last_ : lastOK lc pre
  binds_ : Binds m₁ [(Str.ofString "out", Value.ref D), (Str.ofString "leftbits", .int (left pre) t1), (Str.ofString "leftchar", .int lc t2), (Str.ofString "newline", .bool false)]
  news_ : news₁ = [(D, listOf vs.toArray e)]
abbrev b2K (pre : List Int) (D : Addr) (m₁ : Str → Option Value) (news₁ : List (Addr × Obj)) : Prop :=
  ∃ (vs : List Value) (e : Nat) (lc : Int) (t1 t2 : Tok), B2I pre D m₁ news₁ vs e lc t1 t2
abbrev b2J (b : Array UInt8) (D : Addr) (i : Nat) (m₁ : Str → Option Value) (news₁ : List (Addr × Obj)) : Prop := b2K ((KBw.bInts b).take i) D m₁ news₁

theorem b2a_spec {b : Array UInt8} {t : Tok} {R : Result → Shared → Prop}
    (G : Gnd (hd.heap_39 w.params) p loose mean mg mb A base outer g) (S : Sep g s.heap [])
    (hroom : A.depth + 1 < recursionLimit) (hu : A.units + 40 < cLine) (hh : A.handled = none) (hb : b.size < 2 ^ 20)
    (h : ∀ h' tk' t', Sep g h' [] → R (.ok (.ret (.bytes (byteArr (b64I (KBw.bInts b))) t'))) { s with heap := h', toks := tk' }) :
    codeAny (model PySem.Challenge.rw_pd0043_01.row.prog w) A (.call (.ref 77) ⟨[.bytes b t], [(Str.ofString "newline", .bool false)]⟩) R s := by
  obtain ⟨B, X, T⟩ := id G
  refine enterP (binds := [(Str.ofString "data", .bytes b t), (Str.ofString "newline", .bool false)]) G S (by k_is) (by k_is) (by (first | lia | omega)) (BindsTo.of_eq rfl) (locs rfl) ?_ rfl rfl rfl (by decide)
  intro L' h₁ hL' F' N'
  try dsimp only
  k_fold
  walk_at "k!"
  refine callOver (hid := []) (rest := []) G F' N' (Around.frames_deeper B.stack) rfl rfl (fun _ h => nomatch h) fun g' G' S' hfz hsz hsub hback => ?_
  refine buffer_spec G' S' (by simp only [depth_deeper]; omega) ?_
  intro h2 tk2 S2
  obtain ⟨F2, N2⟩ := hback _ _ S2
  walk_at "k!"
  rename_i h3 F3 N3
  refine callOver (hid := []) (rest := []) G F3 N3 (Around.frames_deeper B.stack) rfl rfl (fun _ h => nomatch h) fun g' G' S' hfz hsz hsub hback => ?_
  refine truth_spec G' S' (by simp only [depth_deeper]; omega) ?_
  intro h4 tk4 S4
  obtain ⟨F4, N4⟩ := hback _ _ S4
  walk_at "k!"
  rename_i D _ _ _ _ h7 F7 N7
  dsimp only at F7
  simp only [List.append_nil] at N7
  refine wpAny_For ?_
  walk_at "k!"
  refine KBw.pyIter_bytes ?_
  dsimp only
  have F8 := F7.push { cls := .type "bytes_iterator", data := .fields #[.bytes b t, .int 0 0] }
  have N8 := News.pushK N7 { cls := .type "bytes_iterator", data := .fields #[.bytes b t, .int 0 0] }
  have hL2 : L' < h7.objs.size := F7.ns.lt
  have hl2 : D < h7.objs.size := Heap.lt_size (N7 _ (.head _)).1
  refine forW (fz := []) (b2J b D)
    (KBw.walks (by exact hh) _ b t) (L := L') (h₀ := g) ?_ ?_ ?_ ?_ ?_ ?_ F8 N8 ?_ ?_ ?_ ?_
  · intro q; rw [List.mem_singleton] at q; exact absurd q (Nat.ne_of_lt hL2)
  · intro b hb; rw [List.mem_singleton] at hb; subst hb; exact Fr.newNone F7 (Nat.le_refl _)
  · intro i h' hs b hb; rw [List.mem_singleton] at hb; subst hb; obtain ⟨o, ho, _⟩ := hs; exact ⟨o, ho⟩
  · intro b hb hnb; exact absurd hb hnb
  · intro _ q; exact nomatch q
  · exact ⟨_, Heap.get?_push_size _ rfl, rfl, rfl⟩
  · intro q hq; rw [List.mem_singleton] at hq ⊢; subst hq; exact Nat.ne_of_lt hl2
  · exact ⟨[], 0, 0, _, _, .nil, by decide, by decide, trivial, bc rfl (bc rfl (bc rfl (bc rfl bn))), rfl⟩
  · rintro i v m₁ news₁ h₄ tk₄ own hi ⟨c, u, hc, rfl⟩ ⟨vs, e, lc, t1, t2, hI, hlc0, hlc1, hOK, hm, rfl⟩ hown _ hnw F₄ N₄
    rw [← ov_self hm] at F₄
    dsimp only [ov] at F₄
    have hci : (KBw.bInts b)[i]? = some (c.toNat : Int) := KBw.ints_get hc
    have hsn : (KBw.bInts b).take (i + 1) = (KBw.bInts b).take i ++ [(c.toNat : Int)] := by rw [List.take_add_one, hci]; rfl
    have hJ : b2J b D (i + 1) = b2K ((KBw.bInts b).take i ++ [(c.toNat : Int)]) D := by rw [← hsn]
    have hx0 := KBw.ints_in (List.mem_of_getElem? hci)
    generalize (c.toNat : Int) = x at *
    generalize (KBw.bInts b).take i = pre at *
    rw [hJ]
    have hownD : ∀ p ∈ own ++ [], p.1 ≠ D := by
      intro q hq e
      rw [List.append_nil] at hq
      exact hnw (D, _) (.head _) (e ▸ hown q hq)
    have hsz : (full pre).length ≤ 16777000 := by
      have h1 := full_length pre
      have h2 := congrArg List.length hsn
      rw [List.length_take, KBw.ints_length, List.length_append] at h2
      simp only [List.length_cons, List.length_nil] at h2
      (first | lia | omega)
    rcases full_snoc x pre with ⟨h1, h2, h3, h4⟩ | ⟨h1, h2, h3, h4⟩ | ⟨h1, h2, h3, h4⟩
    · rw [h1] at F₄
      walk_at "k!"
      refine whl_start 3 ?_
      walk_at "k!"
      rename_i h5 h6 F6 N6
      dsimp only at F6 N6 ⊢
      rw [show (2 : Int) ^ Int.toNat 8 = 256 from rfl, bitOr_low hlc0 hx0.1 hx0.2, bitAnd_m16] at F6 ⊢
      rw [bitAnd_m6, show (2 : Int) ^ (0 + 8 - 6 : Int).toNat = 4 from rfl, Int.fdiv_eq_ediv_of_nonneg _ (by decide)]
      refine KBw.item_K (ks := alph) (by decide +kernel) (by decide) (by (first | lia | omega)) (by show _ < (64 : Int); (first | lia | omega)) ?_
      intro t' k _ _
      walk_at "k!"
      refine append_K F6 N6 (upd_mid (by intro _ q; exact nomatch q) hownD) ?_ (by rw [List.size_toArray, sizeLine_eq, hI.length]; (first | lia | omega))
      intro h8 F8' N8'
      walk_at "k!"
      rename Fr _ _ _ _ => F9
      rename News _ _ _ _ => N9
      rw [List.push_toArray] at N9
      have e1 : (lc * 256 + x) % 65536 / 4 % 64 = x / 4 := by (first | lia | omega)
      have q := ksk_snoc (t := t') (n := al (x / 4)) hI
      rw [← h2] at q
      rw [e1] at N9
      refine ⟨_, _, _, _, rfl, F9, N9, ?_, _, _, _, _, _, q, ?_, ?_, h4 _ ?_, bc rfl (bc (by rw [h3]; rfl) (bc rfl (bc rfl bn))), rfl⟩
      · intro q hq; rw [List.mem_singleton] at hq; subst hq; exact hnw (D, listOf vs.toArray e) (.head _)
      · (first | lia | omega)
      · (clear hroom hu hh hb hL' hL2 hl2 hi hc hlc0 hlc1 hci hx0 hsn hsz h1 h2 h3 e1; omega)
      · (first | lia | omega)
    · rw [h1] at F₄
      walk_at "k!"
      refine whl_start 3 ?_
      walk_at "k!"
      rename_i h5 h6 F6 N6
      dsimp only at F6 N6 ⊢
      rw [show (2 : Int) ^ Int.toNat 8 = 256 from rfl, bitOr_low hlc0 hx0.1 hx0.2, bitAnd_m16] at F6 ⊢
      rw [bitAnd_m6, show (2 : Int) ^ (2 + 8 - 6 : Int).toNat = 16 from rfl, Int.fdiv_eq_ediv_of_nonneg _ (by decide)]
      refine KBw.item_K (ks := alph) (by decide +kernel) (by decide) (by (first | lia | omega)) (by show _ < (64 : Int); (first | lia | omega)) ?_
      intro t' k _ _
      walk_at "k!"
      refine append_K F6 N6 (upd_mid (by intro _ q; exact nomatch q) hownD) ?_ (by rw [List.size_toArray, sizeLine_eq, hI.length]; (first | lia | omega))
      intro h8 F8' N8'
      walk_at "k!"
      rename Fr _ _ _ _ => F9
      rename News _ _ _ _ => N9
      rw [List.push_toArray] at N9
      have e1 : (lc * 256 + x) % 65536 / 16 % 64 = lc % 4 * 16 + x / 16 := by (first | lia | omega)
      have q := ksk_snoc (t := t') (n := al (lc % 4 * 16 + x / 16)) hI
      rw [← h4 lc hOK] at q
      rw [e1] at N9
      refine ⟨_, _, _, _, rfl, F9, N9, ?_, _, _, _, _, _, q, ?_, ?_, h3 _ ?_, bc rfl (bc (by rw [h2]; rfl) (bc rfl (bc rfl bn))), rfl⟩
      · intro q hq; rw [List.mem_singleton] at hq; subst hq; exact hnw (D, listOf vs.toArray e) (.head _)
      · (first | lia | omega)
      · (clear hroom hu hh hb hL' hL2 hl2 hi hc hlc0 hlc1 hci hx0 hsn hsz h1 h2 e1; omega)
      · (first | lia | omega)
    · rw [h1] at F₄
      walk_at "k!"
      refine whl_start 3 ?_
      walk_at "k!"
      rename_i h5 h6 F6 N6
      dsimp only at F6 N6 ⊢
      rw [show (2 : Int) ^ Int.toNat 8 = 256 from rfl, bitOr_low hlc0 hx0.1 hx0.2, bitAnd_m16] at F6 ⊢
      rw [bitAnd_m6, show (2 : Int) ^ (4 + 8 - 6 : Int).toNat = 64 from rfl, Int.fdiv_eq_ediv_of_nonneg _ (by decide)]
      refine KBw.item_K (ks := alph) (by decide +kernel) (by decide) (by (first | lia | omega)) (by show _ < (64 : Int); (first | lia | omega)) ?_
      intro t' k _ _
      walk_at "k!"
      refine append_K F6 N6 (upd_mid (by intro _ q; exact nomatch q) hownD) ?_ (by rw [List.size_toArray, sizeLine_eq, hI.length]; (first | lia | omega))
      intro h8 F8' N8'
      walk_at "k!"
      rename Fr _ _ _ _ => F9
      rename News _ _ _ _ => N9
      dsimp only at F9 N9 ⊢
      rw [bitAnd_m6, show (2 : Int) ^ (4 + 8 - 6 - 6 : Int).toNat = 1 from rfl, Int.fdiv_eq_ediv_of_nonneg _ (by decide)]
      refine KBw.item_K (ks := alph) (by decide +kernel) (by decide) (by (first | lia | omega)) (by show _ < (64 : Int); (first | lia | omega)) ?_
      intro t'' k' _ _
      walk_at "k!"
      refine append_K F9 N9 (upd_mid (by intro _ q; exact nomatch q) hownD) ?_ (by rw [List.push_toArray, List.size_toArray, sizeLine_eq, List.length_append, hI.length]; simp only [List.length_cons, List.length_nil]; (first | lia | omega))
      intro h10 F10' N10'
      walk_at "k!"
      rename Fr _ _ _ _ => F11
      rename News _ _ _ _ => N11
      rw [List.push_toArray, List.push_toArray] at N11
      have e1 : (lc * 256 + x) % 65536 / 64 % 64 = lc % 16 * 4 + x / 64 := by (clear hroom hu hh hb hL' hL2 hl2 hi hc hlc0 hlc1 hci hsn hsz h1 h2; omega)
      have e2 : (lc * 256 + x) % 65536 / 1 % 64 = x % 64 := by (first | lia | omega)
      have q := ksk_snoc (t := t'') (n := al (x % 64)) (ksk_snoc (t := t') (n := al (lc % 16 * 4 + x / 64)) hI)
      rw [show full pre ++ [al (lc % 16 * 4 + x / 64)] ++ [al (x % 64)] = full (pre ++ [x]) by rw [h4 lc hOK, List.append_assoc]; rfl] at q
      rw [e1, e2] at N11
      refine ⟨_, _, _, _, rfl, F11, N11, ?_, _, _, _, _, _, q, ?_, ?_, h3 _, bc rfl (bc (by rw [h2]; rfl) (bc rfl (bc rfl bn))), rfl⟩
      · intro q hq; rw [List.mem_singleton] at hq; subst hq; exact hnw (D, listOf vs.toArray e) (.head _)
      · (first | lia | omega)
      · (first | lia | omega)
  · rintro m₁ news₁ h₄ tk₄ ⟨vs, e, lc, t1, t2, hI, hlc0, hlc1, hOK, hm, rfl⟩ F₄ N₄
    rw [← ov_self hm] at F₄
    dsimp only [ov] at F₄
    rw [← KBw.ints_length, List.take_length] at *
    rw [List.nil_append] at N₄
    have hsz : (full (KBw.bInts b)).length ≤ 16777000 := by
      have h1 := full_length (KBw.bInts b)
      (first | lia | omega)
    rcases pad_cases (KBw.bInts b) with ⟨h1, h2⟩ | ⟨h1, h2⟩ | ⟨h1, h2⟩
    · rw [h1] at F₄
      walk_at "k!"
      refine KBa.make_K F₄ N₄ (by exact hh) ⟨_, (N₄ _ (.head _)).1, rfl, _, rfl⟩ hI (full_in _) (by (first | lia | omega)) ?_
      intro h9 t9 k9 F9 N9 _
      have e0 : b64I (KBw.bInts b) = full (KBw.bInts b) := by rw [b64I, h2, List.append_nil]
      rw [← e0]
      exact h _ _ _ ((Sep.of F9 N9).drop (fun _ q => nomatch q))
    · rw [h1] at F₄
      walk_at "k!"
      rw [bitAnd_m2]
      walk_at "k!"
      rw [show (2 : Int) ^ Int.toNat 4 = 16 from rfl]
      refine KBw.item_K (ks := alph) (by decide +kernel) (by decide) (by (clear hroom hu hh hb hL' hL2 hl2 hlc0 hlc1 hsz h1; lia)) (by show _ < (64 : Int); (clear hroom hu hh hb hL' hL2 hl2 hlc0 hlc1 hsz h1; lia)) ?_
      intro t' k _ _
      walk_at "k!"
      refine append_K F₄ N₄ (by k_upd) ?_ (by rw [List.size_toArray, sizeLine_eq, hI.length]; (first | lia | omega))
      intro h5 F5 N5
      walk_at "k!"
      refine append_K F5 N5 (by k_upd) ?_ (by rw [List.push_toArray, List.size_toArray, sizeLine_eq, List.length_append, hI.length]; simp only [List.length_cons, List.length_nil]; (first | lia | omega))
      intro h6 F6 N6
      walk_at "k!"
      refine append_K F6 N6 (by k_upd) ?_ (by rw [List.push_toArray, List.push_toArray, List.size_toArray, sizeLine_eq, List.length_append, List.length_append, hI.length]; simp only [List.length_cons, List.length_nil]; (first | lia | omega))
      intro h7 F7' N7'
      walk_at "k!"
      rw [List.push_toArray, List.push_toArray, List.push_toArray] at N7'
      have e0 : b64I (KBw.bInts b) = full (KBw.bInts b) ++ [al (lc % 4 * 16)] ++ [61] ++ [61] := by rw [b64I, h2 lc hOK]; simp only [List.append_assoc]; rfl
      refine KBa.make_K F7' N7' (by exact hh) ⟨_, (N7' _ (.head _)).1, rfl, _, rfl⟩ (ksk_snoc (ksk_snoc (ksk_snoc hI))) (ns := full (KBw.bInts b) ++ [al (lc % 4 * 16)] ++ [61] ++ [61]) (by rw [← e0]; exact b64I_in _) (by rw [← e0]; have := b64I_length (KBw.bInts b); (first | lia | omega)) ?_
      intro h9 t9 k9 F9 N9 _
      rw [← e0]
      exact h _ _ _ ((Sep.of F9 N9).drop (fun _ q => nomatch q))
    · rw [h1] at F₄
      walk_at "k!"
      rw [bitAnd_m4]
      walk_at "k!"
      rw [show (2 : Int) ^ Int.toNat 2 = 4 from rfl]
      refine KBw.item_K (ks := alph) (by decide +kernel) (by decide) (by (clear hroom hu hh hb hL' hL2 hl2 hlc0 hlc1 hsz h1; lia)) (by show _ < (64 : Int); (clear hroom hu hh hb hL' hL2 hl2 hlc0 hlc1 hsz h1; lia)) ?_
      intro t' k _ _
      walk_at "k!"
      refine append_K F₄ N₄ (by k_upd) ?_ (by rw [List.size_toArray, sizeLine_eq, hI.length]; (first | lia | omega))
      intro h5 F5 N5
      walk_at "k!"
      refine append_K F5 N5 (by k_upd) ?_ (by rw [List.push_toArray, List.size_toArray, sizeLine_eq, List.length_append, hI.length]; simp only [List.length_cons, List.length_nil]; (first | lia | omega))
      intro h6 F6 N6
      walk_at "k!"
      rw [List.push_toArray, List.push_toArray] at N6
      have e0 : b64I (KBw.bInts b) = full (KBw.bInts b) ++ [al (lc % 16 * 4)] ++ [61] := by rw [b64I, h2 lc hOK]; simp only [List.append_assoc]; rfl
      refine KBa.make_K F6 N6 (by exact hh) ⟨_, (N6 _ (.head _)).1, rfl, _, rfl⟩ (ksk_snoc (ksk_snoc hI)) (ns := full (KBw.bInts b) ++ [al (lc % 16 * 4)] ++ [61]) (by rw [← e0]; exact b64I_in _) (by rw [← e0]; have := b64I_length (KBw.bInts b); (first | lia | omega)) ?_
      intro h9 t9 k9 F9 N9 _
      rw [← e0]
      exact h _ _ _ ((Sep.of F9 N9).drop (fun _ q => nomatch q))

theorem b64encode_spec {b : Array UInt8} {t : Tok} {R : Result → Shared → Prop}
    (G : Gnd (hd.heap_39 w.params) p loose mean mg mb A base outer g) (S : Sep g s.heap [])
    (hroom : A.depth + 2 < recursionLimit) (hu : A.units + 60 < cLine) (hh : A.handled = none) (hb : b.size < 2 ^ 20)
    (h : ∀ h' tk' t', Sep g h' [] → R (.ok (.ret (.bytes (byteArr (b64I (KBw.bInts b))) t'))) { s with heap := h', toks := tk' }) :
    codeAny (model PySem.Challenge.rw_pd0043_01.row.prog w) A (.call (.ref 85) ⟨[.bytes b t], []⟩) R s := by
  obtain ⟨B, X, T⟩ := id G
  refine enterP (binds := [(Str.ofString "s", .bytes b t), (Str.ofString "altchars", .none)]) G S (by k_is) (by k_is) (by (first | lia | omega)) (binds_K (G.X.keeps S.sub) rfl (by k_is) rfl rfl rfl) (locs rfl) ?_ rfl rfl rfl (by decide)
  intro L' h₁ hL' F' N'
  try dsimp only
  k_fold
  walk_at "k!"
  refine callOver (hid := []) (rest := []) G F' N' (Around.frames_deeper B.stack) rfl rfl (fun _ h => nomatch h) fun g' G' S' hfz hsz hsub hback => ?_
  refine b2a_spec G' S' (by simp only [depth_deeper]; omega) (by simp; (first | lia | omega)) hh hb ?_
  intro h2 tk2 t2 S2
  obtain ⟨F2, N2⟩ := hback _ _ S2
  walk_at "k!"
  rename Fr _ _ _ _ => F3
  rename News _ _ _ _ => N3
  exact h _ _ _ (Sep.of F3 N3)
end
end
section
open PySem PySem.W PyProof.Rows PySem.Calls
set_option Elab.async false
set_option maxRecDepth 100000
set_option maxHeartbeats 8000000
open PyProof.Rows.LCg (NsObj lst)

/-- what a turn of a list comprehension must leave behind (ahead of the append) -/
def TurnC (s : Shared) (h₀ : Heap) (L : Addr) (m : Str → Option Value) (wr : List Addr) (C D : Addr) (oD : Obj) (fix : List (Addr × Obj)) (J : List Value → List (Addr × Obj) → Prop) (ys : List Value) (s₃ : Shared) : Prop :=
  ∃ h' tk' oC' m' news', s₃ = { s with heap := h', toks := tk' } ∧ Fr h₀ L h' m ∧ News h₀ L h' ((C, oC') :: (D, oD) :: (fix ++ news')) ∧ NsObj oC' m' ∧ (∀ p ∈ news', p.1 ∉ wr ∧ p.1 ≠ C ∧ p.1 ≠ D) ∧ J ys news'

section
variable {prog : Program} {w : World} {A : Around} {E : Value → Shared → Prop} {s₂ : Shared} {h₀ : Heap} {L I : Addr} {m : Str → Option Value} {news fz : List (Addr × Obj)} {env : Env}
  {fp wr : List Addr} {n : Nat} {P : Nat → Value → Prop} {St : Nat → Heap → Prop}

theorem compW {elt target iter : Expr} {ifs : List Expr} {scope : Scope} {cl : List (Str × Addr)} {pos : Pos} {RR : Value → Addr → Result → Shared → Prop} (J : Nat → List Value → List (Addr × Obj) → Prop)
    (W : Walks prog w A I fp wr n P St) (hsz : n ≤ sizeLine) (hLf : L ∉ fp) (hwr0 : ∀ b ∈ wr, h₀.get? b = none) (hob : ∀ i h, St i h → ∀ b ∈ wr, ∃ o, h.get? b = some o)
    (hfz : ∀ b ∈ fp, b ∉ wr → (∃ o, h₀.get? b = some o) ∨ (∃ o, (b, o) ∈ fz)) (hfzw : ∀ p ∈ fz, p.1 ∉ wr) (hfp : ∀ b ∈ fp, b < s₂.heap.objs.size)
    (hcell : ∀ y ∈ scope.names, y.2 ≠ .cell) (hkind : scope.kind = .function)
    (hst : St 0 s₂.heap) (F : Fr h₀ L s₂.heap m) (N : News h₀ L s₂.heap (fz ++ news)) (hnw : ∀ p ∈ news, p.1 ∉ wr) (hJ : J 0 [] news)
    (turn : ∀ i v ys news₁ C oC D m₂ h tk own, i < n → P i v → J i ys news₁ → ys.length ≤ i → (∀ p ∈ own, p.1 ∈ wr) → (∀ b ∈ wr, ∃ o, (b, o) ∈ own) → (∀ p ∈ news₁, p.1 ∉ wr ∧ p.1 ≠ C ∧ p.1 ≠ D) → (∀ p ∈ own ++ fz, p.1 ≠ C ∧ p.1 ≠ D) → C ≠ D → NsObj oC m₂ →
      Fr h₀ L h m → News h₀ L h ((C, oC) :: (D, lst ys) :: ((own ++ fz) ++ news₁)) →
      wpAny (model prog w) A (assign target (compEnvC scope cl C env) v) (fun _ s₃ =>
        wpAny (model prog w) A (forIn ifs true fun c r => if r = true then do let ok ← isTrue c (compEnvC scope cl C env) (eval c (compEnvC scope cl C env)); pure (ForInStep.yield ok) else pure (ForInStep.yield r)) (fun ok s₄ =>
          if ok = true then wpAny (model prog w) A (eval elt (compEnvC scope cl C env)) (fun y s₅ => TurnC s₂ h₀ L m wr C D (lst ys) (own ++ fz) (J (i + 1)) (ys ++ [y]) s₅) (fun _ _ => False) s₄
          else TurnC s₂ h₀ L m wr C D (lst ys) (own ++ fz) (J (i + 1)) ys s₄) (fun _ _ => False) s₃) (fun _ _ => False) { s₂ with heap := h, toks := tk })
    (hRR : ∀ D C h tk m' ys news₁, J n ys news₁ → Fr h₀ L h m → News h₀ L h ((D, lst ys) :: (fz ++ news₁)) → h.Ns C m' → C ≠ L → C ≠ D → h₀.get? C = none → (∀ p ∈ fz ++ news₁, p.1 ≠ C ∧ p.1 ≠ D) → RR (.ref D) C (.ok .next) { s₂ with heap := h, toks := tk })
    (ht : ∀ v, letOwnedTupleGo target (.ref I) v = pure () := by intro _; rfl) :
    wpAny (model prog w) A (newList []) (fun acc s₃ => wpAny (model prog w) A (newFunctionEnv scope env.globals cl [] env.qual none .none (some env)) (fun cenv s₄ =>
      codeAny (model prog w) A (.compStart (.ListComp elt [⟨target, iter, ifs, 0⟩] scope pos) 0 (.ref I) acc { cenv with scope := relabel scope env }) (RR acc cenv.locals) s₄) E s₃) E s₂ := by
  refine wpAny_newObj_type (wpAny_newFunctionEnv hcell (by intro y hy; simp at hy) (fun h₁ hns₁ hsb₁ => ?_) hkind)
  dsimp only at hns₁ hsb₁ ⊢
  generalize hH2 : s₂.heap.push { cls := .type "list", dict := none, data := .seq ([] : List Value).toArray } = H2 at hns₁ hsb₁ ⊢
  have hC : H2.objs.size = s₂.heap.objs.size + 1 := by rw [← hH2, Heap.size_push]
  have below : ∀ b, b < s₂.heap.objs.size → b ≠ H2.objs.size ∧ b ≠ s₂.heap.objs.size := fun b hb => ⟨by rw [hC]; exact Nat.ne_of_lt (Nat.lt_succ_of_lt hb), Nat.ne_of_lt hb⟩
  have old : ∀ b o, s₂.heap.get? b = some o → h₁.get? b = some o := fun b o e => hsb₁.extBut b o (below b (Heap.lt_size e)).1 (Heap.get?_push_of_some _ (hH2 ▸ Heap.get?_push_of_some _ e))
  have hDC : s₂.heap.objs.size ≠ H2.objs.size := by rw [hC]; exact Nat.ne_of_lt (Nat.lt_succ_self _)
  have hacc : h₁.get? s₂.heap.objs.size = some (lst []) := hsb₁.extBut _ _ hDC (Heap.get?_push_of_some _ (hH2 ▸ Heap.get?_push_size _ rfl))
  have hst₁ : St 0 h₁ := W.frame _ _ _ hst fun b _ o e => old b o e
  have fresh₀ : ∀ a, s₂.heap.objs.size ≤ a → h₀.get? a = none := fun a ha => by
    cases e : h₀.get? a with
    | none => rfl
    | some o' => exact absurd (Heap.lt_size (F.keep _ _ e)) (Nat.not_lt.mpr ha)
  have hLlt : L < s₂.heap.objs.size := F.ns.lt
  have hD₀ : h₀.get? s₂.heap.objs.size = none := fresh₀ _ (Nat.le_refl _)
  have hC₀ : h₀.get? H2.objs.size = none := fresh₀ _ (by rw [hC]; exact Nat.le_succ _)
  have hDf : s₂.heap.objs.size ∉ fp := fun hm => Nat.lt_irrefl _ (hfp _ hm)
  have hCf : H2.objs.size ∉ fp := fun hm => by have := hfp _ hm; rw [hC] at this; exact Nat.lt_irrefl _ (Nat.lt_of_succ_lt this)
  have hDL : s₂.heap.objs.size ≠ L := Ne.symm (below L hLlt).2
  have hCL : H2.objs.size ≠ L := Ne.symm (below L hLlt).1
  have hDw : s₂.heap.objs.size ∉ wr := fun h => hDf (W.sub _ h)
  have hCw : H2.objs.size ∉ wr := fun h => hCf (W.sub _ h)
  have hLw : L ∉ wr := fun h => hLf (W.sub _ h)
  have offO : ∀ p ∈ fz ++ news, p.1 ≠ H2.objs.size ∧ p.1 ≠ s₂.heap.objs.size := fun p hp => below _ (Heap.lt_size (N p hp).1)
  have hF1 : Fr h₀ L h₁ m := ⟨F.ns.at' fun o e => old _ _ e, fun b o e => old _ _ (F.keep b o e), F.above⟩
  generalize H2.objs.size = C at *
  generalize hDe : s₂.heap.objs.size = D at *
  have loop : ∀ s₃ : Shared, s₃ = { s₂ with heap := h₁, toks := s₂.toks + ([] : List (Str × Value)).length } →
      codeAny (model prog w) A (.compLoop (.ListComp elt [⟨target, iter, ifs, 0⟩] scope pos) 0 (.ref I) (.ref D) (compEnvC scope cl C env)) (RR (.ref D) C) s₃ := by
    rintro s₃ rfl
    refine codeAny_compLoop_tests
      (fun k s' => ∃ h' tk i ys m' news', s' = { s₂ with heap := h', toks := tk } ∧ i ≤ n ∧ k = n - i ∧ ys.length ≤ i ∧ St i h' ∧ Fr h₀ L h' m ∧ h'.Ns C m' ∧ News h₀ L h' ((D, lst ys) :: (fz ++ news')) ∧
        (∀ p ∈ news', p.1 ∉ wr ∧ p.1 ≠ C ∧ p.1 ≠ D) ∧ J i ys news') ?_ n
      ⟨h₁, _, 0, [], _, news, rfl, Nat.zero_le _, rfl, Nat.le_refl _, hst₁, hF1, hns₁, fun p hp => ?_, fun p hp => ⟨hnw p hp, offO p (List.mem_append.mpr (.inr hp))⟩, hJ⟩ ht
    · rintro k s' ⟨h', tk, i, ys, m', news', rfl, hi, rfl, hyl, hst', F', hn', N', off', hJ'⟩
      have keepF : ∀ h'', (∀ b o, b ∉ wr → h'.get? b = some o → h''.get? b = some o) → Fr h₀ L h'' m := fun h'' hk => by
        obtain ⟨oL, a1, a2, hoL, a3⟩ := F'.ns
        exact ⟨⟨oL, a1, a2, hk _ _ hLw hoL, a3⟩, fun b o e => hk b o (fun hb => by rw [hwr0 b hb] at e; cases e) (F'.keep b o e), F'.above⟩
      have notw : ∀ p ∈ (D, lst ys) :: (fz ++ news'), p.1 ∉ wr := fun p hp => by
        rcases List.mem_cons.mp hp with rfl | hp
        · exact hDw
        · exact (List.mem_append.mp hp).elim (hfzw p) fun h => (off' p h).1
      have keepN : ∀ h'', (∀ b o, b ∉ wr → h'.get? b = some o → h''.get? b = some o) → News h₀ L h'' ((D, lst ys) :: (fz ++ news')) := fun h'' hk p hp =>
        ⟨hk _ _ (notw p hp) (N' p hp).1, (N' p hp).2⟩
      by_cases hlt : i < n
      · refine W.item i _ _ _ hlt hst' fun v h₂ tk₂ hPv hst₂ hk₂ => ?_
        dsimp only at hk₂ ⊢
        obtain ⟨own, hown1, hown2⟩ : ∃ own : List (Addr × Obj), (∀ p ∈ own, p.1 ∈ wr ∧ h₂.get? p.1 = some p.2) ∧ ∀ b ∈ wr, ∃ o, (b, o) ∈ own := by
          have hex := hob _ _ hst₂
          clear turn hRR hfzw hfz hnw hwr0 hLw keepF keepN notw hk₂ W hLf hob off' hDw hCw
          induction wr with
          | nil => exact ⟨[], (fun _ h => nomatch h), (fun _ h => nomatch h)⟩
          | cons b r ih =>
            obtain ⟨own, o1, o2⟩ := ih fun c hc => hex c (.tail _ hc)
            obtain ⟨o, ho⟩ := hex b (.head _)
            refine ⟨(b, o) :: own, fun p hp => ?_, fun c hc => ?_⟩
            · rcases List.mem_cons.mp hp with rfl | hp
              · exact ⟨.head _, ho⟩
              · exact ⟨.tail _ (o1 p hp).1, (o1 p hp).2⟩
            · rcases List.mem_cons.mp hc with rfl | hc
              · exact ⟨o, .head _⟩
              · obtain ⟨o', ho'⟩ := o2 c hc; exact ⟨o', .tail _ ho'⟩
        have hnC : h₂.Ns C m' := hn'.at' fun o e => hk₂ _ o hCw e
        obtain ⟨oC, hoC, hNs⟩ := LCg.ns_obj hnC
        have N₂ : News h₀ L h₂ ((C, oC) :: (D, lst ys) :: ((own ++ fz) ++ news')) := fun p hp => by
          rcases List.mem_cons.mp hp with rfl | hp
          · exact ⟨hoC, hCL, hC₀⟩
          · rcases List.mem_cons.mp hp with rfl | hp
            · exact keepN h₂ hk₂ _ (.head _)
            · rw [List.append_assoc] at hp
              rcases List.mem_append.mp hp with hp | hp
              · exact ⟨(hown1 p hp).2, fun e => hLw (e ▸ (hown1 p hp).1), hwr0 _ (hown1 p hp).1⟩
              · exact keepN h₂ hk₂ p (.tail _ hp)
        have offF : ∀ p ∈ own ++ fz, p.1 ≠ C ∧ p.1 ≠ D := fun p hp => by
          rcases List.mem_append.mp hp with hp | hp
          · exact ⟨fun e => hCw (e ▸ (hown1 p hp).1), fun e => hDw (e ▸ (hown1 p hp).1)⟩
          · exact offO p (List.mem_append.mpr (.inl hp))
        have fin : ∀ s₅ ys', ys'.length ≤ i + 1 → (∃ h' tk' oC' m' news', s₅ = { s₂ with heap := h', toks := tk' } ∧ Fr h₀ L h' m ∧ News h₀ L h' ((C, oC') :: (D, lst ys') :: ((own ++ fz) ++ news')) ∧ NsObj oC' m' ∧ (∀ p ∈ news', p.1 ∉ wr ∧ p.1 ≠ C ∧ p.1 ≠ D) ∧ J (i + 1) ys' news') →
            ∃ k, k < n - i ∧ ∃ h' tk i ys m' news', s₅ = { s₂ with heap := h', toks := tk } ∧ i ≤ n ∧ k = n - i ∧ ys.length ≤ i ∧ St i h' ∧ Fr h₀ L h' m ∧ h'.Ns C m' ∧ News h₀ L h' ((D, lst ys) :: (fz ++ news')) ∧
              (∀ p ∈ news', p.1 ∉ wr ∧ p.1 ≠ C ∧ p.1 ≠ D) ∧ J i ys news' := by
          rintro s₅ ys' hyl' ⟨h3, tk3, oC3, m3, news3, rfl, F3, N3, hNs3, off3, hJ3⟩
          have hm3 : ∀ p ∈ own ++ fz, p ∈ (C, oC3) :: (D, lst ys') :: ((own ++ fz) ++ news3) := fun p hp => .tail _ (.tail _ (List.mem_append.mpr (.inl hp)))
          refine ⟨n - (i + 1), by (first | lia | omega), h3, tk3, i + 1, ys', m3, news3, rfl, hlt, rfl, hyl', ?_, F3, hNs3.ns (N3 _ (.head _)).1, fun p hp => N3 p ?_, off3, hJ3⟩
          · refine W.frame _ _ _ hst₂ fun b hb o ho => ?_
            by_cases hbw : b ∈ wr
            · obtain ⟨o', ho'⟩ := hown2 b hbw
              have e1 := (hown1 _ ho').2
              have e2 := (N3 (b, o') (hm3 _ (List.mem_append.mpr (.inl ho')))).1
              dsimp only at e1 e2
              rw [ho] at e1; cases e1; exact e2
            · rcases hfz b hb hbw with ⟨o', ho'⟩ | ⟨o', ho'⟩
              · have e1 := (keepF h₂ hk₂).keep _ _ ho'
                rw [ho] at e1; cases e1; exact F3.keep _ _ ho'
              · have e1 := (keepN h₂ hk₂ (b, o') (.tail _ (List.mem_append.mpr (.inl ho')))).1
                have e2 := (N3 (b, o') (hm3 _ (List.mem_append.mpr (.inr ho')))).1
                dsimp only at e1 e2
                rw [ho] at e1; cases e1; exact e2
          · rcases List.mem_cons.mp hp with rfl | hp
            · exact .tail _ (.head _)
            · rcases List.mem_append.mp hp with hp | hp
              · exact hm3 _ (List.mem_append.mpr (.inr hp))
              · exact .tail _ (.tail _ (List.mem_append.mpr (.inr hp)))
        refine wpAny_mono (turn i v ys news' C oC D m' h₂ tk₂ own hlt hPv hJ' hyl (fun p hp => (hown1 p hp).1) hown2 off' offF (Ne.symm hDC) hNs (keepF h₂ hk₂) N₂) (fun _ s₃ h₃ => ?_) fun _ _ x => x.elim
        refine wpAny_mono h₃ (fun ok s₄ h₄ => ?_) fun _ _ x => x.elim
        cases ok with
        | false =>
          simp only [Bool.false_eq_true, if_false] at h₄ ⊢
          exact fin _ _ (Nat.le_succ_of_le hyl) h₄
        | true =>
          simp only [if_true] at h₄ ⊢
          refine wpAny_mono h₄ (fun y s₅ h₅ => ?_) fun _ _ x => x.elim
          obtain ⟨h3, tk3, oC3, m3, news3, rfl, F3, N3, hNs3, off3, hJ3⟩ := h₅
          refine append_K (D := D) (its := ys.toArray) (n := ys.length) (news' := (C, oC3) :: (D, lst (ys ++ [y])) :: ((own ++ fz) ++ news3)) F3 N3 ?_ (fun h4 F4 N4 => ?_) ?_
          · rw [← LCg.lst_snoc]
            refine .tail (Ne.symm hDC) (.head fun p hp => ?_)
            rcases List.mem_append.mp hp with hp | hp
            · exact (offF p hp).2
            · exact (off3 p hp).2.2
          · exact fin _ _ (by rw [List.length_append]; simp only [List.length_cons, List.length_nil]; (first | lia | omega)) ⟨h4, tk3, oC3, m3, news3, rfl, F4, N4, hNs3, off3, hJ3⟩
          · rw [List.size_toArray]; (first | lia | omega)
      · have e : i = n := by (first | lia | omega)
        subst e
        refine W.done _ _ _ hst' fun h'' tk'' hk => ?_
        dsimp only at hk ⊢
        refine hRR D C h'' tk'' m' ys news' hJ' (keepF h'' hk) (keepN h'' hk) (hn'.at' fun o e => hk _ o hCw e) hCL (Ne.symm hDC) hC₀ fun p hp => ?_
        rcases List.mem_append.mp hp with hp | hp
        · exact offO p (List.mem_append.mpr (.inl hp))
        · exact (off' p hp).2
    · rcases List.mem_cons.mp hp with rfl | hp
      · exact ⟨hacc, hDL, hD₀⟩
      · exact ⟨old _ _ (N p hp).1, (N p hp).2⟩
  exact codeAny_compStart_list (loop _ rfl) (W.self 0 _ _ _ hst₁ (loop _ rfl))

theorem sameBut_back {h h' : Heap} {C D : Addr} {ys : List Value} {rest : List (Addr × Obj)} {m : Str → Option Value} (F : Fr h₀ L h m) (N : News h₀ L h ((D, lst ys) :: rest)) (hs : Heap.SameBut C h h') (hCL : C ≠ L) (hCD : C ≠ D) (hC₀ : h₀.get? C = none)
    (off : ∀ p ∈ rest, p.1 ≠ C ∧ p.1 ≠ D) : Fr h₀ L h' m ∧ News h₀ L h' ((D, lst ys) :: rest) := by
  refine ⟨F.change hs hCL hC₀, fun p hp => ⟨(hs.2 p.1 ?_).trans (N p hp).1, (N p hp).2⟩⟩
  rcases List.mem_cons.mp hp with rfl | hp
  · exact Ne.symm hCD
  · exact (off p hp).1

theorem compE {elt target iter : Expr} {ifs : List Expr} {scope : Scope} {cl : List (Str × Addr)} {pos : Pos} {Q : Value → Shared → Prop} {s : Shared}
    (hclos : closureFor scope env = pure cl) (hkind : scope.kind = .function) (hnames : ∀ y ∈ scope.names, y.2 = .local → scope.names.lookup y.1 = some .local)
    (h : wpAny (model prog w) A (eval iter env) (fun xv s₁ => wpAny (model prog w) A (pyIter xv) (fun it s₂ => wpAny (model prog w) A (newList []) (fun acc s₃ => wpAny (model prog w) A (newFunctionEnv scope env.globals cl [] env.qual none .none (some env)) (fun cenv s₄ =>
      codeAny (model prog w) A (.compStart (.ListComp elt [⟨target, iter, ifs, 0⟩] scope pos) 0 it acc { cenv with scope := relabel scope env }) (compPost (model prog w) A E none Q acc cenv.locals) s₄) E s₃) E s₂) E s₁) E s)
    (hs : ∀ x, foldedSetIterable iter env x = pure x := by intro _; rfl) :
    wpAny (model prog w) A (eval (.ListComp elt [⟨target, iter, ifs, 0⟩] scope pos) env) Q E s := by
  rw [eval_ListComp]
  exact wpAny_comprehension_free (use := none) rfl hs hclos hkind hnames h

theorem compPostE {Q : Value → Shared → Prop} {D C : Addr} {h : Heap} {tk : Nat} {m' : Str → Option Value} {ys : List Value} {rest : List (Addr × Obj)} (F : Fr h₀ L h m) (N : News h₀ L h ((D, lst ys) :: rest)) (hC : h.Ns C m') (hCL : C ≠ L) (hCD : C ≠ D) (hC₀ : h₀.get? C = none)
    (off : ∀ p ∈ rest, p.1 ≠ C ∧ p.1 ≠ D) (hq : ∀ h', Fr h₀ L h' m → News h₀ L h' ((D, lst ys) :: rest) → (∀ p ∈ rest, p.1 ≠ D) → Q (.ref D) { s₂ with heap := h', toks := tk }) :
    compPost (model prog w) A E none Q (.ref D) C (.ok .next) { s₂ with heap := h, toks := tk } :=
  ⟨m', hC, fun h' hs => let ⟨a, b⟩ := sameBut_back F N hs hCL hCD hC₀ off; hq h' a b fun p hp => (off p hp).2⟩

theorem compA {elt target iter : Expr} {y : Str} {py : Pos} {ifs : List Expr} {scope : Scope} {cl : List (Str × Addr)} {pos spos : Pos} {Q : Flow → Shared → Prop} {s : Shared}
    (hsw : swapsWith (.ListComp elt [⟨target, iter, ifs, 0⟩] scope pos) (some (.Name y py)) spos.line env = pure true)
    (hclos : closureFor scope env = pure cl) (hkind : scope.kind = .function) (hnames : ∀ y ∈ scope.names, y.2 = .local → scope.names.lookup y.1 = some .local)
    (h : wpAny (model prog w) A (eval iter env) (fun xv s₁ => wpAny (model prog w) A (pyIter xv) (fun it s₂ => wpAny (model prog w) A (newList []) (fun acc s₃ => wpAny (model prog w) A (newFunctionEnv scope env.globals cl [] env.qual none .none (some env)) (fun cenv s₄ =>
      codeAny (model prog w) A (.compStart (.ListComp elt [⟨target, iter, ifs, 0⟩] scope pos) 0 it acc { cenv with scope := relabel scope env }) (compPost (model prog w) A E (some (assign (.Name y py) env)) (fun _ s' => Q .next s') acc cenv.locals) s₄) E s₃) E s₂) E s₁) E s)
    (hs : ∀ x, foldedSetIterable iter env x = pure x := by intro _; rfl) :
    wpAny (model prog w) A (exec (.Assign [.Name y py] (.ListComp elt [⟨target, iter, ifs, 0⟩] scope pos) spos) env) Q E s := by
  rw [exec_Assign_Name_used _ _ _ _ hsw]
  refine wpAny_bind (wpAny_standAt (wpAny_bind ?_))
  show wpAny _ A (do let _ ← comprehension (.ListComp elt [⟨target, iter, ifs, 0⟩] scope pos) scope env _ (newList []) false (eval iter env) (some (assign (.Name y py) env))) _ _ s
  exact wpAny_bind (wpAny_mono (wpAny_comprehension_free (use := some (assign (.Name y py) env)) (Q := fun _ s' => Q .next s') rfl hs hclos hkind hnames h) (fun _ s' hq => wpAny_pure (wpAny_pure hq)) fun _ _ e => e)

theorem compPostA {Qn : Shared → Prop} {y : Str} {py : Pos} {D C : Addr} {h : Heap} {tk : Nat} {m' : Str → Option Value} {ys : List Value} {rest : List (Addr × Obj)} (F : Fr h₀ L h m) (N : News h₀ L h ((D, lst ys) :: rest)) (hC : h.Ns C m') (hCL : C ≠ L) (hCD : C ≠ D) (hC₀ : h₀.get? C = none)
    (off : ∀ p ∈ rest, p.1 ≠ C ∧ p.1 ≠ D) (hL : env.locals = L) (hy : env.kindOf y = some .local) (hp : (env.scope.kind == .class || (env.scope.kind == .module && env.locals != env.globals)) = false)
    (hq : ∀ h', Fr h₀ L h' (fun z => if z = y then some (.ref D) else m z) → News h₀ L h' ((D, lst ys) :: rest) → (∀ p ∈ rest, p.1 ≠ D) → Qn { s₂ with heap := h', toks := tk + 1 }) :
    compPost (model prog w) A E (some (assign (.Name y py) env)) (fun _ s' => Qn s') (.ref D) C (.ok .next) { s₂ with heap := h, toks := tk } := by
  subst hL
  show wpAny _ A (assign (.Name y py) env (.ref D)) _ _ _
  refine wpAny_assign_Name (wpAny_storeName_local hy F.ns (fun h₂ hn₂ hs₂ => ?_) hp)
  have F₂ : Fr h₀ env.locals h₂ (fun z => if z = y then some (.ref D) else m z) := F.set hn₂ hs₂
  have N₂ : News h₀ env.locals h₂ ((D, lst ys) :: rest) := N.set hs₂
  exact ⟨m', hC.at' fun o e => (hs₂.2 C hCL).trans e, fun h' hs => let ⟨a, b⟩ := sameBut_back F₂ N₂ hs hCL hCD hC₀ off; hq h' a b fun p hp => (off p hp).2⟩

/-- a name of the comprehension's own is stored -/
theorem storeC {scope : Scope} {cl : List (Str × Addr)} {C : Addr} {oC : Obj} {rest : List (Addr × Obj)} {m₂ : Str → Option Value} {x : Str} {v : Value} {Q : Unit → Shared → Prop} (F : Fr h₀ L s₂.heap m) (N : News h₀ L s₂.heap ((C, oC) :: rest)) (hN : NsObj oC m₂) (off : ∀ p ∈ rest, p.1 ≠ C)
    (hx : scope.names.lookup x = some .local) (hkind : scope.kind = .function)
    (h : ∀ h' oC', Fr h₀ L h' m → News h₀ L h' ((C, oC') :: rest) → NsObj oC' (fun y => if y = x then some v else m₂ y) → Q () { s₂ with heap := h', toks := s₂.toks + 1 }) :
    wpAny (model prog w) A (storeName (compEnvC scope cl C env) x v) Q E s₂ := by
  have z := N (C, oC) (.head _)
  refine wpAny_storeName_local (env := compEnvC scope cl C env) (lookup_relabel_local hx) (hN.ns z.1) (fun h' hn hs => ?_) (by simp [compEnvC, relabel, hkind])
  obtain ⟨oC', ho, hN'⟩ := LCg.ns_obj hn
  refine h h' oC' (F.change hs z.2.1 z.2.2) (fun p hp => ?_) hN'
  rcases List.mem_cons.mp hp with rfl | hp
  · exact ⟨ho, z.2⟩
  · exact ⟨(hs.2 p.1 (off p hp)).trans (N p (.tail _ hp)).1, (N p (.tail _ hp)).2⟩

theorem storeCx {scope : Scope} {cl : List (Str × Addr)} {C : Addr} {oC : Obj} {rest : List (Addr × Obj)} {m₂ : Str → Option Value} {x : Str} {px : Pos} {v : Value} {Q : Unit → Shared → Prop} (F : Fr h₀ L s₂.heap m) (N : News h₀ L s₂.heap ((C, oC) :: rest)) (hN : NsObj oC m₂) (off : ∀ p ∈ rest, p.1 ≠ C)
    (hx : scope.names.lookup x = some .local) (hkind : scope.kind = .function)
    (h : ∀ h' oC' m₃, Fr h₀ L h' m → News h₀ L h' ((C, oC') :: rest) → NsObj oC' m₃ → m₃ x = some v → (∀ y, y ≠ x → m₃ y = m₂ y) → Q () { s₂ with heap := h', toks := s₂.toks + 1 }) :
    wpAny (model prog w) A (assign (.Name x px) (compEnvC scope cl C env) v) Q E s₂ :=
  wpAny_assign_Name (storeC F N hN off hx hkind fun h' oC' F' N' hN' => h h' oC' _ F' N' hN' (if_pos rfl) fun y hy => if_neg hy)

theorem isL {h : Heap} {a : Addr} {vs : List Value} {e : Nat} (N : News h₀ L h news) (hm : (a, listOf vs.toArray e) ∈ news) : h.IsList a vs.toArray := ⟨_, (N _ hm).1, rfl, e, rfl⟩

/-- a list is the source: it stands in the frozen part or in the fixed part of the ledger -/
def Src (h₀ : Heap) (fz : List (Addr × Obj)) (l : Addr) (vs : List Value) : Prop := h₀.IsList l vs.toArray ∨ ∃ e, (l, listOf vs.toArray e) ∈ fz
theorem Src.isList {h : Heap} {l : Addr} {vs : List Value} (hs : Src h₀ fz l vs) (F : Fr h₀ L h m) (N : News h₀ L h (fz ++ news)) : h.IsList l vs.toArray := by
  rcases hs with ⟨o, ho, r⟩ | ⟨e, he⟩
  · exact ⟨o, F.keep _ _ ho, r⟩
  · exact ⟨_, (N _ (List.mem_append.mpr (.inl he))).1, rfl, e, rfl⟩

theorem compList {elt target iter : Expr} {ifs : List Expr} {scope : Scope} {cl : List (Str × Addr)} {pos : Pos} {RR : Value → Addr → Result → Shared → Prop} {l : Addr} {vs : List Value} {s : Shared} (J : Nat → List Value → List (Addr × Obj) → Prop)
    (hh : A.handled = none) (hsrc : Src h₀ fz l vs) (F : Fr h₀ L s.heap m) (N : News h₀ L s.heap (fz ++ news)) (hlen : vs.length ≤ sizeLine)
    (hcell : ∀ y ∈ scope.names, y.2 ≠ .cell) (hkind : scope.kind = .function) (hJ : J 0 [] news)
    (turn : ∀ i v ys news₁ C oC D m₂ h tk fix wr s', s' = s → vs[i]? = some v → J i ys news₁ → ys.length ≤ i → (∀ p ∈ fz, p ∈ fix) → (∀ p ∈ news₁, p.1 ∉ wr ∧ p.1 ≠ C ∧ p.1 ≠ D) → (∀ p ∈ fix, p.1 ≠ C ∧ p.1 ≠ D) → (∀ b ∈ wr, ∃ o, (b, o) ∈ fix) → C ≠ D → NsObj oC m₂ →
      Fr h₀ L h m → News h₀ L h ((C, oC) :: (D, lst ys) :: (fix ++ news₁)) →
      wpAny (model prog w) A (assign target (compEnvC scope cl C env) v) (fun _ s₃ =>
        wpAny (model prog w) A (forIn ifs true fun c r => if r = true then do let ok ← isTrue c (compEnvC scope cl C env) (eval c (compEnvC scope cl C env)); pure (ForInStep.yield ok) else pure (ForInStep.yield r)) (fun ok s₄ =>
          if ok = true then wpAny (model prog w) A (eval elt (compEnvC scope cl C env)) (fun y s₅ => TurnC s h₀ L m wr C D (lst ys) fix (J (i + 1)) (ys ++ [y]) s₅) (fun _ _ => False) s₄
          else TurnC s h₀ L m wr C D (lst ys) fix (J (i + 1)) ys s₄) (fun _ _ => False) s₃) (fun _ _ => False) { s with heap := h, toks := tk })
    (hRR : ∀ D C h tk m' ys news₁, J vs.length ys news₁ → Fr h₀ L h m → News h₀ L h ((D, lst ys) :: (fz ++ news₁)) → h.Ns C m' → C ≠ L → C ≠ D → h₀.get? C = none → (∀ p ∈ fz ++ news₁, p.1 ≠ C ∧ p.1 ≠ D) → RR (.ref D) C (.ok .next) { s with heap := h, toks := tk })
    (ht : ∀ I v, letOwnedTupleGo target (.ref I) v = pure ()) :
    wpAny (model prog w) A (pyIter (.ref l)) (fun it s₂ => wpAny (model prog w) A (newList []) (fun acc s₃ => wpAny (model prog w) A (newFunctionEnv scope env.globals cl [] env.qual none .none (some env)) (fun cenv s₄ =>
      codeAny (model prog w) A (.compStart (.ListComp elt [⟨target, iter, ifs, 0⟩] scope pos) 0 it acc { cenv with scope := relabel scope env }) (RR acc cenv.locals) s₄) E s₃) E s₂) E s := by
  have hl := hsrc.isList F N
  have hlt : l < s.heap.objs.size := let ⟨o, ho, _⟩ := hl; Heap.lt_size ho
  refine wpAny_pyIter_list hl ?_
  have W := Walks.list (prog := prog) (w := w) hh s.heap.objs.size l (Nat.ne_of_lt hlt) vs.toArray
  rw [List.size_toArray] at W
  refine compW (fz := fz) (news := news) J W hlen ?_ ?_ ?_ ?_ ?_ ?_ hcell hkind ⟨⟨_, Heap.get?_push_size _ rfl, rfl, rfl⟩, hl.at fun o e => Heap.get?_push_of_some _ e⟩ (F.push _) (News.pushK N _) ?_ hJ ?_ hRR (ht _)
  · intro q
    rcases List.mem_cons.mp q with q | q
    · exact absurd F.ns.lt (q ▸ Nat.lt_irrefl _)
    · rw [List.mem_singleton] at q
      rcases hsrc with ⟨o, ho, _⟩ | ⟨e, he⟩
      · exact absurd (Heap.lt_size ho) (Nat.not_lt.mpr (q ▸ F.above))
      · exact (N _ (List.mem_append.mpr (.inl he))).2.1 q.symm
  · intro b hb; rw [List.mem_singleton] at hb; subst hb; exact Fr.newNone F (Nat.le_refl _)
  · intro i h hs b hb; rw [List.mem_singleton] at hb; subst hb; obtain ⟨⟨o, ho, _⟩, _⟩ := hs; exact ⟨o, ho⟩
  · intro b hb hnb
    rcases List.mem_cons.mp hb with q | q
    · exact absurd (List.mem_singleton.mpr q) hnb
    · rw [List.mem_singleton] at q; subst q
      rcases hsrc with ⟨o, ho, _⟩ | ⟨e, he⟩
      · exact .inl ⟨o, ho⟩
      · exact .inr ⟨_, he⟩
  · intro p hp q; rw [List.mem_singleton] at q
    exact absurd (Heap.lt_size (N p (List.mem_append.mpr (.inl hp))).1) (q ▸ Nat.lt_irrefl _)
  · intro b hb
    rw [size_push']
    rcases List.mem_cons.mp hb with q | q
    · rw [q]; exact Nat.lt_succ_self _
    · rw [List.mem_singleton.mp q]; exact Nat.lt_succ_of_lt hlt
  · intro p hp q; rw [List.mem_singleton] at q
    exact absurd (Heap.lt_size (N p (List.mem_append.mpr (.inr hp))).1) (q ▸ Nat.lt_irrefl _)
  · intro i v ys news₁ C oC D m₂ h tk own hi hv hJ' hyl hown hown2 hn₁ hoff hCD hNs F' N'
    have hex : ∀ b ∈ [s.heap.objs.size], ∃ o, (b, o) ∈ own ++ fz := fun b hb => let ⟨o, ho⟩ := hown2 b hb; ⟨o, List.mem_append.mpr (.inl ho)⟩
    exact turn i v ys news₁ C oC D m₂ h tk (own ++ fz) _ s rfl (by simpa using hv) hJ' hyl (fun p hp => List.mem_append.mpr (.inr hp)) hn₁ hoff hex hCD hNs F' N'

theorem forList {target : Expr} {body : List Stmt} {Q : Flow → Shared → Prop} {Rerr : Value → Shared → Prop} {l : Addr} {vs : List Value} {s : Shared} (J : Nat → (Str → Option Value) → List (Addr × Obj) → Prop)
    (hh : A.handled = none) (hsrc : Src h₀ fz l vs) (F : Fr h₀ L s.heap m) (N : News h₀ L s.heap (fz ++ news)) (hJ : J 0 m news)
    (turn : ∀ i v m₁ news₁ h tk fix wr, vs[i]? = some v → J i m₁ news₁ → (∀ p ∈ fz, p ∈ fix) → (∀ p ∈ news₁, p.1 ∉ wr) → (∀ b ∈ wr, ∃ o, (b, o) ∈ fix) → (∀ p ∈ fix, p.1 ∈ wr ∨ p ∈ fz) → Fr h₀ L h m₁ → News h₀ L h (fix ++ news₁) →
      wpAny (model prog w) A (assign target env v) (fun _ s₃ => wpAny (model prog w) A (execs body env) (TurnPost s h₀ L wr fix (J (i + 1)) Q) (fun _ _ => False) s₃) (fun _ _ => False) { s with heap := h, toks := tk })
    (done : ∀ m₁ news₁ h tk, J vs.length m₁ news₁ → Fr h₀ L h m₁ → News h₀ L h (fz ++ news₁) → Q .next { s with heap := h, toks := tk })
    (ht : ∀ I v, letOwnedTupleGo target (.ref I) v = pure ()) :
    wpAny (model prog w) A (pyIter (.ref l)) (fun it s₂ => codeAny (model prog w) A (.forLoop target it body [] env) (fun r s' => match r with | .ok f => Q f s' | .error e => Rerr e s') s₂) E s := by
  have hl := hsrc.isList F N
  have hlt : l < s.heap.objs.size := let ⟨o, ho, _⟩ := hl; Heap.lt_size ho
  refine wpAny_pyIter_list hl ?_
  have W := Walks.list (prog := prog) (w := w) hh s.heap.objs.size l (Nat.ne_of_lt hlt) vs.toArray
  rw [List.size_toArray] at W
  refine forW (fz := fz) (news := news) J W ?_ ?_ ?_ ?_ ?_ ⟨⟨_, Heap.get?_push_size _ rfl, rfl, rfl⟩, hl.at fun o e => Heap.get?_push_of_some _ e⟩ (F.push _) (News.pushK N _) ?_ hJ ?_ done (ht _)
  · intro q
    rcases List.mem_cons.mp q with q | q
    · exact absurd F.ns.lt (q ▸ Nat.lt_irrefl _)
    · rw [List.mem_singleton] at q
      rcases hsrc with ⟨o, ho, _⟩ | ⟨e, he⟩
      · exact absurd (Heap.lt_size ho) (Nat.not_lt.mpr (q ▸ F.above))
      · exact (N _ (List.mem_append.mpr (.inl he))).2.1 q.symm
  · intro b hb; rw [List.mem_singleton] at hb; subst hb; exact Fr.newNone F (Nat.le_refl _)
  · intro i h hs b hb; rw [List.mem_singleton] at hb; subst hb; obtain ⟨⟨o, ho, _⟩, _⟩ := hs; exact ⟨o, ho⟩
  · intro b hb hnb
    rcases List.mem_cons.mp hb with q | q
    · exact absurd (List.mem_singleton.mpr q) hnb
    · rw [List.mem_singleton] at q; subst q
      rcases hsrc with ⟨o, ho, _⟩ | ⟨e, he⟩
      · exact .inl ⟨o, ho⟩
      · exact .inr ⟨_, he⟩
  · intro p hp q; rw [List.mem_singleton] at q
    exact absurd (Heap.lt_size (N p (List.mem_append.mpr (.inl hp))).1) (q ▸ Nat.lt_irrefl _)
  · intro p hp q; rw [List.mem_singleton] at q
    exact absurd (Heap.lt_size (N p (List.mem_append.mpr (.inr hp))).1) (q ▸ Nat.lt_irrefl _)
  · intro i v m₁ news₁ h tk own hi hv hJ' hown hown2 hn₁ F' N'
    have hex : ∀ b ∈ [s.heap.objs.size], ∃ o, (b, o) ∈ own ++ fz := fun b hb => let ⟨o, ho⟩ := hown2 b hb; ⟨o, List.mem_append.mpr (.inl ho)⟩
    exact turn i v m₁ news₁ h tk (own ++ fz) _ (by simpa using hv) hJ' (fun p hp => List.mem_append.mpr (.inr hp)) hn₁ hex (fun p hp => (List.mem_append.mp hp).imp (hown p) (fun x => x)) F' N'

theorem compRange {elt target iter : Expr} {ifs : List Expr} {scope : Scope} {cl : List (Str × Addr)} {pos : Pos} {RR : Value → Addr → Result → Shared → Prop} {r : Addr} {k : Nat} {b : Int} {t u v : Tok} {s : Shared} (J : Nat → List Value → List (Addr × Obj) → Prop)
    (hh : A.handled = none) (hr : IsRange s.heap r 0 b 1 t u v) (hb : b = (k : Int)) (F : Fr h₀ L s.heap m) (N : News h₀ L s.heap (fz ++ news)) (hlen : k ≤ sizeLine)
    (hcell : ∀ y ∈ scope.names, y.2 ≠ .cell) (hkind : scope.kind = .function) (hJ : J 0 [] news)
    (turn : ∀ i tv ys news₁ C oC D m₂ h tk fix wr, i < k → J i ys news₁ → ys.length ≤ i → (∀ p ∈ fz, p ∈ fix) → (∀ p ∈ news₁, p.1 ∉ wr ∧ p.1 ≠ C ∧ p.1 ≠ D) → (∀ p ∈ fix, p.1 ≠ C ∧ p.1 ≠ D) → (∀ b ∈ wr, ∃ o, (b, o) ∈ fix) → C ≠ D → NsObj oC m₂ →
      Fr h₀ L h m → News h₀ L h ((C, oC) :: (D, lst ys) :: (fix ++ news₁)) →
      wpAny (model prog w) A (assign target (compEnvC scope cl C env) (.int (i : Int) tv)) (fun _ s₃ =>
        wpAny (model prog w) A (forIn ifs true fun c r => if r = true then do let ok ← isTrue c (compEnvC scope cl C env) (eval c (compEnvC scope cl C env)); pure (ForInStep.yield ok) else pure (ForInStep.yield r)) (fun ok s₄ =>
          if ok = true then wpAny (model prog w) A (eval elt (compEnvC scope cl C env)) (fun y s₅ => TurnC s h₀ L m wr C D (lst ys) fix (J (i + 1)) (ys ++ [y]) s₅) (fun _ _ => False) s₄
          else TurnC s h₀ L m wr C D (lst ys) fix (J (i + 1)) ys s₄) (fun _ _ => False) s₃) (fun _ _ => False) { s with heap := h, toks := tk })
    (hRR : ∀ D C h tk m' ys news₁, J k ys news₁ → Fr h₀ L h m → News h₀ L h ((D, lst ys) :: (fz ++ news₁)) → h.Ns C m' → C ≠ L → C ≠ D → h₀.get? C = none → (∀ p ∈ fz ++ news₁, p.1 ≠ C ∧ p.1 ≠ D) → RR (.ref D) C (.ok .next) { s with heap := h, toks := tk })
    (ht : ∀ I v, letOwnedTupleGo target (.ref I) v = pure ()) :
    wpAny (model prog w) A (pyIter (.ref r)) (fun it s₂ => wpAny (model prog w) A (newList []) (fun acc s₃ => wpAny (model prog w) A (newFunctionEnv scope env.globals cl [] env.qual none .none (some env)) (fun cenv s₄ =>
      codeAny (model prog w) A (.compStart (.ListComp elt [⟨target, iter, ifs, 0⟩] scope pos) 0 it acc { cenv with scope := relabel scope env }) (RR acc cenv.locals) s₄) E s₃) E s₂) E s := by
  subst hb
  have hk : k < 2 ^ 62 := by rw [sizeLine_eq] at hlen; (first | lia | omega)
  have hn : Builtin.Range.rangeSize 0 k 1 = k := by
    unfold Builtin.Range.rangeSize
    rw [if_pos (by decide)]
    split <;> (first | lia | omega)
  have hsm : Builtin.Range.small 0 k 1 = true := by
    have f : ∀ x : Int, -4611686018427387904 ≤ x → x ≤ 4611686018427387904 → Builtin.Range.rangeFitsLong x = true := fun x h1 h2 => by
      simp only [Builtin.Range.rangeFitsLong, Bool.and_eq_true, decide_eq_true_eq]; (first | lia | omega)
    unfold Builtin.Range.small
    rw [hn, f 0 (by decide) (by decide), f k (by (first | lia | omega)) (by (first | lia | omega)), f 1 (by decide) (by decide), if_pos (by decide), f ((k : Int) + (1 - 1)) (by (first | lia | omega)) (by (first | lia | omega))]
    simp only [Bool.true_and, Bool.or_true]
  refine wpAny_pyIter_range hr hsm ?_
  rw [hn]
  have W := Walks.range (prog := prog) (w := w) hh s.heap.objs.size 0 1 k
  refine compW (fz := fz) (news := news) J W hlen ?_ ?_ ?_ ?_ ?_ ?_ hcell hkind ?_ (F.push _) (News.pushK N _) ?_ hJ ?_ hRR (ht _)
  · intro q
    rw [List.mem_singleton] at q
    exact absurd F.ns.lt (q ▸ Nat.lt_irrefl _)
  · intro b hb; rw [List.mem_singleton] at hb; subst hb; exact Fr.newNone F (Nat.le_refl _)
  · intro i h hs b hb; rw [List.mem_singleton] at hb; subst hb; exact ⟨_, hs⟩
  · intro b hb hnb; exact absurd hb hnb
  · intro p hp q; rw [List.mem_singleton] at q
    exact absurd (Heap.lt_size (N p (List.mem_append.mpr (.inl hp))).1) (q ▸ Nat.lt_irrefl _)
  · intro b hb
    rw [size_push', List.mem_singleton.mp hb]; exact Nat.lt_succ_self _
  · have e := Heap.get?_push_size s.heap (o := { cls := .type "range_iterator", data := .fields #[rawInt 0, rawInt k, rawInt 1] }) rfl
    show Heap.get? _ _ = _
    rw [e]; simp
  · intro p hp q; rw [List.mem_singleton] at q
    exact absurd (Heap.lt_size (N p (List.mem_append.mpr (.inr hp))).1) (q ▸ Nat.lt_irrefl _)
  · rintro i v ys news₁ C oC D m₂ h tk own hi ⟨tv, rfl⟩ hJ' hyl hown hown2 hn₁ hoff hCD hNs F' N'
    have hex : ∀ b ∈ [s.heap.objs.size], ∃ o, (b, o) ∈ own ++ fz := fun b hb => let ⟨o, ho⟩ := hown2 b hb; ⟨o, List.mem_append.mpr (.inl ho)⟩
    have e : (0 : Int) + (i : Int) * 1 = (i : Int) := by (first | lia | omega)
    rw [e]
    exact turn i tv ys news₁ C oC D m₂ h tk (own ++ fz) _ hi hJ' hyl (fun p hp => List.mem_append.mpr (.inr hp)) hn₁ hoff hex hCD hNs F' N'
end
end
section
open PySem PySem.W PyProof.Rows
def numP (l : List Int) : Int := l.foldl (fun a x => a * 256 + x) 0
theorem numP_snoc (l : List Int) (x : Int) : numP (l ++ [x]) = numP l * 256 + x := by simp [numP, List.foldl_append]
/-- the sixes of a row's number -/
def sixP (row : List Int) (j : Nat) : Int := numP row * 64 / 2 ^ (8 * row.length - 6 * j) % 64
/-- the sixes, three octets by three -/
def sx : List Int → List Int
  | a :: b :: c :: r => a / 4 :: (a % 4 * 16 + b / 16) :: (b % 16 * 4 + c / 64) :: (c % 64) :: sx r
  | [a, b] => [a / 4, a % 4 * 16 + b / 16, b % 16 * 4]
  | [a] => [a / 4, a % 4 * 16]
  | [] => []
def pd : List Int → Nat
  | _ :: _ :: _ :: r => pd r
  | [_, _] => 1
  | [_] => 2
  | [] => 0
theorem b64I_sx : ∀ l : List Int, b64I l = (sx l).map al ++ List.replicate (pd l) 61
  | [] => rfl
  | [a] => rfl
  | [a, b] => rfl
  | a :: b :: c :: r => by
    have ih := b64I_sx r
    unfold b64I at ih ⊢
    simp only [full, padS, sx, pd, List.map_cons, List.cons_append, ih]
theorem pd_eq : ∀ l : List Int, (pd l : Int) = (-(((8 * l.length + 5) / 6 : Nat) : Int)).fmod 4
  | [] => rfl
  | [a] => by
    rw [Int.fmod_eq_emod_of_nonneg _ (by decide)]
    simp only [pd, List.length_cons, List.length_nil]
    decide
  | [a, b] => by
    rw [Int.fmod_eq_emod_of_nonneg _ (by decide)]
    simp only [pd, List.length_cons, List.length_nil]
    decide
  | a :: b :: c :: r => by
    have ih := pd_eq r
    rw [Int.fmod_eq_emod_of_nonneg _ (by decide)] at ih ⊢
    simp only [pd, List.length_cons] at *
    have e : (8 * (r.length + 1 + 1 + 1) + 5) / 6 = (8 * r.length + 5) / 6 + 4 := by omega
    rw [e]
    generalize (8 * r.length + 5) / 6 = k at *
    (first | lia | omega)
theorem fold_acc : ∀ (l : List Int) (acc : Int), l.foldl (fun a x => a * 256 + x) acc = acc * 256 ^ l.length + numP l
  | [], acc => by simp [numP]
  | x :: r, acc => by
    unfold numP
    rw [List.foldl_cons, List.foldl_cons, fold_acc r, fold_acc r, List.length_cons, Int.pow_succ]
    rw [Int.add_mul, Int.add_mul, Int.mul_assoc, Int.mul_comm 256 (256 ^ r.length), Int.add_assoc]
    congr 1
    (first | lia | omega)
theorem numP_lt : ∀ {l : List Int}, KBa.In l → 0 ≤ numP l ∧ numP l < 256 ^ l.length
  | [], _ => by simp [numP]
  | x :: r, h => by
    have ih := numP_lt (l := r) fun n hn => h n (.tail _ hn)
    have hx := h x (.head _)
    have e : numP (x :: r) = x * 256 ^ r.length + numP r := by
      have := fold_acc r (0 * 256 + x)
      unfold numP at this ⊢
      rw [List.foldl_cons, this]
      congr 1
      congr 1
      (first | lia | omega)
    rw [e, List.length_cons, Int.pow_succ]
    have h1 : x * 256 ^ r.length ≤ 255 * 256 ^ r.length := Int.mul_le_mul_of_nonneg_right (by (first | lia | omega)) (by (first | lia | omega))
    have h2 : 0 ≤ x * 256 ^ r.length := Int.mul_nonneg hx.1 (by (first | lia | omega))
    (first | lia | omega)
theorem numP_three (a b c : Int) (r : List Int) : numP (a :: b :: c :: r) = (a * 65536 + b * 256 + c) * 256 ^ r.length + numP r := by
  have := fold_acc r (((0 * 256 + a) * 256 + b) * 256 + c)
  unfold numP at this ⊢
  rw [List.foldl_cons, List.foldl_cons, List.foldl_cons, this]
  congr 2
  (first | lia | omega)
theorem pow_two_eight (m : Nat) : (256 : Int) ^ m = 2 ^ (8 * m) := by
  rw [Int.pow_mul]; rfl
theorem div_head {T R B D : Int} (hB : 0 < B) (hR0 : 0 ≤ R) (hR : R < B) (hD : 0 < D) : (T * B + R) / (B * D) = T / D := by
  rw [← Int.ediv_ediv_of_nonneg (Int.le_of_lt hB)]
  congr 1
  rw [Int.add_comm, Int.add_mul_ediv_right _ _ (Int.ne_of_gt hB), Int.ediv_eq_zero_of_lt hR0 hR, Int.zero_add]

theorem sixP_head {T R : Int} {m i : Nat} (hR0 : 0 ≤ R) (hR : R < 2 ^ (8 * m)) (hi : i < 4) : (T * 2 ^ (8 * m) + R) * 64 / 2 ^ (8 * m + 24 - 6 * i) % 64 = T / 2 ^ (18 - 6 * i) % 64 := by
  have hB : (0 : Int) < 2 ^ (8 * m) := by exact Int.pow_pos (by decide)
  have e : (2 : Int) ^ (8 * m + 24 - 6 * i) = 2 ^ (8 * m) * 2 ^ (18 - 6 * i) * 64 := by
    rw [show 8 * m + 24 - 6 * i = 8 * m + (18 - 6 * i) + 6 by (first | lia | omega), Int.pow_add, Int.pow_add]; rfl
  rw [e, Int.mul_ediv_mul_of_pos_left _ _ (by decide), div_head hB hR0 hR (Int.pow_pos (by decide))]
theorem sixP_tail {T R : Int} {m j : Nat} (hj : 6 * j ≤ 8 * m) : (T * 2 ^ (8 * m) + R) * 64 / 2 ^ (8 * m - 6 * j) % 64 = R * 64 / 2 ^ (8 * m - 6 * j) % 64 := by
  have e : (2 : Int) ^ (8 * m) = 2 ^ (8 * m - 6 * j) * 2 ^ (6 * j) := by rw [← Int.pow_add]; congr 1; omega
  have hD : (0 : Int) < 2 ^ (8 * m - 6 * j) := Int.pow_pos (by decide)
  have e2 : (T * 2 ^ (8 * m) + R) * 64 = R * 64 + (T * 2 ^ (6 * j) * 64) * 2 ^ (8 * m - 6 * j) := by
    rw [e, Int.add_mul, Int.add_comm]
    congr 1
    generalize (2 : Int) ^ (8 * m - 6 * j) = x
    generalize (2 : Int) ^ (6 * j) = y
    rw [← Int.mul_assoc T x y, Int.mul_right_comm T x y, Int.mul_right_comm (T * y) x 64]
  rw [e2, Int.add_mul_ediv_right _ _ (Int.ne_of_gt hD), Int.add_mul_emod_self_right]

theorem six_sx : ∀ {l : List Int}, KBa.In l → (List.range ((8 * l.length + 5) / 6)).map (sixP l) = sx l
  | [], _ => rfl
  | [a], h => by
    have ha := h a (.head _)
    rw [show (8 * [a].length + 5) / 6 = 2 by simp]
    show [sixP [a] 0, sixP [a] 1] = [a / 4, a % 4 * 16]
    simp only [sixP, numP, List.foldl_cons, List.foldl_nil, List.length_cons, List.length_nil]
    rw [show (2 : Int) ^ (8 * (0 + 1) - 6 * 0) = 256 from rfl, show (2 : Int) ^ (8 * (0 + 1) - 6 * 1) = 4 from rfl]
    congr 1
    · (first | lia | omega)
    · congr 1; (first | lia | omega)
  | [a, b], h => by
    have ha := h a (.head _)
    have hb := h b (.tail _ (.head _))
    rw [show (8 * [a, b].length + 5) / 6 = 3 by simp]
    show [sixP [a, b] 0, sixP [a, b] 1, sixP [a, b] 2] = [a / 4, a % 4 * 16 + b / 16, b % 16 * 4]
    simp only [sixP, numP, List.foldl_cons, List.foldl_nil, List.length_cons, List.length_nil]
    rw [show (2 : Int) ^ (8 * (0 + 1 + 1) - 6 * 0) = 65536 from rfl, show (2 : Int) ^ (8 * (0 + 1 + 1) - 6 * 1) = 1024 from rfl, show (2 : Int) ^ (8 * (0 + 1 + 1) - 6 * 2) = 16 from rfl]
    congr 1
    · (first | lia | omega)
    · congr 1
      · (first | lia | omega)
      · congr 1; (first | lia | omega)
  | a :: b :: c :: r, h => by
    have ih := six_sx (l := r) fun n hn => h n (.tail _ (.tail _ (.tail _ hn)))
    have hr := numP_lt (l := r) fun n hn => h n (.tail _ (.tail _ (.tail _ hn)))
    have ha := h a (.head _)
    have hb := h b (.tail _ (.head _))
    have hc := h c (.tail _ (.tail _ (.head _)))
    rw [pow_two_eight] at hr
    have hlen : (8 * (a :: b :: c :: r).length + 5) / 6 = (8 * r.length + 5) / 6 + 4 := by simp only [List.length_cons]; (first | lia | omega)
    have hd : ∀ i, i < 4 → sixP (a :: b :: c :: r) i = (a * 65536 + b * 256 + c) / 2 ^ (18 - 6 * i) % 64 := by
      intro i hi
      unfold sixP
      rw [numP_three, pow_two_eight, show 8 * (a :: b :: c :: r).length - 6 * i = 8 * r.length + 24 - 6 * i by simp only [List.length_cons]; (first | lia | omega), sixP_head hr.1 hr.2 hi]
    have ht : ∀ j, j < (8 * r.length + 5) / 6 → sixP (a :: b :: c :: r) (j + 4) = sixP r j := by
      intro j hj
      unfold sixP
      rw [numP_three, pow_two_eight, show 8 * (a :: b :: c :: r).length - 6 * (j + 4) = 8 * r.length - 6 * j by simp only [List.length_cons]; (first | lia | omega), sixP_tail (by (first | lia | omega))]
    rw [hlen, List.range_succ_eq_map, List.range_succ_eq_map, List.range_succ_eq_map, List.range_succ_eq_map]
    simp only [List.map_cons, List.map_map, sx]
    rw [hd 0 (by (first | lia | omega)), hd (Nat.succ 0) (by (first | lia | omega)), hd (Nat.succ (Nat.succ 0)) (by (first | lia | omega)), hd (Nat.succ (Nat.succ (Nat.succ 0))) (by (first | lia | omega))]
    rw [show (2 : Int) ^ (18 - 6 * 0) = 262144 from rfl, show (2 : Int) ^ (18 - 6 * Nat.succ 0) = 4096 from rfl, show (2 : Int) ^ (18 - 6 * Nat.succ (Nat.succ 0)) = 64 from rfl, show (2 : Int) ^ (18 - 6 * Nat.succ (Nat.succ (Nat.succ 0))) = 1 from rfl]
    congr 1
    · (first | lia | omega)
    · congr 1
      · (first | lia | omega)
      · congr 1
        · (clear ih hr ha hb hlen; omega)
        · congr 1
          · (first | lia | omega)
          · rw [← ih]
            refine List.map_congr_left fun j hj => ?_
            exact ht j (List.mem_range.mp hj)

theorem byteArr_append (a b : List Int) : byteArr (a ++ b) = byteArr a ++ byteArr b := by
  unfold byteArr; simp
theorem rep_flat : ∀ n : Nat, (List.replicate n ([61] : List UInt8)).flatten = (List.replicate n (61 : Int)).map fun x => x.toNat.toUInt8
  | 0 => rfl
  | n + 1 => by rw [List.replicate_succ, List.flatten_cons, rep_flat n, List.replicate_succ]; rfl
theorem signs_eq {row : List Int} (h : KBa.In row) : byteArr (((List.range ((8 * row.length + 5) / 6)).map (sixP row)).map al) ++ ((List.replicate ((-(((8 * row.length + 5) / 6 : Nat) : Int)).fmod 4).toNat ([61] : List UInt8)).flatten).toArray = byteArr (b64I row) := by
  rw [six_sx h, b64I_sx, byteArr_append, ← pd_eq, Int.toNat_natCast, rep_flat]
  rfl
end
end
section
local macro_rules | `(tactic| walk_at "k!") => `(tactic| repeat' (first
  | (fail_if_success (with_reducible show wpAny _ _ (exec (Stmt.While _ _ _ _) _) _ _ _)
     fail_if_success (with_reducible show wpAny _ _ (exec (Stmt.For _ _ _ _ _) _) _ _ _)
     fail_if_success (with_reducible show wpAny _ _ (exec (Stmt.Assign _ (Expr.ListComp _ _ _ _) _) _) _ _ _)
     fail_if_success (with_reducible show wpAny _ _ (eval (Expr.ListComp _ _ _ _) _) _ _ _)
     fail_if_success (with_reducible show wpAny _ _ (call _ _ _) _ _ _)
     fail_if_success (with_reducible show wpAny _ _ (subscriptTail _ _ _ _) _ _ _)
     fail_if_success (with_reducible show wpAny _ _ (setItem _ _ _) _ _ _)
     fail_if_success (with_reducible show wpAny _ _ (compareOp _ (Value.ref _) _) _ _ _)
     (first | (k_unfold; (try dsimp only)) | walk1 | (dsimp only; walk1) | dsimp only))
  | fail "no step"))
section
local macro_rules | `(tactic| walk_at "c!") => `(tactic| repeat' (first
  | (fail_if_success (with_reducible show wpAny _ _ (exec (Stmt.While _ _ _ _) _) _ _ _)
     fail_if_success (with_reducible show wpAny _ _ (exec (Stmt.For _ _ _ _ _) _) _ _ _)
     fail_if_success (with_reducible show wpAny _ _ (exec (Stmt.Assign _ (Expr.ListComp _ _ _ _) _) _) _ _ _)
     fail_if_success (with_reducible show wpAny _ _ (eval (Expr.ListComp _ _ _ _) _) _ _ _)
     fail_if_success (with_reducible show wpAny _ _ (call (Value.ref _) _ _) _ _ _)
     fail_if_success (with_reducible show wpAny _ _ (compareOp _ (Value.ref _) _) _ _ _)
     (first | (k_unfold; (try dsimp only)) | walk1 | (dsimp only; walk1) | dsimp only))
  | fail "no step"))
section
open PySem PySem.W PyProof.Rows PySem.Calls
set_option Elab.async false
set_option maxRecDepth 100000
set_option maxHeartbeats 8000000
example : PySem.Challenge.rw_pd0043_01.prog = PySem.Challenge.rw_pd0043_01.prog → hd.heap_39 = hd.heap_39 := by
  k_fill
  exact fun _ => rfl

def behindP (row : List Int) (sz : Nat) : Bool :=
  if sz % 3 = 0 then false
  else if sz % 3 = 1 then decide ((13 ≤ row.getD sz 0 ∧ row.getD sz 0 ≤ 15) ∨ (64 ≤ row.getD sz 0 ∧ row.getD (sz - 1) 0 % 4 = 3))
  else decide ((52 ≤ row.getD sz 0 ∧ row.getD sz 0 ≤ 63) ∨ (128 ≤ row.getD sz 0 ∧ row.getD (sz - 1) 0 % 16 = 15))


/-- the sizes in their order -/
def aheadS (row : List Int) : List Int := (rangeKs 0 row.length).filter fun k => !behindP row k.toNat
def behindS (row : List Int) : List Int := (rangeKs 0 row.length).reverse.filter fun k => behindP row k.toNat
def sizesP (row : List Int) : List Int := aheadS row ++ [(row.length : Int)] ++ behindS row

theorem filter_take_succ {α : Type} {l : List α} {i : Nat} {x : α} (p : α → Bool) (h : l[i]? = some x) : (l.take (i + 1)).filter p = if p x then (l.take i).filter p ++ [x] else (l.take i).filter p := by
  rw [List.take_add_one, h]
  simp only [Option.toList_some, List.filter_append, List.filter_cons, List.filter_nil]
  split <;> simp
theorem mem_off {fix news₁ : List (Addr × Obj)} {C D : Addr} {oD : Obj} {wr : List Addr} (h1 : ∀ p ∈ news₁, p.1 ∉ wr ∧ p.1 ≠ C ∧ p.1 ≠ D) (h2 : ∀ p ∈ fix, p.1 ≠ C ∧ p.1 ≠ D) (h3 : C ≠ D) : ∀ p ∈ (D, oD) :: (fix ++ news₁), p.1 ≠ C := by
  intro p hp
  rcases List.mem_cons.mp hp with rfl | hp
  · exact Ne.symm h3
  · rcases List.mem_append.mp hp with hp | hp
    · exact (h2 p hp).1
    · exact (h1 p hp).2.1

section
variable {w : World} {p : Program} {loose : List Str} {mean : ExcName → Option Value} {mg mb : Str → Option Value} {A : Around} {base g : Heap} {outer : List Env} {s : Shared}

theorem behind_spec {l : Addr} {vs : List Value} {row : List Int} {sz : Nat} {t : Tok} {R : Result → Shared → Prop}
    (G : Gnd (hd.heap_39 w.params) p loose mean mg mb A base outer g) (S : Sep g s.heap [])
    (hl : g.IsList l vs.toArray) (hi : IntsAre vs row) (hsz : sz < row.length) (hlen : row.length < 2 ^ 20)
    (hroom : A.depth < recursionLimit) (hu : A.units + 40 < cLine) (hh : A.handled = none)
    (h : ∀ h' tk', Sep g h' [] → R (.ok (.ret (.bool (behindP row sz)))) { s with heap := h', toks := tk' }) :
    codeAny (model PySem.Challenge.rw_pd0043_01.row.prog w) A (.call (.ref 92) ⟨[.ref l, .int sz t], []⟩) R s := by
  obtain ⟨_, dp, fr, gd, un⟩ := A
  dsimp only at hh hroom hu
  subst hh
  obtain ⟨B, X, T⟩ := id G
  refine enterP (binds := [(Str.ofString "row", .ref l), (Str.ofString "size", .int sz t)]) G S (by k_is) (by k_is) (by omega) (BindsTo.of_eq rfl) (locs rfl) ?_ rfl rfl rfl (by decide)
  intro L' h₁ hL' F' N'
  try dsimp only
  k_fold
  have fin : ∀ h' tk' (x : Bool), Sep g h' [] → x = behindP row sz → R (.ok (.ret (.bool x))) { s with heap := h', toks := tk' } := fun h' tk' x S' e => e ▸ h h' tk' S'
  clear h
  have q1 : ((sz : Int)).fmod 3 = ((sz % 3 : Nat) : Int) := by rw [Int.fmod_eq_emod_of_nonneg _ (by decide)]; (first | lia | omega)
  have q2 : ((sz : Int)).toNat = sz := by (first | lia | omega)
  have q3 : ((sz : Int) - 1).toNat = sz - 1 := by (first | lia | omega)
  have q4 : ∀ x : Int, x.fmod 4 = x % 4 := fun x => Int.fmod_eq_emod_of_nonneg _ (by decide)
  have q5 : ∀ x : Int, x.fmod 16 = x % 16 := fun x => Int.fmod_eq_emod_of_nonneg _ (by decide)
  k_steps
  all_goals (try dsimp only)
  all_goals (try k_unfold)
  all_goals (refine fin _ _ _ (Sep.drop (Sep.of (by assumption) (by assumption)) (fun _ q => nomatch q)) ?_)
  all_goals (simp only [q1, q2, q3, q4, q5] at *)
  all_goals (rw [Bool.eq_iff_iff]; simp only [behindP])
  all_goals (generalize row.getD sz 0 = a at *; generalize row.getD (sz - 1) 0 = b at *)
  all_goals ((repeat' split) <;> (simp only [decide_eq_true_eq, beq_iff_eq, Bool.false_eq_true, false_iff, iff_false, ne_eq] at *) <;> (first | lia | omega))

theorem sizes_spec {l : Addr} {vs : List Value} {row : List Int} {R : Result → Shared → Prop}
    (G : Gnd (hd.heap_39 w.params) p loose mean mg mb A base outer g) (S : Sep g s.heap [])
    (hl : g.IsList l vs.toArray) (hi : IntsAre vs row) (hlen : row.length < 2 ^ 20)
    (hroom : A.depth + 3 < recursionLimit) (hu : A.units + 80 < cLine) (hh : A.handled = none)
    (h : ∀ h' tk' D ws e, Sep g h' [(D, listOf ws.toArray e)] → IntsAre ws (sizesP row) → R (.ok (.ret (.ref D))) { s with heap := h', toks := tk' }) :
    codeAny (model PySem.Challenge.rw_pd0043_01.row.prog w) A (.call (.ref 97) ⟨[.ref l], []⟩) R s := by
  obtain ⟨_, dp, fr, gd, un⟩ := A
  dsimp only at hh hroom hu
  subst hh
  obtain ⟨B, X, T⟩ := id G
  refine enterC (binds := [(Str.ofString "row", .ref l)]) G S (by k_is) (by k_is) (by show dp < _; (first | lia | omega)) (BindsTo.of_eq rfl) rfl (by decide +kernel) ?_ rfl rfl rfl
  intro L' h₁ tk cells hL' F' N' Y' l1
  k_cells Y'
  rename_i o' d1
  simp only [List.cons_append, List.nil_append] at N'
  show wpAny (model _ _) _ (execs _ _) _ _ _
  k_fold
  walk_at "c!"
  rename_i D vs1 c1 _ _ hI1 hl1 h2 F2 N2
  have hcellv : o'.data = Data.cell (some (Value.ref l)) := d1
  have hn0 : ((row.length : Int) - 0).toNat = row.length := by (first | lia | omega)
  rw [hn0] at hI1
  have hlen1 : vs1.length = row.length := by rw [hI1.length, rangeKs_length]
  refine compA (by rfl) (by rfl) rfl (by decide) ?_
  walk_at "c!"
  refine compList (RR := fun acc C => compPost _ _ _ _ _ acc C) (fz := [(D, listOf vs1.toArray c1), (L' + 1, o')]) (news := []) (fun i ys news₁ => news₁ = [] ∧ IntsAre ys (((rangeKs 0 row.length).take i).filter fun k => !behindP row k.toNat)) rfl (.inr ⟨_, .head _⟩) F2 N2 (by rw [sizeLine_eq]; (first | lia | omega)) (by decide) rfl ⟨rfl, .nil⟩ ?_ ?_ (by intro _ _; rfl)
  · rintro i v ys news₁ C oC D' m₂ h₃ tk₃ fix wr s' - hv ⟨rfl, hI⟩ hyl hfix hn1 hfx hwx hCD hNs F₃ N₃
    obtain ⟨k, t, rfl, hk⟩ := hI1.at i v hv
    have hki : k = (i : Int) ∧ i < row.length := by
      simp only [rangeKs, List.getElem?_map, Option.map_eq_some_iff] at hk
      obtain ⟨j, hj, rfl⟩ := hk
      obtain ⟨a, b⟩ := List.getElem?_eq_some_iff.mp hj
      simp at a b
      (first | lia | omega)
    obtain ⟨rfl, hilt⟩ := hki
    refine storeCx F₃ N₃ hNs (mem_off hn1 hfx hCD) rfl rfl ?_
    intro h₄ oC₄ m₄ F₄ N₄ hN₄ hx₄ _
    have hmem : (L' + 1, o') ∈ (C, oC₄) :: (D', LCg.lst ys) :: (fix ++ []) := .tail _ (.tail _ (List.mem_append.mpr (.inl (hfix _ (.tail _ (.head _))))))
    refine wpAny_tests_one ?_
    walk_at "c!"
    refine callOver (hid := []) (rest := _) G F₄ N₄ (Around.frames_deeper B.stack) rfl rfl (fun _ _ h => nomatch h) fun g' G' S' hfz hsz hsub hback => ?_
    refine behind_spec (sz := i) G' S' (let ⟨o, ho, r⟩ := hl; ⟨o, hsub _ _ ho, r⟩) hi hilt hlen (by simp only [depth_deeper]; (first | lia | omega)) (by simp; (first | lia | omega)) rfl ?_
    intro h₅ tk₅ S₅
    obtain ⟨F₅, N₅⟩ := hback _ _ S₅
    rw [List.nil_append] at N₅
    have hfil := filter_take_succ (fun k : Int => !behindP row k.toNat) hk
    rw [Int.toNat_natCast] at hfil
    cases hb : behindP row i
    all_goals rw [hb] at hfil
    · walk_at "c!"
      refine ⟨_, _, _, _, _, rfl, F₅, N₅, hN₄, hn1, rfl, ?_⟩
      rw [hfil]
      exact ksk_snoc hI
    · walk_at "c!"
      refine ⟨_, _, _, _, _, rfl, F₅, N₅, hN₄, hn1, rfl, ?_⟩
      rw [hfil]
      exact hI
  · rintro D₂ C h₃ tk₃ m₃ ys news₁ ⟨rfl, hI⟩ F₃ N₃ hC hCL hCD hC0 hoff
    rw [hlen1, show (rangeKs 0 row.length).take row.length = rangeKs 0 row.length by rw [List.take_of_length_le]; rw [rangeKs_length]; exact Nat.le_refl _] at hI
    refine compPostA F₃ N₃ hC hCL hCD hC0 hoff ?ca ?cb ?cc ?_
    case ca => rfl
    case cb => rfl
    case cc => rfl
    intro h₄ F₄ N₄ hD₂
    simp only [List.append_nil] at N₄ hD₂
    walk_at "c!"
    refine compA (by rfl) (by rfl) rfl (by decide) ?_
    walk_at "c!"
    rename_i D3 ws3 h5 F5 N5 hI3 _ l5
    have hlen3 : ws3.length = row.length := by rw [hI3.length, List.length_reverse, rangeKs_length]
    refine compList (RR := fun acc C => compPost _ _ _ _ _ acc C) (fz := [(D3, listOf ws3.toArray 0), (D₂, LCg.lst ys), (D, listOf vs1.toArray c1), (L' + 1, o')]) (news := []) (fun i zs news₁ => news₁ = [] ∧ IntsAre zs (((rangeKs 0 row.length).reverse.take i).filter fun k => behindP row k.toNat)) rfl (.inr ⟨_, .head _⟩) F5 N5 (by rw [sizeLine_eq]; (first | lia | omega)) (by decide) rfl ⟨rfl, .nil⟩ ?_ ?_ (by intro _ _; rfl)
    · rintro i v zs news₁ C oC D' m₂ h₆ tk₆ fix wr s' - hv ⟨rfl, hJ⟩ hyl hfix hn1 hfx hwx hCD' hNs F₆ N₆
      obtain ⟨k, t, rfl, hk⟩ := hI3.at i v hv
      have hki : ∃ j : Nat, k = (j : Int) ∧ j < row.length := by
        have hm := List.mem_of_getElem? hk
        rw [List.mem_reverse] at hm
        have := mem_rangeKs hm
        exact ⟨k.toNat, by (first | lia | omega), by (first | lia | omega)⟩
      obtain ⟨j, rfl, hjlt⟩ := hki
      refine storeCx F₆ N₆ hNs (mem_off hn1 hfx hCD') rfl rfl ?_
      intro h₇ oC₇ m₇ F₇ N₇ hN₇ hx₇ _
      have hmem : (L' + 1, o') ∈ (C, oC₇) :: (D', LCg.lst zs) :: (fix ++ []) := .tail _ (.tail _ (List.mem_append.mpr (.inl (hfix _ (.tail _ (.tail _ (.tail _ (.head _))))))))
      refine wpAny_tests_one ?_
      walk_at "c!"
      refine callOver (hid := []) (rest := _) G F₇ N₇ (Around.frames_deeper B.stack) rfl rfl (fun _ _ h => nomatch h) fun g' G' S' hfz hsz hsub hback => ?_
      refine behind_spec (sz := j) G' S' (let ⟨o, ho, r⟩ := hl; ⟨o, hsub _ _ ho, r⟩) hi hjlt hlen (by simp only [depth_deeper]; (first | lia | omega)) (by simp; (first | lia | omega)) rfl ?_
      intro h₈ tk₈ S₈
      obtain ⟨F₈, N₈⟩ := hback _ _ S₈
      rw [List.nil_append] at N₈
      have hfil := filter_take_succ (fun k : Int => behindP row k.toNat) hk
      rw [Int.toNat_natCast] at hfil
      cases hb : behindP row j
      all_goals rw [hb] at hfil
      · walk_at "c!"
        refine ⟨_, _, _, _, _, rfl, F₈, N₈, hN₇, hn1, rfl, ?_⟩
        rw [hfil]
        exact hJ
      · walk_at "c!"
        refine ⟨_, _, _, _, _, rfl, F₈, N₈, hN₇, hn1, rfl, ?_⟩
        rw [hfil]
        exact ksk_snoc hJ
    · rintro D₄ C h₆ tk₆ m₆ zs news₁ ⟨rfl, hJ⟩ F₆ N₆ hC hCL hCD hC0 hoff
      rw [hlen3, show (rangeKs 0 row.length).reverse.take row.length = (rangeKs 0 row.length).reverse by rw [List.take_of_length_le]; rw [List.length_reverse, rangeKs_length]; exact Nat.le_refl _] at hJ
      refine compPostA F₆ N₆ hC hCL hCD hC0 hoff ?ca ?cb ?cc ?_
      case ca => rfl
      case cb => rfl
      case cc => rfl
      intro h₇ F₇ N₇ hD₄
      simp only [List.append_nil] at N₇ hD₄
      walk_at "c!"
      rename_i l8 h8 F8 N8 l18
      have hlz := hJ.length
      have hly := hI.length
      have hla : (aheadS row).length ≤ row.length := by
        have := List.length_filter_le (fun k : Int => !behindP row k.toNat) (rangeKs 0 row.length)
        rw [rangeKs_length] at this; exact this
      have hlb : (behindS row).length ≤ row.length := by
        have := List.length_filter_le (fun k : Int => behindP row k.toNat) (rangeKs 0 row.length).reverse
        rw [List.length_reverse, rangeKs_length] at this; exact this
      refine add_lists_ints (vs := ys) (ws := [Value.int row.length (tk + 1)]) (ns := aheadS row) (ms := [(row.length : Int)]) (hsz := by rw [sizeLine_eq]; simp only [List.length_cons, List.length_nil]; (first | lia | omega)) F8 N8 (isL N8 (by k_mem)) (isL N8 (by k_mem)) hI (.cons _ _ .nil) ?_
      intro h9 F9 N9 hI9
      walk_at "c!"
      rename_i tk9
      refine add_lists_ints (vs := ys ++ [Value.int row.length (tk + 1)]) (ws := zs) (ns := aheadS row ++ [(row.length : Int)]) (ms := behindS row) (hsz := by rw [sizeLine_eq, List.length_append]; simp only [List.length_cons, List.length_nil]; (first | lia | omega)) F9 N9 (isL N9 (by k_mem)) (isL N9 (by k_mem)) hI9 hJ ?_
      intro h10 F10 N10 hI10
      walk_at "c!"
      exact h _ _ _ _ _ ((Sep.of F10 N10).drop (fun q hq => by rw [List.mem_singleton] at hq; subst hq; exact .head _)) hI10
end
end
end
section
local macro_rules | `(tactic| walk_at "c!") => `(tactic| repeat' (first
  | (fail_if_success (with_reducible show wpAny _ _ (exec (Stmt.While _ _ _ _) _) _ _ _)
     fail_if_success (with_reducible show wpAny _ _ (exec (Stmt.For _ _ _ _ _) _) _ _ _)
     fail_if_success (with_reducible show wpAny _ _ (exec (Stmt.Assign _ (Expr.ListComp _ _ _ _) _) _) _ _ _)
     fail_if_success (with_reducible show wpAny _ _ (eval (Expr.ListComp _ _ _ _) _) _ _ _)
     fail_if_success (with_reducible show wpAny _ _ (call (Value.ref _) _ _) _ _ _)
     fail_if_success (with_reducible show wpAny _ _ (binaryOp _ (Value.ref _) _) _ _ _)
     fail_if_success (with_reducible show wpAny _ _ (compareOp _ (Value.ref _) _) _ _ _)
     (first | (k_unfold; (try dsimp only)) | walk1 | (dsimp only; walk1) | dsimp only))
  | fail "no step"))
section
open PySem PySem.W PyProof.Rows PySem.Calls
set_option Elab.async false
set_option maxRecDepth 100000
set_option maxHeartbeats 8000000
example : PySem.Challenge.rw_pd0043_01.prog = PySem.Challenge.rw_pd0043_01.prog → hd.heap_39 = hd.heap_39 := by
  k_fill
  exact fun _ => rfl

theorem updF_mid {D : Addr} {o : Obj} {post : List (Addr × Obj)} (h2 : ∀ p ∈ post, p.1 ≠ D) : ∀ {pre : List (Addr × Obj)}, (∀ p ∈ pre, p.1 ≠ D) → UpdF D o (pre ++ (D, o) :: post) (fun o' => pre ++ (D, o') :: post)
  | [], _ => .head h2
  | q :: r, h => .tail (h q (.head _)) (updF_mid h2 fun p hp => h p (.tail _ hp))

section
variable {w : World} {p : Program} {loose : List Str} {mean : ExcName → Option Value} {mg mb : Str → Option Value} {A : Around} {base g : Heap} {outer : List Env} {s : Shared}

theorem signs_spec {l : Addr} {vs : List Value} {row : List Int} {R : Result → Shared → Prop}
    (G : Gnd (hd.heap_39 w.params) p loose mean mg mb A base outer g) (S : Sep g s.heap [])
    (hl : g.IsList l vs.toArray) (hi : IntsAre vs row) (hlen : row.length ≤ 12) (hin : KBa.In row)
    (hroom : A.depth + 3 < recursionLimit) (hu : A.units + 80 < cLine) (hh : A.handled = none)
    (h : ∀ h' tk' t', Sep g h' [] → R (.ok (.ret (.bytes (byteArr (b64I row)) t'))) { s with heap := h', toks := tk' }) :
    codeAny (model PySem.Challenge.rw_pd0043_01.row.prog w) A (.call (.ref 102) ⟨[.ref l], []⟩) R s := by
  obtain ⟨_, dp, fr, gd, un⟩ := A
  dsimp only at hh hroom hu
  subst hh
  obtain ⟨B, X, T⟩ := id G
  refine enterC (binds := [(Str.ofString "row", .ref l)]) G S (by k_is) (by k_is) (by show dp < _; (first | lia | omega)) (BindsTo.of_eq rfl) rfl (by decide +kernel) ?_ rfl rfl rfl
  intro L' h₁ tk cells hL' F' N' Y' l1
  k_cells Y'
  simp only [List.cons_append, List.nil_append] at N'
  show wpAny (model _ _) _ (execs _ _) _ _ _
  k_fold
  walk_at "c!"
  rename_i oA dA D1 _ l1' _ _ oN dN h2 oB F2 N2 dB
  refine wpAny_For ?_
  walk_at "c!"
  refine forList (fz := [(L' + 1 + 1 + 1, oB), (L' + 1, oA)]) (news := [(L' + 1 + 1, oN)]) (fun i m₁ news₁ => ∃ (o : Obj) (t : Tok), o.data = Data.cell (some (.int (numP (row.take i)) t)) ∧ news₁ = [(L' + 1 + 1, o)] ∧ Binds m₁ [(Str.ofString "row", Value.ref l)]) rfl (.inl hl) F2 (fun q hq => N2 q ?_) ⟨oN, _, dN, rfl, bc rfl bn⟩ ?_ ?_ (by intro _ _; rfl)
  · simp only [List.cons_append, List.nil_append, List.mem_cons, List.not_mem_nil, or_false] at hq ⊢
    rcases hq with rfl | rfl | rfl <;> simp
  · rintro i v m₁ news₁ h₃ tk₃ fix wr hv ⟨o, t, ho, rfl, hm⟩ hfix hn1 hwx hfw F₃ N₃
    obtain ⟨x, tx, rfl, hx⟩ := hi.at i v hv
    have hmN : (L' + 1 + 1, o) ∈ fix ++ [(L' + 1 + 1, o)] := List.mem_append.mpr (.inr (.head _))
    walk_at "c!"
    rename Fr _ _ _ _ => F₄
    rename News _ _ _ _ => N₄
    have hfx : ∀ p ∈ fix, p.1 ≠ L' + 1 + 1 := by
      intro q hq e
      rcases hfw q hq with hq | hq
      · exact hn1 (L' + 1 + 1, o) (.head _) (e ▸ hq)
      · simp only [List.mem_cons, List.not_mem_nil, or_false] at hq
        rcases hq with rfl | rfl
        · exact absurd (show L' + 1 + 1 + 1 = L' + 1 + 1 from e) (by (first | lia | omega))
        · exact absurd (show L' + 1 = L' + 1 + 1 from e) (by (first | lia | omega))
    k_dflt (refine' storeX_C F₄ N₄ ?sc (updF_mid (by intro _ q; exact nomatch q) hfx) ho ?_ ?sa ?sb)
    case sa => rfl
    case sb => rfl
    case sc => rfl
    intro h₅ o₅ F₅ N₅ ho₅
    walk_at "c!"
    have e5 : numP (row.take i) * 256 + x = numP (row.take (i + 1)) := by rw [List.take_add_one, hx, Option.toList_some, numP_snoc]
    rw [e5] at ho₅
    refine ⟨_, _, _, _, rfl, F₅, N₅, ?_, o₅, _, ho₅, rfl, ?_⟩
    · intro q hq; rw [List.mem_singleton] at hq; subst hq; exact hn1 (L' + 1 + 1, o) (.head _)
    · exact bc (hm _ (.head _)) bn
  · rintro m₁ news₁ h₃ tk₃ ⟨o, t, ho, rfl, hm⟩ F₃ N₃
    rw [hi.length, List.take_length] at ho
    rw [← ov_self hm] at F₃
    dsimp only [ov] at F₃
    simp only [List.cons_append, List.nil_append] at N₃
    walk_at "c!"
    refine compA (by rfl) (by rfl) rfl (by decide) ?_
    walk_at "c!"
    rename_i h4 _ _ _ _ hR4 F4 N4 _
    dsimp only at hR4
    have hk4 : (8 * (row.length : Int) + 5).fdiv 6 = (((8 * row.length + 5) / 6 : Nat) : Int) := by rw [Int.fdiv_eq_ediv_of_nonneg _ (by decide)]; (first | lia | omega)
    refine compRange (RR := fun acc C => compPost _ _ _ _ _ acc C) (k := (8 * row.length + 5) / 6) (fz := [(L' + 1 + 1 + 1, oB), (L' + 1, oA), (L' + 1 + 1, o)]) (news := []) (fun i ys news₁ => news₁ = [] ∧ IntsAre ys ((List.range i).map (sixP row))) rfl hR4 hk4 F4 N4 (by rw [sizeLine_eq]; (first | lia | omega)) (by decide) rfl ⟨rfl, .nil⟩ ?_ ?_ (by intro _ _; rfl)
    · rintro i tv ys news₁ C oC D' m₂ h₅ tk₅ fix wr hik ⟨rfl, hI⟩ hyl hfix hn1 hfx hwx hCD hNs F₅ N₅
      refine storeCx F₅ N₅ hNs (mem_off hn1 hfx hCD) rfl rfl ?_
      intro h₆ oC₆ m₆ F₆ N₆ hN₆ hx₆ _
      have hmN : (L' + 1 + 1, o) ∈ (C, oC₆) :: (D', LCg.lst ys) :: (fix ++ []) := .tail _ (.tail _ (List.mem_append.mpr (.inl (hfix _ (.tail _ (.tail _ (.head _)))))))
      have hmB : (L' + 1 + 1 + 1, oB) ∈ (C, oC₆) :: (D', LCg.lst ys) :: (fix ++ []) := .tail _ (.tail _ (List.mem_append.mpr (.inl (hfix _ (.head _)))))
      refine wpAny_tests_nil ?_
      rw [if_pos rfl]
      walk_at "c!"
      have e6 : ((numP row * 64).fdiv (2 ^ (8 * (row.length : Int) - 6 * (i : Int)).toNat)).fmod 64 = sixP row i := by
        rw [show (8 * (row.length : Int) - 6 * (i : Int)).toNat = 8 * row.length - 6 * i by (first | lia | omega), Int.fdiv_eq_ediv_of_nonneg _ (Int.le_of_lt (kbt_pos _)), Int.fmod_eq_emod_of_nonneg _ (by decide)]
        rfl
      rw [e6]
      refine ⟨_, _, _, _, _, rfl, F₆, N₆, hN₆, hn1, rfl, ?_⟩
      rw [List.range_succ, List.map_append]
      exact ksk_snoc hI
    · rintro D₅ C h₅ tk₅ m₅ ys news₁ ⟨rfl, hI⟩ F₅ N₅ hC hCL hCD hC0 hoff
      refine compPostA F₅ N₅ hC hCL hCD hC0 hoff ?ca ?cb ?cc ?_
      case ca => rfl
      case cb => rfl
      case cc => rfl
      intro h₆ F₆ N₆ hD₆
      simp only [List.append_nil] at N₆ hD₆
      walk_at "c!"
      refine compE (by rfl) rfl (by decide) ?_
      walk_at "c!"
      refine compList (RR := fun acc C => compPost _ _ _ _ _ acc C) (fz := [(D₅, LCg.lst ys), (L' + 1 + 1 + 1, oB), (L' + 1, oA), (L' + 1 + 1, o)]) (news := []) (fun i zs news₁ => news₁ = [] ∧ IntsAre zs ((((List.range ((8 * row.length + 5) / 6)).map (sixP row)).take i).map al)) rfl (.inr ⟨_, .head _⟩) F₆ N₆ (by rw [sizeLine_eq, hI.length]; simp; (first | lia | omega)) (by decide) rfl ⟨rfl, .nil⟩ ?_ ?_ (by intro _ _; rfl)
      · rintro i v zs news₁ C oC D' m₂ h₇ tk₇ fix wr s' - hv ⟨rfl, hJ⟩ hyl hfix hn1 hfx hwx hCD' hNs F₇ N₇
        obtain ⟨k, t', rfl, hk⟩ := hI.at i v hv
        refine storeCx F₇ N₇ hNs (mem_off hn1 hfx hCD') rfl rfl ?_
        intro h₈ oC₈ m₈ F₈ N₈ hN₈ hx₈ _
        have hmA : (L' + 1, oA) ∈ (C, oC₈) :: (D', LCg.lst zs) :: (fix ++ []) := .tail _ (.tail _ (List.mem_append.mpr (.inl (hfix _ (.tail _ (.tail _ (.head _)))))))
        refine wpAny_tests_nil ?_
        rw [if_pos rfl]
        walk_at "k!"
        have hk0 : 0 ≤ k ∧ k < 64 := by
          obtain ⟨j, _, rfl⟩ := List.mem_map.mp (List.mem_of_getElem? hk)
          unfold sixP; (first | lia | omega)
        refine KBw.item_K (ks := alph) (by decide +kernel) (by decide) hk0.1 hk0.2 ?_
        intro t9 k9 _ _
        walk_at "k!"
        refine ⟨_, _, _, _, _, rfl, F₈, N₈, hN₈, hn1, rfl, ?_⟩
        rw [List.take_add_one, hk, Option.toList_some, List.map_append]
        exact ksk_snoc hJ
      · rintro D₈ C h₈ tk₈ m₈ zs news₁ ⟨rfl, hJ⟩ F₈ N₈ hC hCL hCD hC0 hoff
        rw [hI.length, List.take_length] at hJ
        refine compPostE F₈ N₈ hC hCL hCD hC0 hoff ?_
        intro h₉ F₉ N₉ hD₉
        simp only [List.append_nil] at N₉ hD₉
        walk_at "k!"
        have hIn : KBa.In (((List.range ((8 * row.length + 5) / 6)).map (sixP row)).map al) := by
          intro n hn
          obtain ⟨j, _, rfl⟩ := List.mem_map.mp hn
          exact al_in _
        refine KBa.make_K F₉ N₉ (by rfl) (isL N₉ (by k_mem)) hJ hIn (by simp; (first | lia | omega)) ?_
        intro h10 t10 k10 F10 N10 _
        walk_at "k!"
        refine call_len_list (isL N10 (by k_mem)) (by simp [hI.length]; (first | lia | omega)) ?_
        rw [List.size_toArray, hI.length, List.length_map, List.length_range]
        walk_at "k!"
        have hf4 : 0 ≤ (-(((8 * row.length + 5) / 6 : Nat) : Int)).fmod 4 ∧ (-(((8 * row.length + 5) / 6 : Nat) : Int)).fmod 4 < 4 := by
          rw [Int.fmod_eq_emod_of_nonneg _ (by decide)]; (first | lia | omega)
        refine bytes_mul_any (b := [61]) (by decide) (by (clear hlen hroom hu hL' dA l1' dN dB ho hk4 hCL hCD hC0; omega)) (by (clear hlen hroom hu hL' dA l1' dN dB ho hk4 hCL hCD hC0; omega)) (by decide) ?_
        intro t11 k11
        refine KBa.add_K (ks := ((List.range ((8 * row.length + 5) / 6)).map (sixP row)).map al) (ls := KBw.bInts _) (KBa.ints_make hIn) rfl (by rw [KBw.ints_length, rep_flat, List.size_toArray]; simp only [List.length_map, List.length_replicate, List.length_range]; (clear hroom hu hL' dA l1' dN dB ho hk4 hCL hCD hC0; omega)) ?_
        intro t12 k12 _
        rw [signs_eq hin]
        exact h _ _ _ ((Sep.of F10 N10).drop (by intro _ q; exact nomatch q))
end
end
section
/-! The library's decision tree for list.sort answers with the stable sort. -/
set_option maxRecDepth 100000
set_option maxHeartbeats 4000000
open PySem PySem.W PyProof.Rows

/-- the tree's answer under plain questions below n -/
def tok {α : Type} (n : Nat) (lt : Nat → Nat → Bool) : KasT α → (α → Prop) → Prop
  | .ret a, Q => Q a
  | .ask i j k, Q => i < n ∧ j < n ∧ tok n lt (k (lt i j)) Q
theorem tok_bind {α β : Type} {n : Nat} {lt : Nat → Nat → Bool} {f : α → KasT β} {Q : β → Prop} : ∀ (t : KasT α), tok n lt t (fun a => tok n lt (f a) Q) → tok n lt (t.bind f) Q
  | .ret _, h => h
  | .ask _ _ k, h => ⟨h.1, h.2.1, tok_bind (k _) h.2.2⟩
theorem tok_mono {α : Type} {n : Nat} {lt : Nat → Nat → Bool} {Q Q' : α → Prop} (hq : ∀ a, Q a → Q' a) : ∀ (t : KasT α), tok n lt t Q → tok n lt t Q'
  | .ret a, h => hq a h
  | .ask _ _ k, h => ⟨h.1, h.2.1, tok_mono hq (k _) h.2.2⟩
theorem tok_wp {α : Type} {n : Nat} {lt : Nat → Nat → Bool} {cmp : Nat → Nat → (Bool → Shared → Prop) → Shared → Prop} {s : Shared}
    (hc : ∀ i j C, i < n → j < n → C (lt i j) s → cmp i j C s) {Q : α → Prop} {R : α → Shared → Prop} (hq : ∀ a, Q a → R a s) : ∀ (t : KasT α), tok n lt t Q → t.kasWp cmp R s
  | .ret a, h => hq a h
  | .ask i j k, h => hc i j _ h.1 h.2.1 (tok_wp hc hq (k _) h.2.2)

def gN (p : Array Nat) (k : Nat) : Nat := p.getD k 0
theorem gN_eq (p : Array Nat) (k : Nat) : gN p k = p[k]?.getD 0 := by
  unfold gN; rw [Array.getD_eq_getD_getElem?]
theorem gN_rev {p : Array Nat} {i j : Nat} (hj : j ≤ p.size) (k : Nat) : gN (kas_rev p i j) k = if i ≤ k ∧ k < j then gN p (i + j - 1 - k) else gN p k := by
  rw [gN_eq]; unfold kas_rev; rw [getElem?_mirror_all hj]
  split <;> rw [gN_eq]
theorem gN_bub {p : Array Nat} {src d : Nat} (hs : src < p.size) (hd : d ≤ src) (k : Nat) : gN (bubble p src d) k = if k = src - d then gN p src else if src - d < k ∧ k ≤ src then gN p (k - 1) else gN p k := by
  rw [gN_eq, getElem?_bubble hs d hd]
  split
  · rw [gN_eq]
  · split <;> rw [gN_eq]

/-- the stable order -/
def Rst (lt : Nat → Nat → Bool) (i j : Nat) : Prop := lt i j = true ∨ (lt j i = false ∧ i < j)

section
variable {lt : Nat → Nat → Bool} {N : Nat}
theorem Rst.trans (O : LtOrd lt) {i j k : Nat} (h1 : Rst lt i j) (h2 : Rst lt j k) : Rst lt i k := by
  rcases h1 with h1 | ⟨h1, g1⟩ <;> rcases h2 with h2 | ⟨h2, g2⟩
  · exact .inl (O.trans _ _ _ h1 h2)
  · rcases O.neg _ k _ h1 with z | z
    · exact .inl z
    · rw [h2] at z; cases z
  · rcases O.neg _ i _ h2 with z | z
    · rw [h1] at z; cases z
    · exact .inl z
  · exact .inr ⟨O.ge_trans h2 h1, by (first | lia | omega)⟩
theorem Rst.irrefl (O : LtOrd lt) {i : Nat} (h : Rst lt i i) : False := by
  rcases h with h | ⟨_, h⟩
  · rw [O.irrefl] at h; cases h
  · (first | lia | omega)

/-- what the sort keeps -/
structure Kp (N : Nat) (p : Array Nat) (n : Nat) : Prop where
  perm : p.toList.Perm (List.range N)
  low : ∀ k, k < n → gN p k < n
  high : ∀ k, n ≤ k → k < N → gN p k = k
theorem Kp.size {p : Array Nat} {n : Nat} (h : Kp N p n) : p.size = N := by
  have := h.perm.length_eq; simpa using this
theorem Kp.all {p : Array Nat} {n k : Nat} (h : Kp N p n) (hn : n ≤ N) (hk : k < N) : gN p k < N := by
  by_cases q : k < n
  · have := h.low k q; (first | lia | omega)
  · rw [h.high k (by (first | lia | omega)) hk]; exact hk
theorem Kp.grow {p : Array Nat} {n : Nat} (h : Kp N p n) (hn : n + 1 ≤ N) : Kp N p (n + 1) :=
  ⟨h.perm, fun k hk => by
    by_cases q : k < n
    · have := h.low k q; (first | lia | omega)
    · rw [h.high k (by (first | lia | omega)) (by (first | lia | omega))]; exact hk, fun k hk hN => h.high k (by (first | lia | omega)) hN⟩
theorem Kp.growTo {p : Array Nat} {n : Nat} (h : Kp N p n) : ∀ m, n ≤ m → m ≤ N → Kp N p m := by
  intro m
  induction m with
  | zero => intro h1 _; obtain rfl : n = 0 := by (first | lia | omega)
            exact h
  | succ m ih => intro h1 h2
                 by_cases q : n = m + 1
                 · rw [← q]; exact h
                 · exact (ih (by (first | lia | omega)) (by (first | lia | omega))).grow h2
theorem Kp.rev {p : Array Nat} {n i : Nat} (h : Kp N p n) (hn : n ≤ N) : Kp N (kas_rev p i n) n := by
  refine ⟨(Array.perm_iff_toList_perm.mp (mirror_perm p _ _ _)).trans h.perm, fun k hk => ?_, fun k hk hN => ?_⟩
  · rw [gN_rev (by rw [h.size]; exact hn)]
    split
    · exact h.low _ (by (clear hn; omega))
    · exact h.low _ hk
  · rw [gN_rev (by rw [h.size]; exact hn), if_neg (by (first | lia | omega))]; exact h.high k hk hN

def Up (lt : Nat → Nat → Bool) (p : Array Nat) (n : Nat) : Prop := ∀ k, k + 1 < n → Rst lt (gN p k) (gN p (k + 1))
def Dn (lt : Nat → Nat → Bool) (p : Array Nat) (n : Nat) : Prop := ∀ k, k + 1 < n → Rst lt (gN p (k + 1)) (gN p k)
theorem Up.far (O : LtOrd lt) {p : Array Nat} {n : Nat} (h : Up lt p n) : ∀ d i, i + d + 1 < n → Rst lt (gN p i) (gN p (i + d + 1)) := by
  intro d
  induction d with
  | zero => intro i hi; exact h i hi
  | succ d ih => intro i hi; exact (ih i (by (first | lia | omega))).trans O (h (i + d + 1) hi)
theorem Up.pair (O : LtOrd lt) {p : Array Nat} {n : Nat} (h : Up lt p n) {i j : Nat} (hij : i < j) (hj : j < n) : Rst lt (gN p i) (gN p j) := by
  have := h.far O (j - i - 1) i (by omega)
  rw [show i + (j - i - 1) + 1 = j by omega] at this
  exact this

theorem asc_ok {p : Array Nat} (h0 : ∀ k, k < N → gN p k < N) : ∀ (f n : Nat) {Q : Nat → Prop}, 1 ≤ n → n + f = N →
    (∀ m, n ≤ m → m ≤ N → (∀ k, n ≤ k → k < m → lt (gN p k) (gN p (k - 1)) = false) → (m < N → lt (gN p m) (gN p (m - 1)) = true) → Q m) → tok N lt (kas_asc p f n) Q
  | 0, n, Q, h1, hf, h => h n (Nat.le_refl _) (by (first | lia | omega)) (fun k a b => by (first | lia | omega)) fun q => by (first | lia | omega)
  | f + 1, n, Q, h1, hf, h => by
    refine ⟨h0 n (by (first | lia | omega)), h0 (n - 1) (by (first | lia | omega)), ?_⟩
    show tok N lt (if lt (gN p n) (gN p (n - 1)) = true then .ret n else kas_asc p f (n + 1)) Q
    cases q : lt (gN p n) (gN p (n - 1)) with
    | true => rw [if_pos rfl]; exact h n (Nat.le_refl _) (by (first | lia | omega)) (fun k a b => by (first | lia | omega)) fun _ => q
    | false =>
      rw [if_neg (by simp)]
      refine asc_ok h0 f (n + 1) (by (first | lia | omega)) (by (first | lia | omega)) fun m a b c d => h m (by (first | lia | omega)) b (fun k x y => ?_) d
      by_cases z : k = n
      · subst z; exact q
      · exact c k (by (first | lia | omega)) y

/-- the falling run: up to its last step strictly falling (stably), the last q + 1 of one key, rising in place -/
structure DI (lt : Nat → Nat → Bool) (N : Nat) (p : Array Nat) (n q : Nat) : Prop where
  kp : Kp N p n
  qn : q + 2 ≤ n
  nN : n ≤ N
  dn : Dn lt p (n - q)
  step : lt (gN p (n - q - 1)) (gN p (n - q - 2)) = true
  eq : ∀ k, n - q - 1 ≤ k → k + 1 < n → lt (gN p k) (gN p (k + 1)) = false ∧ lt (gN p (k + 1)) (gN p k) = false ∧ gN p k < gN p (k + 1)

theorem DI.far (O : LtOrd lt) {p : Array Nat} {n q : Nat} (h : DI lt N p n q) : ∀ d i, n - q - 1 ≤ i → i + d < n → lt (gN p i) (gN p (i + d)) = false ∧ lt (gN p (i + d)) (gN p i) = false ∧ (0 < d → gN p i < gN p (i + d)) := by
  intro d
  induction d with
  | zero => intro i _ _; exact ⟨O.irrefl _, O.irrefl _, fun q => by (first | lia | omega)⟩
  | succ d ih =>
    intro i h1 h2
    obtain ⟨a, b, c⟩ := ih i h1 (by (first | lia | omega))
    obtain ⟨a', b', c'⟩ := h.eq (i + d) (by (first | lia | omega)) (by omega)
    refine ⟨O.ge_trans a a', O.ge_trans b' b, fun _ => ?_⟩
    by_cases z : d = 0
    · subst z; exact c'
    · have := c (by (first | lia | omega)); show gN p i < gN p (i + d + 1); (first | lia | omega)
theorem DI.two (O : LtOrd lt) {p : Array Nat} {n q : Nat} (h : DI lt N p n q) {i j : Nat} (hi : n - q - 1 ≤ i) (hij : i ≤ j) (hj : j < n) : lt (gN p i) (gN p j) = false ∧ lt (gN p j) (gN p i) = false ∧ (i < j → gN p i < gN p j) := by
  have := h.far O (j - i) i hi (by (clear hi; lia))
  rw [show i + (j - i) = j by (first | lia | omega)] at this
  exact ⟨this.1, this.2.1, fun q => this.2.2 (by (first | lia | omega))⟩

/-- the block turned: falling throughout -/
theorem DI.turn (O : LtOrd lt) {p : Array Nat} {n q : Nat} (h : DI lt N p n q) : Dn lt (kas_rev p (n - (q + 1)) n) n ∧ Kp N (kas_rev p (n - (q + 1)) n) n := by
  refine ⟨fun k hk => ?_, h.kp.rev h.nN⟩
  have hz : n ≤ p.size := by rw [h.kp.size]; exact h.nN
  have qn := h.qn
  rw [gN_rev hz, gN_rev hz]
  by_cases c1 : k + 1 < n - (q + 1)
  · rw [if_neg (by (first | lia | omega)), if_neg (by (first | lia | omega))]; exact h.dn k (by (first | lia | omega))
  · by_cases c2 : k < n - (q + 1)
    · rw [if_pos (by (first | lia | omega)), if_neg (by (first | lia | omega))]
      have e : n - (q + 1) + n - 1 - (k + 1) = n - 1 := by (first | lia | omega)
      have e2 : k = n - q - 2 := by (clear hk hz e; omega)
      rw [e, e2]
      have t := h.two O (i := n - q - 1) (j := n - 1) (by (first | lia | omega)) (by (clear hk hz e; omega)) (by (clear hk hz e; omega))
      rcases O.neg _ (gN p (n - 1)) _ h.step with z | z
      · rw [t.1] at z; cases z
      · exact .inl z
    · rw [if_pos (by (first | lia | omega)), if_pos (by (first | lia | omega))]
      have t := h.eq (n - (q + 1) + n - 1 - (k + 1)) (by (clear hz qn c1 c2; omega)) (by (clear hz qn c1; omega))
      rw [show n - (q + 1) + n - 1 - (k + 1) + 1 = n - (q + 1) + n - 1 - k by (first | lia | omega)] at t
      exact .inr ⟨t.2.1, t.2.2⟩

theorem desc_ok (O : LtOrd lt) : ∀ (f : Nat) (p : Array Nat) (n q : Nat) {Q : Array Nat × Nat × Nat → Prop}, n + f = N → DI lt N p n q → (∀ p' n' q', DI lt N p' n' q' → Q (p', n', q')) → tok N lt (kas_desc f p n q) Q
  | 0, p, n, q, Q, hf, D, h => h p n q D
  | f + 1, p, n, q, Q, hf, D, h => by
    have qn := D.qn
    have hz : n ≤ p.size := by rw [D.kp.size]; exact D.nN
    refine ⟨D.kp.all D.nN (by (first | lia | omega)), D.kp.all D.nN (by (first | lia | omega)), ?_⟩
    show tok N lt (if lt (gN p n) (gN p (n - 1)) = true then (if q > 0 then kas_desc f (kas_rev p (n - (q + 1)) n) (n + 1) 0 else kas_desc f p (n + 1) 0)
      else .ask (gN p (n - 1)) (gN p n) fun d => if d = true then .ret (p, n, q) else kas_desc f p (n + 1) (q + 1)) Q
    cases c : lt (gN p n) (gN p (n - 1)) with
    | true =>
      rw [if_pos rfl]
      split
      · obtain ⟨d1, k1⟩ := D.turn O
        refine desc_ok O f _ (n + 1) 0 (by (first | lia | omega)) ⟨k1.grow (by (first | lia | omega)), by (first | lia | omega), by (first | lia | omega), fun k hk => ?_, ?_, fun k a b => by (first | lia | omega)⟩ h
        · by_cases z : k + 1 < n
          · exact d1 k z
          · obtain rfl : n = k + 1 := by (first | lia | omega)
            left
            rw [gN_rev hz, gN_rev hz, if_neg (by (first | lia | omega)), if_pos (by (first | lia | omega))]
            have t := D.two O (i := k + 1 - q - 1) (j := k) (by (first | lia | omega)) (by (first | lia | omega)) (by (first | lia | omega))
            rw [show k + 1 - (q + 1) + (k + 1) - 1 - k = k + 1 - q - 1 by (first | lia | omega)]
            rcases O.neg _ (gN p (k + 1 - q - 1)) _ c with z | z
            · exact z
            · rw [show k + 1 - 1 = k by (first | lia | omega), t.1] at z; cases z
        · show lt (gN _ n) (gN _ (n - 1)) = true
          rw [gN_rev hz, gN_rev hz, if_neg (by (first | lia | omega)), if_pos (by (first | lia | omega))]
          have t := D.two O (i := n - q - 1) (j := n - 1) (by (first | lia | omega)) (by (first | lia | omega)) (by (first | lia | omega))
          rw [show n - (q + 1) + n - 1 - (n - 1) = n - q - 1 by (first | lia | omega)]
          rcases O.neg _ (gN p (n - q - 1)) _ c with z | z
          · exact z
          · rw [t.1] at z; cases z
      · obtain rfl : q = 0 := by (first | lia | omega)
        refine desc_ok O f _ (n + 1) 0 (by (first | lia | omega)) ⟨D.kp.grow (by (first | lia | omega)), by (first | lia | omega), by (first | lia | omega), fun k hk => ?_, c, fun k a b => by (first | lia | omega)⟩ h
        by_cases z : k + 1 < n
        · exact D.dn k (by omega)
        · obtain rfl : n = k + 1 := by (first | lia | omega)
          exact .inl c
    | false =>
      rw [if_neg (by simp)]
      refine ⟨D.kp.all D.nN (by (first | lia | omega)), D.kp.all D.nN (by (first | lia | omega)), ?_⟩
      cases d : lt (gN p (n - 1)) (gN p n) with
      | true => exact h p n q D
      | false =>
        refine desc_ok O f p (n + 1) (q + 1) (by (first | lia | omega)) ⟨D.kp.grow (by (first | lia | omega)), by (first | lia | omega), by (first | lia | omega), fun k hk => D.dn k (by (first | lia | omega)), ?_, fun k a b => ?_⟩ h
        · rw [show n + 1 - (q + 1) - 1 = n - q - 1 by (first | lia | omega), show n + 1 - (q + 1) - 2 = n - q - 2 by (first | lia | omega)]; exact D.step
        · by_cases z : k + 1 < n
          · exact D.eq k (by (first | lia | omega)) z
          · obtain rfl : n = k + 1 := by (first | lia | omega)
            refine ⟨d, c, ?_⟩
            have := D.kp.low k (by (first | lia | omega))
            rw [D.kp.high (k + 1) (by (first | lia | omega)) (by (first | lia | omega))]
            exact this

theorem tail3_ok (O : LtOrd lt) {p : Array Nat} {n : Nat} {Q : Nat × Array Nat → Prop} (h1 : 1 ≤ n) (hn : n ≤ N) (D : Dn lt p n) (Kk : Kp N p n) (h : ∀ m p', 1 ≤ m → m ≤ N → Up lt p' m → Kp N p' m → Q (m, p')) : tok N lt (kas_tail3 n N p) Q := by
  have Kr : Kp N (kas_rev p 0 n) n := Kk.rev hn
  have hz : n ≤ p.size := by rw [Kk.size]; exact hn
  refine tok_bind _ (asc_ok (fun k hk => Kr.all hn hk) _ _ h1 (by (first | lia | omega)) fun m a b c _ => h m _ (by (first | lia | omega)) b (fun k hk => ?_) (Kr.growTo m a b))
  by_cases z : k + 1 < n
  · rw [gN_rev hz, gN_rev hz, if_pos (by (first | lia | omega)), if_pos (by (first | lia | omega))]
    have := D (n - 1 - (k + 1)) (by (clear h1 hn hz a b hk; omega))
    rw [show n - 1 - (k + 1) + 1 = 0 + n - 1 - k by (clear h1 hn hz a b hk; lia), show n - 1 - (k + 1) = 0 + n - 1 - (k + 1) by (first | lia | omega)] at this
    exact this
  · have q := c (k + 1) (by (first | lia | omega)) hk
    refine .inr ⟨q, ?_⟩
    rw [Kr.high (k + 1) (by (first | lia | omega)) (by (first | lia | omega))]
    by_cases y : k < n
    · have := Kr.low k y; (first | lia | omega)
    · rw [Kr.high k (by (first | lia | omega)) (by (first | lia | omega))]; (first | lia | omega)

theorem descPart_ok (O : LtOrd lt) {p : Array Nat} {n : Nat} {Q : Nat × Array Nat → Prop} (D : DI lt N p (n + 1) 0) (h : ∀ m p', 1 ≤ m → m ≤ N → Up lt p' m → Kp N p' m → Q (m, p')) : tok N lt (kas_descPart n N p) Q := by
  have nN := D.nN
  refine tok_bind _ (desc_ok O _ p (n + 1) 0 (by omega) D fun p' n' q' D' => ?_)
  have qn := D'.qn
  show tok N lt (if q' > 0 then kas_tail3 n' N (kas_rev p' (n' - (q' + 1)) n') else kas_tail3 n' N p') Q
  split
  · obtain ⟨d1, k1⟩ := D'.turn O
    exact tail3_ok O (by (first | lia | omega)) D'.nN d1 k1 h
  · obtain rfl : q' = 0 := by (first | lia | omega)
    exact tail3_ok O (by (first | lia | omega)) D'.nN D'.dn D'.kp h

theorem gN_range {k : Nat} (hk : k < N) : gN (List.toArray (List.range N)) k = k := by
  rw [gN_eq]; simp [hk]

theorem count_ok (O : LtOrd lt) {Q : Nat × Array Nat → Prop} (hN : 1 ≤ N) (h : ∀ m p', 1 ≤ m → m ≤ N → Up lt p' m → Kp N p' m → Q (m, p')) : tok N lt (kas_count N (List.toArray (List.range N))) Q := by
  have Kr : ∀ n, Kp N (List.toArray (List.range N)) n → True := fun _ _ => trivial
  have K0 : Kp N (List.toArray (List.range N)) 0 := ⟨by simp, fun k hk => by (first | lia | omega), fun k _ hk => gN_range hk⟩
  have Kn : ∀ n, n ≤ N → Kp N (List.toArray (List.range N)) n := fun n hn => K0.growTo n (by (first | lia | omega)) hn
  refine tok_bind _ (asc_ok (fun k hk => by rw [gN_range hk]; exact hk) _ 1 (Nat.le_refl _) (by (first | lia | omega)) fun m a b c d => ?_)
  have up : Up lt (List.toArray (List.range N)) m := fun k hk => .inr ⟨c (k + 1) (by (first | lia | omega)) hk, by rw [gN_range (by (first | lia | omega)), gN_range (by (first | lia | omega))]; (first | lia | omega)⟩
  split
  · exact h m _ a b up (Kn m b)
  · rename_i ne
    have hm : m < N := by
      have : m ≠ N := fun q => ne (by rw [q]; exact beq_self_eq_true _)
      (first | lia | omega)
    have dm := d hm
    have hz : m ≤ (List.toArray (List.range N)).size := by simp; exact b
    split
    · rename_i m1
      refine ⟨by show gN _ 0 < N; rw [gN_range (by (first | lia | omega))]; (first | lia | omega), by show gN _ (m - 1) < N; rw [gN_range (by (clear hN a b ne dm hz; omega))]; omega, ?_⟩
      show tok N lt (if lt (gN _ 0) (gN _ (m - 1)) = true then .ret (m, List.toArray (List.range N)) else kas_descPart m N (kas_rev (List.toArray (List.range N)) 0 m)) Q
      cases q : lt (gN (List.toArray (List.range N)) 0) (gN (List.toArray (List.range N)) (m - 1)) with
      | true => rw [if_pos rfl]; exact h m _ a b up (Kn m b)
      | false =>
        rw [if_neg (by simp)]
        rw [gN_range (by (first | lia | omega)), gN_range (by omega)] at q
        -- of one key throughout
        have ge : ∀ i j, i ≤ j → j < m → lt j i = false := by
          intro i j hij hj
          by_cases z : i = j
          · subst z; exact O.irrefl _
          · rcases (up.pair O (i := i) (j := j) (by (first | lia | omega)) hj) with y | y
            · rw [gN_range (by (first | lia | omega)), gN_range (by (first | lia | omega))] at y
              exact O.asymm y
            · rw [gN_range (by (first | lia | omega)), gN_range (by (first | lia | omega))] at y
              exact y.1
        have le : ∀ i j, i ≤ j → j < m → lt i j = false := fun i j hij hj => O.ge_trans (ge 0 i (by (first | lia | omega)) (by (first | lia | omega))) (O.ge_trans q (ge j (m - 1) (by (first | lia | omega)) (by (clear hN a b ne hm dm hz q hij hj; omega))))
        refine descPart_ok O ⟨((Kn m b).rev b).grow (by (first | lia | omega)), by (first | lia | omega), by (first | lia | omega), fun k hk => ?_, ?_, fun k _ _ => by (first | lia | omega)⟩ h
        · rw [gN_rev hz, gN_rev hz]
          by_cases z : k + 1 < m
          · rw [if_pos (by (first | lia | omega)), if_pos (by (first | lia | omega)), gN_range (by (clear hN a b ne dm hz m1 q hk; omega)), gN_range (by (clear hN a b ne dm hz m1 q hk; omega))]
            exact .inr ⟨ge _ _ (by (clear hN a b ne hm dm hz m1 q hk; omega)) (by (clear hN a b ne hm dm hz m1 q hk; omega)), by (clear hN a b ne hm dm hz m1 q hk; omega)⟩
          · obtain rfl : m = k + 1 := by (first | lia | omega)
            rw [if_neg (by (first | lia | omega)), if_pos (by (first | lia | omega)), gN_range (by omega), gN_range (by (first | lia | omega))]
            rw [gN_range (by omega), gN_range (by (first | lia | omega))] at dm
            refine .inl ?_
            rcases O.neg _ (0 + (k + 1) - 1 - k) _ dm with y | y
            · exact y
            · rw [le _ _ (by (first | lia | omega)) (by (first | lia | omega))] at y; cases y
        · rw [gN_rev hz, gN_rev hz]
          rw [if_neg (by (first | lia | omega)), if_pos (by (first | lia | omega)), gN_range (by (first | lia | omega)), gN_range (by (first | lia | omega))]
          rw [gN_range (by omega), gN_range (by omega)] at dm
          rcases O.neg _ (0 + m - 1 - (m + 1 - 0 - 2)) _ dm with y | y
          · exact y
          · rw [le _ _ (by (first | lia | omega)) (by (first | lia | omega))] at y; cases y
    · obtain rfl : m = 1 := by (first | lia | omega)
      refine descPart_ok O ⟨Kn 2 (by (first | lia | omega)), by (first | lia | omega), by (first | lia | omega), fun k hk => ?_, dm, fun k _ _ => by (first | lia | omega)⟩ h
      obtain rfl : k = 0 := by (first | lia | omega)
      exact .inl dm

theorem place_ok (O : LtOrd lt) {p : Array Nat} {k : Nat} (hk : k < N) (Kk : Kp N p k) (U : Up lt p k) : ∀ (f l r : Nat) {Q : Nat → Prop}, r ≤ l + f → l ≤ r → r ≤ k →
    (∀ j, j < l → lt (gN p k) (gN p j) = false) → (∀ j, r ≤ j → j < k → lt (gN p k) (gN p j) = true) →
    (∀ l, l ≤ k → (∀ j, j < l → lt (gN p k) (gN p j) = false) → (∀ j, l ≤ j → j < k → lt (gN p k) (gN p j) = true) → Q l) → tok N lt (kas_place p k f l r) Q
  | 0, l, r, Q, hf, hlr, hr, h1, h2, h => h l (by (first | lia | omega)) h1 fun j a b => h2 j (by (first | lia | omega)) b
  | f + 1, l, r, Q, hf, hlr, hr, h1, h2, h => by
    unfold kas_place
    split
    · exact h l (by (first | lia | omega)) h1 fun j a b => h2 j (by (first | lia | omega)) b
    · refine ⟨Kk.all (by (first | lia | omega)) (by omega), Kk.all (by (first | lia | omega)) (by (first | lia | omega)), ?_⟩
      show tok N lt (if lt (gN p k) (gN p ((l + r) / 2)) = true then kas_place p k f l ((l + r) / 2) else kas_place p k f ((l + r) / 2 + 1) r) Q
      cases q : lt (gN p k) (gN p ((l + r) / 2)) with
      | true =>
        rw [if_pos rfl]
        refine place_ok O hk Kk U f l ((l + r) / 2) (by (first | lia | omega)) (by (first | lia | omega)) (by (first | lia | omega)) h1 (fun j a b => ?_) h
        by_cases z : j = (l + r) / 2
        · rw [z]; exact q
        · rcases U.pair O (i := (l + r) / 2) (j := j) (by (first | lia | omega)) b with y | y
          · exact O.trans _ _ _ q y
          · rcases O.neg _ (gN p j) _ q with x | x
            · exact x
            · rw [y.1] at x; cases x
      | false =>
        rw [if_neg (by simp)]
        refine place_ok O hk Kk U f ((l + r) / 2 + 1) r (by (first | lia | omega)) (by (first | lia | omega)) hr (fun j a => ?_) h2 h
        by_cases z : j = (l + r) / 2
        · rw [z]; exact q
        · rcases U.pair O (i := j) (j := (l + r) / 2) (by (first | lia | omega)) (by (first | lia | omega)) with y | y
          · exact O.ge_trans q (O.asymm y)
          · exact O.ge_trans q y.1

theorem bin_ok (O : LtOrd lt) {Q : Array Nat → Prop} (h : ∀ p', Up lt p' N → p'.toList.Perm (List.range N) → Q p') : ∀ (f : Nat) (p : Array Nat) (k : Nat), k + f = N → Kp N p k → Up lt p k → tok N lt (kas_bin f p k) Q
  | 0, p, k, hf, Kk, U => h p (by rw [← hf]; exact U) Kk.perm
  | f + 1, p, k, hf, Kk, U => by
    refine tok_bind _ (place_ok O (by (first | lia | omega)) Kk U k 0 k (by (first | lia | omega)) (by (first | lia | omega)) (Nat.le_refl _) (fun j a => by (first | lia | omega)) (fun j a b => by (first | lia | omega)) fun l hl h1 h2 => ?_)
    have hs : k < p.size := by rw [Kk.size]; (first | lia | omega)
    have gb := fun x => gN_bub hs (d := k - l) (by (first | lia | omega)) x
    have hk : gN p k = k := Kk.high k (Nat.le_refl _) (by (first | lia | omega))
    refine bin_ok O h f _ (k + 1) (by (first | lia | omega)) ⟨(Array.perm_iff_toList_perm.mp (bubble_perm p _ _)).trans Kk.perm, fun x hx => ?_, fun x hx hN => ?_⟩ fun x hx => ?_
    · rw [gb]
      split
      · (first | lia | omega)
      · split
        · have := Kk.low (x - 1) (by (first | lia | omega)); (first | lia | omega)
        · have := Kk.low x (by (clear hf hs hk; lia)); (first | lia | omega)
    · rw [gb, if_neg (by (first | lia | omega)), if_neg (by (first | lia | omega))]; exact Kk.high x (by (first | lia | omega)) hN
    · rw [gb, gb]
      by_cases c1 : x + 1 < l
      · rw [if_neg (by (first | lia | omega)), if_neg (by (first | lia | omega)), if_neg (by (first | lia | omega)), if_neg (by (first | lia | omega))]; exact U x (by (first | lia | omega))
      · by_cases c2 : x + 1 = l
        · rw [if_neg (by (first | lia | omega)), if_neg (by (first | lia | omega)), if_pos (by (first | lia | omega))]
          refine .inr ⟨h1 x (by (first | lia | omega)), ?_⟩
          have := Kk.low x (by (first | lia | omega)); (first | lia | omega)
        · by_cases c3 : x = l
          · subst c3
            rw [if_pos (by (first | lia | omega)), if_neg (by (first | lia | omega)), if_pos (by (clear hf hs hk c1 c2; lia))]
            exact .inl (h2 x (Nat.le_refl _) (by (first | lia | omega)))
          · rw [if_neg (by (first | lia | omega)), if_pos (by (first | lia | omega)), if_neg (by (first | lia | omega)), if_pos (by (first | lia | omega))]
            have := U (x - 1) (by (first | lia | omega))
            rw [show x - 1 + 1 = x by (first | lia | omega)] at this
            exact this

theorem pair_of_up (O : LtOrd lt) {p : Array Nat} (U : Up lt p N) (hp : p.size = N) : p.toList.Pairwise (Rst lt) := by
  rw [List.pairwise_iff_getElem]
  intro i j hi hj hij
  have := U.pair O hij (by simpa [hp] using hj)
  rw [gN_eq, gN_eq] at this
  simp only [Array.length_toList] at hi hj
  rw [Array.getElem?_eq_getElem hi, Array.getElem?_eq_getElem hj] at this
  simpa using this

theorem sort_ok (O : LtOrd lt) (hN : 1 ≤ N) : tok N lt (kas_sort N) fun p => p.toList.Perm (List.range N) ∧ p.toList.Pairwise (Rst lt) := by
  have fin : ∀ p' : Array Nat, Up lt p' N → p'.toList.Perm (List.range N) → p'.toList.Perm (List.range N) ∧ p'.toList.Pairwise (Rst lt) := fun p' U P =>
    ⟨P, pair_of_up O U (by have := P.length_eq; simpa using this)⟩
  refine tok_bind _ (count_ok O hN fun m p' a b U Kk => ?_)
  show tok N lt (if m < N then kas_bin (N - max m 1) p' (max m 1) else .ret p') _
  split
  · rw [show max m 1 = m by (first | lia | omega)]
    exact bin_ok O fin _ p' m (by (first | lia | omega)) Kk U
  · obtain rfl : m = N := by (first | lia | omega)
    exact fin p' U Kk.perm
end
end
section
open PySem PySem.W PyProof.Rows PySem.Calls
set_option Elab.async false
set_option maxRecDepth 100000
set_option maxHeartbeats 8000000
example : PySem.Challenge.rw_pd0043_01.prog = PySem.Challenge.rw_pd0043_01.prog → hd.heap_39 = hd.heap_39 := by
  k_fill
  exact fun _ => rfl

/-- a list's iterator that has ended -/
def Ended (h : Heap) (it : Addr) : Prop := ∃ o, h.get? it = some o ∧ o.cls = .type "list_iterator" ∧ ∃ i : Nat, o.data = .fields #[.none, .int i 0]
/-- a list's iterator at a place: it may have ended at the last -/
def ItSt (h : Heap) (it l : Addr) (n j : Nat) : Prop := (h.IsListIter it l j ∧ j ≤ n) ∨ (j = n ∧ Ended h it)
theorem Ended.at {h h' : Heap} {it : Addr} (x : Ended h it) (e : ∀ o, h.get? it = some o → h'.get? it = some o) : Ended h' it := let ⟨o, ho, r⟩ := x; ⟨o, e _ ho, r⟩
theorem ItSt.at {h h' : Heap} {it l : Addr} {n j : Nat} (x : ItSt h it l n j) (e : ∀ o, h.get? it = some o → h'.get? it = some o) : ItSt h' it l n j := by
  rcases x with ⟨x, hj⟩ | ⟨hj, x⟩
  · exact .inl ⟨x.at e, hj⟩
  · exact .inr ⟨hj, x.at e⟩
theorem ItSt.obj {h : Heap} {it l : Addr} {n j : Nat} (x : ItSt h it l n j) : ∃ o, h.get? it = some o ∧ o.cls = .type "list_iterator" := by
  rcases x with ⟨⟨o, ho, hc, _⟩, _⟩ | ⟨_, o, ho, hc, _⟩ <;> exact ⟨o, ho, hc⟩
theorem ItSt.le {h : Heap} {it l : Addr} {n j : Nat} (x : ItSt h it l n j) : j ≤ n := by
  rcases x with ⟨_, hj⟩ | ⟨hj, _⟩ <;> (first | lia | omega)
theorem ItSt.run {h : Heap} {it l : Addr} {n j : Nat} (x : ItSt h it l n j) (hj : j < n) : h.IsListIter it l j := by
  rcases x with ⟨x, _⟩ | ⟨e, _⟩
  · exact x
  · (first | lia | omega)

section
variable {prog : Program} {w : World} {A : Around} {E : Value → Shared → Prop} {s : Shared}
theorem li_end_tree {it l : Addr} {items : Array Value} {Q : Fin → Shared → Prop} (hh : A.handled = none) (hit : ItSt s.heap it l items.size items.size) (hl : s.heap.IsList l items)
    (hE : ∀ h' e, Heap.ExtBut it s.heap h' → Ended h' it → (∃ o, h'.get? e = some o ∧ o.cls = .type "StopIteration") → E (.ref e) { s with heap := h' }) :
    wpAny (model prog w) A (Builtin.«list_iterator.__next__» ⟨[.ref it], []⟩) Q E s := by
  rcases hit with ⟨hit, _⟩ | ⟨_, hit⟩
  · obtain ⟨o, ho, hc, hd⟩ := id hit
    obtain ⟨ol, hol, _, nl, hdl⟩ := hl
    show wpAny _ _ (field (.ref it) 0 >>= _) _ _ s
    refine wpAny_bind (wpAny_field ho hd (x := .ref l) rfl ?_)
    show wpAny _ _ (if (Value.ref l == Value.none) = true then _ else _) _ _ s
    rw [if_neg (show ¬ ((Value.ref l == Value.none) = true) from Bool.false_ne_true)]
    show wpAny _ _ (field (.ref it) 1 >>= _) _ _ s
    refine wpAny_bind (wpAny_field ho hd (x := .int items.size 0) rfl ?_)
    show wpAny _ _ (seqItems? (.ref l) >>= _) _ _ s
    refine wpAny_bind (wpAny_seqItems hol hdl ?_)
    have hx : items[items.size]? = none := by simp
    simp only [Int.toNat_natCast, hx]
    refine wpAny_bind (wpAny_rule (wpAny_bind (wpAny_setField ho hd (by simp) ?_)))
    show wpAny _ _ (newExc (.type "StopIteration") [] >>= _) _ _ _
    refine wpAny_bind ?_
    simp only [newExc, newTuple]
    refine wpAny_bind (wpAny_newObj_type ?_ (by size_fits))
    refine wpAny_bind (m := firstArgMember _ _) (wpAny_of_eq (a := Value.none) (by first | rfl | (simp only [firstArgMember]; rfl)) ?_)
    refine wpAny_newObj_type ?_ (by size_fits)
    simp only [raiseNew]
    refine wpAny_bind (wpAny_handled ?_)
    rw [hh]
    refine wpAny_bind (wpAny_pure (wpAny_throw ?_))
    refine hE _ _ (((Heap.SameBut.update ..).extBut.push _).push _) ⟨_, Heap.get?_push_of_some _ (Heap.get?_push_of_some _ (Heap.get?_update_self _ ho (Obj.isFreed_of_fields (Obj.data_mapFields hd _)))), (Obj.cls_mapFields ..).trans hc, items.size, ?_⟩ ⟨_, Heap.get?_push_size _ rfl, rfl⟩
    rw [Obj.data_mapFields hd]; simp
  · obtain ⟨o, ho, hc, i, hd⟩ := id hit
    show wpAny _ _ (field (.ref it) 0 >>= _) _ _ s
    refine wpAny_bind (wpAny_field ho hd (x := .none) rfl ?_)
    show wpAny _ _ (if (Value.none == Value.none) = true then _ else _) _ _ s
    rw [if_pos (show (Value.none == Value.none) = true from rfl)]
    refine wpAny_bind (wpAny_rule (wpAny_bind ?_))
    show wpAny _ _ (newExc (.type "StopIteration") [] >>= _) _ _ _
    refine wpAny_bind ?_
    simp only [newExc, newTuple]
    refine wpAny_bind (wpAny_newObj_type ?_ (by size_fits))
    refine wpAny_bind (m := firstArgMember _ _) (wpAny_of_eq (a := Value.none) (by first | rfl | (simp only [firstArgMember]; rfl)) ?_)
    refine wpAny_newObj_type ?_ (by size_fits)
    simp only [raiseNew]
    refine wpAny_bind (wpAny_handled ?_)
    rw [hh]
    refine wpAny_bind (wpAny_pure (wpAny_throw ?_))
    exact hE _ _ (((Heap.ExtBut.refl it s.heap).push _).push _) (hit.at fun o e => Heap.get?_push_of_some _ (Heap.get?_push_of_some _ e)) ⟨_, Heap.get?_push_size _ rfl, rfl⟩

theorem pyNext_li_end {it l : Addr} {items : Array Value} {Q : Option Value → Shared → Prop} (hh : A.handled = none) (hit : ItSt s.heap it l items.size items.size) (hl : s.heap.IsList l items)
    (hQ : ∀ h', Heap.ExtBut it s.heap h' → Ended h' it → Q none { s with heap := h' }) : wpAny (model prog w) A (pyNext (.ref it)) Q E s := by
  obtain ⟨o, ho, hc⟩ := hit.obj
  have hT : s.TypeIs (.ref it) "list_iterator" := ⟨o, ho, hc⟩
  unfold pyNext
  refine wpAny_bind (wpAny_attempt (wpAny_callSpecial?_slot (name := Str.ofString "__next__") hT slot_listiter_next
    (wpAny_call_entry slot_listiter_next hT entry_listiter_next (li_end_tree (by exact hh) hit hl ?_) (args_listiter_next _))))
  intro h' e hx hen he
  obtain ⟨o', ho', hc'⟩ := he
  refine wpAny_bind (wpAny_isInstance (T := "StopIteration") (b := true) ⟨o', ho', hc'⟩ isSubtype_stop ?_)
  exact wpAny_pure (hQ _ hx hen)
theorem nextOf_li_end {it l : Addr} {items : Array Value} {Q : Value → Shared → Prop} (hh : A.handled = none) (hit : ItSt s.heap it l items.size items.size) (hl : s.heap.IsList l items)
    (hE : ∀ h' e, Heap.ExtBut it s.heap h' → Ended h' it → (∃ o, h'.get? e = some o ∧ o.cls = .type "StopIteration") → E (.ref e) { s with heap := h' }) :
    wpAny (model prog w) A (Builtin.SmallTypes.nextOf (.ref it)) Q E s := by
  obtain ⟨o, ho, hc⟩ := hit.obj
  have hT : s.TypeIs (.ref it) "list_iterator" := ⟨o, ho, hc⟩
  unfold Builtin.SmallTypes.nextOf
  exact wpAny_bind (wpAny_callSpecial?_slot (name := Str.ofString "__next__") hT slot_listiter_next
    (wpAny_call_entry slot_listiter_next hT entry_listiter_next (li_end_tree (by exact hh) hit hl hE) (args_listiter_next _)))
theorem pyIter_li {it l : Addr} {n j : Nat} {Q : Value → Shared → Prop} (hit : ItSt s.heap it l n j) (h : Q (.ref it) s) : wpAny (model prog w) A (pyIter (.ref it)) Q E s := by
  obtain ⟨o, ho, hc⟩ := hit.obj
  have hT : s.TypeIs (.ref it) "list_iterator" := ⟨o, ho, hc⟩
  refine wpAny_pyIter_slot hT slot_listiter_iter (wpAny_call_entry slot_listiter_iter hT entry_listiter_iter ?_ (args_listiter_iter _))
  show wpAny _ _ (ret (.ref it)) _ _ s
  exact wpAny_pure ⟨_, rfl, "list_iterator", _, hT, slot_listiter_next.lookup, h⟩

theorem nextOf_range_item {it : Addr} {x left step : Int} {Q : Value → Shared → Prop} (hit : IsRangeIter s.heap it x left step) (hleft : 0 < left)
    (hQ : ∀ h', IsRangeIter h' it (x + step) (left - 1) step → Heap.SameBut it s.heap h' → Q (.int x s.toks) { s with heap := h', toks := s.toks + 1 }) :
    wpAny (model prog w) A (Builtin.SmallTypes.nextOf (.ref it)) Q E s := by
  have hT : s.TypeIs (.ref it) "range_iterator" := ⟨_, hit, rfl⟩
  unfold Builtin.SmallTypes.nextOf
  refine wpAny_bind (wpAny_callSpecial?_slot (name := Str.ofString "__next__") hT F.slot_range_iterator_next
    (call_meets F.slot_range_iterator_next hT F.entry_range_iterator_next (F.args_range_iterator_next_1 _) (AutoRange.range_iterator___next___range_iterator_1 it x left step (by (first | lia | omega))) ⟨hit, ?_⟩))
  exact wpAny_pure (hQ _ (Heap.get?_update_self _ (Heap.get?_update_self _ hit rfl) rfl) ((Heap.SameBut.update ..).trans (Heap.SameBut.update ..)))
theorem nextOf_range_end {it : Addr} {x left step : Int} {Q : Value → Shared → Prop} (hh : A.handled = none) (hit : IsRangeIter s.heap it x left step) (hleft : left ≤ 0)
    (hE : ∀ h' e, Heap.ExtBut it s.heap h' → (∃ o, h'.get? e = some o ∧ o.cls = .type "StopIteration") → E (.ref e) { s with heap := h' }) :
    wpAny (model prog w) A (Builtin.SmallTypes.nextOf (.ref it)) Q E s := by
  have hT : s.TypeIs (.ref it) "range_iterator" := ⟨_, hit, rfl⟩
  unfold Builtin.SmallTypes.nextOf
  refine wpAny_bind (wpAny_callSpecial?_slot (name := Str.ofString "__next__") hT F.slot_range_iterator_next
    (wpAny_call_entry F.slot_range_iterator_next hT F.entry_range_iterator_next ?_ (F.args_range_iterator_next_1 _)))
  show wpAny _ _ (field (.ref it) 0 >>= _) _ _ s
  refine wpAny_bind (wpAny_field hit rfl (x := rawInt x) rfl ?_)
  show wpAny _ _ (field (.ref it) 1 >>= _) _ _ s
  refine wpAny_bind (wpAny_field hit rfl (x := rawInt left) rfl ?_)
  show wpAny _ _ (field (.ref it) 2 >>= _) _ _ s
  refine wpAny_bind (wpAny_field hit rfl (x := rawInt step) rfl ?_)
  show wpAny _ _ (if left ≤ 0 then _ else _) _ _ s
  rw [if_pos hleft]
  refine wpAny_bind (wpAny_rule ?_)
  refine wpAny_bind ?_
  show wpAny _ _ (newExc (.type "StopIteration") [] >>= _) _ _ _
  refine wpAny_bind ?_
  simp only [newExc, newTuple]
  refine wpAny_bind (wpAny_newObj_type ?_ (by size_fits))
  refine wpAny_bind (m := firstArgMember _ _) (wpAny_of_eq (a := Value.none) (by first | rfl | (simp only [firstArgMember]; rfl)) ?_)
  refine wpAny_newObj_type ?_ (by size_fits)
  simp only [raiseNew]
  refine wpAny_bind (wpAny_handled ?_)
  first | rw [show A.in1.handled = none from hh] | rw [hh]
  refine wpAny_bind (wpAny_pure (wpAny_throw ?_))
  exact hE _ _ (((Heap.ExtBut.refl it s.heap).push _).push _) ⟨_, Heap.get?_push_size _ rfl, rfl⟩
end

/-- the rest of a list's iterator, from a place on -/
theorem Walks.rest {prog : Program} {w : World} {A : Around} (hh : A.handled = none) (I ax : Addr) (hne : ax ≠ I) (items : Array Value) (j : Nat) (hj : j ≤ items.size) :
    Walks prog w A I [I, ax] [I] (items.size - j) (fun i v => items[j + i]? = some v) (fun i h => ItSt h I ax items.size (j + i) ∧ h.IsList ax items) where
  sub := fun b hb => by simp at hb; simp [hb]
  frame := fun _ _ _ st hk => ⟨st.1.at fun o e => hk I (by simp) o e, st.2.at fun o e => hk ax (by simp) o e⟩
  item := fun i s Q E hi st hQ => by
    have hlt : j + i < items.size := by (first | lia | omega)
    refine wpAny_pyNext_list_item (st.1.run hlt) st.2 (x := items[j + i]) (by simp [hlt]) fun h' hit' hs' => ?_
    exact hQ _ h' s.toks (by simp [hlt]) ⟨.inl ⟨hit', by (first | lia | omega)⟩, st.2.extBut hs'.extBut hne⟩ fun b o hb e => hs'.extBut b o (fun h => hb (by simp [h])) e
  done := fun s Q E st hQ => by
    have e : j + (items.size - j) = items.size := by (first | lia | omega)
    rw [e] at st
    exact pyNext_li_end hh st.1 st.2 fun h' he' _ => hQ h' s.toks fun b o hb e => he' b o (fun h => hb (by simp [h])) e
  self := fun _ _ _ _ st hQ => pyIter_li st.1 hQ
end
section
open PySem PySem.W PyProof.Rows PySem.Calls
set_option Elab.async false
set_option maxRecDepth 100000
set_option maxHeartbeats 8000000
example : PySem.Challenge.rw_pd0043_01.prog = PySem.Challenge.rw_pd0043_01.prog → hd.heap_39 = hd.heap_39 := by
  k_fill
  exact fun _ => rfl

/-- zip over a range's iterator and a list's iterator: who is who -/
structure ZA (z TI TO i1 i2 l : Addr) : Prop where
  TIz : TI ≠ z
  TOz : TO ≠ z
  i1z : i1 ≠ z
  i2z : i2 ≠ z
  TITO : TI ≠ TO
  TIi1 : TI ≠ i1
  TIi2 : TI ≠ i2
  TOi1 : TO ≠ i1
  TOi2 : TO ≠ i2
  i12 : i1 ≠ i2
  lz : l ≠ z
  lTO : l ≠ TO
  li1 : l ≠ i1
  li2 : l ≠ i2

section
variable {prog : Program} {w : World} {A : Around} {E : Value → Shared → Prop} {s : Shared}
theorem zipR_item {z TI TO i1 i2 l : Addr} {k : Nat} {x left : Int} {ys : Array Value} {y a b : Value} {Q : Value → Shared → Prop} (D : ZA z TI TO i1 i2 l)
    (hz : IsZip s.heap z TI TO .none) (hTI : IsPair s.heap TI (.ref i1) (.ref i2)) (hTO : IsPair s.heap TO a b)
    (h1 : IsRangeIter s.heap i1 x left 1) (hleft : 0 < left) (h2 : s.heap.IsListIter i2 l k) (hl : s.heap.IsList l ys) (hy : ys[k]? = some y)
    (hQ : ∀ h' t tk, IsZip h' z TI TO (rawInt s.heap.objs.size) → IsPair h' TO (.int x t) y → IsRangeIter h' i1 (x + 1) (left - 1) 1 → h'.IsListIter i2 l (k + 1) → IsPair h' s.heap.objs.size (.int x t) y → h'.objs.size = s.heap.objs.size + 1 →
      (∀ c o, c ≠ z → c ≠ TO → c ≠ i1 → c ≠ i2 → s.heap.get? c = some o → h'.get? c = some o) → Q (.ref s.heap.objs.size) { s with heap := h', toks := tk }) :
    wpAny (model prog w) A (Builtin.«zip.__next__» ⟨[.ref z], []⟩) (fun fin s' => ∃ v, fin = .done (.ret v) ∧ Q v s') E s := by
  show wpAny _ _ (field (.ref z) 2 >>= _) _ _ _
  refine wpAny_bind (wpAny_field hz rfl (x := .bool false) rfl ?_)
  show wpAny _ _ (field (.ref z) 3 >>= _) _ _ _
  refine wpAny_bind (wpAny_field hz rfl (x := .ref TI) rfl ?_)
  refine wpAny_bind (wpAny_seqItems hTI rfl ?_)
  show wpAny _ _ (Builtin.SmallTypes.ownedTupleIsFree (.ref z) >>= _) _ _ _
  refine wpAny_bind ?_
  unfold Builtin.SmallTypes.ownedTupleIsFree
  refine wpAny_bind (wpAny_field hz rfl (x := .none) rfl (wpAny_pure ?_))
  simp only [if_true]
  refine wpAny_bind (wpAny_rule ?_)
  refine wpAny_bind (wpAny_field hz rfl (x := .ref TO) rfl ?_)
  refine wpAny_bind (wpAny_setField_rec hz (by simp) fun h₁ hz₁ hs₁ => ?_)
  replace hz₁ : IsZip h₁ z TI TO .ellipsis := hz₁
  refine wpAny_bind ?_
  simp only [List.zipIdx_cons, List.zipIdx_nil, List.forIn_cons, List.forIn_nil]

  refine wpAny_bind (wpAny_bind (wpAny_onRaise ?_))
  show wpAny _ _ (Builtin.SmallTypes.nextOf (.ref i1) >>= _) _ _ _
  refine wpAny_bind (nextOf_range_item (hs₁.extBut _ _ D.i1z h1) hleft fun h₂ h1₂ hs₂ => wpAny_pure ?_)
  have hTO₂ : IsPair h₂ TO a b := hs₂.extBut _ _ D.TOi1 (hs₁.extBut _ _ D.TOz hTO)
  refine wpAny_bind (wpAny_seqItems hTO₂ rfl ?_)
  refine wpAny_bind (wpAny_updateSeq_pair hTO₂ fun h₃ hTO₃ hs₃ => ?_)
  replace hTO₃ : IsPair h₃ TO (.int x s.toks) b := hTO₃
  refine wpAny_bind (wpAny_letGo (wpAny_pure ?_))

  refine wpAny_bind (wpAny_bind (wpAny_onRaise ?_))
  show wpAny _ _ (Builtin.SmallTypes.nextOf (.ref i2) >>= _) _ _ _
  refine wpAny_bind (wpAny_nextOf_list_item (((h2.extBut hs₁.extBut D.i2z).extBut hs₂.extBut D.i12.symm).extBut hs₃.extBut D.TOi2.symm)
    (((hl.extBut hs₁.extBut D.lz).extBut hs₂.extBut D.li1).extBut hs₃.extBut D.lTO) hy fun h₄ h2₄ hs₄ => wpAny_pure ?_)
  have hTO₄ : IsPair h₄ TO (.int x s.toks) b := hs₄.extBut _ _ D.TOi2 hTO₃
  refine wpAny_bind (wpAny_seqItems hTO₄ rfl ?_)
  refine wpAny_bind (wpAny_updateSeq_pair hTO₄ fun h₅ hTO₅ hs₅ => ?_)
  replace hTO₅ : IsPair h₅ TO (.int x s.toks) y := hTO₅
  refine wpAny_bind (wpAny_letGo (wpAny_pure (wpAny_pure ?_)))

  refine wpAny_bind (wpAny_seqItems hTO₅ rfl ?_)
  refine wpAny_bind (wpAny_newTuple ?_)
  have hsz : h₅.objs.size = s.heap.objs.size := by rw [hs₅.1, hs₄.1, hs₃.1, hs₂.1, hs₁.1]
  have hz₅ : IsZip h₅ z TI TO .ellipsis := hs₅.extBut _ _ D.TOz.symm (hs₄.extBut _ _ D.i2z.symm (hs₃.extBut _ _ D.TOz.symm (hs₂.extBut _ _ D.i1z.symm hz₁)))
  have hk₅ : ∀ c o, c ≠ z → c ≠ TO → c ≠ i1 → c ≠ i2 → s.heap.get? c = some o → h₅.get? c = some o := fun c o c1 c2 c3 c4 e =>
    hs₅.extBut _ _ c2 (hs₄.extBut _ _ c4 (hs₃.extBut _ _ c2 (hs₂.extBut _ _ c3 (hs₁.extBut _ _ c1 e))))
  have h1₅ : IsRangeIter h₅ i1 (x + 1) (left - 1) 1 := hs₅.extBut _ _ D.TOi1.symm (hs₄.extBut _ _ D.i12 (hs₃.extBut _ _ D.TOi1.symm h1₂))
  have h2₅ : h₅.IsListIter i2 l (k + 1) := h2₄.extBut hs₅.extBut D.TOi2.symm
  have hzlt : z < h₅.objs.size := Heap.lt_size hz₅
  show wpAny _ _ (Builtin.SmallTypes.ownedTupleHandOut (.ref z) (.ref h₅.objs.size) >>= _) _ _ _
  refine wpAny_bind ?_
  unfold Builtin.SmallTypes.ownedTupleHandOut
  have hz₆ : IsZip (h₅.push { cls := .type "tuple", data := .seq #[.int x s.toks, y] }) z TI TO .ellipsis := Heap.get?_push_of_some _ hz₅
  refine wpAny_bind (wpAny_setField_rec hz₆ (by simp) fun h₇ hz₇ hs₇ => ?_)
  replace hz₇ : IsZip h₇ z TI TO (rawInt h₅.objs.size) := hz₇
  refine wpAny_setField_rec hz₇ (by simp) fun h₈ hz₈ hs₈ => ?_
  replace hz₈ : IsZip h₈ z TI TO (rawInt h₅.objs.size) := hz₈
  have up : ∀ c o, c ≠ z → h₅.get? c = some o → h₈.get? c = some o := fun c o c1 e => hs₈.extBut _ _ c1 (hs₇.extBut _ _ c1 (Heap.get?_push_of_some _ e))
  have hT₈ : IsPair h₈ h₅.objs.size (.int x s.toks) y := hs₈.extBut _ _ (Nat.ne_of_gt hzlt) (hs₇.extBut _ _ (Nat.ne_of_gt hzlt) (Heap.get?_push_size _ rfl))
  have hz8 : h₈.objs.size = h₅.objs.size + 1 := by rw [hs₈.1, hs₇.1, Heap.size_push]
  rw [hsz] at hz₈ hT₈ hz8
  refine wpAny_pure ⟨_, rfl, ?_⟩
  show Q (.ref h₅.objs.size) _
  rw [hsz]
  exact hQ h₈ _ _ hz₈ (up _ _ D.TOz hTO₅) (up _ _ D.i1z h1₅) (h2₅.at fun o e => up _ o D.i2z e) hT₈ hz8 fun c o c1 c2 c3 c4 e => up c o c1 (hk₅ c o c1 c2 c3 c4 e)

theorem zipR_end {z TI TO i1 i2 l : Addr} {k : Nat} {x left : Int} {ys : Array Value} {a b : Value} {Q : Fin → Shared → Prop} (hh : A.handled = none) (D : ZA z TI TO i1 i2 l)
    (hz : IsZip s.heap z TI TO .none) (hTI : IsPair s.heap TI (.ref i1) (.ref i2)) (hTO : IsPair s.heap TO a b)
    (h1 : IsRangeIter s.heap i1 x left 1) (h2 : ItSt s.heap i2 l ys.size k) (hl : s.heap.IsList l ys) (hend : left ≤ 0 ∨ k = ys.size)
    (hE : ∀ h' e, (∀ c o, c ≠ z → c ≠ TO → c ≠ i1 → c ≠ i2 → s.heap.get? c = some o → h'.get? c = some o) → ItSt h' i2 l ys.size k → (∃ o, h'.get? e = some o ∧ o.cls = .type "StopIteration") → ∀ tk, E (.ref e) { s with heap := h', toks := tk }) :
    wpAny (model prog w) A (Builtin.«zip.__next__» ⟨[.ref z], []⟩) Q E s := by
  show wpAny _ _ (field (.ref z) 2 >>= _) _ _ _
  refine wpAny_bind (wpAny_field hz rfl (x := .bool false) rfl ?_)
  show wpAny _ _ (field (.ref z) 3 >>= _) _ _ _
  refine wpAny_bind (wpAny_field hz rfl (x := .ref TI) rfl ?_)
  refine wpAny_bind (wpAny_seqItems hTI rfl ?_)
  show wpAny _ _ (Builtin.SmallTypes.ownedTupleIsFree (.ref z) >>= _) _ _ _
  refine wpAny_bind ?_
  unfold Builtin.SmallTypes.ownedTupleIsFree
  refine wpAny_bind (wpAny_field hz rfl (x := .none) rfl (wpAny_pure ?_))
  simp only [if_true]
  refine wpAny_bind (wpAny_rule ?_)
  refine wpAny_bind (wpAny_field hz rfl (x := .ref TO) rfl ?_)
  refine wpAny_bind (wpAny_setField_rec hz (by simp) fun h₁ hz₁ hs₁ => ?_)
  replace hz₁ : IsZip h₁ z TI TO .ellipsis := hz₁
  refine wpAny_bind ?_
  simp only [List.zipIdx_cons, List.zipIdx_nil, List.forIn_cons, List.forIn_nil]
  refine wpAny_bind (wpAny_bind (wpAny_onRaise ?_))
  show wpAny _ _ (Builtin.SmallTypes.nextOf (.ref i1) >>= _) _ _ _
  by_cases hx : left ≤ 0
  · refine wpAny_bind (nextOf_range_end hh (hs₁.extBut _ _ D.i1z h1) hx fun h₂ e hs₂ he => ?_)
    obtain ⟨oe, hoe, hce⟩ := he
    have hz₂ : IsZip h₂ z TI TO .ellipsis := hs₂ _ _ D.i1z.symm hz₁
    have hez : e ≠ z := fun x => by subst x; rw [hz₂] at hoe; cases hoe; simp at hce
    exact wpAny_setField_rec hz₂ (by simp) fun h₃ _ hs₃ => hE h₃ e (fun c o c1 _ c3 _ x => hs₃.extBut _ _ c1 (hs₂ _ _ c3 (hs₁.extBut _ _ c1 x)))
      (h2.at fun o e => hs₃.extBut _ _ D.i2z (hs₂ _ _ D.i12.symm (hs₁.extBut _ _ D.i2z e))) ⟨oe, hs₃.extBut _ _ hez hoe, hce⟩ _
  · have hk : k = ys.size := hend.resolve_left hx
    subst hk
    refine wpAny_bind (nextOf_range_item (hs₁.extBut _ _ D.i1z h1) (by (first | lia | omega)) fun h₂ h1₂ hs₂ => wpAny_pure ?_)
    have hTO₂ : IsPair h₂ TO a b := hs₂.extBut _ _ D.TOi1 (hs₁.extBut _ _ D.TOz hTO)
    refine wpAny_bind (wpAny_seqItems hTO₂ rfl ?_)
    refine wpAny_bind (wpAny_updateSeq_pair hTO₂ fun h₃ hTO₃ hs₃ => ?_)
    refine wpAny_bind (wpAny_letGo (wpAny_pure ?_))
    refine wpAny_bind (wpAny_bind (wpAny_onRaise ?_))
    show wpAny _ _ (Builtin.SmallTypes.nextOf (.ref i2) >>= _) _ _ _
    refine wpAny_bind (nextOf_li_end hh (h2.at fun o e => hs₃.extBut _ _ D.TOi2.symm (hs₂.extBut _ _ D.i12.symm (hs₁.extBut _ _ D.i2z e)))
      (((hl.extBut hs₁.extBut D.lz).extBut hs₂.extBut D.li1).extBut hs₃.extBut D.lTO) fun h₄ e hs₄ hen he => ?_)
    obtain ⟨oe, hoe, hce⟩ := he
    have hz₄ : IsZip h₄ z TI TO .ellipsis := hs₄ _ _ D.i2z.symm (hs₃.extBut _ _ D.TOz.symm (hs₂.extBut _ _ D.i1z.symm hz₁))
    have hez : e ≠ z := fun x => by subst x; rw [hz₄] at hoe; cases hoe; simp at hce
    exact wpAny_setField_rec hz₄ (by simp) fun h₅ _ hs₅ => hE h₅ e (fun c o c1 c2 c3 c4 x => hs₅.extBut _ _ c1 (hs₄ _ _ c4 (hs₃.extBut _ _ c2 (hs₂.extBut _ _ c3 (hs₁.extBut _ _ c1 x)))))
      (.inr ⟨rfl, hen.at fun o e => hs₅.extBut _ _ D.i2z e⟩) ⟨oe, hs₅.extBut _ _ hez hoe, hce⟩ _
end

/-- the library's KTurns, with what holds at the end -/
structure KT (prog : Program) (w : World) (A : Around) (target : Expr) (I : Addr) (fp wr : List Addr) (n : Nat) (P Md : Nat → Value → Heap → Prop) (St : Nat → Heap → Prop) (En : Heap → Prop) : Prop where
  sub : ∀ b ∈ wr, b ∈ fp
  frame : ∀ i h h', St i h → (∀ b ∈ fp, ∀ o, h.get? b = some o → h'.get? b = some o) → St i h'
  item : ∀ i (s : Shared) (Q : Option Value → Shared → Prop) (E : Value → Shared → Prop), i < n → St i s.heap →
    (∀ v h' tk, Md i v h' → (∀ b o, b ∉ wr → s.heap.get? b = some o → h'.get? b = some o) → Q (some v) { s with heap := h', toks := tk }) → wpAny (model prog w) A (pyNext (.ref I)) Q E s
  go : ∀ i v (s : Shared) (Q : Unit → Shared → Prop) (E : Value → Shared → Prop), Md i v s.heap →
    (∀ h', P i v h' → St (i + 1) h' → (∀ b o, b ∉ wr → s.heap.get? b = some o → h'.get? b = some o) → Q () { s with heap := h' }) → wpAny (model prog w) A (letOwnedTupleGo target (.ref I) v) Q E s
  done : ∀ (s : Shared) (Q : Option Value → Shared → Prop) (E : Value → Shared → Prop), St n s.heap →
    (∀ h' tk, En h' → (∀ b o, b ∉ wr → s.heap.get? b = some o → h'.get? b = some o) → Q none { s with heap := h', toks := tk }) → wpAny (model prog w) A (pyNext (.ref I)) Q E s
  self : ∀ i (s : Shared) (Q : Value → Shared → Prop) (E : Value → Shared → Prop), St i s.heap → Q (.ref I) s → wpAny (model prog w) A (pyIter (.ref I)) Q E s

theorem KT.zipR {prog : Program} {w : World} {A : Around} {elts : List Expr} {kk : Nat} {pos : Pos} (hh : A.handled = none) (z TI TO i1 i2 l : Addr) (D : ZA z TI TO i1 i2 l) (n : Nat) (ys : Array Value) :
    KT prog w A (.Tuple elts kk pos) z [z, TI, TO, i1, i2, l] [z, TO, i1, i2] (min n ys.size)
      (fun i v h => ∃ T t y, v = .ref T ∧ ys[i]? = some y ∧ IsPair h T (.int i t) y)
      (fun i v h => ∃ T t y, v = .ref T ∧ ys[i]? = some y ∧ IsPair h T (.int i t) y ∧ T ≠ z ∧ IsZip h z TI TO (rawInt T) ∧ IsPair h TI (.ref i1) (.ref i2) ∧ (∃ a b, IsPair h TO a b) ∧ IsRangeIter h i1 ((i : Int) + 1) ((n : Int) - i - 1) 1 ∧ h.IsListIter i2 l (i + 1) ∧ i + 1 ≤ ys.size ∧ h.IsList l ys)
      (fun i h => IsZip h z TI TO .none ∧ IsPair h TI (.ref i1) (.ref i2) ∧ (∃ a b, IsPair h TO a b) ∧ IsRangeIter h i1 (i : Int) ((n : Int) - i) 1 ∧ ItSt h i2 l ys.size i ∧ h.IsList l ys)
      (fun h => ItSt h i2 l ys.size (min n ys.size)) where
  sub := fun c hc => by simp at hc ⊢; rcases hc with rfl | rfl | rfl | rfl <;> simp
  frame := fun i h h' hst hk => by
    obtain ⟨hz, hTI, ⟨a, b, hTO⟩, h1, h2, hl⟩ := hst
    exact ⟨hk z (by simp) _ hz, hk TI (by simp) _ hTI, ⟨a, b, hk TO (by simp) _ hTO⟩, hk i1 (by simp) _ h1, h2.at fun o e => hk i2 (by simp) o e, hl.at fun o e => hk l (by simp) o e⟩
  item := fun i s Q E hi hst hQ => by
    obtain ⟨hz, hTI, ⟨a, b, hTO⟩, h1, h2, hl⟩ := hst
    have hiy : i < ys.size := by (first | lia | omega)
    have hT : s.TypeIs (.ref z) "zip" := ⟨_, hz, rfl⟩
    unfold pyNext
    refine wpAny_bind (wpAny_attempt (wpAny_callSpecial?_slot (name := Str.ofString "__next__") hT F.slot_zip_next
      (wpAny_call_entry F.slot_zip_next hT F.entry_zip_next
        (zipR_item D hz hTI hTO h1 (by (first | lia | omega)) (h2.run hiy) hl (Array.getElem?_eq_getElem hiy) fun h' t tk a1 a2 a3 a4 a5 a6 hk => wpAny_pure ?_) (F.args_zip_next_1 _))))
    exact hQ _ h' tk ⟨s.heap.objs.size, t, _, rfl, Array.getElem?_eq_getElem hiy, a5, Nat.ne_of_gt (Heap.lt_size hz), a1, hk _ _ D.TIz D.TITO D.TIi1 D.TIi2 hTI, ⟨_, _, a2⟩, a3, a4, hiy, hl.at fun o e => hk _ o D.lz D.lTO D.li1 D.li2 e⟩
      fun c o hc e => hk c o (fun x => hc (by simp [x])) (fun x => hc (by simp [x])) (fun x => hc (by simp [x])) (fun x => hc (by simp [x])) e
  go := fun i v s Q E hm hQ => by
    obtain ⟨T, t, y, rfl, hy, hT, hTz, hz, hTI, ⟨a, b, hTO⟩, h1, h2, hle, hl⟩ := hm
    refine wpAny_letOwnedTupleGo_zip hz fun h' hz' hs' => hQ h' ⟨T, t, y, rfl, hy, hs'.extBut _ _ hTz hT⟩ ⟨hz', hs'.extBut _ _ D.TIz hTI, ⟨a, b, hs'.extBut _ _ D.TOz hTO⟩, ?_, .inl ⟨h2.extBut hs'.extBut D.i2z, hle⟩, hl.extBut hs'.extBut D.lz⟩ fun c o hc e => hs'.extBut _ _ (fun x => hc (by simp [x])) e
    have e1 : (((i + 1 : Nat) : Int)) = (i : Int) + 1 := by push_cast; rfl
    have e2 : (n : Int) - ((i + 1 : Nat) : Int) = (n : Int) - i - 1 := by push_cast; (first | lia | omega)
    rw [e1] at e2 ⊢
    rw [e2]
    exact hs'.extBut _ _ D.i1z h1
  done := fun s Q E hst hQ => by
    obtain ⟨hz, hTI, ⟨a, b, hTO⟩, h1, h2, hl⟩ := hst
    have hT : s.TypeIs (.ref z) "zip" := ⟨_, hz, rfl⟩
    unfold pyNext
    refine wpAny_bind (wpAny_attempt (wpAny_callSpecial?_slot (name := Str.ofString "__next__") hT F.slot_zip_next
      (wpAny_call_entry F.slot_zip_next hT F.entry_zip_next (zipR_end (by exact hh) D hz hTI hTO h1 h2 hl (by (first | lia | omega)) fun h' e hk hen he tk => ?_) (F.args_zip_next_1 _))))
    obtain ⟨o, ho, hc⟩ := he
    refine wpAny_bind (wpAny_isInstance (T := "StopIteration") (b := true) ⟨o, ho, hc⟩ isSubtype_stop ?_)
    exact wpAny_pure (hQ _ tk hen fun c o hc e => hk c o (fun x => hc (by simp [x])) (fun x => hc (by simp [x])) (fun x => hc (by simp [x])) (fun x => hc (by simp [x])) e)
  self := fun i s Q E hst hQ => wpAny_pyIter_zip hst.1 hQ

/-- a list's own iterator under a tuple target -/
theorem KT.list {prog : Program} {w : World} {A : Around} {elts : List Expr} {kk : Nat} {pos : Pos} (hh : A.handled = none) (I ax : Addr) (hne : ax ≠ I) (as : List Addr) :
    KT prog w A (.Tuple elts kk pos) I [I, ax] [I] as.length (fun i v _ => ∃ a, as[i]? = some a ∧ v = .ref a)
      (fun i v h => (∃ a, as[i]? = some a ∧ v = .ref a) ∧ h.IsListIter I ax (i + 1) ∧ h.IsList ax (as.map Value.ref).toArray)
      (fun i h => h.IsListIter I ax i ∧ h.IsList ax (as.map Value.ref).toArray) (fun _ => True) where
  sub := fun b hb => by simp at hb; simp [hb]
  frame := fun _ _ _ st hk => ⟨st.1.at fun o e => hk I (by simp) o e, st.2.at fun o e => hk ax (by simp) o e⟩
  item := fun i s Q E hi st hQ => by
    refine wpAny_pyNext_list_item st.1 st.2 (x := .ref as[i]) (by simp [hi]) fun h' hit' hs' => ?_
    exact hQ _ h' s.toks ⟨⟨as[i], by simp [hi], rfl⟩, hit', st.2.extBut hs'.extBut hne⟩ fun b o hb e => hs'.extBut b o (fun h => hb (by simp [h])) e
  go := fun i v s Q E hm hQ => by
    obtain ⟨⟨a, ha, rfl⟩, hit, hl⟩ := hm
    exact wpAny_letOwnedTupleGo_listiter hit (hQ s.heap ⟨a, ha, rfl⟩ ⟨hit, hl⟩ fun _ _ _ e => e)
  done := fun s Q E st hQ => wpAny_pyNext_list_end hh st.1 st.2 (by simp) fun h' he' => hQ h' s.toks trivial fun b o hb e => he' b o (fun h => hb (by simp [h])) e
  self := fun _ _ _ _ st hQ => wpAny_pyIter_listiter st.1 hQ
end
section
open PySem PySem.W PyProof.Rows PySem.Calls
set_option Elab.async false
set_option maxRecDepth 100000
set_option maxHeartbeats 8000000
example : PySem.Challenge.rw_pd0043_01.prog = PySem.Challenge.rw_pd0043_01.prog → hd.heap_39 = hd.heap_39 := by
  k_fill
  exact fun _ => rfl

open PyProof.Rows.LCg (NsObj lst)
section
variable {prog : Program} {w : World} {A : Around} {E : Value → Shared → Prop} {s₂ : Shared} {h₀ : Heap} {L I : Addr} {m : Str → Option Value} {news fz : List (Addr × Obj)} {env : Env}
  {fp wr : List Addr} {n : Nat} {P Md : Nat → Value → Heap → Prop} {St : Nat → Heap → Prop} {En : Heap → Prop}

theorem compT {elt target iter : Expr} {scope : Scope} {cl : List (Str × Addr)} {pos : Pos} {RR : Value → Addr → Result → Shared → Prop} (J : Nat → List Value → List (Addr × Obj) → Prop)
    (W : KT prog w A target I fp wr n P Md St En) (hsz : n ≤ sizeLine) (hLf : L ∉ fp) (hwr0 : ∀ b ∈ wr, h₀.get? b = none) (hob : ∀ i h, St i h → ∀ b ∈ wr, ∃ o, h.get? b = some o)
    (hfz : ∀ b ∈ fp, b ∉ wr → (∃ o, h₀.get? b = some o) ∨ (∃ o, (b, o) ∈ fz)) (hfzw : ∀ p ∈ fz, p.1 ∉ wr) (hfp : ∀ b ∈ fp, b < s₂.heap.objs.size)
    (hcell : ∀ y ∈ scope.names, y.2 ≠ .cell) (hkind : scope.kind = .function)
    (hst : St 0 s₂.heap) (F : Fr h₀ L s₂.heap m) (N : News h₀ L s₂.heap (fz ++ news)) (hnw : ∀ p ∈ news, p.1 ∉ wr) (hJ : J 0 [] news)
    (turn : ∀ i v ys news₁ C oC D m₂ h tk own, i < n → P i v h → J i ys news₁ → ys.length ≤ i → (∀ p ∈ own, p.1 ∈ wr) → (∀ b ∈ wr, ∃ o, (b, o) ∈ own) → (∀ p ∈ news₁, p.1 ∉ wr ∧ p.1 ≠ C ∧ p.1 ≠ D) → (∀ p ∈ own ++ fz, p.1 ≠ C ∧ p.1 ≠ D) → C ≠ D → NsObj oC m₂ →
      Fr h₀ L h m → News h₀ L h ((C, oC) :: (D, lst ys) :: ((own ++ fz) ++ news₁)) →
      wpAny (model prog w) A (assign target (compEnvC scope cl C env) v) (fun _ s₃ =>
        wpAny (model prog w) A (eval elt (compEnvC scope cl C env)) (fun y s₅ => TurnC s₂ h₀ L m wr C D (lst ys) (own ++ fz) (J (i + 1)) (ys ++ [y]) s₅) (fun _ _ => False) s₃) (fun _ _ => False) { s₂ with heap := h, toks := tk })
    (hRR : ∀ D C h tk m' ys news₁, J n ys news₁ → En h → D ∉ wr → C ∉ wr → Fr h₀ L h m → News h₀ L h ((D, lst ys) :: (fz ++ news₁)) → h.Ns C m' → C ≠ L → C ≠ D → h₀.get? C = none → (∀ p ∈ fz ++ news₁, p.1 ≠ C ∧ p.1 ≠ D) → RR (.ref D) C (.ok .next) { s₂ with heap := h, toks := tk }) :
    wpAny (model prog w) A (newList []) (fun acc s₃ => wpAny (model prog w) A (newFunctionEnv scope env.globals cl [] env.qual none .none (some env)) (fun cenv s₄ =>
      codeAny (model prog w) A (.compStart (.ListComp elt [⟨target, iter, [], 0⟩] scope pos) 0 (.ref I) acc { cenv with scope := relabel scope env }) (RR acc cenv.locals) s₄) E s₃) E s₂ := by
  refine wpAny_newObj_type (wpAny_newFunctionEnv hcell (by intro y hy; simp at hy) (fun h₁ hns₁ hsb₁ => ?_) hkind)
  dsimp only at hns₁ hsb₁ ⊢
  generalize hH2 : s₂.heap.push { cls := .type "list", dict := none, data := .seq ([] : List Value).toArray } = H2 at hns₁ hsb₁ ⊢
  have hC : H2.objs.size = s₂.heap.objs.size + 1 := by rw [← hH2, Heap.size_push]
  have below : ∀ b, b < s₂.heap.objs.size → b ≠ H2.objs.size ∧ b ≠ s₂.heap.objs.size := fun b hb => ⟨by rw [hC]; exact Nat.ne_of_lt (Nat.lt_succ_of_lt hb), Nat.ne_of_lt hb⟩
  have old : ∀ b o, s₂.heap.get? b = some o → h₁.get? b = some o := fun b o e => hsb₁.extBut b o (below b (Heap.lt_size e)).1 (Heap.get?_push_of_some _ (hH2 ▸ Heap.get?_push_of_some _ e))
  have hDC : s₂.heap.objs.size ≠ H2.objs.size := by rw [hC]; exact Nat.ne_of_lt (Nat.lt_succ_self _)
  have hacc : h₁.get? s₂.heap.objs.size = some (lst []) := hsb₁.extBut _ _ hDC (Heap.get?_push_of_some _ (hH2 ▸ Heap.get?_push_size _ rfl))
  have hst₁ : St 0 h₁ := W.frame _ _ _ hst fun b _ o e => old b o e
  have fresh₀ : ∀ a, s₂.heap.objs.size ≤ a → h₀.get? a = none := fun a ha => by
    cases e : h₀.get? a with
    | none => rfl
    | some o' => exact absurd (Heap.lt_size (F.keep _ _ e)) (Nat.not_lt.mpr ha)
  have hLlt : L < s₂.heap.objs.size := F.ns.lt
  have hD₀ : h₀.get? s₂.heap.objs.size = none := fresh₀ _ (Nat.le_refl _)
  have hC₀ : h₀.get? H2.objs.size = none := fresh₀ _ (by rw [hC]; exact Nat.le_succ _)
  have hDf : s₂.heap.objs.size ∉ fp := fun hm => Nat.lt_irrefl _ (hfp _ hm)
  have hCf : H2.objs.size ∉ fp := fun hm => by have := hfp _ hm; rw [hC] at this; exact Nat.lt_irrefl _ (Nat.lt_of_succ_lt this)
  have hDL : s₂.heap.objs.size ≠ L := Ne.symm (below L hLlt).2
  have hCL : H2.objs.size ≠ L := Ne.symm (below L hLlt).1
  have hDw : s₂.heap.objs.size ∉ wr := fun h => hDf (W.sub _ h)
  have hCw : H2.objs.size ∉ wr := fun h => hCf (W.sub _ h)
  have hLw : L ∉ wr := fun h => hLf (W.sub _ h)
  have offO : ∀ p ∈ fz ++ news, p.1 ≠ H2.objs.size ∧ p.1 ≠ s₂.heap.objs.size := fun p hp => below _ (Heap.lt_size (N p hp).1)
  have hF1 : Fr h₀ L h₁ m := ⟨F.ns.at' fun o e => old _ _ e, fun b o e => old _ _ (F.keep b o e), F.above⟩
  generalize H2.objs.size = C at *
  generalize hDe : s₂.heap.objs.size = D at *
  have loop : ∀ s₃ : Shared, s₃ = { s₂ with heap := h₁, toks := s₂.toks + ([] : List (Str × Value)).length } →
      codeAny (model prog w) A (.compLoop (.ListComp elt [⟨target, iter, [], 0⟩] scope pos) 0 (.ref I) (.ref D) (compEnvC scope cl C env)) (RR (.ref D) C) s₃ := by
    rintro s₃ rfl
    refine kcp_loop
      (fun k s' => ∃ h' tk i ys m' news', s' = { s₂ with heap := h', toks := tk } ∧ i ≤ n ∧ k = n - i ∧ ys.length ≤ i ∧ St i h' ∧ Fr h₀ L h' m ∧ h'.Ns C m' ∧ News h₀ L h' ((D, lst ys) :: (fz ++ news')) ∧
        (∀ p ∈ news', p.1 ∉ wr ∧ p.1 ≠ C ∧ p.1 ≠ D) ∧ J i ys news') ?_ n
      ⟨h₁, _, 0, [], _, news, rfl, Nat.zero_le _, rfl, Nat.le_refl _, hst₁, hF1, hns₁, fun p hp => ?_, fun p hp => ⟨hnw p hp, offO p (List.mem_append.mpr (.inr hp))⟩, hJ⟩
    · rintro k s' ⟨h', tk, i, ys, m', news', rfl, hi, rfl, hyl, hst', F', hn', N', off', hJ'⟩
      have keepF : ∀ h'', (∀ b o, b ∉ wr → h'.get? b = some o → h''.get? b = some o) → Fr h₀ L h'' m := fun h'' hk => by
        obtain ⟨oL, a1, a2, hoL, a3⟩ := F'.ns
        exact ⟨⟨oL, a1, a2, hk _ _ hLw hoL, a3⟩, fun b o e => hk b o (fun hb => by rw [hwr0 b hb] at e; cases e) (F'.keep b o e), F'.above⟩
      have notw : ∀ p ∈ (D, lst ys) :: (fz ++ news'), p.1 ∉ wr := fun p hp => by
        rcases List.mem_cons.mp hp with rfl | hp
        · exact hDw
        · exact (List.mem_append.mp hp).elim (hfzw p) fun h => (off' p h).1
      have keepN : ∀ h'', (∀ b o, b ∉ wr → h'.get? b = some o → h''.get? b = some o) → News h₀ L h'' ((D, lst ys) :: (fz ++ news')) := fun h'' hk p hp =>
        ⟨hk _ _ (notw p hp) (N' p hp).1, (N' p hp).2⟩
      by_cases hlt : i < n
      · refine W.item i _ _ _ hlt hst' fun v h₁₁ tk₂ hMd hk₁₁ => ?_
        dsimp only at hk₁₁ ⊢
        refine W.go i v _ _ _ hMd fun h₂ hPv hst₂ hk₂₂ => ?_
        dsimp only at hk₂₂ ⊢
        have hk₂ : ∀ b o, b ∉ wr → h'.get? b = some o → h₂.get? b = some o := fun b o hb e => hk₂₂ b o hb (hk₁₁ b o hb e)
        clear hMd hk₁₁ hk₂₂
        obtain ⟨own, hown1, hown2⟩ : ∃ own : List (Addr × Obj), (∀ p ∈ own, p.1 ∈ wr ∧ h₂.get? p.1 = some p.2) ∧ ∀ b ∈ wr, ∃ o, (b, o) ∈ own := by
          have hex := hob _ _ hst₂
          clear turn hRR hfzw hfz hnw hwr0 hLw keepF keepN notw hk₂ W hLf hob off' hDw hCw
          induction wr with
          | nil => exact ⟨[], (fun _ h => nomatch h), (fun _ h => nomatch h)⟩
          | cons b r ih =>
            obtain ⟨own, o1, o2⟩ := ih fun c hc => hex c (.tail _ hc)
            obtain ⟨o, ho⟩ := hex b (.head _)
            refine ⟨(b, o) :: own, fun p hp => ?_, fun c hc => ?_⟩
            · rcases List.mem_cons.mp hp with rfl | hp
              · exact ⟨.head _, ho⟩
              · exact ⟨.tail _ (o1 p hp).1, (o1 p hp).2⟩
            · rcases List.mem_cons.mp hc with rfl | hc
              · exact ⟨o, .head _⟩
              · obtain ⟨o', ho'⟩ := o2 c hc; exact ⟨o', .tail _ ho'⟩
        have hnC : h₂.Ns C m' := hn'.at' fun o e => hk₂ _ o hCw e
        obtain ⟨oC, hoC, hNs⟩ := LCg.ns_obj hnC
        have N₂ : News h₀ L h₂ ((C, oC) :: (D, lst ys) :: ((own ++ fz) ++ news')) := fun p hp => by
          rcases List.mem_cons.mp hp with rfl | hp
          · exact ⟨hoC, hCL, hC₀⟩
          · rcases List.mem_cons.mp hp with rfl | hp
            · exact keepN h₂ hk₂ _ (.head _)
            · rw [List.append_assoc] at hp
              rcases List.mem_append.mp hp with hp | hp
              · exact ⟨(hown1 p hp).2, fun e => hLw (e ▸ (hown1 p hp).1), hwr0 _ (hown1 p hp).1⟩
              · exact keepN h₂ hk₂ p (.tail _ hp)
        have offF : ∀ p ∈ own ++ fz, p.1 ≠ C ∧ p.1 ≠ D := fun p hp => by
          rcases List.mem_append.mp hp with hp | hp
          · exact ⟨fun e => hCw (e ▸ (hown1 p hp).1), fun e => hDw (e ▸ (hown1 p hp).1)⟩
          · exact offO p (List.mem_append.mpr (.inl hp))
        have fin : ∀ s₅ ys', ys'.length ≤ i + 1 → (∃ h' tk' oC' m' news', s₅ = { s₂ with heap := h', toks := tk' } ∧ Fr h₀ L h' m ∧ News h₀ L h' ((C, oC') :: (D, lst ys') :: ((own ++ fz) ++ news')) ∧ NsObj oC' m' ∧ (∀ p ∈ news', p.1 ∉ wr ∧ p.1 ≠ C ∧ p.1 ≠ D) ∧ J (i + 1) ys' news') →
            ∃ k, k < n - i ∧ ∃ h' tk i ys m' news', s₅ = { s₂ with heap := h', toks := tk } ∧ i ≤ n ∧ k = n - i ∧ ys.length ≤ i ∧ St i h' ∧ Fr h₀ L h' m ∧ h'.Ns C m' ∧ News h₀ L h' ((D, lst ys) :: (fz ++ news')) ∧
              (∀ p ∈ news', p.1 ∉ wr ∧ p.1 ≠ C ∧ p.1 ≠ D) ∧ J i ys news' := by
          rintro s₅ ys' hyl' ⟨h3, tk3, oC3, m3, news3, rfl, F3, N3, hNs3, off3, hJ3⟩
          have hm3 : ∀ p ∈ own ++ fz, p ∈ (C, oC3) :: (D, lst ys') :: ((own ++ fz) ++ news3) := fun p hp => .tail _ (.tail _ (List.mem_append.mpr (.inl hp)))
          refine ⟨n - (i + 1), by (first | lia | omega), h3, tk3, i + 1, ys', m3, news3, rfl, hlt, rfl, hyl', ?_, F3, hNs3.ns (N3 _ (.head _)).1, fun p hp => N3 p ?_, off3, hJ3⟩
          · refine W.frame _ _ _ hst₂ fun b hb o ho => ?_
            by_cases hbw : b ∈ wr
            · obtain ⟨o', ho'⟩ := hown2 b hbw
              have e1 := (hown1 _ ho').2
              have e2 := (N3 (b, o') (hm3 _ (List.mem_append.mpr (.inl ho')))).1
              dsimp only at e1 e2
              rw [ho] at e1; cases e1; exact e2
            · rcases hfz b hb hbw with ⟨o', ho'⟩ | ⟨o', ho'⟩
              · have e1 := (keepF h₂ hk₂).keep _ _ ho'
                rw [ho] at e1; cases e1; exact F3.keep _ _ ho'
              · have e1 := (keepN h₂ hk₂ (b, o') (.tail _ (List.mem_append.mpr (.inl ho')))).1
                have e2 := (N3 (b, o') (hm3 _ (List.mem_append.mpr (.inr ho')))).1
                dsimp only at e1 e2
                rw [ho] at e1; cases e1; exact e2
          · rcases List.mem_cons.mp hp with rfl | hp
            · exact .tail _ (.head _)
            · rcases List.mem_append.mp hp with hp | hp
              · exact hm3 _ (List.mem_append.mpr (.inr hp))
              · exact .tail _ (.tail _ (List.mem_append.mpr (.inr hp)))
        refine wpAny_mono (turn i v ys news' C oC D m' h₂ tk₂ own hlt hPv hJ' hyl (fun p hp => (hown1 p hp).1) hown2 off' offF (Ne.symm hDC) hNs (keepF h₂ hk₂) N₂) (fun _ s₃ h₃ => ?_) fun _ _ x => x.elim
        · refine wpAny_mono h₃ (fun y s₅ h₅ => ?_) fun _ _ x => x.elim
          obtain ⟨h3, tk3, oC3, m3, news3, rfl, F3, N3, hNs3, off3, hJ3⟩ := h₅
          refine append_K (D := D) (its := ys.toArray) (n := ys.length) (news' := (C, oC3) :: (D, lst (ys ++ [y])) :: ((own ++ fz) ++ news3)) F3 N3 ?_ (fun h4 F4 N4 => ?_) ?_
          · rw [← LCg.lst_snoc]
            refine .tail (Ne.symm hDC) (.head fun p hp => ?_)
            rcases List.mem_append.mp hp with hp | hp
            · exact (offF p hp).2
            · exact (off3 p hp).2.2
          · exact fin _ _ (by rw [List.length_append]; simp only [List.length_cons, List.length_nil]; (first | lia | omega)) ⟨h4, tk3, oC3, m3, news3, rfl, F4, N4, hNs3, off3, hJ3⟩
          · rw [List.size_toArray]; (first | lia | omega)
      · have e : i = n := by (first | lia | omega)
        subst e
        refine W.done _ _ _ hst' fun h'' tk'' hEn hk => ?_
        dsimp only at hk ⊢
        refine hRR D C h'' tk'' m' ys news' hJ' hEn hDw hCw (keepF h'' hk) (keepN h'' hk) (hn'.at' fun o e => hk _ o hCw e) hCL (Ne.symm hDC) hC₀ fun p hp => ?_
        rcases List.mem_append.mp hp with hp | hp
        · exact offO p (List.mem_append.mpr (.inl hp))
        · exact (off' p hp).2
    · rcases List.mem_cons.mp hp with rfl | hp
      · exact ⟨hacc, hDL, hD₀⟩
      · exact ⟨old _ _ (N p hp).1, (N p hp).2⟩
  exact codeAny_compStart_list (loop _ rfl) (W.self 0 _ _ _ hst₁ (loop _ rfl))

end
end
section
open PySem PySem.W PyProof.Rows PySem.Calls
set_option Elab.async false
set_option maxRecDepth 100000
set_option maxHeartbeats 8000000
example : PySem.Challenge.rw_pd0043_01.prog = PySem.Challenge.rw_pd0043_01.prog → hd.heap_39 = hd.heap_39 := by
  k_fill
  exact fun _ => rfl

/-- values that are bytes -/
def BytesAre (kv : List Value) (kb : List (Array UInt8)) : Prop := kv.length = kb.length ∧ ∀ (i : Nat) k, kb[i]? = some k → ∃ t, kv[i]? = some (.bytes k t)
theorem BytesAre.nil : BytesAre [] [] := ⟨rfl, fun i k h => by simp at h⟩
theorem BytesAre.snoc {kv : List Value} {kb : List (Array UInt8)} (h : BytesAre kv kb) (k : Array UInt8) (t : Tok) : BytesAre (kv ++ [.bytes k t]) (kb ++ [k]) := by
  refine ⟨by simp [h.1], fun i k' hk => ?_⟩
  by_cases hi : i < kb.length
  · rw [List.getElem?_append_left hi] at hk
    rw [List.getElem?_append_left (by rw [h.1]; exact hi)]
    exact h.2 i k' hk
  · rw [List.getElem?_append_right (by (first | lia | omega))] at hk
    rw [List.getElem?_append_right (by rw [h.1]; (first | lia | omega)), h.1]
    cases e : i - kb.length with
    | zero => rw [e] at hk; simp at hk; subst hk; exact ⟨t, rfl⟩
    | succ j => rw [e] at hk; simp at hk
/-- the keys' order -/
def ltK (kb : List (Array UInt8)) (i j : Nat) : Bool := bl (kb.getD i #[]).toList (kb.getD j #[]).toList

section
variable {prog : Program} {w : World} {A : Around} {E : Value → Shared → Prop} {s : Shared} {h₀ : Heap} {L a kS : Addr} {m : Str → Option Value} {news : List (Addr × Obj)} {vs ks : List Value}

theorem oneLt_bytes {b c : Array UInt8} {t u : Tok} {Q : Bool → Shared → Prop} (h : Q (bl b.toList c.toList) s) : wpAny (model prog w) A (oneLt' true (.bytes b t) (.bytes c u)) Q E s := by
  rw [oneLt'_eq]
  simp only [if_true]
  refine wpAny_bind (wpAny_cRoomFor_byValue rfl ?_)
  refine wpAny_bind (wpAny_callSpecialIfBound?_slot (typeIs_bytes s b t) slot_bytes_lt (call_meets slot_bytes_lt (typeIs_bytes s b t) entry_bytes_lt (args_bytes_lt_2 _ _) (gives_bytes_lt b c t u).meets ?_))
  exact wpAny_truthy_bool h

theorem kat_end1 {b : Bool} {e e1 : Nat} {P : PySem.Fin → Shared → Prop} (hb : b = false) (hl : ks.length = vs.length) (h2 : vs.length < 2)
    (h : KatFin h₀ L m kS a ks e e1 vs (fun s3 => P (.done (.ret .none)) s3) s) :
    wpAny (model prog w) A (ksk_end a b vs.toArray e1 (.ref kS) (List.toArray ks)) P E s := by
  subst hb
  have hn2 : vs.toArray.size < 2 := by rw [List.size_toArray]; exact h2
  unfold ksk_end
  try dsimp only
  simp only [Bool.false_eq_true, if_false]
  rw [if_pos hn2, if_pos hn2]
  refine wpAny_bind (wpAny_pure ?_)
  refine wpAny_bind (m := (pure () : StateT SortSt Sem Unit).run _) ?_
  rw [StateT.run_pure]
  refine wpAny_pure ?_
  have hout : (arrOf (SortSt.mk' general' ((List.toArray ks).zip vs.toArray) #[] 7 none)).map (·.2) = List.toArray vs := by
    show (((List.toArray ks).zip vs.toArray).map (·.2)) = _
    apply Array.toList_inj.mp
    rw [Array.toList_map, ksk_zip]
    simp only [List.toList_toArray]
    exact List.map_snd_zip (by (first | lia | omega))
  exact kat_tail (b := false) hout (by (first | lia | omega)) (by (first | lia | omega)) rfl h

theorem kat_restG {b : Bool} {f : Value} {e1 : Nat} {P : PySem.Fin → Shared → Prop} {Fin : List Value → Nat → Shared → Prop} (hk : s.heap.get? kS = some (seqObj "list" #[] 0)) (h64 : vs.length < 64)
    (hend : ∀ ks e s', ks.length = vs.length → Fin ks e s' → wpAny (model prog w) A (ksk_end a b vs.toArray e1 (.ref kS) (List.toArray ks)) P E s')
    (h : KatKeys prog w A h₀ L m kS f Fin vs [] 0 s) :
    wpAny (model prog w) A (ksk_rest a f b vs.toArray e1 (.ref kS)) P E s := by
  unfold ksk_rest
  refine wpAny_bind (wpAny_rule ?_)
  first
    | rw [List.forIn_toArray]
    | (rw [← Array.forIn_toList]; simp only [List.toList_toArray])
    | rw [← Array.forIn_toList]
  refine wpAny_bind (wpAny_mono (kat_fold h64 (fun x ks e s' C hz hx => ?_) vs [] 0 s (by simp) hk h) (fun _ s' hd => ?_) fun _ _ x => x)
  · refine wpAny_bind (wpAny_attempt (wpAny_mono hx (fun k s'' hk => ?_) fun _ _ hF => hF.elim))
    obtain ⟨news', g, F', N', U, c⟩ := hk
    obtain ⟨pre, post, e0, hg, x1, x2⟩ := U.split
    rw [e0] at N'
    have nk := N' (kS, seqObj "list" (List.toArray ks) e) (List.mem_append_right _ (.head _))
    have s1 := Heap.SameBut.update s''.heap kS (Obj.mapSeq (·.push k))
    have ea : (List.toArray ks).push k = List.toArray (ks ++ [k]) := by simp
    obtain ⟨c2, hc2⟩ : ∃ c2, (s''.heap.update kS (Obj.mapSeq (·.push k))).get? kS = some (seqObj "list" (List.toArray (ks ++ [k])) c2) := ⟨_, by rw [← ea]; exact get?_update_seq nk.1 (·.push k)⟩
    try dsimp only
    refine wpAny_bind (listUpdate_at nk.1 rfl ?_ (by rw [List.size_toArray, sizeLine_eq]; (first | lia | omega)) (Nat.le_trans (Nat.le_of_eq (Array.size_push ..)) (by rw [List.size_toArray, sizeLine_eq]; (first | lia | omega))))
    exact wpAny_pure ⟨rfl, k, c2, hc2, c _ c2 (kas_fr F' s1 nk.2.1 nk.2.2) (by rw [hg]; exact news_set N' x1 x2 s1 hc2)⟩
  · obtain ⟨ks, e, hk', hl, fin⟩ := hd
    try dsimp only
    refine wpAny_bind (listItems_at hk' rfl ?_)
    exact hend ks e s' hl fin

/-- the keys, one by one -/
theorem keysB {kb : List (Array UInt8)} {q : Value} {e1 : Nat} {Fin : List Value → Nat → Shared → Prop} (s₀ : Shared) (hka : a ≠ kS) (hnk : ∀ p ∈ news, p.1 ≠ kS)
    (turn : ∀ (i : Nat) v k, vs[i]? = some v → kb[i]? = some k → ∀ h tk own, (∀ p ∈ own, p.1 = kS ∨ p.1 = a) → Fr h₀ L h m → News h₀ L h (own ++ news) →
      wpAny (model prog w) A (call q [v]) (fun r s' => ∃ h' tk' t, s' = { s₀ with heap := h', toks := tk' } ∧ r = .bytes k t ∧ Fr h₀ L h' m ∧ News h₀ L h' (own ++ news)) (fun _ _ => False) { s₀ with heap := h, toks := tk })
    (hlen : kb.length = vs.length)
    (hfin : ∀ kv e h tk, BytesAre kv kb → Fr h₀ L h m → News h₀ L h ((kS, seqObj "list" (List.toArray kv) e) :: (a, seqObj "list" #[] e1) :: news) → Fin kv e { s₀ with heap := h, toks := tk }) :
    ∀ (r : List Value) (kv : List Value) (e : Nat) (h : Heap) (tk : Nat), vs.drop kv.length = r → BytesAre kv (kb.take kv.length) → kv.length ≤ vs.length → Fr h₀ L h m → News h₀ L h ((kS, seqObj "list" (List.toArray kv) e) :: (a, seqObj "list" #[] e1) :: news) →
      KatKeys prog w A h₀ L m kS q Fin r kv e { s₀ with heap := h, toks := tk }
  | [], kv, e, h, tk, hr, hB, hle, F, N => by
    have hl : vs.length ≤ kv.length := List.drop_eq_nil_iff.mp hr
    have e1 : kb.take kv.length = kb := List.take_of_length_le (by (first | lia | omega))
    rw [e1] at hB
    exact hfin kv e h tk hB F N
  | v :: r, kv, e, h, tk, hr, hB, hle, F, N => by
    have hlt : kv.length < vs.length := by
      have := congrArg List.length hr
      rw [List.length_drop, List.length_cons] at this
      (first | lia | omega)
    have hv : vs[kv.length]? = some v := by
      have := congrArg (fun l => l[0]?) hr
      simpa using this
    have hk : kb[kv.length]? = some kb[kv.length] := List.getElem?_eq_getElem (by (first | lia | omega))
    refine KatKeys.cons (wpAny_mono (turn kv.length v _ hv hk h tk [(kS, seqObj "list" (List.toArray kv) e), (a, seqObj "list" #[] e1)] (fun p hp => ?_) F N) (fun rr s' h' => ?_) fun _ _ x => x)
    · rcases List.mem_cons.mp hp with rfl | hp
      · exact .inl rfl
      · rw [List.mem_singleton] at hp; subst hp; exact .inr rfl
    · obtain ⟨h1, tk1, t, rfl, rfl, F1, N1⟩ := h'
      refine ⟨(kS, seqObj "list" (List.toArray kv) e) :: (a, seqObj "list" #[] e1) :: news, fun o => (kS, o) :: (a, seqObj "list" #[] e1) :: news, F1, N1, ?_, fun h2 c F2 N2 => ?_⟩
      · refine .head fun p hp => ?_
        rcases List.mem_cons.mp hp with rfl | hp
        · exact hka
        · exact hnk p hp
      · refine keysB s₀ hka hnk turn hlen hfin r (kv ++ [.bytes kb[kv.length] t]) c h2 tk1 ?_ ?_ ?_ F2 N2
        · rw [List.length_append, List.length_singleton, ← List.drop_drop, hr]; rfl
        · rw [List.length_append, List.length_singleton, List.take_succ, hk]
          exact hB.snoc _ _
        · rw [List.length_append, List.length_singleton]; exact hlt

theorem ltK_ord (kb : List (Array UInt8)) : LtOrd (ltK kb) where
  irrefl := fun i => bl_irrefl _
  trans := fun i j k h1 h2 => order_trans _ _ _ h1 h2
  neg := fun i j k h => by
    unfold ltK at *
    cases q : bl (kb.getD i #[]).toList (kb.getD j #[]).toList with
    | true => exact .inl rfl
    | false =>
      right
      rcases order_total (kb.getD i #[]).toList (kb.getD j #[]).toList with z | z | z
      · rw [q] at z; cases z
      · rw [← z]; exact h
      · exact order_trans _ _ _ z h

theorem one_getD (vs : List Value) (h : vs.length = 1) : ([0].map fun i => vs.getD i Value.none) = vs := by
  match vs, h with
  | [v], _ => rfl

theorem sortedB {kb : List (Array UInt8)} {l q : Addr} {Q : Value → Shared → Prop} (F : Fr h₀ L s.heap m) (N : News h₀ L s.heap news) (hl : s.heap.IsList l vs.toArray) (h1 : 1 ≤ vs.length) (h64 : vs.length < 64) (hlen : kb.length = vs.length)
    (turn : ∀ (i : Nat) v k, vs[i]? = some v → kb[i]? = some k → ∀ h tk own, (∀ p ∈ own, ∀ r ∈ news, r.1 < p.1) → Fr h₀ L h m → News h₀ L h (own ++ news) →
      wpAny (model prog w) A.in1.in1 (call (.ref q) [v]) (fun r s' => ∃ h' tk' t, s' = { s with heap := h', toks := tk' } ∧ r = .bytes k t ∧ Fr h₀ L h' m ∧ News h₀ L h' (own ++ news)) (fun _ _ => False) { s with heap := h, toks := tk })
    (h : ∀ D h' tk (pm : List Nat) c, pm.Perm (List.range vs.length) → pm.Pairwise (Rst (ltK kb)) → Fr h₀ L h' m → News h₀ L h' ((D, listOf (List.toArray (pm.map fun i => vs.getD i Value.none)) c) :: news) → (∀ p ∈ news, p.1 < D) → Q (.ref D) { s with heap := h', toks := tk }) :
    wpAny (model prog w) A (call (.builtin "sorted") [.ref l] [(Str.ofString "key", .ref q)]) Q E s := by
  refine call_function_entry_kw kind_sorted plain_sorted entry_sorted (ksk_s1 _ _) ?_
  unfold Builtin.«sorted»
  refine wpAny_bind (m := checkCount "sorted" 1 1 _) (wpAny_pure ?_)
  refine wpAny_bind (collect_list hl ?_ (by rw [sizeLine_eq]; (first | lia | omega)))
  refine wpAny_bind (wpAny_newList ?_ (by rw [sizeLine_eq]; (first | lia | omega)))
  have hsz : ((s.heap.push (seqObj "list" #[] 0)).update s.heap.objs.size (Obj.mapSeq (· ++ vs.toArray))).objs.size = s.heap.objs.size + 1 := by
    rw [Heap.size_update, size_push']
  have hoL : (((s.heap.push (seqObj "list" #[] 0)).update s.heap.objs.size (Obj.mapSeq (· ++ vs.toArray))).push (seqObj "list" vs.toArray 0)).get? (s.heap.objs.size + 1) = some (seqObj "list" vs.toArray 0) := by
    rw [← hsz]; exact Heap.get?_push_size _ rfl
  have keep : ∀ b o, s.heap.get? b = some o → (((s.heap.push (seqObj "list" #[] 0)).update s.heap.objs.size (Obj.mapSeq (· ++ vs.toArray))).push (seqObj "list" vs.toArray 0)).get? b = some o := fun b o q => by
    have hlt : b < s.heap.objs.size := Heap.lt_size q
    rw [Heap.get?_push_ne _ _ _ (by rw [hsz]; exact Nat.ne_of_lt (Nat.lt_succ_of_lt hlt)), Heap.get?_update_ne _ _ _ _ (Nat.ne_of_lt hlt), Heap.get?_push_ne _ _ _ (Nat.ne_of_lt hlt)]
    exact q
  have hL : L < s.heap.objs.size := F.ns.lt
  show wpAny _ _ _ _ _ { s with heap := ((s.heap.push (seqObj "list" #[] 0)).update s.heap.objs.size (Obj.mapSeq (· ++ vs.toArray))).push (seqObj "list" vs.toArray 0) }
  rw [hsz]
  refine wpAny_bind (wpAny_holding (wpAny_call_entry_kw slot_list_sort ⟨_, hoL, rfl⟩ entry_list_sort ?body (ksk_l1 _ _)))
  case body =>
    have ht' := ksk_t1 q (s.heap.objs.size + 1)
    show wpAny (model prog w) A.in1.in1 (Builtin.«list.sort» ⟨[.ref (s.heap.objs.size + 1)], [(Str.ofString "key", .ref q)]⟩) _ _ _
    rw [ht']
    generalize hHH : ((s.heap.push (seqObj "list" #[] 0)).update s.heap.objs.size (Obj.mapSeq (· ++ vs.toArray))).push (seqObj "list" vs.toArray 0) = H at hoL keep ⊢
    have F0 : Fr h₀ L H m := F.kept keep
    have N0 : News h₀ L H news := N.grown keep
    generalize haa : s.heap.objs.size + 1 = a at hoL ⊢
    have haL : a ≠ L := by rw [← haa]; exact Nat.ne_of_gt (Nat.lt_succ_of_lt hL)
    have ha0 : h₀.get? a = none := by rw [← haa]; exact Heap.get?_none_of_le (Nat.le_trans F.above (Nat.le_succ_of_le (Nat.le_of_lt hL)))
    have hna : ∀ p ∈ news, p.1 < a := fun p hp => by rw [← haa]; exact Nat.lt_succ_of_lt (Heap.lt_size (N p hp).1)
    have ha : a < H.objs.size := Heap.lt_size hoL
    have s1 := Heap.SameBut.update H a (Obj.mapSeq fun _ => (#[] : Array Value))
    obtain ⟨e1, ho1⟩ : ∃ e1, (H.update a (Obj.mapSeq fun _ => (#[] : Array Value))).get? a = some (seqObj "list" #[] e1) := ⟨_, get?_update_seq hoL fun _ => #[]⟩
    have F1 := kas_fr F0 s1 haL ha0
    have N1 := kas_news N0 s1 fun p hp => Nat.ne_of_lt (hna p hp)
    have hkS : ((H.update a (Obj.mapSeq fun _ => (#[] : Array Value))).push (seqObj "tuple" vs.toArray 0)).objs.size = H.objs.size + 1 := by rw [size_push', Heap.size_update]
    have hLk : L < ((H.update a (Obj.mapSeq fun _ => (#[] : Array Value))).push (seqObj "tuple" vs.toArray 0)).objs.size := (F1.push _).ns.lt
    unfold ksk_tree
    refine wpAny_bind (listItems_at hoL rfl ?_)
    refine wpAny_bind (listUpdate_at hoL rfl ?_ (by rw [List.size_toArray, sizeLine_eq]; (first | lia | omega)) (Nat.zero_le _))
    refine wpAny_bind (seqEpoch_at ho1 rfl ?_)
    refine wpAny_bind (wpAny_newTuple ?_ (by show vs.length ≤ _; rw [sizeLine_eq]; (first | lia | omega)))
    refine wpAny_bind (wpAny_newList ?_ (Nat.zero_le _))
    refine wpAny_holding ?_
    have hkA : a < ((H.update a (Obj.mapSeq fun _ => (#[] : Array Value))).push (seqObj "tuple" vs.toArray 0)).objs.size := by rw [hkS]; exact Nat.lt_succ_of_lt ha
    have N2 : News h₀ L (((H.update a (Obj.mapSeq fun _ => (#[] : Array Value))).push (seqObj "tuple" vs.toArray 0)).push (seqObj "list" #[] 0)) ((((H.update a (Obj.mapSeq fun _ => (#[] : Array Value))).push (seqObj "tuple" vs.toArray 0)).objs.size, seqObj "list" (List.toArray []) 0) :: (a, seqObj "list" #[] e1) :: news) := by
      intro p hp
      rcases List.mem_cons.mp hp with rfl | hp
      · exact ⟨Heap.get?_push_size _ rfl, Nat.ne_of_gt hLk, Heap.get?_none_of_le (Nat.le_trans F0.above (Nat.le_of_lt hLk))⟩
      · rcases List.mem_cons.mp hp with rfl | hp
        · exact ⟨Heap.get?_push_of_some _ (Heap.get?_push_of_some _ ho1), haL, ha0⟩
        · exact ⟨Heap.get?_push_of_some _ (Heap.get?_push_of_some _ (N1 p hp).1), (N1 p hp).2⟩
    have F2 : Fr h₀ L (((H.update a (Obj.mapSeq fun _ => (#[] : Array Value))).push (seqObj "tuple" vs.toArray 0)).push (seqObj "list" #[] 0)) m := (F1.push _).push _
    have hkg : (((H.update a (Obj.mapSeq fun _ => (#[] : Array Value))).push (seqObj "tuple" vs.toArray 0)).push (seqObj "list" #[] 0)).get? ((H.update a (Obj.mapSeq fun _ => (#[] : Array Value))).push (seqObj "tuple" vs.toArray 0)).objs.size = some (seqObj "list" #[] 0) := Heap.get?_push_size _ rfl
    generalize ((H.update a (Obj.mapSeq fun _ => (#[] : Array Value))).push (seqObj "tuple" vs.toArray 0)).push (seqObj "list" #[] 0) = H2 at N2 F2 hkg ⊢
    generalize ((H.update a (Obj.mapSeq fun _ => (#[] : Array Value))).push (seqObj "tuple" vs.toArray 0)).objs.size = kS at N2 hkA hkg ⊢
    have hnk : ∀ p ∈ news, p.1 < kS := fun p hp => Nat.lt_trans (hna p hp) hkA
    have fin : ∀ pm : List Nat, pm.Perm (List.range vs.length) → pm.Pairwise (Rst (ltK kb)) → ∀ kv e h' tk', Fr h₀ L h' m → News h₀ L h' ((kS, seqObj "list" (List.toArray kv) e) :: (a, seqObj "list" #[] e1) :: news) →
        KatFin h₀ L m kS a kv e e1 (pm.map fun i => vs.getD i Value.none) (fun s4 => Q (.ref a) s4) { s with heap := h', toks := tk' } := by
      intro pm hp1 hp2 kv e h' tk' F' N'
      refine KatFin.intro F' N' (g := fun o => (kS, o) :: (a, seqObj "list" #[] e1) :: news) (.head fun p hp => ?_) fun h2 c F2 N2 => ?_
      · rcases List.mem_cons.mp hp with rfl | hp
        · exact Nat.ne_of_lt hkA
        · exact Nat.ne_of_lt (hnk p hp)
      · refine KasFin.intro F2 N2 (g := fun o => (kS, seqObj "list" #[] c) :: (a, o) :: news) (.tail (Nat.ne_of_gt hkA) (.head fun p hp => Nat.ne_of_lt (hna p hp))) fun h3 c3 F3 N3 => ?_
        exact h a h3 tk' pm c3 hp1 hp2 F3 (fun p hp => N3 p (.tail _ hp)) hna
    refine kat_restG (s := { s with heap := H2 }) (kS := kS) (Fin := fun kv e s' => ∃ h tk, s' = { s with heap := h, toks := tk } ∧ BytesAre kv kb ∧ Fr h₀ L h m ∧ News h₀ L h ((kS, seqObj "list" (List.toArray kv) e) :: (a, seqObj "list" #[] e1) :: news)) hkg h64 ?_ (keysB s (Nat.ne_of_lt hkA) (fun p hp => Nat.ne_of_lt (hnk p hp)) (fun i v k hv hk h tk own ho F N => turn i v k hv hk h tk own (fun p hp r hr => ?_) F N) hlen (fun kv e h tk hB F N => ⟨h, tk, rfl, hB, F, N⟩) vs [] 0 H2 s.toks rfl (by simpa using BytesAre.nil) (Nat.zero_le _) F2 N2)
    · rintro kv e s' hkl ⟨h', tk', rfl, hB, F', N'⟩
      by_cases h2 : 2 ≤ vs.length
      · refine kat_end (h₀ := h₀) (L := L) (m := m) (e := e) (b := false) hkl h2 h64 ?_
        refine kas_kind (T := .type "bytes") (by (first | lia | omega)) (fun v hv => ?_) (by decide) (by decide) ?_
        · obtain ⟨i, hi⟩ := List.mem_iff_getElem?.mp hv
          have hil : i < kb.length := by rw [← hB.1]; exact (List.getElem?_eq_some_iff.mp hi).1
          obtain ⟨t, ht⟩ := hB.2 i _ (List.getElem?_eq_getElem hil)
          rw [hi] at ht; cases ht
          exact Looks.of_pure rfl
        · refine tok_wp (n := vs.length) (lt := ltK kb) (Q := fun p => p.toList.Perm (List.range vs.length) ∧ p.toList.Pairwise (Rst (ltK kb))) ?_ ?_ _ (sort_ok (ltK_ord kb) h1)
          · intro i j C hi hj hC
            show wpAny _ _ (keyLt' oneType' (kv.getD i Value.none) (kv.getD j Value.none)) _ _ _
            obtain ⟨t, ht⟩ := hB.2 i _ (List.getElem?_eq_getElem (by (first | lia | omega)))
            obtain ⟨u, hu⟩ := hB.2 j _ (List.getElem?_eq_getElem (by (first | lia | omega)))
            rw [List.getD_eq_getElem?_getD, List.getD_eq_getElem?_getD, ht, hu]
            rw [keyLt'_oneType]
            refine oneLt_bytes ?_
            unfold ltK at hC
            rw [List.getD_eq_getElem?_getD, List.getD_eq_getElem?_getD, List.getElem?_eq_getElem (show i < kb.length by (first | lia | omega)), List.getElem?_eq_getElem (show j < kb.length by (first | lia | omega))] at hC
            exact hC
          · rintro p ⟨p1, p2⟩
            exact (fin p.toList p1 p2 kv e h' tk' F' N').mono fun s4 hq => ⟨_, rfl, wpAny_pure ⟨_, rfl, hq⟩⟩
      · refine kat_end1 (h₀ := h₀) (L := L) (m := m) (e := e) rfl hkl (by (first | lia | omega)) ?_
        have hv1 : vs.length = 1 := by (first | lia | omega)
        have := fin [0] (by rw [hv1]; exact .refl _) (by simp) kv e h' tk' F' N'
        rw [one_getD vs hv1] at this
        exact this.mono fun s4 hq => ⟨_, rfl, wpAny_pure ⟨_, rfl, hq⟩⟩
    · rcases ho p hp with e | e
      · rw [e]; exact hnk r hr
      · rw [e]; exact hna r hr
end
end
section
open PySem PySem.W PyProof.Rows PySem.Calls
set_option Elab.async false
set_option maxRecDepth 100000
set_option maxHeartbeats 8000000
example : PySem.Challenge.rw_pd0043_01.prog = PySem.Challenge.rw_pd0043_01.prog → hd.heap_39 = hd.heap_39 := by
  k_fill
  exact fun _ => rfl


def dI : Item := ⟨0, #[], 0, .none, 0, 0, 0⟩
def ltI (its : List Item) (i j : Nat) : Bool := Item.lt (its.getD i dI) (its.getD j dI)
theorem ltI_ord (its : List Item) : LtOrd (ltI its) := ⟨fun _ => itemOrd.irrefl _, fun _ _ _ => itemOrd.trans _ _ _, fun _ _ _ => itemOrd.neg _ _ _⟩

theorem tups_items {h : Heap} : ∀ {its : List Item}, (∀ i ∈ its, h.get? i.a = some i.obj) → KatTups h (vals its) (its.map fun i => Value.bytes i.k i.tk)
  | [], _ => KatTups.nil
  | i :: r, H => KatTups.cons (H i (.head _)) rfl rfl rfl (tups_items fun j hj => H j (.tail _ hj))

theorem getD_map_item {its : List Item} {pm : List Nat} : pm.map (fun i => (vals its).getD i Value.none) = (pm.map fun i => (vals its).getD i Value.none) := rfl

theorem perm_map_getD {α : Type} {l : List α} {d : α} {pm : List Nat} (h : pm.Perm (List.range l.length)) : (pm.map fun i => l.getD i d).Perm l := by
  have h1 := h.map fun i => l.getD i d
  refine h1.trans (.of_eq ?_)
  apply List.ext_getElem
  · simp
  · intro i h1 h2
    simp at h1 h2
    simp [h1]

section
variable {prog : Program} {w : World} {A : Around} {E : Value → Shared → Prop} {s : Shared} {h₀ : Heap} {L D : Addr} {m : Str → Option Value} {rest : List (Addr × Obj)} {its : List Item} {n : Nat}

theorem lt_items_sort {i j : Item} {Q : Bool → Shared → Prop} (hi : s.heap.get? i.a = some i.obj) (hj : s.heap.get? j.a = some j.obj) (inj : i.o = j.o → i = j) (h : Q (i.lt j) s) :
    wpAny (model prog w) A (keyLt' (tuples' true) (.ref i.a) (.ref j.a)) Q E s := by
  refine kat_lt hi rfl hj rfl ?_
  show KatLex prog w A true _ Q [(Value.bytes i.k i.tk, Value.bytes j.k j.tk), (Value.int i.o i.tq, Value.int j.o j.tq), (i.e, j.e)] 0 s
  refine kat_cons (eqBool_bytes ?_)
  refine kat_go (fun hk => ?_) (fun hk => ?_)
  · have hk' : i.k.toList = j.k.toList := by simpa using hk
    refine kat_yes (kat_cons (wpAny_eqBool_int ?_))
    refine kat_go (fun ho => ?_) (fun ho => ?_)
    · have ho' : i.o = j.o := by simpa using ho
      have e := inj ho'
      subst e
      refine kat_yes (kat_cons ?_)
      unfold eqBool
      try with_reducible refine wpAny_holding ?_
      show wpAny _ _ (if (i.e == i.e) = true then _ else _) _ _ s
      rw [if_pos (by simp)]
      refine wpAny_bind (wpAny_rule (wpAny_pure (kat_yes (kat_nil ?_))))
      rw [itemOrd.irrefl] at h
      simpa using h
    · have ho' : i.o ≠ j.o := by simpa using ho
      refine kat_no ?_
      refine kat_one _ _ ?_
      show wpAny (model prog w) A (richCompare .Lt (.int i.o i.tq) (.int j.o j.tq)) _ _ s
      refine wpAny_richCompare_same (op := .Lt) (typeIs_int s _ _) (typeIs_int s _ _) slot_int_lt (call_int_lt ⟨by simp, ?_⟩)
      have hf : i.lt j = decide (i.o < j.o) := by simp [Item.lt, hk', bl_irrefl]
      rw [hf] at h
      exact h
  · have hk' : i.k.toList ≠ j.k.toList := by simpa using hk
    refine kat_no ?_
    refine oneLt_bytes ?_
    have hf : i.lt j = bl i.k.toList j.k.toList := by simp [Item.lt, hk']
    rw [hf] at h
    exact h

theorem pw_one {α : Type} {r : α → α → Prop} (l : List α) (h : l.length = 1) : l.Pairwise r := by
  match l, h with
  | [x], _ => simp

theorem lsortI {Q : Value → Shared → Prop} (F : Fr h₀ L s.heap m) (N : News h₀ L s.heap ((D, listOf (vals its).toArray n) :: rest)) (hD : ∀ p ∈ rest, p.1 ≠ D) (hit : ∀ i ∈ its, (i.a, i.obj) ∈ rest) (inj : ∀ i ∈ its, ∀ j ∈ its, i.o = j.o → i = j)
    (h1 : 1 ≤ its.length) (h64 : its.length < 64)
    (h : ∀ h' its' c, its'.Perm its → its'.Pairwise (fun a b => b.lt a = false) → Fr h₀ L h' m → News h₀ L h' ((D, listOf (vals its').toArray c) :: rest) → Q .none { s with heap := h' }) :
    wpAny (model prog w) A (call (.builtin "list.sort") [.ref D]) Q E s := by
  have nD := N (D, listOf (vals its).toArray n) (.head _)
  have Nr : News h₀ L s.heap rest := fun p hp => N p (.tail _ hp)
  by_cases h2 : 2 ≤ its.length
  · refine kat_lsort (vs := vals its) F N (UpdF.head hD) rfl (by rw [vals_length]; exact h2) (by rw [vals_length]; exact h64) ?_
    intro e1 h' F' N'
    have at' : ∀ i ∈ its, h'.get? i.a = some i.obj := fun i hi => (N' _ (.tail _ (hit i hi))).1
    refine kat_kind (T := .type "bytes") (tups_items at') (by simp; (first | lia | omega)) (fun v hv => ?_) (by decide) ?_
    · obtain ⟨i, _, rfl⟩ := List.mem_map.mp hv
      exact Looks.of_pure rfl
    · rw [show (Value.type "bytes" != Value.type "tuple") = true from by decide, vals_length]
      refine tok_wp (n := its.length) (lt := ltI its) (Q := fun p => p.toList.Perm (List.range its.length) ∧ p.toList.Pairwise (Rst (ltI its))) ?_ ?_ _ (sort_ok (ltI_ord its) h1)
      · intro i j C hi hj hC
        show wpAny _ _ (keyLt' (tuples' true) ((vals its).getD i Value.none) ((vals its).getD j Value.none)) _ _ _
        have ei : (vals its).getD i Value.none = .ref its[i].a := by simp [vals, hi]
        have ej : (vals its).getD j Value.none = .ref its[j].a := by simp [vals, hj]
        rw [ei, ej]
        have hmi : its[i] ∈ its := List.getElem_mem hi
        have hmj : its[j] ∈ its := List.getElem_mem hj
        refine lt_items_sort (at' _ hmi) (at' _ hmj) (inj _ hmi _ hmj) ?_
        have hl : ltI its i j = its[i].lt its[j] := by simp [ltI, hi, hj]
        rw [← hl]; exact hC
      · rintro p ⟨p1, p2⟩
        refine KasFin.intro F' N' (g := fun o => (D, o) :: rest) (UpdF.head hD) fun h'' c F'' N'' => ?_
        have ev : (p.toList.map fun i => (vals its).getD i Value.none) = vals (p.toList.map fun i => its.getD i dI) := by
          unfold vals
          rw [List.map_map]
          refine List.map_congr_left fun i hi => ?_
          have hi' : i < its.length := by simpa using p1.mem_iff.mp hi
          simp [hi']
        rw [ev] at N''
        refine h h'' _ c (perm_map_getD p1) ?_ F'' N''
        rw [List.pairwise_map]
        refine p2.imp fun {a b} hab => ?_
        rcases hab with q | q
        · exact (ltI_ord its).asymm q
        · exact q.1
  · have hl1 : its.length = 1 := by (first | lia | omega)
    have hv1 : (vals its).length = 1 := by rw [vals_length]; exact hl1
    have ho : s.heap.get? D = some (seqObj "list" (vals its).toArray n) := nD.1
    have s1 := Heap.SameBut.update s.heap D (Obj.mapSeq fun _ => (#[] : Array Value))
    obtain ⟨e1, ho1⟩ : ∃ e1, (s.heap.update D (Obj.mapSeq fun _ => (#[] : Array Value))).get? D = some (seqObj "list" #[] e1) := ⟨_, get?_update_seq ho fun _ => #[]⟩
    have F3 : Fr h₀ L (((s.heap.update D (Obj.mapSeq fun _ => (#[] : Array Value))).push (seqObj "tuple" (vals its).toArray 0)).push (seqObj "list" #[] 0)) m := ((kas_fr F s1 nD.2.1 nD.2.2).push _).push _
    have N3 : News h₀ L (((s.heap.update D (Obj.mapSeq fun _ => (#[] : Array Value))).push (seqObj "tuple" (vals its).toArray 0)).push (seqObj "list" #[] 0)) rest :=
      (kas_news Nr s1 hD).grown fun b x e => Heap.get?_push_of_some _ (Heap.get?_push_of_some _ e)
    have hD3 : (((s.heap.update D (Obj.mapSeq fun _ => (#[] : Array Value))).push (seqObj "tuple" (vals its).toArray 0)).push (seqObj "list" #[] 0)).get? D = some (seqObj "list" #[] e1) := Heap.get?_push_of_some _ (Heap.get?_push_of_some _ ho1)
    refine wpAny_call_entry slot_list_sort ⟨_, nD.1, rfl⟩ entry_list_sort ?_ (args_list_sort _)
    rw [list_sort_plain]
    refine wpAny_bind (listItems_at ho rfl ?_)
    refine wpAny_bind (listUpdate_at ho rfl ?_ (by rw [List.size_toArray, sizeLine_eq]; (first | lia | omega)) (Nat.zero_le _))
    refine wpAny_bind (seqEpoch_at ho1 rfl ?_)
    refine wpAny_bind (wpAny_newTuple ?_ (by show (vals its).length ≤ _; rw [sizeLine_eq]; (first | lia | omega)))
    refine wpAny_bind (wpAny_newList ?_ (Nat.zero_le _))
    refine wpAny_holding ?_
    show wpAny (model prog w) _ _ _ E { s with heap := ((s.heap.update D (Obj.mapSeq fun _ => (#[] : Array Value))).push (seqObj "tuple" (vals its).toArray 0)).push (seqObj "list" #[] 0) }
    generalize ((s.heap.update D (Obj.mapSeq fun _ => (#[] : Array Value))).push (seqObj "tuple" (vals its).toArray 0)).push (seqObj "list" #[] 0) = H at F3 N3 hD3 ⊢
    dsimp only
    have hn2 : (vals its).toArray.size < 2 := by rw [List.size_toArray]; (first | lia | omega)
    rw [if_pos hn2, if_pos hn2]
    refine wpAny_bind (wpAny_pure ?_)
    refine wpAny_bind (m := (pure () : StateT SortSt Sem Unit).run _) ?_
    rw [StateT.run_pure]
    refine wpAny_pure ?_
    have hout : (arrOf (SortSt.mk' general' ((vals its).toArray.zip (vals its).toArray) #[] 7 none)).map (·.2) = (vals its).toArray := by
      show (((vals its).toArray.zip (vals its).toArray).map (·.2)) = _
      apply Array.toList_inj.mp
      rw [Array.toList_map, ksk_zip]
      simp only [List.toList_toArray]
      exact List.map_snd_zip (by (first | lia | omega))
    have s2 := Heap.SameBut.update H D (Obj.mapSeq fun _ => (vals its).toArray)
    obtain ⟨c2, hc2⟩ : ∃ c2, (H.update D (Obj.mapSeq fun _ => (vals its).toArray)).get? D = some (seqObj "list" (vals its).toArray c2) := ⟨_, get?_update_seq hD3 fun _ => (vals its).toArray⟩
    dsimp only
    refine wpAny_bind (seqEpoch_at hD3 rfl ?_)
    rw [hout]
    refine wpAny_bind (listUpdate_at hD3 rfl ?_ (Nat.zero_le _) (by rw [List.size_toArray, sizeLine_eq]; (first | lia | omega)))
    try rw [show failedOf (SortSt.mk' general' ((vals its).toArray.zip (vals its).toArray) #[] 7 none) = none from rfl]
    simp only [bne_self_eq_false, Bool.false_eq_true, if_false]
    refine wpAny_pure ⟨_, rfl, ?_⟩
    refine h _ its c2 (.refl _) ?_ (kas_fr F3 s2 nD.2.1 nD.2.2) fun p hp => ?_
    · exact pw_one its hl1
    · rcases List.mem_cons.mp hp with rfl | hp
      · exact ⟨hc2, nD.2⟩
      · exact kas_news N3 s2 hD p hp
end
end
section
open PySem PySem.W PyProof.Rows PySem.Calls
set_option Elab.async false
set_option maxRecDepth 100000
set_option maxHeartbeats 8000000
example : PySem.Challenge.rw_pd0043_01.prog = PySem.Challenge.rw_pd0043_01.prog → hd.heap_39 = hd.heap_39 := by
  k_fill
  exact fun _ => rfl


theorem min_args (a v d : Value) : argsOk "min" ⟨[a], [(Str.ofString "default", d), (Str.ofString "key", v)]⟩ := by unfold argsOk; kernel_rfl

section
variable {prog : Program} {w : World} {A : Around} {E : Value → Shared → Prop} {s : Shared} {h₀ : Heap} {L l q I S : Addr} {m : Str → Option Value} {rest : List (Addr × Obj)} {vs : List Value} {kb : List (Array UInt8)} {R : Result → Shared → Prop} {Q : Value → Shared → Prop} {dk : Str} {dv : Value}

def BestAt (kb : List (Array UInt8)) (i n : Nat) : Prop := ∀ j, j < n → ltK kb j i = false ∧ (j < i → ltK kb i j = true)

theorem minB_loop (hh : A.handled = none) (hl : ∀ h, Fr h₀ L h m → News h₀ L h rest → h.IsList l vs.toArray) (hlI : l ≠ I) (hSI : S ≠ I) (hnS : ∀ p ∈ rest, p.1 ≠ S) (hnI : ∀ p ∈ rest, p.1 ≠ I) (hlen : kb.length = vs.length)
    (turn : ∀ (i : Nat) v k, vs[i]? = some v → kb[i]? = some k → ∀ h tk own, Fr h₀ L h m → News h₀ L h (own ++ rest) →
      wpAny (model prog w) A.in1 (call (.ref q) [v]) (fun r s' => ∃ h' tk' t, s' = { s with heap := h', toks := tk' } ∧ r = .bytes k t ∧ Fr h₀ L h' m ∧ News h₀ L h' (own ++ rest)) (fun _ _ => False) { s with heap := h, toks := tk })
    (hR : ∀ i v h' tk', vs[i]? = some v → BestAt kb i vs.length → Fr h₀ L h' m → News h₀ L h' rest → R (.ok (.ret v)) { s with heap := h', toks := tk' }) :
    ∀ (r j i : Nat) (h : Heap) (tk : Nat) (vb : Value) (k : Array UInt8) (tb : Tok) (c : Nat) (oI : Obj), vs.length - (j + 1) = r → j + 1 ≤ vs.length → Fr h₀ L h m →
      News h₀ L h ([(S, seqObj "list" #[vb, .bytes k tb] c), (I, oI)] ++ rest) → h.IsListIter I l (j + 1) → vs[i]? = some vb → kb[i]? = some k → i ≤ j → BestAt kb i (j + 1) →
      codeAny (model prog w) A (.builtin "min.loop" ⟨[.ref I, .ref q, .ref S], [(dk, dv)]⟩) R { s with heap := h, toks := tk } := by
  have hname : (toString "min" ++ toString ".loop" : String) = "min.loop" := by decide
  have W := Walks.list (prog := prog) (w := w) (A := A.in1) hh I l hlI vs.toArray
  have hsz : vs.toArray.size = vs.length := List.size_toArray ..
  intro r
  induction r with
  | zero =>
    intro j i h tk vb k tb c oI hr hj F N hit hvb hkb hij hbest
    have hin : j + 1 = vs.length := by (first | lia | omega)
    have nS := N (S, seqObj "list" #[vb, .bytes k tb] c) (.head _)
    have nI := N (I, oI) (.tail _ (.head _))
    have Nn : News h₀ L h rest := fun p hp => N p (List.mem_append_right _ hp)
    refine codeAny_builtin PySem.F.entry_min_loop ?_
    rw [Around.under_plainId PySem.F.plain_min_loop _]
    show wpAny _ A.in1 (seqItems? (.ref S) >>= _) _ _ _
    refine wpAny_bind (wpAny_seqItems nS.1 rfl ?_)
    show wpAny _ A.in1 (tryCatch (pyNext (.ref I)) _ >>= _) _ _ _
    refine wpAny_bind (wpAny_tryCatch (W.done _ _ _ ⟨by rw [hsz, ← hin]; exact hit, hl h F Nn⟩ fun h' tk' hk' => ?_))
    have F1 := kmk_fr F hk' nI.2.1 nI.2.2
    have N1 := kmk_news Nn hk' hnI
    have hS' := hk' S _ (by simpa using hSI) nS.1
    have s1 := Heap.SameBut.update h' S (Obj.mapSeq fun _ => (#[] : Array Value))
    show wpAny _ A.in1 (updateSeq S (fun _ => #[]) >>= _) _ _ _
    refine wpAny_bind ?_
    refine wpAny_updateSeq hS' rfl (wpAny_bind (wpAny_letGo (wpAny_pure ?_)))
    exact hR i vb _ _ hvb (hin ▸ hbest) (ksk_fr F1 s1 nS.2.1 nS.2.2) (ksk_news N1 s1 hnS)
  | succ r ih =>
    intro j i h tk vb k tb c oI hr hj F N hit hvb hkb hij hbest
    have hlt : j + 1 < vs.length := by (clear hh hlI hSI hlen hname hvb hkb hij; omega)
    have nS := N (S, seqObj "list" #[vb, .bytes k tb] c) (.head _)
    have nI := N (I, oI) (.tail _ (.head _))
    have Nn : News h₀ L h rest := fun p hp => N p (List.mem_append_right _ hp)
    refine codeAny_builtin PySem.F.entry_min_loop ?_
    rw [Around.under_plainId PySem.F.plain_min_loop _]
    show wpAny _ A.in1 (seqItems? (.ref S) >>= _) _ _ _
    refine wpAny_bind (wpAny_seqItems nS.1 rfl ?_)
    show wpAny _ A.in1 (tryCatch (pyNext (.ref I)) _ >>= _) _ _ _
    refine wpAny_bind (wpAny_tryCatch (W.item (j + 1) _ _ _ (by rw [hsz]; exact hlt) ⟨hit, hl h F Nn⟩ fun v h' tk' hP hst' hk' => ?_))
    have hv : vs[j + 1]? = some v := by simpa using hP
    have hkj : kb[j + 1]? = some kb[j + 1] := List.getElem?_eq_getElem (by (first | lia | omega))
    generalize kb[j + 1] = k' at hkj
    obtain ⟨oI', hoI', hoc, hod⟩ := id hst'.1
    have F1 := kmk_fr F hk' nI.2.1 nI.2.2
    have N1 : News h₀ L h' ([(S, seqObj "list" #[vb, .bytes k tb] c), (I, oI')] ++ rest) := fun p hp => by
      rcases List.mem_append.mp hp with hp | hp
      · rcases List.mem_cons.mp hp with rfl | hp
        · exact ⟨hk' S _ (by simpa using hSI) nS.1, nS.2⟩
        · rw [List.mem_singleton.mp hp]
          exact ⟨hoI', nI.2⟩
      · exact kmk_news Nn hk' hnI p hp
    show wpAny _ A.in1 (tryCatch (holding [v] (call (.ref q) [v])) _ >>= _) _ _ _
    refine wpAny_bind (wpAny_tryCatch (wpAny_holding (wpAny_mono (turn (j + 1) v k' hv hkj h' tk' _ F1 N1) (fun x s'' he => ?_) fun _ _ hF => hF.elim)))
    obtain ⟨h2, tk2, t2, rfl, rfl, F2, N2⟩ := he
    have nS2 := N2 (S, seqObj "list" #[vb, .bytes k tb] c) (.head _)
    have nI2 := N2 (I, oI') (.tail _ (.head _))
    have hit2 : h2.IsListIter I l (j + 1 + 1) := ⟨oI', nI2.1, hoc, hod⟩
    have e1 : kb.getD (j + 1) #[] = k' := by rw [List.getD_eq_getElem?_getD, hkj]; rfl
    have e2 : kb.getD i #[] = k := by rw [List.getD_eq_getElem?_getD, hkb]; rfl
    have hcmp : bl k'.toList k.toList = ltK kb (j + 1) i := by unfold ltK; rw [e1, e2]
    show wpAny _ A.in1 (tryCatch (holding [v, .bytes k' t2] (richCompare .Lt (.bytes k' t2) (.bytes k tb) >>= _)) _ >>= _) _ _ _
    refine wpAny_bind (wpAny_tryCatch (wpAny_holding (wpAny_bind (rc_lt_bytes ?_))))
    refine wpAny_bind (wpAny_holding (wpAny_truthy_bool ?_))
    refine wpAny_bind (wpAny_letGo (wpAny_pure ?_))
    rw [hcmp]
    have O := ltK_ord kb
    cases hb' : ltK kb (j + 1) i with
    | true =>
      have s1 := Heap.SameBut.update h2 S (Obj.mapSeq fun _ => #[v, .bytes k' t2])
      obtain ⟨c2, hc2⟩ : ∃ c2, (h2.update S (Obj.mapSeq fun _ => #[v, .bytes k' t2])).get? S = some (seqObj "list" #[v, .bytes k' t2] c2) := ⟨_, get?_update_seq nS2.1 fun _ => #[v, .bytes k' t2]⟩
      simp only [if_true]
      refine wpAny_bind ?_
      refine wpAny_updateSeq nS2.1 rfl (wpAny_bind (wpAny_letGo ?_))
      rw [hname]
      refine wpAny_pure ⟨plainId_quiet PySem.F.plain_min_loop _, ih (j + 1) (j + 1) _ _ v k' t2 c2 oI' (by (clear hh hlI hSI hlen hname hj hvb hkb hij nS nI hP hst' hv hkj hoI' hoc hod nS2 nI2 e1 e2 hcmp hb' hc2; omega)) hlt (ksk_fr F2 s1 nS2.2.1 nS2.2.2) (fun p hp => ?_) ⟨oI', (s1.2 I hSI.symm).trans nI2.1, hoc, hod⟩ hv hkj (Nat.le_refl _) fun j' hj' => ?_⟩
      · rcases List.mem_append.mp hp with hp | hp
        · rcases List.mem_cons.mp hp with rfl | hp
          · exact ⟨hc2, nS2.2⟩
          · rw [List.mem_singleton.mp hp]
            exact ⟨(s1.2 I hSI.symm).trans nI2.1, nI2.2⟩
        · exact ksk_news (fun p hp => N2 p (List.mem_append_right _ hp)) s1 hnS p hp
      · by_cases e : j' = j + 1
        · subst e
          exact ⟨O.irrefl _, fun q => absurd q (Nat.lt_irrefl _)⟩
        · have hb1 := (hbest j' (by (first | lia | omega))).1
          have z : ltK kb (j + 1) j' = true := by
            rcases O.neg _ j' _ hb' with z | z
            · exact z
            · rw [hb1] at z; cases z
          exact ⟨O.asymm z, fun _ => z⟩
    | false =>
      simp only [Bool.false_eq_true, if_false]
      refine wpAny_bind (wpAny_letGo ?_)
      rw [hname]
      refine wpAny_pure ⟨plainId_quiet PySem.F.plain_min_loop _, ih (j + 1) i _ _ vb k tb c oI' (by (clear hh hlI hSI hlen hname hj hvb hkb hij nS nI hP hst' hv hkj hoI' hoc hod nS2 nI2 e1 e2 hcmp hb'; omega)) hlt F2 N2 hit2 hvb hkb (by (first | lia | omega)) fun j' hj' => ?_⟩
      by_cases e : j' = j + 1
      · subst e
        exact ⟨hb', fun _ => by (first | lia | omega)⟩
      · exact hbest j' (by (first | lia | omega))

theorem minB {oI : Obj} (hh : A.handled = none) (F : Fr h₀ L s.heap m) (N : News h₀ L s.heap ((I, oI) :: rest)) (hl : ∀ h, Fr h₀ L h m → News h₀ L h rest → h.IsList l vs.toArray) (hit : s.heap.IsListIter I l 0) (hlI : l ≠ I) (hnI : ∀ p ∈ rest, p.1 ≠ I) (hne : 0 < vs.length) (hlen : kb.length = vs.length)
    (turn : ∀ (i : Nat) v k, vs[i]? = some v → kb[i]? = some k → ∀ h tk own, Fr h₀ L h m → News h₀ L h (own ++ rest) →
      wpAny (model prog w) A.in1 (call (.ref q) [v]) (fun r s' => ∃ h' tk' t, s' = { s with heap := h', toks := tk' } ∧ r = .bytes k t ∧ Fr h₀ L h' m ∧ News h₀ L h' (own ++ rest)) (fun _ _ => False) { s with heap := h, toks := tk })
    (hQ : ∀ i v h' tk', vs[i]? = some v → BestAt kb i vs.length → Fr h₀ L h' m → News h₀ L h' rest → Q v { s with heap := h', toks := tk' }) :
    wpAny (model prog w) A (call (.builtin "min") [.ref I] [(Str.ofString "default", dv), (Str.ofString "key", .ref q)]) Q E s := by
  have hname : (toString "min" ++ toString ".loop" : String) = "min.loop" := by decide
  have nI := N (I, oI) (.head _)
  have Nr : News h₀ L s.heap rest := fun p hp => N p (.tail _ hp)
  have hL : L < s.heap.objs.size := F.ns.lt
  have hII : I < s.heap.objs.size := Heap.lt_size nI.1
  refine kmk_tree PySem.F.kind_min PySem.F.plain_min PySem.F.entry_min (min_args _ _ _) ?_
  show wpAny _ A.in1 (Builtin.Builtins.bindParams "min" ["key", "default"] 0 ⟨[], [(Str.ofString "default", dv), (Str.ofString "key", .ref q)]⟩ >>= _) _ _ s
  refine wpAny_bind (wpAny_of_eq (show Builtin.Builtins.bindParams "min" ["key", "default"] 0 ⟨[], [(Str.ofString "default", dv), (Str.ofString "key", .ref q)]⟩ = pure [some (.ref q), some dv] from rfl) ?_)
  refine wpAny_bind (wpAny_pure ?_)
  refine wpAny_bind (wpAny_pyIter_listiter hit ?_)
  refine wpAny_bind (wpAny_newList ?_ (Nat.zero_le _))
  rw [hname]
  have hSI : s.heap.objs.size ≠ I := Nat.ne_of_gt hII
  have hnS : ∀ p ∈ rest, p.1 ≠ s.heap.objs.size := fun p hp => Nat.ne_of_lt (Heap.lt_size (Nr p hp).1)
  refine wpAny_pure ⟨plainId_quiet PySem.F.plain_min_loop _, ?_⟩
  have fresh : ∀ b, L < b → h₀.get? b = none := fun b hb => Heap.get?_none_of_le (Nat.le_trans F.above (Nat.le_of_lt hb))
  have FH : Fr h₀ L (s.heap.push (seqObj "list" #[] 0)) m := F.push _
  have NH : News h₀ L (s.heap.push (seqObj "list" #[] 0)) rest := Nr.grown fun b x e => Heap.get?_push_of_some _ e
  have gS : (s.heap.push (seqObj "list" #[] 0)).get? s.heap.objs.size = some (seqObj "list" #[] 0) := Heap.get?_push_size _ rfl
  have aS : s.heap.objs.size ≠ L := Nat.ne_of_gt hL
  have zS : h₀.get? s.heap.objs.size = none := fresh _ hL
  have hitH : (s.heap.push (seqObj "list" #[] 0)).IsListIter I l 0 := hit.at fun o e => Heap.get?_push_of_some _ e
  have W := Walks.list (prog := prog) (w := w) (A := A.in1) hh I l hlI vs.toArray
  have hsz : vs.toArray.size = vs.length := List.size_toArray ..
  refine codeAny_builtin PySem.F.entry_min_loop ?_
  rw [Around.under_plainId PySem.F.plain_min_loop _]
  show wpAny _ A.in1 (seqItems? (.ref _) >>= _) _ _ _
  refine wpAny_bind (wpAny_seqItems gS rfl ?_)
  show wpAny _ A.in1 (tryCatch (pyNext (.ref I)) _ >>= _) _ _ _
  refine wpAny_bind (wpAny_tryCatch (W.item 0 _ _ _ (by rw [hsz]; exact hne) ⟨hitH, hl _ FH NH⟩ fun v h' tk' hP hst' hk' => ?_))
  have hv : vs[0]? = some v := by simpa using hP
  have hk0 : kb[0]? = some kb[0] := List.getElem?_eq_getElem (by (first | lia | omega))
  generalize kb[0] = k0 at hk0
  obtain ⟨oI', hoI', hoc, hod⟩ := id hst'.1
  have F1 := kmk_fr FH hk' nI.2.1 nI.2.2
  generalize hSe : s.heap.objs.size = S at *
  have N1 : News h₀ L h' ([(S, seqObj "list" #[] 0), (I, oI')] ++ rest) := fun p hp => by
    rcases List.mem_append.mp hp with hp | hp
    · rcases List.mem_cons.mp hp with rfl | hp
      · exact ⟨hk' _ _ (by simpa using hSI) gS, aS, zS⟩
      · rw [List.mem_singleton.mp hp]
        exact ⟨hoI', nI.2⟩
    · exact kmk_news NH hk' hnI p hp
  show wpAny _ A.in1 (tryCatch (holding [v] (call (.ref q) [v])) _ >>= _) _ _ _
  refine wpAny_bind (wpAny_tryCatch (wpAny_holding (wpAny_mono (turn 0 v k0 hv hk0 h' tk' _ F1 N1) (fun x s'' he => ?_) fun _ _ hF => hF.elim)))
  obtain ⟨h2, tk2, t2, rfl, rfl, F2, N2⟩ := he
  have nS2 := N2 (S, seqObj "list" #[] 0) (.head _)
  have nI2 := N2 (I, oI') (.tail _ (.head _))
  have s1 := Heap.SameBut.update h2 S (Obj.mapSeq fun _ => #[v, .bytes k0 t2])
  obtain ⟨c2, hc2⟩ : ∃ c2, (h2.update S (Obj.mapSeq fun _ => #[v, .bytes k0 t2])).get? S = some (seqObj "list" #[v, .bytes k0 t2] c2) := ⟨_, get?_update_seq nS2.1 fun _ => #[v, .bytes k0 t2]⟩
  show wpAny _ A.in1 (updateSeq S (fun _ => #[v, .bytes k0 t2]) >>= _) _ _ _
  refine wpAny_bind ?_
  refine wpAny_updateSeq nS2.1 rfl ?_
  rw [hname]
  refine wpAny_pure ⟨plainId_quiet PySem.F.plain_min_loop _, minB_loop hh hl hlI hSI hnS hnI hlen turn hQ _ 0 0 _ _ v k0 t2 c2 oI' rfl hne (ksk_fr F2 s1 nS2.2.1 nS2.2.2) (fun p hp => ?_) ⟨oI', (s1.2 _ hSI.symm).trans nI2.1, hoc, hod⟩ hv hk0 (Nat.le_refl _) fun j' hj' => ?_⟩
  · rcases List.mem_append.mp hp with hp | hp
    · rcases List.mem_cons.mp hp with rfl | hp
      · exact ⟨hc2, nS2.2⟩
      · rw [List.mem_singleton.mp hp]
        exact ⟨(s1.2 _ hSI.symm).trans nI2.1, nI2.2⟩
    · exact ksk_news (fun p hp => N2 p (List.mem_append_right _ hp)) s1 hnS p hp
  · have e : j' = 0 := by (first | lia | omega)
    subst e
    exact ⟨(ltK_ord kb).irrefl _, fun h => absurd h (Nat.lt_irrefl _)⟩
end
end
section
open PySem PySem.W PyProof.Rows PySem.Calls
set_option Elab.async false
set_option maxRecDepth 100000
set_option maxHeartbeats 8000000
example : PySem.Challenge.rw_pd0043_01.prog = PySem.Challenge.rw_pd0043_01.prog → hd.heap_39 = hd.heap_39 := by
  k_fill
  exact fun _ => rfl


theorem li_no_len : typeLookup (.type "list_iterator") (Str.ofString "__len__") = pure none := by rw [typeLookup_type, builtinLookup_eq_fast]; kernel_rfl

/-- the ground of a call whose outer frames are owned (a caught exception turns their slots) -/
structure OG (K : Frag) (p : Program) (loose : List Str) (mean : ExcName → Option Value) (mg mb : Str → Option Value) (A : Around) (base : Heap) (outer : List Env) (frs : List (Addr × Obj)) (g : Heap) : Prop where
  stack : A.frames = some outer
  stays : base.StaysIn g
  fr : TI.Frs outer frs
  X : K.In g
  T : Top p loose mean mg mb g

theorem frs_fun {h base : Heap} : ∀ {l : List Env} {frs : List (Addr × Obj)}, TI.Frs l frs → (∀ p ∈ frs, h.get? p.1 = some p.2 ∧ base.get? p.1 = none) → h.FunFrames base l
  | [], [], _, _ => trivial
  | [], _ :: _, f, _ => f.elim
  | _ :: _, [], f, _ => f.elim
  | env :: l, q :: frs, f, H => by
    obtain ⟨a, b, ⟨es, ep, hd⟩, r⟩ := f
    exact ⟨a, ⟨q.1, q.2, b, (H q (.head _)).2, (H q (.head _)).1, fun vs e => by rw [hd] at e; cases e⟩, frs_fun r fun p hp => H p (.tail _ hp)⟩

section
variable {K : Frag} {prog : Program} {w : World} {A A₀ : Around} {E : Value → Shared → Prop} {s : Shared} {p : Program} {loose : List Str} {mean : ExcName → Option Value} {mg mb : Str → Option Value} {base g : Heap} {outer : List Env} {news frs : List (Addr × Obj)}
  {R : Result → Shared → Prop} {name qual : Str} {params : Arguments} {body : List Stmt} {scope : Scope} {dV kV doc pm cdv ct oc : Value} {an od : Option Addr} {osl : Array (Option Value)} {f : Addr} {args : Args} {binds : List (Str × Value)}

/-- a def with cells is entered -/
theorem enterCX (X : K.In g) (T : Top p loose mean mg mb g) (S : Sep g s.heap news)
    (ho : K.lookup f = some ⟨oc, od, .func (fnOf name qual params body scope dV kV doc pm an cdv ct), osl⟩) (hcd : codeIn K cdv qual = true) (hroom : A.depth < recursionLimit)
    (hbind : BindsTo s (fnOf name qual params body scope dV kV doc pm an cdv ct) args binds) (hkind : (binds.all fun y => scope.names.lookup y.1 == some .local || scope.names.lookup y.1 == some .cell) = true)
    (hnd : ((cellsFrom 0 scope.names []).map (·.1)).Nodup)
    (h : ∀ L' h₁ tk cells, L' = s.heap.objs.size → Fr g L' h₁ (bindL (envOfC qual scope L' f cdv).kindOf binds fun _ => none) → News g L' h₁ (cells ++ news) →
      CellsAre (bindC (envOfC qual scope L' f cdv).kindOf binds fun _ => none) (cellsFrom (L' + 1) scope.names []) cells → (∀ p ∈ news, p.1 < L') →
      wpAny (model prog w) (A.deeper (envOfC qual scope L' f cdv)) (execs body (envOfC qual scope L' f cdv))
        (fun fl s' => R (.ok (.ret (match fl with | .ret v => v | _ => .none))) s') (fun _ _ => False)
        { s with heap := h₁, toks := tk })
    (hco : scope.isCoroutine = false) (hgen : scope.isGenerator = false) (hk : scope.kind = .function) : codeAny (model prog w) A (.call (.ref f) args) R s := by
  have XS : K.In s.heap := X.keeps S.sub
  refine codeAny_call_function hroom (XS _ _ ho) rfl hco hgen rfl (codeRec_of XS hcd) (hbind _ _ _ _ ?_)
  refine wpAny_newFunctionEnv_cells hk (kindsX hkind _) fun env' he s' x => ?_
  subst he
  refine ⟨(T.nolimit.keeps S.sub).keeps x.toInCall.keep, codeAny_func ?_⟩
  obtain ⟨h₁, tk, rfl, _⟩ := x.done
  have hk₁ := x.toInCall.keep
  obtain ⟨cells, NC, Y⟩ := Cl.news (h₀ := s.heap) (Nat.le_refl _) fun n c hm => ⟨x.cell n c (lookup_of_mem_nodup (cellsFrom_names scope.names 0 (s.heap.objs.size + 1) [] [] rfl ▸ hnd) hm), x.above n c hm⟩
  refine wpAny_mono (h s.heap.objs.size h₁ tk cells rfl ⟨x.toInCall.ns, fun b o e => hk₁ b o (S.sub b o e), S.size⟩ (fun p hp => ?_) Y (fun p hp => Heap.lt_size (S.own p hp).1)) (fun _ _ x => x) fun _ _ x => x.elim
  rcases List.mem_append.mp hp with hp | hp
  · refine ⟨(NC p hp).1, (NC p hp).2.1, ?_⟩
    cases q : g.get? p.1 with
    | none => rfl
    | some o => have := S.sub _ _ q; rw [(NC p hp).2.2] at this; cases this
  · exact ⟨hk₁ _ _ (S.own p hp).1, Nat.ne_of_lt (Heap.lt_size (S.own p hp).1), (S.own p hp).2⟩

/-- a plain def is entered -/
theorem enterPX (X : K.In g) (T : Top p loose mean mg mb g) (S : Sep g s.heap news)
    (ho : K.lookup f = some ⟨oc, od, .func (fnOf name qual params body scope dV kV doc pm an cdv ct), osl⟩) (hcd : codeIn K cdv qual = true) (hroom : A.depth < recursionLimit)
    (hbind : BindsTo s (fnOf name qual params body scope dV kV doc pm an cdv ct) args binds) (hloc : ∀ y ∈ binds, scope.names.lookup y.1 = some .local)
    (h : ∀ L' h₁, L' = s.heap.objs.size → Fr g L' h₁ (fun y => binds.reverse.lookup y) → News g L' h₁ news →
      wpAny (model prog w) (A.deeper (envOf qual scope L' f cdv)) (execs body (envOf qual scope L' f cdv))
        (fun fl s' => R (.ok (.ret (match fl with | .ret v => v | _ => .none))) s') (fun _ _ => False)
        { s with heap := h₁, toks := s.toks + binds.length })
    (hco : scope.isCoroutine = false) (hgen : scope.isGenerator = false) (hk : scope.kind = .function)
    (hcell : ∀ x ∈ scope.names, x.2 ≠ .cell) : codeAny (model prog w) A (.call (.ref f) args) R s := by
  have XS : K.In s.heap := X.keeps S.sub
  refine codeAny_call_def (fd := fnOf name qual params body scope dV kV doc pm an cdv ct) (body := body) (binds := binds) hroom (XS _ _ ho) rfl (T.nolimit.keeps S.sub) (codeRec_of XS hcd) rfl hbind hcell hloc (fun h₁ hns hk₁ => ?_) hco hgen hk
  refine wpAny_mono (h s.heap.objs.size h₁ rfl ⟨hns, fun b o e => hk₁ b o (S.sub b o e), S.size⟩ (fun p hp => ⟨hk₁ _ _ (S.own p hp).1, Nat.ne_of_lt (Heap.lt_size (S.own p hp).1), (S.own p hp).2⟩)) (fun _ _ x => x) fun _ _ x => x.elim

/-- a call from a frame whose outer frames are owned: the callee finds them frozen -/
theorem callO {h₀ : Heap} {L : Addr} {m : Str → Option Value} {env : Env} {hid rest : List (Addr × Obj)} {fv : Value} {pos : List Value} {kw : List (Str × Value)} {Q : Value → Shared → Prop}
    (G : OG K p loose mean mg mb A₀ base outer frs h₀) (F : Fr h₀ L s.heap m) (N : News h₀ L s.heap (hid ++ rest)) (hfr : ∀ q ∈ frs, q ∈ rest) (hA : A.frames = some (env :: outer)) (hf : env.frame = some L) (hke : env.scope.kind = .function)
    (hap : ∀ q ∈ rest, q.1 ∉ hid.map (·.1))
    (h : ∀ g', Gnd K p loose mean mg mb A base (env :: outer) g' → Sep g' s.heap hid → (∀ b o, s.heap.get? b = some o → b ∉ hid.map (·.1) → g'.get? b = some o) → (∀ b o, h₀.get? b = some o → g'.get? b = some o) →
      (∀ h' hid', Sep g' h' hid' → Fr h₀ L h' m ∧ News h₀ L h' (hid' ++ rest)) →
      codeAny (model prog w) A (.call fv ⟨pos, kw⟩) (fun r s' => match r with | .ok (.ret v) => Q v s' | .ok _ => False | .error e => E e s') s) :
    wpAny (model prog w) A (call fv pos kw) Q E s := by
  have N1 : News h₀ L s.heap hid := fun q hq => N q (List.mem_append.mpr (.inl hq))
  have N2 : News h₀ L s.heap rest := fun q hq => N q (List.mem_append.mpr (.inr hq))
  have nm : ∀ b o, h₀.get? b = some o → b ∉ hid.map (·.1) := fun b o e q => by
    obtain ⟨p, hp, rfl⟩ := List.mem_map.mp q
    rw [(N1 p hp).2.2] at e; cases e
  have nL : L ∉ hid.map (·.1) := fun q => by
    obtain ⟨p, hp, e⟩ := List.mem_map.mp q
    exact (N1 p hp).2.1 e
  have st : ∀ b o, h₀.get? b = some o → (hideAll s.heap (hid.map fun x : Addr × Obj => x.1)).get? b = some o := fun b o e => hideAll_get _ (F.keep b o e) (nm b o e)
  obtain ⟨oL, es, ep, hL, hLd, hLk, hLf⟩ := id F.ns
  have hLg := hideAll_get (hid.map (·.1)) hL nL
  have bnone : ∀ b, h₀.get? b = none → base.get? b = none := fun b e => by
    cases q : base.get? b with
    | none => rfl
    | some o => have := G.stays b o q; rw [e] at this; cases this
  have BG : Below A base (env :: outer) (hideAll s.heap (hid.map fun x : Addr × Obj => x.1)) := by
    refine ⟨hA, fun b o e => st b o (G.stays b o e), ⟨by rw [hke]; decide, ⟨L, oL, hf, bnone L (Heap.get?_none_of_le F.above), hLg, fun vs e => by rw [hLd] at e; cases e⟩, frs_fun G.fr fun q hq => ?_⟩⟩
    have Nq := N2 q (hfr q hq)
    exact ⟨hideAll_get _ Nq.1 (hap q (hfr q hq)), bnone _ Nq.2.2⟩
  refine wpAny_call (h (hideAll s.heap (hid.map fun x : Addr × Obj => x.1)) ⟨BG, G.X.keeps st, G.T.keeps st⟩ ⟨fun b o e => of_hideAll _ e, Nat.le_of_eq (hideAll_size _ _), fun p hp => ⟨(N1 p hp).1, hideAll_none _ (List.mem_map_of_mem hp)⟩⟩ (fun b o e n => hideAll_get _ e n) st fun h' hid' S' => ?_)
  refine ⟨⟨⟨oL, es, ep, S'.sub L oL hLg, hLd, hLk, hLf⟩, fun b o e => S'.sub b o (st b o e), F.above⟩, fun q hq => ?_⟩
  rcases List.mem_append.mp hq with hq | hq
  · refine ⟨(S'.own q hq).1, fun e => ?_, ?_⟩
    · have := (S'.own q hq).2; rw [e, hLg] at this; cases this
    · cases z : h₀.get? q.1 with
      | none => rfl
      | some o => have := (S'.own q hq).2; rw [st _ _ z] at this; cases this
  · have Qq := N q (List.mem_append.mpr (.inr hq))
    exact ⟨S'.sub _ _ (hideAll_get _ Qq.1 (hap q hq)), Qq.2⟩

/-- len of a list's iterator: a TypeError -/
theorem call_len_li {it l : Addr} {n j : Nat} {Q : Value → Shared → Prop} (hh : A.handled = none) (hit : ItSt s.heap it l n j)
    (h : ∀ h' tk e, Heap.NewExc s.heap h' e "TypeError" → E (.ref e) { s with heap := h', toks := tk }) : wpAny (model prog w) A (call (.builtin "len") [.ref it]) Q E s := by
  obtain ⟨o, ho, hc⟩ := hit.obj
  have hT : s.TypeIs (.ref it) "list_iterator" := ⟨o, ho, hc⟩
  refine call_function_entry kind_len plain_len entry_len (args_len1 _) ?_
  unfold Builtin.«len»
  refine wpAny_bind (m := oneArg "len" _) (wpAny_pure ?_)
  refine wpAny_bind (m := callSpecial? (.ref it) (Str.ofString "__len__")) (wpAny_callSpecial?_none hT li_no_len ?_)
  refine wpAny_bind (wpAny_rule ?_)
  refine wpAny_bind (m := PySem.typeNameOf _) (wpAny_typeNameOf' hT (by decide) ?_)
  exact wpAny_raiseErrorMade plainExc_TypeError (by exact hh) h (by first | size_fits | (rw [show shownName "list_iterator" = "list_iterator" by unfold shownName; rw [find?_eq_fast]; kernel_rfl]; size_fits))
end
end
section
open PySem PySem.W PyProof.Rows PySem.Calls
set_option Elab.async false
set_option maxRecDepth 100000
set_option maxHeartbeats 8000000
example : PySem.Challenge.rw_pd0043_01.prog = PySem.Challenge.rw_pd0043_01.prog → hd.heap_39 = hd.heap_39 := by
  k_fill
  exact fun _ => rfl


def isLI (o : Obj) (l : Addr) (j : Nat) : Prop := o.cls = .type "list_iterator" ∧ o.data = .fields #[.ref l, .int j 0]
theorem isLI.at {h : Heap} {o : Obj} {l I : Addr} {j : Nat} (x : isLI o l j) (e : h.get? I = some o) : h.IsListIter I l j := ⟨o, e, x.1, x.2⟩

/-- what is given: the list itself, or an iterator over it -/
def SrcN (own : List (Addr × Obj)) (it l : Addr) : Prop := (own = [] ∧ it = l) ∨ ∃ o, own = [(it, o)] ∧ isLI o l 0

section
variable {K : Frag} {prog : Program} {w : World} {A A₀ : Around} {E : Value → Shared → Prop} {s s' : Shared} {p : Program} {loose : List Str} {mean : ExcName → Option Value} {mg mb : Str → Option Value} {base g h : Heap} {outer : List Env} {own rest new frs : List (Addr × Obj)}
  {L it l e : Addr} {m : Str → Option Value} {vs : List Value} {env : Env} {X : String}

theorem iter_src {Q : Value → Shared → Prop} (src : SrcN own it l) (F : Fr g L s.heap m) (N : News g L s.heap (own ++ rest)) (hl : g.IsList l vs.toArray) (hro : ∀ q ∈ own, ∀ r ∈ rest, r.1 ≠ q.1)
    (h : ∀ h' I oI, Fr g L h' m → News g L h' ((I, oI) :: rest) → isLI oI l 0 → (∀ r ∈ rest, r.1 ≠ I) → l ≠ I → Q (.ref I) { s with heap := h' }) :
    wpAny (model prog w) A (call (.builtin "iter") [.ref it]) Q E s := by
  have hlk : ∀ h', Fr g L h' m → h'.IsList l vs.toArray := fun h' F' => let ⟨o, ho, r⟩ := hl; ⟨o, F'.keep _ _ ho, r⟩
  refine call_function_entry (by decide +kernel) (by decide +kernel) kdk_entry_iter (kdk_args_iter _) ?_
  unfold Builtin.«iter»
  refine wpAny_bind (m := someArgs "iter" 1 2 _) (wpAny_pure ?_)
  dsimp only
  rcases src with ⟨rfl, rfl⟩ | ⟨o, rfl, ho⟩
  · refine wpAny_bind (wpAny_pyIter_list (hlk _ F) ?_)
    refine wpAny_pure ⟨_, rfl, h _ _ { cls := .type "list_iterator", data := .fields #[.ref it, .int 0 0] } (F.push _) (fun q hq => ?_) ⟨rfl, rfl⟩ (fun r hr => ?_) ?_⟩
    · rcases List.mem_cons.mp hq with rfl | hq
      · exact ⟨Heap.get?_push_size _ rfl, Nat.ne_of_gt F.ns.lt, Fr.newNone F (Nat.le_refl _)⟩
      · exact News.pushK N _ q hq
    · exact Nat.ne_of_lt (Heap.lt_size (N r hr).1)
    · obtain ⟨ol, hol, _⟩ := hlk _ F
      exact Nat.ne_of_lt (Heap.lt_size hol)
  · have ni := N (it, o) (.head _)
    refine wpAny_bind (wpAny_pyIter_listiter (ho.at ni.1) ?_)
    refine wpAny_pure ⟨_, rfl, h s.heap it o F N ho (hro _ (.head _)) ?_⟩
    obtain ⟨ol, hol, _⟩ := hl
    intro q
    rw [q, ni.2.2] at hol; cases hol

/-- an exception is noted: the outer frames' slots turn -/
theorem noted_any {Q : Unit → Shared → Prop} (hfr : A.frames = some (env :: outer)) (hf : env.frame = some L) (hke : env.scope.kind = .function) (Fs : TI.Frs outer frs) (hx : Heap.NewExc h s'.heap e X) (F : Fr g L h m) (N : News g L h (new ++ frs)) (hap : ∀ q ∈ new, q.1 ∉ frs.map (·.1))
    (k : ∀ h' frs', TI.SameUp frs frs' → TI.Frs outer frs' → TT.HeldN g L h' m e X (new ++ frs') → Q () { s' with heap := h' }) :
    wpAny (model prog w) A (noteFrame (.ref e) env) Q E s' := by
  obtain ⟨ob, tp, he, hcls, hd⟩ := hx.there
  obtain ⟨oL, es, ep, hL, hLd, hLk, hLf⟩ := id F.ns
  have hNs : s'.heap.Ns L m := ⟨oL, es, ep, hx.keeps _ _ hL, hLd, hLk, hLf⟩
  have hff : s'.heap.FunFrames (TI.gone h (L :: frs.map (·.1))) (env :: outer) := by
    refine ⟨by rw [hke]; decide, ⟨L, oL, hf, TI.gone_none (.head _), hx.keeps _ _ hL, fun vs q => by rw [hLd] at q; cases q⟩, frs_fun Fs fun q hq => ⟨hx.keeps _ _ (N q (List.mem_append_right _ hq)).1, TI.gone_none (.tail _ (List.mem_map_of_mem hq))⟩⟩
  unfold noteFrame
  simp only [hf]
  refine wpAny_bind (wpAny_field he hd (x := .none) rfl ?_)
  rw [if_neg (by decide)]
  refine wpAny_entryW (a0 := tp) hfr hff hf he (fun b o eb => hx.keeps b o (TI.gone_some eb).2) (TI.none_of (fun b o eb => (TI.gone_some eb).2) hx.new) hd (by show 1 < 6; decide) rfl fun h' hN => ?_
  obtain ⟨k1, k2, k3, k4⟩ := hN
  rw [hcls] at k3
  have hN' : Heap.NotedW (TI.gone h (L :: frs.map (·.1))) (envOf (Str.ofString "") env.scope L 0 Value.none :: outer) e (.type X) tp (rawInt L) s'.heap h' := by
    refine ⟨k1, ?_, k3, k4⟩
    obtain ⟨a1, ⟨L1, o1, b1, b2⟩, a3⟩ := k2
    rw [hf] at b1
    cases b1
    exact ⟨a1, ⟨L, o1, rfl, b2⟩, a3⟩
  obtain ⟨frs₂, SU₂, Fs₂, H⟩ := TLg.held_of_notedA (X := X) Fs F N (fun q hq hm => by
    rcases List.mem_cons.mp hm with z | z
    · exact (N q (List.mem_append_left _ hq)).2.1 z
    · exact hap q hq z) hNs (TI.SameUp.refl frs) (fun q hq => hx.keeps _ _ (N q (List.mem_append_right _ hq)).1) hx.new hN'
  exact k h' frs₂ SU₂ Fs₂ H
end
end
section
open PySem PySem.W PyProof.Rows PySem.Calls

/-- the n least below N, in their order -/
structure Best (lt : Nat → Nat → Bool) (N n : Nat) (idx : List Nat) : Prop where
  len : idx.length = min n N
  low : ∀ i ∈ idx, i < N
  srt : idx.Pairwise (Rst lt)
  out : ∀ j, j < N → j ∉ idx → ∀ i ∈ idx, Rst lt i j

theorem Best.take {lt : Nat → Nat → Bool} {N n : Nat} {pm : List Nat} (hp : pm.Perm (List.range N)) (hs : pm.Pairwise (Rst lt)) : Best lt N n (pm.take n) := by
  have hl : pm.length = N := by simpa using hp.length_eq
  refine ⟨by rw [List.length_take, hl], fun i hi => ?_, hs.sublist (List.take_sublist n pm), fun j hj hn i hi => ?_⟩
  · simpa using hp.mem_iff.mp (List.mem_of_mem_take hi)
  · have hj' : j ∈ pm := hp.mem_iff.mpr (by simpa using hj)
    rw [← List.take_append_drop n pm] at hj' hs
    rcases List.mem_append.mp hj' with h | h
    · exact absurd h hn
    · exact (List.pairwise_append.mp hs).2.2 i hi j h

theorem prefix_of {R : Nat → Nat → Prop} (irr : ∀ a, ¬ R a a) (asy : ∀ a b, R a b → R b a → False) : ∀ (pm idx : List Nat), pm.Pairwise R → idx.Pairwise R → (∀ i ∈ idx, i ∈ pm) → (∀ j ∈ pm, j ∉ idx → ∀ i ∈ idx, R i j) → idx = pm.take idx.length
  | _, [], _, _, _, _ => by simp
  | [], i :: is, _, _, hsub, _ => absurd (hsub i (.head _)) (fun h => nomatch h)
  | p :: ps, i :: is, hp, hi, hsub, hout => by
    rw [List.pairwise_cons] at hp hi
    have e : i = p := by
      rcases List.mem_cons.mp (hsub i (.head _)) with h | h
      · exact h
      · have r1 := hp.1 i h
        by_cases q : p ∈ i :: is
        · rcases List.mem_cons.mp q with q | q
          · exact q.symm
          · exact (asy _ _ r1 (hi.1 p q)).elim
        · exact (asy _ _ r1 (hout p (.head _) q i (.head _))).elim
    subst e
    have ih := prefix_of irr asy ps is hp.2 hi.2 (fun x hx => by
      rcases List.mem_cons.mp (hsub x (.tail _ hx)) with h | h
      · subst h; exact (irr _ (hi.1 _ hx)).elim
      · exact h) (fun j hj hn x hx => hout j (.tail _ hj) (fun q => by
      rcases List.mem_cons.mp q with q | q
      · subst q; exact irr _ (hp.1 _ hj)
      · exact hn q) x (.tail _ hx))
    rw [List.length_cons, List.take_succ_cons, ← ih]

theorem Rst.asymm' {lt : Nat → Nat → Bool} (O : LtOrd lt) (a b : Nat) (h1 : Rst lt a b) (h2 : Rst lt b a) : False := Rst.irrefl O (h1.trans O h2)

theorem Best.eq {lt : Nat → Nat → Bool} (O : LtOrd lt) {N n : Nat} {pm idx : List Nat} (hp : pm.Perm (List.range N)) (hs : pm.Pairwise (Rst lt)) (B : Best lt N n idx) : idx = pm.take n := by
  have hl : pm.length = N := by simpa using hp.length_eq
  have h := prefix_of (fun a h => Rst.irrefl O h) (Rst.asymm' O) pm idx hs B.srt (fun i hi => hp.mem_iff.mpr (by simpa using B.low i hi)) (fun j hj hn i hi => B.out j (by simpa using hp.mem_iff.mp hj) hn i hi)
  rw [h, B.len]
  by_cases c : n ≤ N
  · rw [Nat.min_eq_left c]
  · rw [Nat.min_eq_right (by (first | lia | omega)), List.take_of_length_le (by (first | lia | omega)), List.take_of_length_le (by (first | lia | omega))]

theorem Best.one {lt : Nat → Nat → Bool} {N i : Nat} (hi : i < N) (h : ∀ j, j < N → lt j i = false ∧ (j < i → lt i j = true)) : Best lt N 1 [i] := by
  refine ⟨by simp; (first | lia | omega), fun x hx => by rw [List.mem_singleton] at hx; (first | lia | omega), by simp, fun j hj hn x hx => ?_⟩
  rw [List.mem_singleton] at hx; subst hx
  have ne : j ≠ x := fun q => hn (by rw [q]; exact .head _)
  obtain ⟨a, b⟩ := h j hj
  by_cases q : j < x
  · exact .inl (b q)
  · exact .inr ⟨a, by (first | lia | omega)⟩
theorem Best.zero {lt : Nat → Nat → Bool} {N : Nat} : Best lt N 0 [] := ⟨by simp, (fun _ h => nomatch h), .nil, fun _ _ _ _ h => nomatch h⟩

/-- the heap's items stand for indices: the least ones below j -/
structure HI (kb : List (Array UInt8)) (vs : List Value) (ix : Item → Nat) (its : List Item) (j : Nat) (order : Int) : Prop where
  low : ∀ i ∈ its, ix i < j
  key : ∀ i ∈ its, kb[ix i]? = some i.k
  el : ∀ i ∈ its, vs[ix i]? = some i.e
  mono : ∀ a ∈ its, ∀ b ∈ its, a.o < b.o ↔ ix a < ix b
  ord : ∀ i ∈ its, i.o < order
  inj : ∀ a ∈ its, ∀ b ∈ its, a.o = b.o → a = b
  nd : its.Nodup
  small : ∀ j', j' < j → (∀ i ∈ its, ix i ≠ j') → ∀ i ∈ its, Rst (ltK kb) (ix i) j'

section
variable {kb : List (Array UInt8)} {vs : List Value} {ix : Item → Nat} {its its' : List Item} {j : Nat} {order : Int}
theorem HI.perm (H : HI kb vs ix its j order) (h : its'.Perm its) : HI kb vs ix its' j order :=
  ⟨fun i hi => H.low i (h.mem_iff.mp hi), fun i hi => H.key i (h.mem_iff.mp hi), fun i hi => H.el i (h.mem_iff.mp hi), fun a ha b hb => H.mono a (h.mem_iff.mp ha) b (h.mem_iff.mp hb), fun i hi => H.ord i (h.mem_iff.mp hi),
    fun a ha b hb => H.inj a (h.mem_iff.mp ha) b (h.mem_iff.mp hb), h.nodup_iff.mpr H.nd, fun j' hj hn i hi => H.small j' hj (fun a ha => hn a (h.mem_iff.mpr ha)) i (h.mem_iff.mp hi)⟩
theorem ltK_key {i j : Nat} {a b : Array UInt8} (ha : kb[i]? = some a) (hb : kb[j]? = some b) : ltK kb i j = bl a.toList b.toList := by
  unfold ltK
  rw [List.getD_eq_getElem?_getD, List.getD_eq_getElem?_getD, ha, hb]; rfl
theorem HI.lt_iff (H : HI kb vs ix its j order) {a b : Item} (ha : a ∈ its) (hb : b ∈ its) : a.lt b = true ↔ Rst (ltK kb) (ix a) (ix b) := by
  unfold Rst
  rw [ltK_key (H.key a ha) (H.key b hb), ltK_key (H.key b hb) (H.key a ha), ← H.mono a ha b hb]
  simp only [Item.lt, Bool.or_eq_true, Bool.and_eq_true, decide_eq_true_eq]
  constructor
  · rintro (h | ⟨h1, h2⟩)
    · exact .inl h
    · exact .inr ⟨by rw [h1]; exact bl_irrefl _, h2⟩
  · rintro (h | ⟨h1, h2⟩)
    · exact .inl h
    · rcases order_total a.k.toList b.k.toList with q | q | q
      · exact .inl q
      · exact .inr ⟨q, h2⟩
      · rw [h1] at q; cases q
theorem HI.ne (H : HI kb vs ix its j order) {a b : Item} (ha : a ∈ its) (hb : b ∈ its) (h : a ≠ b) : ix a ≠ ix b := by
  intro q
  have h1 := H.mono a ha b hb
  have h2 := H.mono b hb a ha
  rw [q] at h1 h2
  have : a.o = b.o := by
    have := h1.mp
    have := h2.mp
    rcases Int.lt_trichotomy a.o b.o with z | z | z
    · exact absurd (h1.mp z) (Nat.lt_irrefl _)
    · exact z
    · exact absurd (h2.mp z) (Nat.lt_irrefl _)
  exact h (H.inj a ha b hb this)

/-- the end: sorted, the items are the least ones -/
theorem HI.best (H : HI kb vs ix its j order) (hs : its.Pairwise fun a b => b.lt a = false) {n : Nat} (hl : its.length = min n j) : Best (ltK kb) j n (its.map ix) := by
  refine ⟨by simpa using hl, fun i hi => ?_, ?_, fun j' hj hn i hi => ?_⟩
  · obtain ⟨a, ha, rfl⟩ := List.mem_map.mp hi
    exact H.low a ha
  · rw [List.pairwise_map]
    refine (hs.and H.nd).imp_of_mem fun {a b} ha hb hab => ?_
    obtain ⟨h1, h2⟩ := hab
    refine (H.lt_iff ha hb).mp ?_
    rcases order_total a.k.toList b.k.toList with q | q | q
    · simp [Item.lt, q]
    · rcases Int.lt_trichotomy a.o b.o with z | z | z
      · simp [Item.lt, q, z]
      · exact absurd (H.inj a ha b hb z) h2
      · simp [Item.lt, q, z] at h1
    · simp [Item.lt, q] at h1
  · obtain ⟨a, ha, rfl⟩ := List.mem_map.mp hi
    exact H.small j' hj (fun b hb e => hn (List.mem_map.mpr ⟨b, hb, e⟩)) a ha

/-- a turn: the next one is not less than the root -/
theorem HI.skip (H : HI kb vs ix its j order) (hj : j < kb.length) {r : Item} (hr : r ∈ its) (hmax : ∀ i ∈ its, r.lt i = false) (h : bl kb[j].toList r.k.toList = false) : HI kb vs ix its (j + 1) order := by
  refine ⟨fun i hi => Nat.lt_succ_of_lt (H.low i hi), H.key, H.el, H.mono, H.ord, H.inj, H.nd, fun j' hj' hn i hi => ?_⟩
  by_cases e : j' = j
  · subst e
    have hl : ltK kb j' (ix r) = false := by rw [ltK_key (List.getElem?_eq_getElem hj) (H.key r hr)]; exact h
    have rj : Rst (ltK kb) (ix r) j' := .inr ⟨hl, H.low r hr⟩
    by_cases q : i = r
    · rw [q]; exact rj
    · refine Rst.trans (ltK_ord kb) ?_ rj
      refine (H.lt_iff hi hr).mp ?_
      have hm := hmax i hi
      rcases order_total i.k.toList r.k.toList with z | z | z
      · simp [Item.lt, z]
      · rcases Int.lt_trichotomy i.o r.o with y | y | y
        · simp [Item.lt, z, y]
        · exact absurd (H.inj i hi r hr y) q
        · simp [Item.lt, z, y] at hm
      · simp [Item.lt, z] at hm
  · exact H.small j' (by (first | lia | omega)) hn i hi

/-- a turn: the next one is less than the root, and takes its place -/
theorem HI.put (H : HI kb vs ix its j order) (hj : j < kb.length) {r y : Item} {rs : List Item} (hits : its = r :: rs) (hmax : ∀ i ∈ its, r.lt i = false) (h : bl kb[j].toList r.k.toList = true)
    (hyk : y.k = kb[j]) (hye : vs[j]? = some y.e) (hyo : y.o = order) : HI kb vs (fun i => if i.o = order then j else ix i) (y :: rs) (j + 1) (order + 1) := by
  subst hits
  have hr : r ∈ r :: rs := .head _
  have old : ∀ i ∈ rs, (if i.o = order then j else ix i) = ix i := fun i hi => if_neg (by have := H.ord i (.tail _ hi); (first | lia | omega))
  have new : (if y.o = order then j else ix y) = j := if_pos hyo
  have hyo' : ∀ i ∈ rs, i.o < y.o := fun i hi => by rw [hyo]; exact H.ord i (.tail _ hi)
  have hnd := List.nodup_cons.mp H.nd
  have jr : Rst (ltK kb) j (ix r) := .inl (by rw [ltK_key (List.getElem?_eq_getElem hj) (H.key r hr)]; exact h)
  refine ⟨fun i hi => ?_, fun i hi => ?_, fun i hi => ?_, fun a ha b hb => ?_, fun i hi => ?_, fun a ha b hb hab => ?_, ?_, fun j' hj' hn i hi => ?_⟩
  · rcases List.mem_cons.mp hi with rfl | hi
    · rw [new]; (first | lia | omega)
    · rw [old i hi]; have := H.low i (.tail _ hi); (first | lia | omega)
  · rcases List.mem_cons.mp hi with rfl | hi
    · rw [new, hyk]; exact List.getElem?_eq_getElem hj
    · rw [old i hi]; exact H.key i (.tail _ hi)
  · rcases List.mem_cons.mp hi with rfl | hi
    · rw [new, hye]
    · rw [old i hi]; exact H.el i (.tail _ hi)
  · rcases List.mem_cons.mp ha with rfl | ha' <;> rcases List.mem_cons.mp hb with rfl | hb'
    · simp
    · rw [new, old b hb']; have := hyo' b hb'; have := H.low b (.tail _ hb'); (first | lia | omega)
    · rw [new, old a ha']; have := hyo' a ha'; have := H.low a (.tail _ ha'); (first | lia | omega)
    · rw [old a ha', old b hb']; exact H.mono a (.tail _ ha') b (.tail _ hb')
  · rcases List.mem_cons.mp hi with rfl | hi
    · (first | lia | omega)
    · have := H.ord i (.tail _ hi); (first | lia | omega)
  · rcases List.mem_cons.mp ha with rfl | ha' <;> rcases List.mem_cons.mp hb with rfl | hb'
    · rfl
    · have := hyo' b hb'; (first | lia | omega)
    · have := hyo' a ha'; (first | lia | omega)
    · exact H.inj a (.tail _ ha') b (.tail _ hb') hab
  · refine List.nodup_cons.mpr ⟨fun q => ?_, hnd.2⟩
    have := hyo' y q; (first | lia | omega)
  ·    -- those left out: j' stands behind r
    have rj : j' ≠ ix r → Rst (ltK kb) (ix r) j' := fun ne => by
      have hjj : j' ≠ j := fun e => hn y (.head _) (by rw [new, e])
      refine H.small j' (by (first | lia | omega)) (fun a ha e => ?_) r hr
      rcases List.mem_cons.mp ha with rfl | ha
      · exact ne e.symm
      · exact hn a (.tail _ ha) (by rw [old a ha]; exact e)
    rcases List.mem_cons.mp hi with rfl | hi
    · rw [new]
      by_cases e : j' = ix r
      · rw [e]; exact jr
      · exact jr.trans (ltK_ord kb) (rj e)
    · rw [old i hi]
      have ir : Rst (ltK kb) (ix i) (ix r) := by
        have hm := hmax i (.tail _ hi)
        have q : i ≠ r := fun e => hnd.1 (e ▸ hi)
        refine (H.lt_iff (.tail _ hi) hr).mp ?_
        rcases order_total i.k.toList r.k.toList with z | z | z
        · simp [Item.lt, z]
        · rcases Int.lt_trichotomy i.o r.o with y' | y' | y'
          · simp [Item.lt, z, y']
          · exact absurd (H.inj i (.tail _ hi) r hr y') q
          · simp [Item.lt, z, y'] at hm
        · simp [Item.lt, z] at hm
      by_cases e : j' = ix r
      · rw [e]; exact ir
      · exact ir.trans (ltK_ord kb) (rj e)
end
end
section
open PySem PySem.W PyProof.Rows PySem.Calls
set_option Elab.async false
set_option maxRecDepth 100000
set_option maxHeartbeats 8000000

theorem mro_object' : mroOf (.type "object") = pure [.type "object"] := by kernel_rfl
theorem lookup_object_new : typeLookup (.type "object") "__new__" = pure (some (.builtin "object.__new__")) := by rw [typeLookup_type, builtinLookup_eq_fast]; kernel_rfl
theorem called_object : TypeCalled "object" "object.__new__" "object.__init__" :=
  ⟨by decide +kernel, by decide +kernel, ⟨_, _, mro_object'⟩, madeBy_type mro_object' lookup_object_new (by decide +kernel), by decide +kernel, by rw [isSubtype_type]; kernel_rfl, PySem.F.slot_object_init⟩
theorem typeCall_object_0 : checkTypeCall "object" ⟨[], []⟩ = pure () := by kernel_rfl
theorem newCall_object_0 : checkBuiltinCall "object.__new__" ⟨[.type "object"], []⟩ = pure () := by kernel_rfl
theorem entry_object_new' : entryFor table "object.__new__" = some Builtin.«object.__new__» := entryFor_of_tree (by kernel_rfl)
theorem madeHere_object : Bind.madeHere "object.__new__" (.type "object") = pure () := by kernel_rfl

theorem meets_object_new : Meets (Builtin.«object.__new__» ⟨[.type "object"], []⟩) (fun _ R s => R (.ok (.ret (.ref s.heap.objs.size))) { s with heap := s.heap.push { cls := .type "object", data := .plain } }) :=
  .of_wp fun prog w A R s h => by
    unfold Builtin.«object.__new__»
    have h1 := madeHere_object
    repeat (any_goals (first | assumption | wp_step))
    exact ⟨_, rfl, h⟩
theorem meets_object_init1 (self : Value) : Meets (Builtin.«object.__init__» ⟨[self], []⟩) (fun _ R s => R (.ok (.ret .none)) s) :=
  .of_wp fun prog w A R s h => wpAny_pure ⟨_, rfl, h⟩

section
variable {prog : Program} {w : World} {A : Around} {E : Value → Shared → Prop} {s : Shared}
theorem call_object {Q : Value → Shared → Prop} (h : Q (.ref s.heap.objs.size) { s with heap := s.heap.push { cls := .type "object", data := .plain } }) : wpAny (model prog w) A (call (.type "object") []) Q E s := by
  refine callType_meets (Q₁ := fun obj s₁ => obj = .ref s.heap.objs.size ∧ s₁ = { s with heap := s.heap.push { cls := .type "object", data := .plain } }) called_object typeCall_object_0 newCall_object_0 entry_object_new' PySem.F.entry_object_init meets_object_new ⟨rfl, rfl⟩ ?_
  rintro obj s₁ ⟨rfl, rfl⟩
  exact ⟨⟨_, Heap.get?_push_size _ rfl, rfl⟩, PySem.F.args_object_init_1 _, _, meets_object_init1 _, rfl, h⟩
end

abbrev zH1 (h : Heap) (c : Int) : Heap := h.push { cls := .type "range_iterator", data := .fields #[rawInt 0, rawInt c, rawInt 1] }
abbrev zH2 (h : Heap) (c : Int) (i2 : Addr) : Heap := (zH1 h c).push { cls := .type "tuple", data := .seq #[.ref h.objs.size, .ref i2] }
abbrev zH3 (h : Heap) (c : Int) (i2 : Addr) : Heap := (zH2 h c i2).push { cls := .type "tuple", data := .seq #[.none, .none] }
abbrev zH4 (h : Heap) (c : Int) (i2 : Addr) : Heap := (zH3 h c i2).push { cls := .type "zip", data := .fields #[.none, .bool false, .bool false, .ref (zH1 h c).objs.size, .ref (zH2 h c i2).objs.size] }

theorem range_one {n : Int} (h1 : -4611686018427387904 ≤ n) (h2 : n ≤ 4611686018427387904) : Builtin.Range.rangeSize 0 n 1 = n.toNat ∧ Builtin.Range.small 0 n 1 = true := by
  have hn : Builtin.Range.rangeSize 0 n 1 = n.toNat := by
    unfold Builtin.Range.rangeSize
    rw [if_pos (by decide)]
    split <;> omega
  have f : ∀ x : Int, -4611686018427387904 ≤ x → x ≤ 4611686018427387904 → Builtin.Range.rangeFitsLong x = true := fun x h1 h2 => by
    simp only [Builtin.Range.rangeFitsLong, Bool.and_eq_true, decide_eq_true_eq]; omega
  refine ⟨hn, ?_⟩
  unfold Builtin.Range.small
  rw [hn, f 0 (by decide) (by decide), f n (by omega) (by omega), f 1 (by decide) (by decide), if_pos (by decide), f (n + (1 - 1)) (by omega) (by omega), f (n.toNat : Int) (by omega) (by omega)]
  simp only [Bool.true_and, Bool.or_true]

theorem meets_zip_ri (r i2 l : Addr) (n : Int) (t u v : Tok) (j : Nat) (h1 : -4611686018427387904 ≤ n) (h2 : n ≤ 4611686018427387904) :
    Meets (Builtin.«zip.__new__» ⟨[.type "zip", .ref r, .ref i2], []⟩) (fun _ R s => IsRange s.heap r 0 n 1 t u v ∧ s.heap.IsListIter i2 l j ∧
      R (.ok (.ret (.ref (zH3 s.heap n.toNat i2).objs.size))) { s with heap := zH4 s.heap n.toNat i2 }) :=
  .of_wp fun prog w A R s h => by
    obtain ⟨hp, g, d, tk, os⟩ := s; obtain ⟨hr, hi, h⟩ := h
    have hsub := sub_zip
    have hr' : IsRange (Shared.heap ⟨hp, g, d, tk, os⟩) r 0 n 1 t u v := hr
    obtain ⟨e1, e2⟩ := range_one h1 h2
    have hi' : Heap.IsListIter (Shared.heap ⟨hp.push { cls := .type "range_iterator", data := .fields #[rawInt 0, rawInt (Builtin.Range.rangeSize 0 n 1), rawInt 1] }, g, d, tk, os⟩) i2 l j := hi.at fun o e => Heap.get?_push_of_some _ e
    wp_walk using wpAny_pyIter_range hr' e2, wpAny_pyIter_listiter hi'
    rw [e1]
    exact ⟨_, rfl, h⟩

section
variable {prog : Program} {w : World} {A : Around} {E : Value → Shared → Prop} {s : Shared}
theorem call_zip_ri {r i2 l : Addr} {n : Int} {t u v : Tok} {j : Nat} {Q : Value → Shared → Prop} (hr : IsRange s.heap r 0 n 1 t u v) (hi : s.heap.IsListIter i2 l j) (h1 : -4611686018427387904 ≤ n) (h2 : n ≤ 4611686018427387904)
    (h : ∀ h', IsZip h' (s.heap.objs.size + 3) (s.heap.objs.size + 1) (s.heap.objs.size + 2) .none → IsPair h' (s.heap.objs.size + 1) (.ref s.heap.objs.size) (.ref i2) →
      IsPair h' (s.heap.objs.size + 2) .none .none → IsRangeIter h' s.heap.objs.size 0 (n.toNat : Int) 1 → h'.objs.size = s.heap.objs.size + 4 →
      (∀ c o, s.heap.get? c = some o → h'.get? c = some o) → Q (.ref (s.heap.objs.size + 3)) { s with heap := h' }) :
    wpAny (model prog w) A (call (.type "zip") [.ref r, .ref i2]) Q E s := by
  refine callType_new F.called_zip (by decide) (F.typeCall_zip_2 _ _) (F.newCall_zip_2 _ _) (fun obj => F.args_object_init_3 obj _ _) F.entry_zip_new
    (meets_zip_ri r i2 l n t u v j h1 h2) ⟨hr, hi, ?_⟩
  have z1 : (zH1 s.heap n.toNat).objs.size = s.heap.objs.size + 1 := Heap.size_push ..
  have z2 : (zH2 s.heap n.toNat i2).objs.size = s.heap.objs.size + 2 := by rw [Heap.size_push, z1]
  have z3 : (zH3 s.heap n.toNat i2).objs.size = s.heap.objs.size + 3 := by rw [Heap.size_push, z2]
  have z4 : (zH4 s.heap n.toNat i2).objs.size = s.heap.objs.size + 4 := by rw [Heap.size_push, z3]
  have g4 : (zH4 s.heap n.toNat i2).get? (zH3 s.heap n.toNat i2).objs.size = some _ := Heap.get?_push_size _ rfl
  have g3 : (zH4 s.heap n.toNat i2).get? (zH2 s.heap n.toNat i2).objs.size = some _ := Heap.get?_push_of_some _ (Heap.get?_push_size _ rfl)
  have g2 : (zH4 s.heap n.toNat i2).get? (zH1 s.heap n.toNat).objs.size = some _ := Heap.get?_push_of_some _ (Heap.get?_push_of_some _ (Heap.get?_push_size _ rfl))
  have g1 : (zH4 s.heap n.toNat i2).get? s.heap.objs.size = some _ := Heap.get?_push_of_some _ (Heap.get?_push_of_some _ (Heap.get?_push_of_some _ (Heap.get?_push_size _ rfl)))
  show _ ∧ _
  rw [z1, z2, z3] at g4
  rw [z1] at g2
  rw [z2] at g3
  rw [z3]
  exact ⟨⟨_, g4, rfl⟩, h _ g4 g2 g3 g1 z4 fun c o x => Heap.get?_push_of_some _ (Heap.get?_push_of_some _ (Heap.get?_push_of_some _ (Heap.get?_push_of_some _ x)))⟩
end
end
section
open PySem PySem.W PyProof.Rows PySem.Calls
set_option Elab.async false
set_option maxRecDepth 100000
set_option maxHeartbeats 8000000
example : PySem.Challenge.rw_pd0043_01.prog = PySem.Challenge.rw_pd0043_01.prog → hd.heap_39 = hd.heap_39 := by
  k_fill
  exact fun _ => rfl

open PyProof.Rows.LCg (NsObj lst)

/-- the rest of the state keeps its iterator -/
theorem ItSt.hold {h : Heap} {it l : Addr} {n j : Nat} (x : ItSt h it l n j) : ∃ o, h.get? it = some o ∧ o.cls = .type "list_iterator" ∧ ∀ h' : Heap, h'.get? it = some o → ItSt h' it l n j := by
  rcases x with ⟨⟨o, ho, r⟩, hj⟩ | ⟨hj, o, ho, r⟩
  · exact ⟨o, ho, r.1, fun h' e => .inl ⟨⟨o, e, r⟩, hj⟩⟩
  · exact ⟨o, ho, r.1, fun h' e => .inr ⟨hj, o, e, r⟩⟩

section
variable {prog : Program} {w : World} {A : Around} {E : Value → Shared → Prop} {s : Shared} {h₀ : Heap} {L : Addr} {m : Str → Option Value}

/-- three names take a tuple's items -/
theorem assign3 {env : Env} {a b c : Str} {pa pb pc tp : Pos} {kk : Nat} {T : Addr} {x y z : Value} {Q : Unit → Shared → Prop} (hh : A.handled = none) (ht : s.heap.IsTuple T #[x, y, z])
    (ha : env.kindOf a = some .local) (hb : env.kindOf b = some .local) (hc : env.kindOf c = some .local) (hp : (env.scope.kind == .class || (env.scope.kind == .module && env.locals != env.globals)) = false) (hn : s.heap.Ns env.locals m)
    (h : ∀ (h' : Heap) (tk : Nat), h'.Ns env.locals (fun u => if u = c then some z else if u = b then some y else if u = a then some x else m u) → (∀ d o, d ≠ env.locals → s.heap.get? d = some o → h'.get? d = some o) → Q () { s with heap := h', toks := tk }) :
    wpAny (model prog w) A (assign (.Tuple [.Name a pa, .Name b pb, .Name c pc] kk tp) env (.ref T)) Q E s := by
  refine wpAny_assign_Tuple hh ht rfl rfl fun h₁ he₁ => ?_
  have hL : env.locals ≠ s.heap.objs.size := Nat.ne_of_lt hn.lt
  have hn₁ : h₁.Ns env.locals m := hn.at' fun o e => he₁ _ o hL e
  have up₁ : ∀ d o, s.heap.get? d = some o → h₁.get? d = some o := fun d o e => he₁ d o (Nat.ne_of_lt (Heap.lt_size e)) e
  refine assignInOrder_cons (wpAny_assign_Name (wpAny_storeName_local ha hn₁ (fun h₂ hn₂ hs₂ => ?_) hp))
  refine assignInOrder_cons (wpAny_assign_Name (wpAny_storeName_local hb hn₂ (fun h₃ hn₃ hs₃ => ?_) hp))
  refine assignInOrder_cons (wpAny_assign_Name (wpAny_storeName_local hc hn₃ (fun h₄ hn₄ hs₄ => ?_) hp))
  refine assignInOrder_nil ?_
  exact h h₄ _ hn₄ fun d o hd e => hs₄.extBut d o hd (hs₃.extBut d o hd (hs₂.extBut d o hd (up₁ d o e)))

/-- in the frame itself -/
theorem storeF3 {env : Env} {a b c : Str} {pa pb pc tp : Pos} {kk : Nat} {T : Addr} {x y z : Value} {news : List (Addr × Obj)} {Q : Unit → Shared → Prop} (hh : A.handled = none) (ht : s.heap.IsTuple T #[x, y, z]) (F : Fr h₀ L s.heap m) (N : News h₀ L s.heap news) (hL : env.locals = L)
    (ha : env.kindOf a = some .local) (hb : env.kindOf b = some .local) (hc : env.kindOf c = some .local) (hp : (env.scope.kind == .class || (env.scope.kind == .module && env.locals != env.globals)) = false)
    (h : ∀ (h' : Heap) (tk : Nat), Fr h₀ L h' (fun u => if u = c then some z else if u = b then some y else if u = a then some x else m u) → News h₀ L h' news → Q () { s with heap := h', toks := tk }) :
    wpAny (model prog w) A (assign (.Tuple [.Name a pa, .Name b pb, .Name c pc] kk tp) env (.ref T)) Q E s := by
  subst hL
  refine assign3 hh ht ha hb hc hp F.ns fun h' tk hn hk => h h' tk ⟨hn, fun d o e => hk d o (fun q => ?_) (F.keep d o e), F.above⟩ fun p hp => ⟨hk _ _ (N p hp).2.1 (N p hp).1, (N p hp).2⟩
  have := Heap.lt_size e
  rw [q] at this
  exact absurd this (Nat.not_lt.mpr F.above)

variable {scope : Scope} {cl : List (Str × Addr)} {C : Addr} {oC : Obj} {rest : List (Addr × Obj)} {m₂ : Str → Option Value} {env : Env}
theorem after_store {h h' : Heap} {f : Str → Option Value} (F : Fr h₀ L h m) (N : News h₀ L h ((C, oC) :: rest)) (off : ∀ p ∈ rest, p.1 ≠ C) (hn : h'.Ns C f) (hk : ∀ d o, d ≠ C → h.get? d = some o → h'.get? d = some o) :
    ∃ oC', Fr h₀ L h' m ∧ News h₀ L h' ((C, oC') :: rest) ∧ NsObj oC' f := by
  have z := N (C, oC) (.head _)
  obtain ⟨oC', ho, hN'⟩ := LCg.ns_obj hn
  refine ⟨oC', ⟨F.ns.at' fun o e => hk _ o (Ne.symm z.2.1) e, fun d o e => hk d o (fun q => ?_) (F.keep d o e), F.above⟩, fun p hp => ?_, hN'⟩
  · rw [q] at e; have := z.2.2; dsimp only at this; rw [this] at e; cases e
  · rcases List.mem_cons.mp hp with rfl | hp
    · exact ⟨ho, z.2⟩
    · exact ⟨hk _ _ (off p hp) (N p (.tail _ hp)).1, (N p (.tail _ hp)).2⟩

/-- in a comprehension's own frame -/
theorem storeT2 {a b : Str} {pa pb tp : Pos} {kk : Nat} {T : Addr} {x y : Value} {Q : Unit → Shared → Prop} (hh : A.handled = none) (ht : s.heap.IsTuple T #[x, y]) (F : Fr h₀ L s.heap m) (N : News h₀ L s.heap ((C, oC) :: rest)) (hN : NsObj oC m₂) (off : ∀ p ∈ rest, p.1 ≠ C)
    (ha : scope.names.lookup a = some .local) (hb : scope.names.lookup b = some .local) (hkind : scope.kind = .function) (hab : a ≠ b)
    (h : ∀ h' tk oC' m₃, Fr h₀ L h' m → News h₀ L h' ((C, oC') :: rest) → NsObj oC' m₃ → m₃ a = some x → m₃ b = some y → (∀ u, u ≠ a → u ≠ b → m₃ u = m₂ u) → Q () { s with heap := h', toks := tk }) :
    wpAny (model prog w) A (assign (.Tuple [.Name a pa, .Name b pb] kk tp) (compEnvC scope cl C env) (.ref T)) Q E s := by
  have z := N (C, oC) (.head _)
  refine kcp_assign (env := compEnvC scope cl C env) hh ht (lookup_relabel_local ha) (lookup_relabel_local hb) (by simp [compEnvC, relabel, hkind]) (hN.ns z.1) fun h' tk hn hk => ?_
  obtain ⟨oC', F', N', hN'⟩ := after_store F N off hn hk
  refine h h' tk oC' _ F' N' hN' ?_ (if_pos rfl) fun u h1 h2 => ?_
  · rw [if_neg hab, if_pos rfl]
  · rw [if_neg h2, if_neg h1]
theorem storeT3 {a b c : Str} {pa pb pc tp : Pos} {kk : Nat} {T : Addr} {x y z : Value} {Q : Unit → Shared → Prop} (hh : A.handled = none) (ht : s.heap.IsTuple T #[x, y, z]) (F : Fr h₀ L s.heap m) (N : News h₀ L s.heap ((C, oC) :: rest)) (hN : NsObj oC m₂) (off : ∀ p ∈ rest, p.1 ≠ C)
    (ha : scope.names.lookup a = some .local) (hb : scope.names.lookup b = some .local) (hc : scope.names.lookup c = some .local) (hkind : scope.kind = .function)
    (h : ∀ h' tk oC' m₃, Fr h₀ L h' m → News h₀ L h' ((C, oC') :: rest) → NsObj oC' m₃ → m₃ c = some z → Q () { s with heap := h', toks := tk }) :
    wpAny (model prog w) A (assign (.Tuple [.Name a pa, .Name b pb, .Name c pc] kk tp) (compEnvC scope cl C env) (.ref T)) Q E s := by
  have zz := N (C, oC) (.head _)
  refine assign3 (env := compEnvC scope cl C env) hh ht (lookup_relabel_local ha) (lookup_relabel_local hb) (lookup_relabel_local hc) (by simp [compEnvC, relabel, hkind]) (hN.ns zz.1) fun h' tk hn hk => ?_
  obtain ⟨oC', F', N', hN'⟩ := after_store F N off hn hk
  exact h h' tk oC' _ F' N' hN' (if_pos rfl)
end
end
section
open PySem PySem.W PyProof.Rows PySem.Calls
set_option Elab.async false
set_option maxRecDepth 100000
set_option maxHeartbeats 8000000
example : PySem.Challenge.rw_pd0043_01.prog = PySem.Challenge.rw_pd0043_01.prog → hd.heap_39 = hd.heap_39 := by
  k_fill
  exact fun _ => rfl


theorem SrcN.keepsList {g h : Heap} {L l : Addr} {m : Str → Option Value} {vs : List Value} (hl : g.IsList l vs.toArray) (F : Fr g L h m) : h.IsList l vs.toArray := let ⟨o, ho, r⟩ := hl; ⟨o, F.keep _ _ ho, r⟩

theorem News.sub {h₀ h : Heap} {L : Addr} {a b : List (Addr × Obj)} (N : News h₀ L h a) (hs : ∀ p ∈ b, p ∈ a) : News h₀ L h b := fun p hp => N p (hs p hp)

theorem is_ref_apart {M : Model} {A : Around} {E : Value → Shared → Prop} {s : Shared} {Q : Value → Shared → Prop} {x y : Addr} {ox oy : Obj} (hxy : x ≠ y) (hx : s.heap.get? x = some ox) (hy : s.heap.get? y = some oy) (hnt : oy.cls ≠ .type "tuple")
    (h : Q (.bool false) s) : wpAny M A (compareOp .Is (.ref x) (.ref y)) Q E s := by
  show wpAny M A (do return .bool (← isSame (.ref x) (.ref y))) Q E s
  refine wpAny_bind ?_
  show wpAny M A (if (x == y) = true then pure true else _) _ E s
  rw [if_neg (by simpa using hxy)]
  refine wpAny_bind (wpAny_load hx (wpAny_bind (wpAny_load hy ?_)))
  split
  · rename_i h1 h2 h3 h4; first | exact absurd h1 hnt | exact absurd h2 hnt | exact absurd h3 hnt | exact absurd h4 hnt
  · exact wpAny_pure (wpAny_pure h)

theorem with_push {M : Model} {A : Around} {α : Type} {tree : Sem α} {Q : α → Shared → Prop} {E : Value → Shared → Prop} {g h : Heap} {L : Addr} {m : Str → Option Value} {news : List (Addr × Obj)} {ro : Obj} {gs : Array GenState} {d : Drawn} {tk : Nat} {os : OsState}
    (F : Fr g L h m) (N : News g L h news) (hf : ro.isFreed = false) (k : Fr g L (h.push ro) m → News g L (h.push ro) ((h.objs.size, ro) :: news) → wpAny M A tree Q E ⟨h.push ro, gs, d, tk, os⟩) : wpAny M A tree Q E ⟨h.push ro, gs, d, tk, os⟩ :=
  k (F.push ro) (News.push F N ro hf)

theorem za_mk {B I l : Nat} (h1 : I < B) (h2 : l < B) (h3 : l ≠ I) : ZA (B + 3) (B + 1) (B + 2) B I l where
  TIz := Nat.ne_of_lt (show B + 1 < B + 3 by (first | lia | omega))
  TOz := Nat.ne_of_lt (show B + 2 < B + 3 by (first | lia | omega))
  i1z := Nat.ne_of_lt (show B < B + 3 by (first | lia | omega))
  i2z := Nat.ne_of_lt (show I < B + 3 by (first | lia | omega))
  TITO := Nat.ne_of_lt (show B + 1 < B + 2 by (first | lia | omega))
  TIi1 := Nat.ne_of_gt (show B < B + 1 by (first | lia | omega))
  TIi2 := Nat.ne_of_gt (show I < B + 1 by (first | lia | omega))
  TOi1 := Nat.ne_of_gt (show B < B + 2 by (first | lia | omega))
  TOi2 := Nat.ne_of_gt (show I < B + 2 by (first | lia | omega))
  i12 := Nat.ne_of_gt h1
  lz := Nat.ne_of_lt (show l < B + 3 by (first | lia | omega))
  lTO := Nat.ne_of_lt (show l < B + 2 by (first | lia | omega))
  li1 := Nat.ne_of_lt h2
  li2 := h3

theorem allLt_mem {d : Addr} : ∀ {l : List (Addr × Obj)}, AllLt d l → ∀ p ∈ l, p.1 < d
  | [], _, _, h => nomatch h
  | _ :: _, x, p, h => by
    rcases List.mem_cons.mp h with rfl | h
    · exact x.1
    · exact allLt_mem x.2 p h

/-- the items' places in the ledger -/
def ents (its : List Item) : List (Addr × Obj) := its.map fun x => (x.a, x.obj)
theorem ents_mem {its : List Item} {x : Item} (h : x ∈ its) : (x.a, x.obj) ∈ ents its := List.mem_map_of_mem h
theorem ents_snoc (its : List Item) (x : Item) : ents (its ++ [x]) = ents its ++ [(x.a, x.obj)] := by simp [ents]
theorem vals_snoc (its : List Item) (x : Item) : vals its ++ [.ref x.a] = vals (its ++ [x]) := by simp [vals]
def ItsOK (kb : List (Array UInt8)) (vs : List Value) (its : List Item) : Prop := ∀ (j : Nat) (x : Item), its[j]? = some x → x.o = (j : Int) ∧ kb[j]? = some x.k ∧ vs[j]? = some x.e

theorem HI.init {kb : List (Array UInt8)} {vs : List Value} {its : List Item} (hok : ItsOK kb vs its) {n : Int} (hn : (its.length : Int) ≤ n) : HI kb vs (fun x => x.o.toNat) its its.length n := by
  have at_ : ∀ x ∈ its, ∃ j : Nat, j < its.length ∧ its[j]? = some x ∧ x.o = (j : Int) ∧ kb[j]? = some x.k ∧ vs[j]? = some x.e := fun x hx => by
    obtain ⟨j, hj⟩ := List.mem_iff_getElem?.mp hx
    exact ⟨j, (List.getElem?_eq_some_iff.mp hj).1, hj, hok j x hj⟩
  have inj : ∀ a ∈ its, ∀ b ∈ its, a.o = b.o → a = b := fun a ha b hb e => by
    obtain ⟨j, _, h1, h2, _⟩ := at_ a ha
    obtain ⟨k, _, h3, h4, _⟩ := at_ b hb
    have : j = k := by (first | lia | omega)
    subst this
    rw [h1] at h3; exact Option.some.inj h3
  refine ⟨fun a ha => ?_, fun a ha => ?_, fun a ha => ?_, fun a ha b hb => ?_, fun a ha => ?_, inj, ?_, fun j' hj' hn' => ?_⟩
  · obtain ⟨j, h1, _, h2, _⟩ := at_ a ha; rw [h2]; simpa using h1
  · obtain ⟨j, h1, _, h2, h3, _⟩ := at_ a ha; rw [h2]; simpa using h3
  · obtain ⟨j, h1, _, h2, _, h3⟩ := at_ a ha; rw [h2]; simpa using h3
  · obtain ⟨j, _, _, h2, _⟩ := at_ a ha
    obtain ⟨k, _, _, h4, _⟩ := at_ b hb
    rw [h2, h4]; simp
  · obtain ⟨j, h1, _, h2, _⟩ := at_ a ha; rw [h2]; (first | lia | omega)
  · rw [List.nodup_iff_pairwise_ne, List.pairwise_iff_getElem]
    intro i j hi hj hij e
    have h1 := (hok i its[i] (List.getElem?_eq_getElem hi)).1
    have h2 := (hok j its[j] (List.getElem?_eq_getElem hj)).1
    rw [e] at h1; (first | lia | omega)
  · have h1 := (hok j' its[j'] (List.getElem?_eq_getElem hj')).1
    exact absurd (by rw [h1]; simp) (hn' its[j'] (List.getElem_mem hj'))

theorem held_keeps {g h h' : Heap} {L e : Addr} {m : Str → Option Value} {X : String} {news : List (Addr × Obj)} {fl : Value} (H : TT.HeldNA g L h m e X news fl) (k : ∀ b o, h.get? b = some o → h'.get? b = some o) : TT.HeldNA g L h' m e X news fl := by
  obtain ⟨⟨F, ⟨ob, vs, tb, otb, tvs, he, a1, a2, a3, htb, a4⟩, hf⟩, N, hap⟩ := H
  refine ⟨⟨F.kept k, ⟨ob, vs, tb, otb, tvs, k _ _ he, a1, a2, a3, k _ _ htb, a4⟩, hf⟩, fun p hp => ⟨k _ _ (N p hp).1, (N p hp).2⟩, fun ob' vs' tb' e1 e2 e3 p hp => ?_⟩
  rw [k _ _ he] at e1
  cases e1
  exact hap ob vs' tb' he e2 e3 p hp

theorem looks_cls {M : Model} {h : Heap} {e : Addr} {ob : Obj} {c : Value} (he : h.get? e = some ob) (hc : ob.cls = c) : Looks M h (typeOf (.ref e)) c := by
  subst hc
  exact (Looks.ld he).andThen .now

theorem try_cut {M : Model} {A : Around} {tree : Sem Flow} {Q : Flow → Shared → Prop} {E : Value → Shared → Prop} {s : Shared} (P : Shared → Prop) (V : Value → Shared → Prop) (mid : ∀ s', P s' → Q .next s') (ret : ∀ v s', V v s' → Q (.ret v) s')
    (main : ∀ Q' : Flow → Shared → Prop, (∀ s', P s' → Q' .next s') → (∀ v s', V v s' → Q' (.ret v) s') → wpAny M A tree Q' E s) : wpAny M A tree Q E s := main Q mid ret

theorem pick_take {vs : List Value} {n : Int} (h : 0 ≤ n) : slicePick vs.toArray none (some n) none = List.toArray (vs.take n.toNat) := by
  have e : sliceBounds none (some n) none vs.toArray.size = (((0 : Nat) : Int), ((min n.toNat vs.toArray.size : Nat) : Int), 1) := by
    simp only [sliceBounds, Option.getD_none, show (1 : Int) > 0 by decide, if_true, if_neg (show ¬ (n < 0) by (first | lia | omega))]
    congr 1
    congr 1
    (first | lia | omega)
  rw [kmk_pick_nat _ e]
  show List.toArray ((vs.drop 0).take (min n.toNat vs.toArray.size - 0)) = _
  rw [List.drop_zero, Nat.sub_zero, List.size_toArray, kmk_take_min]

/-- what the key answers, wherever it is called -/
def KeyOK (w : World) (p : Program) (loose : List Str) (mean : ExcName → Option Value) (mg mb : Str → Option Value) (base : Heap) (q : Addr) (g₀ : Heap) (vs : List Value) (kb : List (Array UInt8)) (dd uu : Nat) : Prop :=
  ∀ (i : Nat) (v : Value) (k : Array UInt8), vs[i]? = some v → kb[i]? = some k → ∀ (A : Around) (g : Heap) (outer : List Env) (s : Shared) (R : Result → Shared → Prop),
    Gnd (hd.heap_39 w.params) p loose mean mg mb A base outer g → (∀ b o, g₀.get? b = some o → g.get? b = some o) → Sep g s.heap [] → A.depth + dd < recursionLimit → A.units + uu < cLine → A.handled = none →
    (∀ h' tk' t, Sep g h' [] → R (.ok (.ret (.bytes k t))) { s with heap := h', toks := tk' }) →
    codeAny (model PySem.Challenge.rw_pd0043_01.row.prog w) A (.call (.ref q) ⟨[v], []⟩) R s

section
variable {w : World} {p : Program} {loose : List Str} {mean : ExcName → Option Value} {mg mb : Str → Option Value} {A A' A₀ : Around} {base g h : Heap} {outer : List Env} {s : Shared} {frs rest : List (Addr × Obj)} {L q : Addr} {m : Str → Option Value} {env : Env}

theorem key_turn {vs : List Value} {kb : List (Array UInt8)} {dd uu tk : Nat} (G : OG (hd.heap_39 w.params) p loose mean mg mb A₀ base outer frs g) (hk : KeyOK w p loose mean mg mb base q g vs kb dd uu)
    (hA : A'.frames = some (env :: outer)) (hf : env.frame = some L) (hke : env.scope.kind = .function) (hd : A'.depth + dd < recursionLimit) (hu : A'.units + uu < cLine) (hh : A'.handled = none)
    (F : Fr g L h m) (N : News g L h rest) (hfr : ∀ q ∈ frs, q ∈ rest) {i : Nat} {v : Value} {k : Array UInt8} (hv : vs[i]? = some v) (hkb : kb[i]? = some k) {Q : Value → Shared → Prop} {E : Value → Shared → Prop}
    (hQ : ∀ h' tk' t, Fr g L h' m → News g L h' rest → Q (.bytes k t) { s with heap := h', toks := tk' }) :
    wpAny (model PySem.Challenge.rw_pd0043_01.row.prog w) A' (call (.ref q) [v]) Q E { s with heap := h, toks := tk } := by
  refine callO (s := { s with heap := h, toks := tk }) (hid := []) (rest := rest) G F N hfr hA hf hke (fun _ _ x => nomatch x) fun g' G' S' hfz hsub hback => ?_
  refine hk i v k hv hkb A' g' (env :: outer) _ _ G' hsub S' hd hu hh ?_
  intro h' tk' t S''
  obtain ⟨F', N'⟩ := hback _ _ S''
  exact hQ h' tk' t F' N'

theorem key_turn1 {vs : List Value} {kb : List (Array UInt8)} {dd uu tk : Nat} (G : OG (hd.heap_39 w.params) p loose mean mg mb A base outer frs g) (hk : KeyOK w p loose mean mg mb base q g vs kb dd uu)
    (hf : env.frame = some L) (hke : env.scope.kind = .function) (hd : A.depth + 1 + dd < recursionLimit) (hu : A.units + uu + 20 < cLine) (hh : A.handled = none)
    (F : Fr g L h m) (N : News g L h rest) (hfr : ∀ q ∈ frs, q ∈ rest) {i : Nat} {v : Value} {k : Array UInt8} (hv : vs[i]? = some v) (hkb : kb[i]? = some k) {Q : Value → Shared → Prop} {E : Value → Shared → Prop}
    (hQ : ∀ h' tk' t, Fr g L h' m → News g L h' rest → Q (.bytes k t) { s with heap := h', toks := tk' }) :
    wpAny (model PySem.Challenge.rw_pd0043_01.row.prog w) (A.deeper env).in1 (call (.ref q) [v]) Q E { s with heap := h, toks := tk } :=
  key_turn G hk (A' := (A.deeper env).in1) (env := env) (Around.frames_deeper G.stack) hf hke (by simp only [depth_deeper, depth_in1]; (first | lia | omega)) (by simp; (first | lia | omega)) hh F N hfr hv hkb hQ
theorem key_turn2 {vs : List Value} {kb : List (Array UInt8)} {dd uu tk : Nat} (G : OG (hd.heap_39 w.params) p loose mean mg mb A base outer frs g) (hk : KeyOK w p loose mean mg mb base q g vs kb dd uu)
    (hf : env.frame = some L) (hke : env.scope.kind = .function) (hd : A.depth + 1 + dd < recursionLimit) (hu : A.units + uu + 20 < cLine) (hh : A.handled = none)
    (F : Fr g L h m) (N : News g L h rest) (hfr : ∀ q ∈ frs, q ∈ rest) {i : Nat} {v : Value} {k : Array UInt8} (hv : vs[i]? = some v) (hkb : kb[i]? = some k) {Q : Value → Shared → Prop} {E : Value → Shared → Prop}
    (hQ : ∀ h' tk' t, Fr g L h' m → News g L h' rest → Q (.bytes k t) { s with heap := h', toks := tk' }) :
    wpAny (model PySem.Challenge.rw_pd0043_01.row.prog w) (A.deeper env).in1.in1 (call (.ref q) [v]) Q E { s with heap := h, toks := tk } :=
  key_turn G hk (A' := (A.deeper env).in1.in1) (env := env) (Around.frames_deeper G.stack) hf hke (by simp only [depth_deeper, depth_in1]; (first | lia | omega)) (by simp; (first | lia | omega)) hh F N hfr hv hkb hQ
theorem key_turn0 {vs : List Value} {kb : List (Array UInt8)} {dd uu tk : Nat} (G : OG (hd.heap_39 w.params) p loose mean mg mb A base outer frs g) (hk : KeyOK w p loose mean mg mb base q g vs kb dd uu)
    (hf : env.frame = some L) (hke : env.scope.kind = .function) (hd : A.depth + 1 + dd < recursionLimit) (hu : A.units + uu + 20 < cLine) (hh : A.handled = none)
    (F : Fr g L h m) (N : News g L h rest) (hfr : ∀ q ∈ frs, q ∈ rest) {i : Nat} {v : Value} {k : Array UInt8} (hv : vs[i]? = some v) (hkb : kb[i]? = some k) {Q : Value → Shared → Prop} {E : Value → Shared → Prop}
    (hQ : ∀ h' tk' t, Fr g L h' m → News g L h' rest → Q (.bytes k t) { s with heap := h', toks := tk' }) :
    wpAny (model PySem.Challenge.rw_pd0043_01.row.prog w) (A.deeper env) (call (.ref q) [v]) Q E { s with heap := h, toks := tk } :=
  key_turn G hk (A' := A.deeper env) (env := env) (Around.frames_deeper G.stack) hf hke (by simp only [depth_deeper]; (first | lia | omega)) (by simp; (first | lia | omega)) hh F N hfr hv hkb hQ

theorem nsmallest_spec {it l q : Addr} {own frs : List (Addr × Obj)} {vs : List Value} {kb : List (Array UInt8)} {n : Int} {t : Tok} {dd uu : Nat} {R : Result → Shared → Prop}
    (G : OG (hd.heap_39 w.params) p loose mean mg mb A base outer frs g) (S : Sep g s.heap (own ++ frs)) (src : SrcN own it l) (hl : g.IsList l vs.toArray) (hvs : ∀ v ∈ vs, ∃ a o, v = .ref a ∧ g.get? a = some o)
    (hof : ∀ q ∈ own, ∀ r ∈ frs, r.1 ≠ q.1) (hlen : kb.length = vs.length) (h1 : 1 ≤ vs.length) (h64 : vs.length < 64) (hn1 : -100 ≤ n) (hn2 : n ≤ 100)
    {oq : Obj} {fq : FuncData} (hqf : g.get? q = some oq) (hqd : oq.data = .func fq) (hk : KeyOK w p loose mean mg mb base q g vs kb dd uu) (hroom : A.depth + dd + 4 < recursionLimit) (hu : A.units + uu + 200 < cLine) (hh : A.handled = none)
    (h : ∀ h' tk' D c idx frs', Best (ltK kb) vs.length n.toNat idx → TI.SameUp frs frs' → TI.Frs outer frs' → Sep g h' ((D, listOf (List.toArray (idx.map fun i => vs.getD i Value.none)) c) :: frs') → R (.ok (.ret (.ref D))) { s with heap := h', toks := tk' }) :
    codeAny (model PySem.Challenge.rw_pd0043_01.row.prog w) A (.call (.ref 55) ⟨[.int n t, .ref it], [(Str.ofString "key", .ref q)]⟩) R s := by
  obtain ⟨_, dp, fr, gd, un⟩ := A
  dsimp only at hh hroom hu
  subst hh
  have X := G.X
  have T := G.T
  refine enterCX (binds := [(Str.ofString "n", .int n t), (Str.ofString "iterable", .ref it), (Str.ofString "key", .ref q)]) X T S (by k_is) (by k_is) (by show dp < _; (first | lia | omega)) (binds_K (X.keeps S.sub) rfl (by k_is) rfl rfl rfl) rfl (by decide +kernel) ?_ rfl rfl rfl
  intro L' h₁ tk cells hL' F' N' Y' l1
  k_cells Y'
  rename_i oK dK
  show wpAny (model _ _) _ (execs _ _) _ _ _
  k_fold
  have hK0 : ∀ r ∈ own ++ frs, r.1 < L' + 1 := fun r hr => Nat.lt_succ_of_lt (l1 r hr)
  have hKo : ∀ q ∈ own, ∀ r ∈ (L' + 1, oK) :: frs, r.1 ≠ q.1 := fun q hq r hr => by
    rcases List.mem_cons.mp hr with rfl | hr
    · exact Nat.ne_of_gt (hK0 q (List.mem_append_left _ hq))
    · exact hof q hq r hr
  walk_at "k!"
  · have N1 : News g L' h₁ (own ++ ((L' + 1, oK) :: frs)) := Mine.News.sub N' fun q hq => by
      simp only [List.mem_append, List.mem_cons, List.cons_append, List.nil_append] at hq ⊢
      rcases hq with hq | hq | hq <;> simp [hq]
    refine iter_src src F' N1 hl hKo fun h2 I oI F2 N2 hI hrI hlI => ?_
    walk_at "k!"
    rename_i h3 F3 N3
    have hS0 : ∀ r ∈ (I, oI) :: (L' + 1, oK) :: frs, r.1 ≠ h3.objs.size := fun r hr => Nat.ne_of_lt (Heap.lt_size (N3 r hr).1)
    refine call_object ?_
    have N4 := News.push F3 N3 { cls := .type "object", data := .plain }
    have F4 := F3.push { cls := .type "object", data := .plain }
    walk_at "k!"
    rename Fr _ _ _ _ => F5
    rename News _ _ _ _ => N5
    dsimp only at F5 N5 ⊢
    show wpAny _ _ (call (.builtin "min") [.ref I] [(Str.ofString "default", Value.ref _), (Str.ofString "key", .ref q)]) _ _ _
    refine minB (oI := oI) (rest := (h3.objs.size, { cls := .type "object" }) :: (L' + 1, oK) :: frs) rfl F5 (Mine.News.sub N5 fun r hr => ?_) (fun h' F' _ => SrcN.keepsList hl F') (hI.at (N5 (I, oI) (.tail _ (.head _))).1) hlI ?_ h1 hlen ?_ ?_
    · simp only [List.mem_cons] at hr ⊢; rcases hr with hr | hr | hr | hr <;> simp [hr]
    · intro r hr
      rcases List.mem_cons.mp hr with rfl | hr
      · exact (hS0 _ (.head _)).symm
      · exact hrI r hr
    · intro i v k hv hkb h' tk' own' F' N'
      refine key_turn1 G hk rfl rfl (by dsimp only; (first | lia | omega)) (by dsimp only; (first | lia | omega)) rfl F' N' (fun r hr => by simp [hr]) hv hkb ?_
      intro h'' tk'' t' F'' N''
      exact ⟨_, _, _, rfl, rfl, F'', N''⟩
    · intro i v h6 tk6 hv hB F6 N6
      obtain ⟨a, oa, rfl, ha⟩ := hvs v (List.mem_of_getElem? hv)
      walk_at "k!"
      rename_i h7 tk7 F7 N7
      refine is_ref_apart (fun e => ?_) (F7.keep _ _ ha) (N7 _ (.head _)).1 (by simp) ?_
      · have := (N7 _ (.head _)).2.2
        dsimp only at this
        rw [← e, ha] at this; cases this
      walk_at "k!"
      rename Fr _ _ _ _ => F8
      rename News _ _ _ _ => N8
      have hiN : i < vs.length := (List.getElem?_eq_some_iff.mp hv).1
      have e1 : [Value.ref a] = [i].map fun i => vs.getD i Value.none := by simp [hv]
      rw [e1] at N8
      refine h _ _ _ 0 [i] frs ?_ (TI.SameUp.refl frs) G.fr ((Sep.of F8 N8).drop fun r hr => ?_)
      · subst_vars
        exact Best.one hiN hB
      · rcases List.mem_cons.mp hr with rfl | hr
        · exact .head _
        · exact .tail _ (.tail _ (.tail _ hr))
  · refine try_cut (fun s' => ∃ h' tk' m' frs', s' = { s with heap := h', toks := tk' } ∧ Fr g L' h' m' ∧ Binds m' [(Str.ofString "n", Value.int n t), (Str.ofString "iterable", .ref it)] ∧
      News g L' h' ((L' + 1, oK) :: (own ++ frs')) ∧ TI.SameUp frs frs' ∧ TI.Frs outer frs') (fun v s' => R (.ok (.ret v)) s') ?_ (fun v s' x => x) ?_
    · rintro s' ⟨h2, tk2, m2, frs', rfl, F2, hm2, N2, SU, Fs⟩
      have G2 : OG (hd.heap_39 w.params) p loose mean mg mb { depth := dp, frames := fr, guards := gd, units := un } base outer frs' g := ⟨G.stack, G.stays, Fs, G.X, G.T⟩
      rw [← ov_self hm2] at F2
      dsimp only [ov] at F2
      walk_at "k!"
      refine wpAny_is_other rfl (by intro x; cases x) ?_
      walk_at "k!"
      have hKo' : ∀ q ∈ own, ∀ r ∈ (L' + 1, oK) :: frs', r.1 ≠ q.1 := fun q hq r hr => by
        rcases List.mem_cons.mp hr with rfl | hr
        · exact hKo q hq _ (.head _)
        · obtain ⟨x, hx, e⟩ := SU.fwd r hr
          rw [e]; exact hof q hq x hx
      refine iter_src src F2 (Mine.News.sub N2 fun r hr => by
        simp only [List.mem_append, List.mem_cons] at hr ⊢
        rcases hr with hr | hr | hr <;> simp [hr]) hl hKo' fun h3 I oI F3 N3 hI hrI hlI => ?_
      walk_at "k!"
      refine compA (by rfl) (by rfl) rfl (by decide) ?_
      walk_at "k!"
      rename_i h4 F4 N4
      refine call_range_1 ?_
      refine with_push F4 N4 rfl fun F5 N5 => ?_
      walk_at "k!"
      dsimp only at F5 N5 ⊢
      refine call_zip_ri (n := n) (l := l) (j := 0) (N5 _ (.head _)).1 (hI.at (N5 (I, oI) (.tail _ (.head _))).1) (by (first | lia | omega)) (by (first | lia | omega)) ?_
      intro h6 hz hTI hTO hi1 hsz6 hk6
      dsimp only at hz hTI hTO hi1 hsz6 hk6 ⊢
      generalize hh5 : h4.push _ = h5 at *
      generalize hB : h5.objs.size = B at *
      have F6 := F5.kept hk6
      have N6 := News.grown N5 hk6
      have hIB : I < B := hB ▸ Heap.lt_size (N5 (I, oI) (.tail _ (.head _))).1
      have hlB : l < B := hB ▸ (let ⟨o, ho, _⟩ := SrcN.keepsList hl F5; Heap.lt_size ho)
      have hLB : L' < B := hB ▸ F5.ns.lt
      have hRB : ∀ r ∈ (L' + 1, oK) :: frs', r.1 < B := fun r hr => hB ▸ Heap.lt_size (N5 r (.tail _ (.tail _ hr))).1
      have hgB : ∀ b, B ≤ b → g.get? b = none := fun b hb => Heap.get?_none_of_le (Nat.le_trans F5.above (Nat.le_trans (Nat.le_of_lt hLB) hb))
      have DD := za_mk hIB hlB hlI
      refine wpAny_pyIter_zip hz ?_
      refine compT (RR := fun acc C => compPost _ _ _ _ _ acc C) (fz := (B + 1, { cls := .type "tuple", data := .seq #[.ref B, .ref I] }) :: (L' + 1, oK) :: frs') (news := [])
        (fun i ys news₁ => ∃ its : List Item, its.length = i ∧ ys = vals its ∧ news₁ = ents its ∧ ItsOK kb vs its)
        (KT.zipR rfl (B + 3) (B + 1) (B + 2) B I l DD n.toNat vs.toArray) ?_ ?_ ?_ ?_ ?_ ?_ ?_ (by decide) rfl ?_ F6 ?_ ?_ ⟨[], rfl, rfl, rfl, fun j x hx => by simp at hx⟩ ?_ ?_
      · rw [List.size_toArray, sizeLine_eq]; (first | lia | omega)
      · intro hm
        rcases List.mem_cons.mp hm with e | hm
        · exact absurd hLB (Nat.not_lt.mpr (e ▸ (show B ≤ B + 3 by (first | lia | omega))))
        rcases List.mem_cons.mp hm with e | hm
        · exact absurd hLB (Nat.not_lt.mpr (e ▸ (show B ≤ B + 1 by (first | lia | omega))))
        rcases List.mem_cons.mp hm with e | hm
        · exact absurd hLB (Nat.not_lt.mpr (e ▸ (show B ≤ B + 2 by (first | lia | omega))))
        rcases List.mem_cons.mp hm with e | hm
        · exact absurd hLB (Nat.not_lt.mpr (e ▸ Nat.le_refl B))
        rcases List.mem_cons.mp hm with e | hm
        · exact (N6 (I, oI) (.tail _ (.head _))).2.1 e.symm
        · rw [List.mem_singleton] at hm
          obtain ⟨o, ho, _⟩ := hl
          exact absurd (Heap.lt_size ho) (Nat.not_lt.mpr (hm ▸ F6.above))
      · intro b hb
        rcases List.mem_cons.mp hb with rfl | hb
        · exact hgB _ (show B ≤ B + 3 by (first | lia | omega))
        rcases List.mem_cons.mp hb with rfl | hb
        · exact hgB _ (show B ≤ B + 2 by (first | lia | omega))
        rcases List.mem_cons.mp hb with rfl | hb
        · exact hgB _ (Nat.le_refl _)
        · rw [List.mem_singleton] at hb; subst hb
          exact (N6 (b, oI) (.tail _ (.head _))).2.2
      · intro i h hst b hb
        obtain ⟨a1, a2, ⟨_, _, a3⟩, a4, a5, a6⟩ := hst
        rcases List.mem_cons.mp hb with rfl | hb
        · exact ⟨_, a1⟩
        rcases List.mem_cons.mp hb with rfl | hb
        · exact ⟨_, a3⟩
        rcases List.mem_cons.mp hb with rfl | hb
        · exact ⟨_, a4⟩
        · rw [List.mem_singleton] at hb; subst hb
          obtain ⟨o, ho, _⟩ := a5.obj; exact ⟨o, ho⟩
      · intro b hb hnb
        simp only [List.mem_cons, List.not_mem_nil, or_false] at hb hnb
        rcases hb with rfl | rfl | rfl | rfl | rfl | rfl
        · exact absurd (.inl rfl) hnb
        · exact .inr ⟨_, .head _⟩
        · exact absurd (.inr (.inl rfl)) hnb
        · exact absurd (.inr (.inr (.inl rfl))) hnb
        · exact absurd (.inr (.inr (.inr rfl))) hnb
        · obtain ⟨o, ho, _⟩ := hl; exact .inl ⟨o, ho⟩
      · intro r hr hm
        simp only [List.mem_cons, List.not_mem_nil, or_false] at hm
        rcases List.mem_cons.mp hr with rfl | hr
        · rcases hm with e | e | e | e
          · exact absurd (show B + 1 = B + 3 from e) (by (first | lia | omega))
          · exact absurd (show B + 1 = B + 2 from e) (by (first | lia | omega))
          · exact absurd (show B + 1 = B from e) (by (first | lia | omega))
          · exact absurd hIB (Nat.not_lt.mpr (e ▸ (show B ≤ B + 1 by (first | lia | omega))))
        · have q := hRB r hr
          rcases hm with e | e | e | e
          · exact absurd q (Nat.not_lt.mpr (e ▸ (show B ≤ B + 3 by (first | lia | omega))))
          · exact absurd q (Nat.not_lt.mpr (e ▸ (show B ≤ B + 2 by (first | lia | omega))))
          · exact absurd q (Nat.not_lt.mpr (e ▸ Nat.le_refl B))
          · exact hrI r hr e
      · intro b hb
        simp only [List.mem_cons, List.not_mem_nil, or_false] at hb
        show b < h6.objs.size
        rw [hsz6]
        rcases hb with e | e | e | e | e | e <;> rw [e]
        · exact (show B + 3 < B + 4 by (first | lia | omega))
        · exact (show B + 1 < B + 4 by (first | lia | omega))
        · exact (show B + 2 < B + 4 by (first | lia | omega))
        · exact (show B < B + 4 by (first | lia | omega))
        · exact Nat.lt_of_lt_of_le hIB (show B ≤ B + 4 by (first | lia | omega))
        · exact Nat.lt_of_lt_of_le hlB (show B ≤ B + 4 by (first | lia | omega))
      · refine ⟨hz, hTI, ⟨_, _, hTO⟩, ?_, .inl ⟨hI.at (N6 (I, oI) (.tail _ (.head _))).1, Nat.zero_le _⟩, SrcN.keepsList hl F6⟩
        have e : ((n.toNat : Int) - ((0 : Nat) : Int)) = (n.toNat : Int) := by (first | lia | omega)
        rw [e]; exact hi1
      · intro r hr
        rw [List.append_nil] at hr
        rcases List.mem_cons.mp hr with rfl | hr
        · exact ⟨hTI, Nat.ne_of_gt (Nat.lt_of_lt_of_le hLB (show B ≤ B + 1 by (first | lia | omega))), hgB _ (show B ≤ B + 1 by (first | lia | omega))⟩
        · exact N6 r (.tail _ (.tail _ hr))
      · intro _ q; exact nomatch q
      · rintro i v ys news₁ C oC D m₂ h7 tk7 own7 hi ⟨T, tT, y, rfl, hy, hT⟩ ⟨its, hil, rfl, rfl, hok⟩ hyl hown7 hex7 hn7 hoff7 hCD hNs F7 N7
        refine storeT2 rfl ⟨_, hT, rfl, _, rfl⟩ F7 N7 hNs (mem_off hn7 hoff7 hCD) rfl rfl rfl (by decide) ?_
        intro h8 tk8 oC8 m8 F8 N8 hN8 hxi hxe hxo
        have hmem : (L' + 1, oK) ∈ (C, oC8) :: (D, LCg.lst (vals its)) :: (own7 ++ (((B + 1 : Nat), { cls := .type "tuple", data := .seq #[.ref B, .ref I] }) :: (L' + 1, oK) :: frs') ++ ents its) := by simp
        walk_at "k!"
        have hyv : vs[i]? = some y := by simpa using hy
        have hil' : i < vs.length := (List.getElem?_eq_some_iff.mp hyv).1
        have hkv : kb[i]? = some kb[i] := List.getElem?_eq_getElem (by (first | lia | omega))
        dsimp only
        refine key_turn0 (s := s) G2 hk rfl rfl (by dsimp only; (first | lia | omega)) (by dsimp only; (first | lia | omega)) rfl F8 N8 (fun r hr => by simp [hr]) hyv hkv ?_
        intro h9 tk9 t9 F9 N9
        walk_at "k!"
        rename_i T' h10 F10 N10 l10
        have hT' : ∀ p ∈ (C, oC8) :: (D, LCg.lst (vals its)) :: (own7 ++ (((B + 1 : Nat), { cls := .type "tuple", data := .seq #[.ref B, .ref I] }) :: (L' + 1, oK) :: frs') ++ ents its), p.1 ≠ T' := fun p hp => by
          rcases List.mem_cons.mp hp with rfl | hp
          · exact Nat.ne_of_lt l10.1
          rcases List.mem_cons.mp hp with rfl | hp
          · exact Nat.ne_of_lt l10.2.1
          · exact Nat.ne_of_lt (allLt_mem l10.2.2 p hp)
        refine ⟨_, _, _, _, ents (its ++ [⟨T', kb[i], (i : Int), y, t9, tT, 0⟩]), rfl, F10, Mine.News.sub N10 fun r hr => ?_, hN8, fun r hr => ?_, its ++ [⟨T', kb[i], (i : Int), y, t9, tT, 0⟩], by simp [hil], vals_snoc its ⟨T', kb[i], (i : Int), y, t9, tT, 0⟩, rfl, fun j x hx => ?_⟩
        · rw [ents_snoc] at hr
          simp only [List.mem_cons, List.mem_append, List.not_mem_nil, or_false] at hr ⊢
          rcases hr with hr | hr | ((hr | hr | hr | hr) | hr | hr) <;> simp [hr, Item.obj]
        · rw [ents_snoc] at hr
          rcases List.mem_append.mp hr with hr | hr
          · exact hn7 r hr
          · rw [List.mem_singleton] at hr; subst hr
            refine ⟨fun hm => ?_, Nat.ne_of_gt l10.1, Nat.ne_of_gt l10.2.1⟩
            obtain ⟨o, ho⟩ := hex7 _ hm
            exact hT' (T', o) (.tail _ (.tail _ (List.mem_append_left _ (List.mem_append_left _ ho)))) rfl
        · by_cases hj : j < its.length
          · rw [List.getElem?_append_left hj] at hx
            exact hok j x hx
          · rw [List.getElem?_append_right (by (first | lia | omega))] at hx
            cases e : j - its.length with
            | zero =>
              rw [e] at hx
              simp only [List.getElem?_cons_zero, Option.some.injEq] at hx
              subst hx
              have e' : j = i := by (first | lia | omega)
              subst e'
              exact ⟨rfl, hkv, hyv⟩
            | succ k => rw [e] at hx; simp at hx
      · rintro D C h7 tk7 m7 ys news₁ ⟨its, hil, rfl, rfl, hok⟩ hEn hDw hCw F7 N7 hC hCL hCD hC0 hoff
        obtain ⟨oI', hoI', hoc, hIst⟩ := hEn.hold
        have hIm : I ∈ [B + 3, B + 2, B, I] := by simp
        have hCI : I ≠ C := fun e => hCw (e ▸ hIm)
        have hDI : I ≠ D := fun e => hDw (e ▸ hIm)
        have N8 : News g L' h7 ((D, LCg.lst (vals its)) :: ((I, oI') :: (L' + 1, oK) :: frs' ++ ents its)) := fun r hr => by
          rcases List.mem_cons.mp hr with rfl | hr
          · exact N7 _ (.head _)
          rcases List.mem_cons.mp hr with rfl | hr
          · exact ⟨hoI', (N6 (I, oI) (.tail _ (.head _))).2⟩
          · exact N7 r (.tail _ (.tail _ hr))
        refine compPostA F7 N8 hC hCL hCD hC0 (fun r hr => ?_) ?ca ?cb ?cc ?_
        case ca => rfl
        case cb => rfl
        case cc => rfl
        · rcases List.mem_cons.mp hr with rfl | hr
          · exact ⟨hCI, hDI⟩
          · exact hoff r (.tail _ hr)
        intro h8 F8 N8 hD8
        dsimp only at F8 N8 ⊢
        rw [List.size_toArray] at hil hIst
        have nI6 := (N6 (I, oI) (.tail _ (.head _))).2
        have hgL := F6.above
        have hlen9 : its.length = min n.toNat vs.length := hil
        by_cases hz9 : its = []
        · subst hz9
          walk_at "k!"
          have hn0 : n.toNat = 0 := by simp only [List.length_nil] at hlen9; (first | lia | omega)
          rename Fr _ _ _ _ => F9
          rename News _ _ _ _ => N9
          refine h _ _ D 0 [] frs' (by rw [hn0]; exact Best.zero) SU Fs ((Sep.of F9 N9).drop fun r hr => ?_)
          rcases List.mem_cons.mp hr with rfl | hr
          · exact .head _
          · simp [hr]
        have hpos9 : 0 < its.length := List.length_pos_iff.mpr hz9
        have hn9 : (its.length : Int) ≤ n := by (first | lia | omega)
        have HI9 := HI.init hok hn9
        walk_at "k!"
        refine wpAny_truthy_list (items := (vals its).toArray) ⟨_, (N8 _ (.head _)).1, rfl, _, rfl⟩ (by rw [List.size_toArray, vals_length]; (first | lia | omega)) ?_
        rw [show (vals its).toArray.isEmpty = false by simp [vals, hz9], if_neg (by decide)]
        walk_at "k!"
        refine callO (hid := [(D, LCg.lst (vals its))]) (rest := (I, oI') :: (L' + 1, oK) :: frs' ++ ents its) G2 F8 N8 (fun r hr => by simp [hr]) (Around.frames_deeper G2.stack) rfl rfl (fun r hr => ?_) fun g' G' S' hfz hsub hback => ?_
        · rw [List.map_singleton, List.mem_singleton]; exact hD8 r hr
        refine heapify_spec G' S' ⟨fun x hx => hfz _ _ (N8 _ (.tail _ (List.mem_append_right _ (ents_mem hx)))).1 ?_, HI9.inj⟩ (by simp only [depth_deeper]; (first | lia | omega)) (by simp; (first | lia | omega)) rfl (by (first | lia | omega)) ?_
        · rw [List.map_singleton, List.mem_singleton]; exact hD8 _ (List.mem_append_right _ (ents_mem hx))
        intro h10 tk10 its' S10 hp10 hH10
        obtain ⟨F10, N10⟩ := hback _ _ S10
        dsimp only at F10 N10 ⊢
        have HI10 := HI9.perm hp10
        have hlen10 : its'.length = its.length := hp10.length_eq
        obtain ⟨r0, hr0⟩ : ∃ r0, its'[0]? = some r0 := ⟨its'[0], List.getElem?_eq_getElem (by (first | lia | omega))⟩
        have hr0m : r0 ∈ its' := List.mem_of_getElem? hr0
        walk_at "k!"
        refine kim_list (l := vals its') (n := (vals its).length) N10 (.head _) rfl rfl (by decide) (by decide) (x := .ref r0.a) (vals_get hr0) ?_
        walk_at "k!"
        refine item_tupleT (l := [.bytes r0.k r0.tk, .int r0.o r0.tq, r0.e]) (j := 0) ⟨r0.obj, (N10 (r0.a, r0.obj) (List.mem_append_right _ (List.mem_append_right _ (ents_mem (hp10.mem_iff.mp hr0m))))).1, rfl, r0.n, rfl⟩ (by decide) (by decide) rfl rfl ?_
        walk_at "k!"
        refine wpAny_For ?_
        walk_at "k!"
        rename_i h11 F11 N11
        have hD' : ∀ x ∈ its', x.a ≠ D := fun x hx => hD8 (x.a, x.obj) (List.mem_append_right _ (ents_mem (hp10.mem_iff.mp hx)))
        have hit11 : ItSt h11 I l vs.toArray.size its.length := by
          rw [List.size_toArray, hlen9]; exact hIst _ (N11 (I, oI') (by simp)).1
        have hjle : its.length ≤ vs.toArray.size := by rw [List.size_toArray]; (first | lia | omega)
        have N12 : News g L' h11 (((L' + 1, oK) :: frs') ++ ((D, listOf (vals its').toArray (vals its).length) :: ents its')) := Mine.News.sub N11 fun r hr => by
          rcases List.mem_append.mp hr with hr | hr
          · exact List.mem_append_right _ (List.mem_append_left _ (.tail _ hr))
          rcases List.mem_cons.mp hr with rfl | hr
          · exact .head _
          · obtain ⟨x, hx, rfl⟩ := List.mem_map.mp hr
            exact List.mem_append_right _ (List.mem_append_right _ (ents_mem (hp10.mem_iff.mp hx)))
        have hIm' : ∀ x ∈ its', x.a ≠ I := fun x hx e => by
          have h1 := (N11 (x.a, x.obj) (List.mem_append_right _ (List.mem_append_right _ (ents_mem (hp10.mem_iff.mp hx))))).1
          have h2 := (N11 (I, oI') (by simp)).1
          dsimp only at h1 h2
          rw [e, h2] at h1
          rw [Option.some.inj h1] at hoc
          exact absurd (Value.type.inj hoc) (by decide)
        refine pyIter_li hit11 ?_
        refine forW (fz := (L' + 1, oK) :: frs') (news := (D, listOf (vals its').toArray (vals its).length) :: ents its')
          (fun i m₁ news₁ => ∃ (cur : List Item) (ix : Item → Nat) (order : Int) (to : Tok) (r : Item), cur[0]? = some r ∧ cur.length = its.length ∧ HeapFrom Item.lt 0 cur ∧ HI kb vs ix cur (its.length + i) order ∧
            Binds m₁ [(Str.ofString "result", Value.ref D), (Str.ofString "top", .bytes r.k r.tk), (Str.ofString "order", .int order to), (Str.ofString "_heapreplace", .ref 28)] ∧
            news₁ = (D, listOf (vals cur).toArray (vals its).length) :: ents cur ∧ ∀ x ∈ cur, x.a ≠ D)
          (Walks.rest rfl I l hlI vs.toArray its.length hjle) (L := L') (h₀ := g) ?_ ?_ ?_ ?_ ?_ ?_ F11 N12 ?_ ?_ ?_ ?_ (by intro _; rfl)
        · intro hm
          rcases List.mem_cons.mp hm with e | hm
          · exact nI6.1 e.symm
          · rw [List.mem_singleton] at hm
            obtain ⟨o, ho, _⟩ := hl
            exact absurd (Heap.lt_size ho) (Nat.not_lt.mpr (hm ▸ hgL))
        · intro b hb; rw [List.mem_singleton] at hb; subst hb; exact nI6.2
        · intro i h' hs b hb; rw [List.mem_singleton] at hb; subst hb; obtain ⟨o, ho, _⟩ := hs.1.obj; exact ⟨o, ho⟩
        · intro b hb hnb
          rcases List.mem_cons.mp hb with e | hb
          · exact absurd (List.mem_singleton.mpr e) hnb
          · rw [List.mem_singleton] at hb; subst hb
            obtain ⟨o, ho, _⟩ := hl; exact .inl ⟨o, ho⟩
        · intro r hr hm; rw [List.mem_singleton] at hm; exact hrI r hr hm
        · exact ⟨hit11, SrcN.keepsList hl F11⟩
        · intro r hr hm; rw [List.mem_singleton] at hm
          rcases List.mem_cons.mp hr with rfl | hr
          · exact hDI hm.symm
          · obtain ⟨x, hx, rfl⟩ := List.mem_map.mp hr
            exact hIm' x hx hm
        · exact ⟨its', fun x => x.o.toNat, n, t, r0, hr0, hlen10, hH10, HI10, bc rfl (bc rfl (bc rfl (bc rfl bn))), rfl, hD'⟩
        · rintro i v m₁ news₁ h12 tk12 own12 hi hv ⟨cur, ix, order, to, r, hr, hcl, hH, hHI, hm, rfl, hDc⟩ hown hex hnw F12 N12
          have hvj : vs[its.length + i]? = some v := by simpa using hv
          have hjl : its.length + i < vs.length := (List.getElem?_eq_some_iff.mp hvj).1
          have hjk : its.length + i < kb.length := by (first | lia | omega)
          have hkj : kb[its.length + i]? = some kb[its.length + i] := List.getElem?_eq_getElem hjk
          have hrm : r ∈ cur := List.mem_of_getElem? hr
          have hmax : ∀ x ∈ cur, r.lt x = false := fun x hx => by
            obtain ⟨k, hk⟩ := List.mem_iff_getElem?.mp hx
            exact heap_root itemOrd hH hr k x hk
          rw [← ov_self hm] at F12
          dsimp only [ov] at F12
          have hmem : (L' + 1, oK) ∈ own12 ++ ((L' + 1, oK) :: frs') ++ ((D, listOf (vals cur).toArray (vals its).length) :: ents cur) := by simp
          walk_at "k!"
          rename Fr _ _ _ _ => F13
          rename News _ _ _ _ => N13
          dsimp only at F13 N13 ⊢
          refine key_turn0 (s := s) G2 hk rfl rfl (by dsimp only; (first | lia | omega)) (by dsimp only; (first | lia | omega)) rfl F13 N13 (fun r hr => by simp [hr]) hvj hkj ?_
          intro h14 tk14 t14 F14 N14
          walk_at "k!"
          refine lt_bytes ?_
          cases hb : bl kb[its.length + i].toList r.k.toList with
          | false =>
            walk_at "k!"
            rename Fr _ _ _ _ => F15
            rename News _ _ _ _ => N15
            refine ⟨_, _, _, _, rfl, F15, N15, hnw, cur, ix, order, to, r, hr, hcl, hH, ?_, ?_, rfl, hDc⟩
            · exact hHI.skip hjk hrm hmax hb
            · exact bc rfl (bc rfl (bc rfl (bc rfl bn)))
          | true =>
            walk_at "k!"
            rename_i T' h15 F15 N15 l15
            obtain ⟨rs, hcur⟩ : ∃ rs, cur = r :: rs := by
              cases cur with
              | nil => simp at hr
              | cons a as => simp at hr; subst hr; exact ⟨as, rfl⟩
            have hPut := hHI.put (y := ⟨T', kb[its.length + i], order, v, t14, to, 0⟩) hjk hcur hmax hb rfl (by simpa using hvj) rfl
            have hset : cur.set 0 ⟨T', kb[its.length + i], order, v, t14, to, 0⟩ = ⟨T', kb[its.length + i], order, v, t14, to, 0⟩ :: rs := by rw [hcur]; rfl
            generalize hY : (⟨T', kb[its.length + i], order, v, t14, to, 0⟩ : Item) = Y at *
            have hYa : Y.a = T' := by rw [← hY]
            have hYo : Y.obj = { cls := .type "tuple", data := .seq #[.bytes kb[its.length + i] t14, .int order to, v] } := by rw [← hY]; rfl
            have hl15 : ∀ p ∈ own12 ++ ((L' + 1, oK) :: frs') ++ ((D, listOf (vals cur).toArray (vals its).length) :: ents cur), p.1 < T' := l15
            have hDT : D < T' := hl15 (D, listOf (vals cur).toArray (vals its).length) (List.mem_append_right _ (.head _))
            have hIT : I < T' := by
              obtain ⟨o, ho⟩ := hex I (List.mem_singleton.mpr rfl)
              exact hl15 (I, o) (List.mem_append_left _ (List.mem_append_left _ ho))
            have hapD : ∀ q ∈ own12 ++ ((L' + 1, oK) :: frs') ++ ((Y.a, Y.obj) :: ents cur), q.1 ≠ D := fun q hq => by
              rcases List.mem_append.mp hq with hq | hq
              · rcases List.mem_append.mp hq with hq | hq
                · have := hown q hq
                  rw [List.mem_singleton] at this
                  rw [this]; exact hDI
                · exact hD8 q (by rcases List.mem_cons.mp hq with rfl | hq <;> simp [*])
              · rcases List.mem_cons.mp hq with rfl | hq
                · rw [hYa]; exact Nat.ne_of_gt hDT
                · obtain ⟨x, hx, rfl⟩ := List.mem_map.mp hq
                  exact hDc x hx
            have hset2 : ∀ x ∈ cur.set 0 Y, x = Y ∨ x ∈ cur := fun x hx => by
              rw [hset] at hx
              rcases List.mem_cons.mp hx with h | h
              · exact .inl h
              · exact .inr (by rw [hcur]; exact .tail _ h)
            have hent : ∀ x ∈ cur.set 0 Y, (x.a, x.obj) ∈ own12 ++ ((L' + 1, oK) :: frs') ++ ((Y.a, Y.obj) :: ents cur) := fun x hx => by
              rcases hset2 x hx with rfl | h
              · exact List.mem_append_right _ (.head _)
              · exact List.mem_append_right _ (.tail _ (ents_mem h))
            have N15' : News g L' h15 ([(D, listOf (vals cur).toArray (vals its).length)] ++ (own12 ++ ((L' + 1, oK) :: frs') ++ ((Y.a, Y.obj) :: ents cur))) := Mine.News.sub N15 fun q hq => by
              rw [hYa, hYo] at hq
              simp only [List.mem_append, List.mem_cons, List.not_mem_nil, or_false] at hq ⊢
              rcases hq with hq | (hq | hq | hq) | hq | hq <;> simp [hq]
            rw [← hYa]
            refine callO (hid := [(D, listOf (vals cur).toArray (vals its).length)]) (rest := own12 ++ ((L' + 1, oK) :: frs') ++ ((Y.a, Y.obj) :: ents cur)) G2 F15 N15' (fun r hr => by simp [hr]) (Around.frames_deeper G2.stack) rfl rfl (fun q hq => ?_) fun g' G' S' hfz hsub hback => ?_
            · rw [List.map_singleton, List.mem_singleton]; exact hapD q hq
            refine heapreplace_spec (x := r) (y := Y) G' S' ⟨fun x hx => hfz _ _ (N15' _ (List.mem_append_right _ (hent x hx))).1 ?_, ?_⟩ (by simp only [depth_deeper]; (first | lia | omega)) (by simp; (first | lia | omega)) (by (first | lia | omega)) hr hH ?_
            · rw [List.map_singleton, List.mem_singleton]; exact hapD _ (hent x hx)
            · rw [hset]; exact hPut.inj
            intro h16 tk16 its2 S16 hp16 hH16
            obtain ⟨F16, N16⟩ := hback _ _ S16
            dsimp only at F16 N16 ⊢
            have hP16 := hPut.perm (hset ▸ hp16)
            have hlen16 : its2.length = its.length := by rw [hp16.length_eq, List.length_set]; exact hcl
            obtain ⟨r2, hr2⟩ : ∃ r2, its2[0]? = some r2 := ⟨its2[0], List.getElem?_eq_getElem (by (first | lia | omega))⟩
            have hr2m : r2 ∈ its2 := List.mem_of_getElem? hr2
            walk_at "k!"
            refine kim_list (l := vals its2) (n := (vals its).length) N16 (.head _) rfl rfl (by decide) (by decide) (x := .ref r2.a) (vals_get hr2) ?_
            refine storeF3 rfl ⟨r2.obj, (N16 (r2.a, r2.obj) (List.mem_append_right _ (hent r2 (hp16.mem_iff.mp hr2m)))).1, rfl, r2.n, rfl⟩ F16 N16 rfl rfl rfl rfl rfl ?_
            intro h17 tk17 F17 N17
            walk_at "k!"
            rename Fr _ _ _ _ => F18
            rename News _ _ _ _ => N18
            refine ⟨_, _, _, (D, listOf (vals its2).toArray (vals its).length) :: ents its2, rfl, F18, Mine.News.sub N18 fun q hq => ?_, fun q hq => ?_, its2, _, order + 1, tk17 + 1, r2, hr2, hlen16, hH16, hP16, ?_, rfl, fun x hx => hapD _ (hent x (hp16.mem_iff.mp hx))⟩
            · rcases List.mem_append.mp hq with hq | hq
              · exact List.mem_append_right _ (List.mem_append_left _ hq)
              · rcases List.mem_cons.mp hq with rfl | hq
                · exact .head _
                · obtain ⟨x, hx, rfl⟩ := List.mem_map.mp hq
                  exact List.mem_append_right _ (hent x (hp16.mem_iff.mp hx))
            · rcases List.mem_cons.mp hq with rfl | hq
              · exact fun hm => hDI (List.mem_singleton.mp hm).symm
              · obtain ⟨x, hx, rfl⟩ := List.mem_map.mp hq
                rcases hset2 x (hp16.mem_iff.mp hx) with rfl | h
                · intro hm
                  rw [List.mem_singleton] at hm
                  dsimp only at hm
                  rw [hYa] at hm
                  exact Nat.ne_of_gt hIT hm
                · exact hnw _ (.tail _ (ents_mem h))
            · exact bc rfl (bc rfl (bc rfl (bc rfl bn)))
        · rintro m₁ news₁ h12 tk12 ⟨cur, ix, order, to, r, hr, hcl, hH, hHI, hm, rfl, hDc⟩ F12 N12
          rw [List.size_toArray, Nat.add_sub_cancel' (by rw [List.size_toArray] at hjle; exact hjle)] at hHI
          rw [← ov_self hm] at F12
          dsimp only [ov] at F12
          walk_at "k!"
          rename Fr _ _ _ _ => F13
          rename News _ _ _ _ => N13
          have hD13 : ∀ p ∈ ((L' + 1, oK) :: frs') ++ ents cur, p.1 ≠ D := fun p hp => by
            rcases List.mem_append.mp hp with hp | hp
            · exact hD8 p (by rcases List.mem_cons.mp hp with rfl | hp <;> simp [*])
            · obtain ⟨x, hx, rfl⟩ := List.mem_map.mp hp
              exact hDc x hx
          refine lsortI (n := (vals its).length) (rest := ((L' + 1, oK) :: frs') ++ ents cur) F13 (Mine.News.sub N13 fun p hp => ?_) hD13 (fun x hx => List.mem_append_right _ (ents_mem hx)) hHI.inj (by (first | lia | omega)) (by (first | lia | omega)) ?_
          · rcases List.mem_cons.mp hp with rfl | hp
            · exact List.mem_append_right _ (.head _)
            rcases List.mem_append.mp hp with hp | hp
            · exact List.mem_append_left _ hp
            · exact List.mem_append_right _ (.tail _ hp)
          intro h14 its3 c3 hp3 hs3 F14 N14
          dsimp only at F14 N14 ⊢
          walk_at "k!"
          refine compE (by rfl) rfl (by decide) ?_
          walk_at "k!"
          have hl15 : h14.IsList D (vals its3).toArray := isL N14 (.head _)
          have hHI3 := hHI.perm hp3
          have hlen3 : its3.length = its.length := by rw [hp3.length_eq]; exact hcl
          have eV : vals its3 = (its3.map Item.a).map Value.ref := by simp [vals]
          have hDlt : D < h14.objs.size := Heap.lt_size (N14 _ (.head _)).1
          refine wpAny_pyIter_list hl15 ?_
          dsimp only
          refine compT (RR := fun acc C => compPost _ _ _ _ _ acc C) (fz := (D, listOf (vals its3).toArray c3) :: (((L' + 1, oK) :: frs') ++ ents cur)) (news := [])
            (fun i ys news₁ => news₁ = [] ∧ ys = (its3.take i).map Item.e)
            (KT.list rfl h14.objs.size D (Nat.ne_of_lt hDlt) (its3.map Item.a)) ?_ ?_ ?_ ?_ ?_ ?_ ?_ (by decide) rfl ?_ (F14.push _) ?_ ?_ ⟨rfl, rfl⟩ ?_ ?_
          · rw [List.length_map, sizeLine_eq]; (first | lia | omega)
          · intro hm
            rcases List.mem_cons.mp hm with e | hm
            · exact absurd F14.ns.lt (e ▸ Nat.lt_irrefl _)
            · rw [List.mem_singleton] at hm
              exact (N14 _ (.head _)).2.1 hm.symm
          · intro b hb; rw [List.mem_singleton] at hb; subst hb; exact Fr.newNone F14 (Nat.le_refl _)
          · intro i h hs b hb; rw [List.mem_singleton] at hb; subst hb; obtain ⟨⟨o, ho, _⟩, _⟩ := hs; exact ⟨o, ho⟩
          · intro b hb hnb
            rcases List.mem_cons.mp hb with e | hb
            · exact absurd (List.mem_singleton.mpr e) hnb
            · rw [List.mem_singleton] at hb; subst hb; exact .inr ⟨_, .head _⟩
          · intro p hp hm
            rw [List.mem_singleton] at hm
            exact absurd (Heap.lt_size (N14 p hp).1) (hm ▸ Nat.lt_irrefl _)
          · intro b hb
            show b < (h14.push _).objs.size
            rw [size_push']
            rcases List.mem_cons.mp hb with e | hb
            · rw [e]; exact Nat.lt_succ_self _
            · rw [List.mem_singleton.mp hb]; exact Nat.lt_succ_of_lt hDlt
          · refine ⟨⟨_, Heap.get?_push_size _ rfl, rfl, rfl⟩, ?_⟩
            rw [← eV]; exact hl15.at fun o e => Heap.get?_push_of_some _ e
          · rw [List.append_nil]; exact News.pushK N14 _
          · intro _ q; exact nomatch q
          · rintro i v ys news₁ C oC D2 m₂ h16 tk16 own16 hi ⟨a, ha, rfl⟩ ⟨rfl, rfl⟩ hyl hown16 hex16 hn16 hoff16 hCD hNs F16 N16
            rw [List.getElem?_map, Option.map_eq_some_iff] at ha
            obtain ⟨x, hx, rfl⟩ := ha
            have hxm : x ∈ its3 := List.mem_of_getElem? hx
            have hxN : (x.a, x.obj) ∈ (D2, LCg.lst ((its3.take i).map Item.e)) :: ((own16 ++ ((D, listOf (vals its3).toArray c3) :: (((L' + 1, oK) :: frs') ++ ents cur))) ++ []) := by
              have := ents_mem (hp3.mem_iff.mp hxm)
              simp [this]
            refine storeT3 rfl ⟨x.obj, (N16 _ (.tail _ hxN)).1, rfl, x.n, rfl⟩ F16 N16 hNs (mem_off hn16 hoff16 hCD) rfl rfl rfl rfl ?_
            intro h17 tk17 oC17 m17 F17 N17 hN17 hx17
            walk_at "k!"
            refine ⟨_, _, _, _, [], rfl, F17, N17, hN17, hn16, rfl, ?_⟩
            rw [List.take_add_one, hx, Option.toList_some, List.map_append]; rfl
          · rintro D2 C h16 tk16 m16 ys news₁ ⟨rfl, rfl⟩ _ hDw hCw F16 N16 hC hCL hCD hC0 hoff
            refine compPostE F16 N16 hC hCL hCD hC0 hoff ?_
            intro h17 F17 N17 hD17
            walk_at "k!"
            rw [List.length_map, List.take_length] at N17
            have eE : its3.map Item.e = (its3.map ix).map fun i => vs.getD i Value.none := by
              rw [List.map_map]
              refine List.map_congr_left fun x hx => ?_
              have := hHI3.el x hx
              simp [this]
            rw [eE] at N17
            refine h _ _ D2 ((its3.map ix).map fun i => vs.getD i Value.none).length (its3.map ix) frs' (hHI3.best hs3 (by rw [hlen3, hlen9])) SU Fs ((Sep.of F17 N17).drop fun q hq => ?_)
            rcases List.mem_cons.mp hq with rfl | hq
            · exact .head _
            · simp [hq]
    · intro Q' mid ret
      refine wpAny_Try_except ?_
      rcases src with ⟨rfl, rfl⟩ | ⟨oI, rfl, hI⟩
      · walk_at "k!"
        rename Fr _ _ _ _ => F2
        rename News _ _ _ _ => N2
        refine call_len_list (items := vs.toArray) (SrcN.keepsList hl F2) (by simp; (first | lia | omega)) ?_
        rw [List.size_toArray]
        walk_at "k!"
        · rename_i hge
          rename Fr _ _ _ _ => F3
          rename News _ _ _ _ => N3
          show wpAny _ _ (call (.builtin "sorted") [.ref it] [(Str.ofString "key", .ref q)]) _ _ _
          refine sortedB (news := (L' + 1, oK) :: frs) F3 (Mine.News.sub N3 fun r hr => by simpa using hr) (SrcN.keepsList hl F3) h1 h64 hlen ?_ ?_
          · intro i v k hv hkb h' tk' own' _ F' N'
            refine key_turn2 G hk rfl rfl (by dsimp only; (first | lia | omega)) (by dsimp only; (first | lia | omega)) rfl F' N' (fun r hr => by simp [hr]) hv hkb ?_
            intro h'' tk'' t' F'' N''
            exact ⟨_, _, _, rfl, rfl, F'', N''⟩
          · intro D h4 tk4 pm c hp1 hp2 F4 N4 l4
            walk_at "k!"
            dsimp only
            refine kba_turn (value' := PySem.Expr.Name (PySem.Str.ofString "_") ⟨0, 0, 0, 0⟩) (fun _ => rfl) ?_
            refine kmk_slice (s := { s with heap := h4, toks := tk4 }) F4 N4 (isL N4 (.head _)) .none (.int n t) ?_ ?_ ?_ ?_
            · intro D5 h5 F5 N5 l5
              rw [pick_take (by (first | lia | omega)), ← List.map_take] at N5
              walk_at "k!"
              refine ret _ _ (h _ _ D5 0 (pm.take n.toNat) frs (Best.take hp1 hp2) (TI.SameUp.refl frs) G.fr ((Sep.of F5 N5).drop fun r hr => ?_))
              rcases List.mem_cons.mp hr with rfl | hr
              · exact .head _
              · exact .tail _ (.tail _ (.tail _ hr))
            · with_unfolding_all rfl
            · intro r; rfl
            · rw [List.size_toArray, List.length_map, sizeLine_eq]; have := hp1.length_eq; simp at this; (first | lia | omega)
        · rename Fr _ _ _ _ => F3
          rename News _ _ _ _ => N3
          refine mid _ ⟨_, _, _, frs, rfl, F3, ?_, Mine.News.sub N3 fun r hr => by simpa using hr, TI.SameUp.refl frs, G.fr⟩
          exact bc rfl (bc rfl bn)
      · walk_at "k!"
        rename Fr _ _ _ _ => F2
        rename News _ _ _ _ => N2
        refine call_len_li (n := vs.length) (j := 0) (by rfl) (.inl ⟨hI.at (N2 (it, oI) (by simp)).1, Nat.zero_le _⟩) ?_
        intro h2 tk2 e hx
        dsimp only at hx
        refine noted_any (s' := { s with heap := h2, toks := tk2 }) (new := [(L' + 1, oK), (it, oI)]) (frs := frs) (Around.frames_deeper G.stack) rfl rfl G.fr hx F2 (Mine.News.sub N2 fun r hr => by simpa using hr) ?_ ?_
        · intro r hr hm
          obtain ⟨x, hx', e'⟩ := List.mem_map.mp hm
          have hr' : r = (L' + 1, oK) ∨ r = (it, oI) := by simpa using hr
          rcases hr' with rfl | rfl
          · have h9 := hK0 x (List.mem_append_right _ hx')
            rw [e'] at h9
            exact absurd h9 (Nat.lt_irrefl _)
          · exact hof (it, oI) (.head _) x hx' e'
        intro h3 frs' SU Fs H
        refine H.land (s' := { s with heap := h3, toks := tk2 }) ?_
        intro h4 H4
        refine wpAny_handleBy_cons (codeAny_handlers_test ?_) (by intro q; cases q)
        refine wpAny_Tuple (wpAny_items_cons ?_)
        have F4 := H4.held.fr
        have N4 := H4.made
        walk1
        refine wpAny_items_cons ?_
        refine nameX_B (v := .type "AttributeError") F4 X (topRead_of T) (by k_is) (by first | boot_by_name | boot_fast | decide +kernel) (by decide) ?_
        refine wpAny_items_nil ⟨by size_fits, ?_⟩
        dsimp only
        have kp : ∀ q o, h4.get? q = some o → (h4.push { cls := .type "tuple", data := .seq [Value.type "TypeError", .type "AttributeError"].toArray }).get? q = some o := fun _ _ z => Heap.get?_push_of_some _ z
        have H5 := held_keeps H4 kp
        obtain ⟨ob, hob, hoc⟩ := H5.isA (s' := { s with heap := _ })
        refine (exm_tup2 (b := true) (X.keeps H5.held.fr.keep) (looks_cls hob hoc) (Heap.get?_push_size h4 rfl) (by kts_exm)) _ _ _ _ (fun _ _ z => z) ?_
        rw [if_pos rfl]
        refine codeAny_handlers_suite ?_
        refine H5.lands (s' := { s with heap := _, toks := tk2 }) ?_
        intro h6 F6 N6
        walk_at "k!"
        exact mid _ ⟨_, _, _, frs', rfl, F6, bc rfl (bc rfl bn), N6, SU, Fs⟩
end
end
section
open PySem PySem.W PyProof.Rows PySem.Calls
set_option Elab.async false
set_option maxRecDepth 100000
set_option maxHeartbeats 8000000
example : PySem.Challenge.rw_pd0043_01.prog = PySem.Challenge.rw_pd0043_01.prog → hd.heap_39 = hd.heap_39 := by
  k_fill
  exact fun _ => rfl


/-- a thing: a tuple of a bytes and something -/
def ThingAt (h : Heap) (v : Value) (b : Array UInt8) : Prop := ∃ a tb x nn, v = .ref a ∧ h.get? a = some { cls := .type "tuple", data := .seq #[.bytes b tb, x] nn }
/-- the things of a list, by their bytes -/
def ThingsIn (h : Heap) (vs : List Value) (bs : List (Array UInt8)) : Prop := vs.length = bs.length ∧ ∀ (i : Nat) v b, vs[i]? = some v → bs[i]? = some b → ThingAt h v b
theorem ThingAt.keeps {h h' : Heap} {v : Value} {b : Array UInt8} (t : ThingAt h v b) (k : ∀ a o, h.get? a = some o → h'.get? a = some o) : ThingAt h' v b := let ⟨a, tb, x, nn, e, g⟩ := t; ⟨a, tb, x, nn, e, k _ _ g⟩
theorem ThingsIn.keeps {h h' : Heap} {vs : List Value} {bs : List (Array UInt8)} (t : ThingsIn h vs bs) (k : ∀ a o, h.get? a = some o → h'.get? a = some o) : ThingsIn h' vs bs := ⟨t.1, fun i v b hv hb => (t.2 i v b hv hb).keeps k⟩
/-- the keys of the things -/
def keysOf (bs : List (Array UInt8)) : List (Array UInt8) := bs.map fun b => byteArr (b64I (KBw.bInts b))

/-- the table of a def's inner codes: empty, or with the lambda's code -/
inductive TabSt : List (Addr × Obj) → Prop
  | new : TabSt [(104, tabObj #[])]
  | full {c' : Addr} {oc : Obj} {vs : Array Value} {t : Tok} (hd : oc.data = .fields vs) (hq : vs[1]? = some (.str (Str.ofString "_law_few" ++ ".<locals>." ++ "<lambda>") t)) : TabSt [(104, tabObj #[rawInt 148, rawInt 39, .ref c']), (c', oc)]

section
variable {K : Frag} {prog : Program} {w : World} {A A₀ : Around} {E : Value → Shared → Prop} {s : Shared} {p : Program} {loose : List Str} {mean : ExcName → Option Value} {mg mb : Str → Option Value} {base : Heap} {outer : List Env} {frs : List (Addr × Obj)}

theorem callOO {h₀ : Heap} {L : Addr} {m : Str → Option Value} {env : Env} {own rest : List (Addr × Obj)} {fv : Value} {pos : List Value} {kw : List (Str × Value)} {Q : Value → Shared → Prop}
    (G : OG K p loose mean mg mb A₀ base outer frs h₀) (F : Fr h₀ L s.heap m) (N : News h₀ L s.heap (own ++ (frs ++ rest))) (hA : A.frames = some (env :: outer)) (hf : env.frame = some L) (hke : env.scope.kind = .function)
    (hap : ∀ q ∈ rest, q.1 ∉ (own ++ frs).map (·.1))
    (h : ∀ g' oL, OG K p loose mean mg mb A base (env :: outer) ((L, oL) :: frs) g' → Sep g' s.heap (own ++ ((L, oL) :: frs)) → (∀ b o, s.heap.get? b = some o → b ≠ L → b ∉ (own ++ frs).map (·.1) → g'.get? b = some o) → (∀ b o, h₀.get? b = some o → g'.get? b = some o) →
      (∀ h' X frs'', TI.SameUp ((L, oL) :: frs) frs'' → (∀ p ∈ X, ∀ es n, p.2.data ≠ .dict es n) → Sep g' h' (X ++ frs'') → ∃ frs', TI.SameUp frs frs' ∧ Fr h₀ L h' m ∧ News h₀ L h' (X ++ (frs' ++ rest))) →
      codeAny (model prog w) A (.call fv ⟨pos, kw⟩) (fun r s' => match r with | .ok (.ret v) => Q v s' | .ok _ => False | .error e => E e s') s) :
    wpAny (model prog w) A (call fv pos kw) Q E s := by
  obtain ⟨oL, es, ep, hL, hLd, hLk, hLf⟩ := id F.ns
  have NF : ∀ q ∈ own ++ frs, q ∈ own ++ (frs ++ rest) := fun q hq => by
    rcases List.mem_append.mp hq with hq | hq
    · exact List.mem_append_left _ hq
    · exact List.mem_append_right _ (List.mem_append_left _ hq)
  have nm : ∀ b o, h₀.get? b = some o → b ∉ L :: (own ++ frs).map (·.1) := fun b o e q => by
    rcases List.mem_cons.mp q with q | q
    · exact absurd (Heap.lt_size (q ▸ e)) (Nat.not_lt.mpr F.above)
    · obtain ⟨p, hp, rfl⟩ := List.mem_map.mp q
      rw [(N p (NF p hp)).2.2] at e; cases e
  have st : ∀ b o, h₀.get? b = some o → (hideAll s.heap (L :: (own ++ frs).map (·.1))).get? b = some o := fun b o e => hideAll_get _ (F.keep b o e) (nm b o e)
  have hsep : Sep (hideAll s.heap (L :: (own ++ frs).map (·.1))) s.heap (own ++ ((L, oL) :: frs)) := by
    refine ⟨fun b o e => of_hideAll _ e, Nat.le_of_eq (hideAll_size _ _), fun p hp => ?_⟩
    rcases List.mem_append.mp hp with hp | hp
    · exact ⟨(N p (List.mem_append_left _ hp)).1, hideAll_none _ (.tail _ (List.mem_map_of_mem (List.mem_append_left _ hp)))⟩
    rcases List.mem_cons.mp hp with rfl | hp
    · exact ⟨hL, hideAll_none _ (.head _)⟩
    · exact ⟨(N p (List.mem_append_right _ (List.mem_append_left _ hp))).1, hideAll_none _ (.tail _ (List.mem_map_of_mem (List.mem_append_right _ hp)))⟩
  have hkm : env.scope.kind ≠ .module := by rw [hke]; decide
  refine wpAny_call (h (hideAll s.heap (L :: (own ++ frs).map (·.1))) oL ⟨hA, fun b o e => st b o (G.stays b o e), ⟨hkm, hf, ⟨es, ep, hLd⟩, G.fr⟩, G.X.keeps st, G.T.keeps st⟩ hsep
    (fun b o e n1 n2 => hideAll_get _ e (fun q => (List.mem_cons.mp q).elim n1 n2)) st fun h' X frs'' SU hX S' => ?_)
  cases frs'' with
  | nil => exact SU.elim
  | cons q qs =>
    obtain ⟨e1, ⟨sl, e2⟩, SU'⟩ := SU
    dsimp only at e1 e2
    have hq := (S'.own q (List.mem_append_right _ (.head _))).1
    rw [e1, e2] at hq
    have none_of : ∀ a, (hideAll s.heap (L :: (own ++ frs).map (·.1))).get? a = none → h₀.get? a = none := fun a ha => by
      cases z : h₀.get? a with
      | none => rfl
      | some o => rw [st _ _ z] at ha; cases ha
    refine ⟨qs, SU', ⟨⟨_, es, ep, hq, hLd, hLk, hLf⟩, fun b o e => S'.sub b o (st b o e), F.above⟩, fun p hp => ?_⟩
    rcases List.mem_append.mp hp with hp | hp
    · have z := S'.own p (List.mem_append_left _ hp)
      refine ⟨z.1, fun e => ?_, none_of _ z.2⟩
      have z1 := z.1
      rw [e, hq] at z1
      exact hX p hp es ep (by rw [← Option.some.inj z1]; exact hLd)
    rcases List.mem_append.mp hp with hp | hp
    · have z := S'.own p (List.mem_append_right _ (.tail _ hp))
      obtain ⟨x, hx, e⟩ := SU'.fwd p hp
      exact ⟨z.1, by rw [e]; exact (N x (List.mem_append_right _ (List.mem_append_left _ hx))).2.1, none_of _ z.2⟩
    · have z := N p (List.mem_append_right _ (List.mem_append_right _ hp))
      exact ⟨S'.sub _ _ (hideAll_get _ z.1 (fun q => (List.mem_cons.mp q).elim z.2.1 (hap p hp))), z.2⟩
end

section
variable {w : World} {p : Program} {loose : List Str} {mean : ExcName → Option Value} {mg mb : Str → Option Value} {A A' A₀ : Around} {base g h : Heap} {outer : List Env} {s : Shared} {frs rest news : List (Addr × Obj)} {L q : Addr} {m : Str → Option Value} {env : Env}

/-- a lambda is entered -/
theorem enterL {K : Frag} {prog : Program} {name qual : Str} {params : Arguments} {body : PySem.Expr} {scope : Scope} {cl : List (Str × Addr)} {pm ctv : Value} {c' f : Addr} {args : Args} {binds : List (Str × Value)} {R : Result → Shared → Prop}
    (G : Gnd K p loose mean mg mb A base outer g) (S : Sep g s.heap news) (ho : s.heap.get? f = some (kla_obj name qual params body scope cl pm c' ctv)) (hcd : s.heap.CodeRec (.ref c') qual) (hroom : A.depth < recursionLimit)
    (hbind : bindArgs (kla_fn name qual params body scope cl pm (.ref c') ctv) args = pure binds) (hloc : ∀ y ∈ binds, scope.names.lookup y.1 = some .local)
    (h : ∀ L' h₁, L' = s.heap.objs.size → Fr g L' h₁ (fun y => binds.reverse.lookup y) → News g L' h₁ news →
      wpAny (model prog w) (A.deeper (envX qual scope L' f (.ref c') cl)) (eval body (envX qual scope L' f (.ref c') cl)) (fun v s' => R (.ok (.ret v)) s') (fun _ _ => False) { s with heap := h₁, toks := s.toks + binds.length })
    (hco : scope.isCoroutine = false) (hgen : scope.isGenerator = false) (hk : scope.kind = .function) (hcell : ∀ x ∈ scope.names, x.2 ≠ .cell) : codeAny (model prog w) A (.call (.ref f) args) R s := by
  refine kla_callFunE hroom ho rfl hco hgen rfl hcd ?_
  rw [hbind]
  refine wpAny_pure (wpAny_newFunctionEnv hcell hloc (fun h₁ hns hsb => ⟨(G.T.nolimit.keeps S.sub).fresh _ hsb, ?_⟩) hk)
  show codeAny _ _ (.expr body (envX qual scope s.heap.objs.size f (.ref c') cl)) _ _
  have hk₁ : ∀ b o, s.heap.get? b = some o → h₁.get? b = some o := fun b o e => hsb.extBut b o (Nat.ne_of_lt (Heap.lt_size e)) (Heap.get?_push_of_some _ e)
  exact kla_codeExpr (wpAny_mono (h s.heap.objs.size h₁ rfl ⟨hns, fun b o e => hk₁ b o (S.sub b o e), S.size⟩ (fun p hp => ⟨hk₁ _ _ (S.own p hp).1, Nat.ne_of_lt (Heap.lt_size (S.own p hp).1), (S.own p hp).2⟩)) (fun _ _ x => x) fun _ _ x => x.elim)

theorem few_tail {it l f : Addr} {fo : Obj} {fd : FuncData} {own tabs frs : List (Addr × Obj)} {vs : List Value} {bs : List (Array UInt8)} {n : Int} {t : Tok} {tk : Nat} {Q : Value → Shared → Prop} {E : Value → Shared → Prop}
    (G : OG (hd.heap_39 w.params) p loose mean mg mb A base outer frs g) (hf : env.frame = some L) (hke : env.scope.kind = .function)
    (F : Fr g L h m) (N : News g L h ((f, fo) :: (tabs ++ (own ++ frs)))) (hfd : fo.data = .func fd)
    (hft : ∀ r ∈ own ++ frs, r.1 ≠ f) (hot : ∀ q ∈ tabs, ∀ r ∈ own ++ frs, r.1 ≠ q.1) (hof : ∀ q ∈ own, ∀ r ∈ frs, r.1 ≠ q.1)
    (src : SrcN own it l) (hl : g.IsList l vs.toArray) (hth : ThingsIn g vs bs)
    (h1 : 1 ≤ vs.length) (h64 : vs.length < 64) (hn1 : -100 ≤ n) (hn2 : n ≤ 100)
    (hroom : A.depth + 12 < recursionLimit) (hu : A.units + 500 < cLine) (hh : A.handled = none)
    (hkey : ∀ g', (∀ b o, g.get? b = some o → g'.get? b = some o) → (∀ r ∈ (f, fo) :: tabs, g'.get? r.1 = some r.2) → KeyOK w p loose mean mg mb base f g' vs (keysOf bs) 5 200)
    (hQ : ∀ h' tk' D c idx frs', Best (ltK (keysOf bs)) vs.length n.toNat idx → TI.SameUp frs frs' → TI.Frs outer frs' → Fr g L h' m → News g L h' ((D, listOf (List.toArray (idx.map fun i => vs.getD i Value.none)) c) :: (frs' ++ ((f, fo) :: tabs))) → (∀ q ∈ tabs ++ frs', q.1 ≠ D) → Q (.ref D) { s with heap := h', toks := tk' }) :
    wpAny (model PySem.Challenge.rw_pd0043_01.row.prog w) (A.deeper env) (call (.ref 55) [.int n t, .ref it] [(Str.ofString "key", .ref f)]) Q E { s with heap := h, toks := tk } := by
  refine callOO (s := { s with heap := h, toks := tk }) (own := own) (rest := (f, fo) :: tabs) G F (Mine.News.sub N fun r hr => ?_) (Around.frames_deeper G.stack) hf hke (fun r hr hm => ?_) fun g' oL G' S' hfz hsub hback => ?_
  · simp only [List.mem_append, List.mem_cons] at hr ⊢
    rcases hr with hr | hr | hr | hr <;> simp [hr]
  · obtain ⟨x, hx, e⟩ := List.mem_map.mp hm
    rcases List.mem_cons.mp hr with rfl | hr
    · exact hft x hx e
    · exact hot r hr x hx e
  have hfr' : ∀ r ∈ (f, fo) :: tabs, g'.get? r.1 = some r.2 := fun r hr => by
    have z := N r (by rcases List.mem_cons.mp hr with rfl | hr; exact .head _; exact .tail _ (List.mem_append_left _ hr))
    refine hfz _ _ z.1 z.2.1 (fun hm => ?_)
    obtain ⟨x, hx, e⟩ := List.mem_map.mp hm
    rcases List.mem_cons.mp hr with rfl | hr
    · exact hft x hx e
    · exact hot r hr x hx e
  have hL' : ∀ q ∈ own, L ≠ q.1 := fun q hq e => (N q (.tail _ (List.mem_append_right _ (List.mem_append_left _ hq)))).2.1 e.symm
  refine nsmallest_spec (own := own) (frs := (L, oL) :: frs) (kb := keysOf bs) (dd := 5) (uu := 200) G' S' src (let ⟨o, ho, r⟩ := hl; ⟨o, hsub _ _ ho, r⟩) (fun v hv => ?_) (fun q hq r hr => ?_) ?_ h1 h64 hn1 hn2 (hfr' _ (.head _)) hfd (hkey g' hsub hfr') (by simp only [depth_deeper]; (first | lia | omega)) (by simp; (first | lia | omega)) hh ?_
  · obtain ⟨i, hi⟩ := List.mem_iff_getElem?.mp hv
    have hil := (List.getElem?_eq_some_iff.mp hi).1
    obtain ⟨a, tb, x, nn, e, ga⟩ := hth.2 i v _ hi (List.getElem?_eq_getElem (hth.1 ▸ hil))
    exact ⟨a, _, e, hsub _ _ ga⟩
  · rcases List.mem_cons.mp hr with rfl | hr
    · exact hL' q hq
    · exact hof q hq r hr
  · rw [keysOf, List.length_map]; exact hth.1.symm
  intro h' tk' D c idx frs'' B SU Fs S''
  obtain ⟨frs', SU', F', N'⟩ := hback h' [(D, listOf (List.toArray (idx.map fun i => vs.getD i Value.none)) c)] frs'' SU (fun q hq es n => by rw [List.mem_singleton] at hq; subst hq; exact fun e => by cases e) S''
  refine hQ h' tk' D c idx frs' B SU' (G.fr.up SU') F' N' fun q hq e => ?_
  have hD := S''.own _ (.head _)
  rcases List.mem_append.mp hq with hq | hq
  · have z := hfr' q (.tail _ hq)
    rw [e] at z; dsimp only at hD; rw [hD.2] at z; cases z
  · obtain ⟨es, ep, hd⟩ := (G.fr.up SU').dict q hq
    have z := (N' q (List.mem_append_right _ (List.mem_append_left _ hq))).1
    rw [e] at z
    have z2 := (N' _ (.head _)).1
    dsimp only at z2
    rw [z2] at z
    rw [← Option.some.inj z] at hd; cases hd

theorem few_spec {it l : Addr} {own tabs frs : List (Addr × Obj)} {vs : List Value} {bs : List (Array UInt8)} {n : Int} {t : Tok} {R : Result → Shared → Prop}
    (G : OG (hd.heap_39 w.params) p loose mean mg mb A base outer frs g) (C : CodeHd g 108 104) (S : Sep g s.heap (tabs ++ (own ++ frs))) (ht : TabSt tabs) (src : SrcN own it l) (hl : g.IsList l vs.toArray) (hth : ThingsIn g vs bs)
    (hof : ∀ q ∈ own, ∀ r ∈ frs, r.1 ≠ q.1) (hot : ∀ q ∈ tabs, ∀ r ∈ own ++ frs, r.1 ≠ q.1) (h1 : 1 ≤ vs.length) (h64 : vs.length < 64) (hn1 : -100 ≤ n) (hn2 : n ≤ 100)
    (hroom : A.depth + 12 < recursionLimit) (hu : A.units + 500 < cLine) (hh : A.handled = none) (hbs : ∀ b ∈ bs, b.size < 2 ^ 20)
    (h : ∀ h' tk' D c idx frs' tabs', Best (ltK (keysOf bs)) vs.length n.toNat idx → TI.SameUp frs frs' → TI.Frs outer frs' → TabSt tabs' → Sep g h' ((D, listOf (List.toArray (idx.map fun i => vs.getD i Value.none)) c) :: (tabs' ++ frs')) → (∀ q ∈ tabs' ++ frs', q.1 ≠ D) → R (.ok (.ret (.ref D))) { s with heap := h', toks := tk' }) :
    codeAny (model PySem.Challenge.rw_pd0043_01.row.prog w) A (.call (.ref 109) ⟨[.int n t, .ref it], []⟩) R s := by
  obtain ⟨_, dp, fr, gd, un⟩ := A
  dsimp only at hh hroom hu
  subst hh
  have X := G.X
  have T := G.T
  refine enterPX (binds := [(Str.ofString "wish", .int n t), (Str.ofString "things", .ref it)]) X T S (by k_is) (by k_is) (by show dp < _; (first | lia | omega)) (BindsTo.of_eq rfl) (locs rfl) ?_ rfl rfl rfl (by decide)
  intro L' h₁ hL' F' N'
  try dsimp only
  k_fold
  cases ht with
  | new =>
    walk_at "k!"
    refine kla_eval rfl ?_
    refine kla_nest (cl := []) (clos := []) F' N' T C rfl (UpdF.head fun r hr => hot _ (.head _) r hr) (by kn_triples) (by kn_among) rfl ?_
    intro f c' oc vs' t' ctv h2 tk2 F2 N2 d1 d2 l1 l2
    walk_at "k!"
    try dsimp only
    refine few_tail (s := s) (own := own) (tabs := [(c', oc), (104, tabObj #[rawInt 148, rawInt 39, .ref c'])]) (frs := frs) G rfl rfl F2 (Mine.News.sub N2 fun r hr => hr) rfl (fun r hr => ?_) (fun q hq r hr => ?_) hof src hl hth h1 h64 hn1 hn2 (by dsimp only; (first | lia | omega)) (by dsimp only; (first | lia | omega)) rfl ?_ ?_
    · exact Nat.ne_of_lt (Nat.lt_trans (l1 r (List.mem_append_right _ hr)) l2)
    · rcases List.mem_cons.mp hq with rfl | hq
      · exact Nat.ne_of_lt (l1 r (List.mem_append_right _ hr))
      · rw [List.mem_singleton] at hq; subst hq; exact hot _ (.head _) r hr
    · intro g' hsub hfr' i v k hv hk A g2 outer2 s2 R2 G2 hsub2 S2 hd2 hu2 hh2 hR
      obtain ⟨_, dp2, fr2, gd2, un2⟩ := A
      dsimp only at hd2 hu2 hh2
      subst hh2
      have X2 := G2.X
      have T2 := G2.T
      have hfo := hsub2 _ _ (hfr' _ (.head _))
      have hoc := hsub2 _ _ (hfr' (c', oc) (.tail _ (.head _)))
      obtain ⟨b, hb, rfl⟩ : ∃ b, bs[i]? = some b ∧ byteArr (b64I (KBw.bInts b)) = k := by
        rw [keysOf, List.getElem?_map, Option.map_eq_some_iff] at hk
        exact hk
      obtain ⟨a, tb, x, nn, rfl, ga⟩ := hth.2 i v b hv hb
      have ga2 := hsub2 _ _ (hsub _ _ ga)
      refine enterL (binds := [(Str.ofString "thing", .ref a)]) G2 S2 (S2.sub _ _ hfo) ⟨c', oc, vs', t', rfl, S2.sub _ _ hoc, d1, d2⟩ (by show dp2 < _; (first | lia | omega)) rfl (locs rfl) ?_ rfl rfl rfl (by decide)
      intro L3 h3 hL3 F3 N3
      try dsimp only
      k_fold
      walk_at "k!"
      refine item_tupleT (l := [.bytes b tb, x]) (j := 0) ⟨_, F3.keep _ _ ga2, rfl, nn, rfl⟩ (by decide) (by decide) rfl rfl ?_
      walk_at "k!"
      refine callOver (hid := []) (rest := []) G2 F3 N3 (Around.frames_deeper G2.B.stack) rfl rfl (fun _ h => nomatch h) fun g3 G3 S3 hfz3 hsz3 hsub3 hback3 => ?_
      refine b64encode_spec G3 S3 (by simp only [depth_deeper]; (first | lia | omega)) (by simp; (first | lia | omega)) rfl (hbs b (List.mem_of_getElem? hb)) ?_
      intro h4 tk4 t4 S4
      obtain ⟨F4, N4⟩ := hback3 _ _ S4
      try walk_at "k!"
      exact hR _ _ _ (Sep.of F4 N4)
    · intro h' tk' D c idx frs' B SU Fs F4 N4 hD4
      try walk_at "k!"
      refine h _ _ D c idx frs' _ B SU Fs (TabSt.full (c' := c') d1 d2) ((Sep.of F4 N4).drop fun r hr => ?_) fun r hr => ?_
      · rcases List.mem_cons.mp hr with rfl | hr
        · exact .head _
        · simp only [List.mem_append, List.mem_cons, List.not_mem_nil, or_false] at hr ⊢
          rcases hr with (hr | hr) | hr <;> simp [hr]
      · refine hD4 r ?_
        simp only [List.mem_append, List.mem_cons, List.not_mem_nil, or_false] at hr ⊢
        rcases hr with (hr | hr) | hr <;> simp [hr]
  | @full c' oc vs' t' d1 d2 =>
    walk_at "k!"
    try dsimp only
    rename Fr _ _ _ _ => F2
    rename News _ _ _ _ => N2
    rename_i f _ l1
    refine few_tail (s := s) (own := own) (tabs := [(104, tabObj #[rawInt 148, rawInt 39, .ref c']), (c', oc)]) (frs := frs) G rfl rfl F2 (Mine.News.sub N2 fun r hr => hr) rfl (fun r hr => ?_) (fun q hq r hr => hot q hq r hr) hof src hl hth h1 h64 hn1 hn2 (by dsimp only; (first | lia | omega)) (by dsimp only; (first | lia | omega)) rfl ?_ ?_
    · exact Nat.ne_of_lt (l1 r (List.mem_append_right _ hr))
    · intro g' hsub hfr' i v k hv hk A g2 outer2 s2 R2 G2 hsub2 S2 hd2 hu2 hh2 hR
      obtain ⟨_, dp2, fr2, gd2, un2⟩ := A
      dsimp only at hd2 hu2 hh2
      subst hh2
      have X2 := G2.X
      have T2 := G2.T
      have hfo := hsub2 _ _ (hfr' _ (.head _))
      have hoc := hsub2 _ _ (hfr' (c', oc) (.tail _ (.tail _ (.head _))))
      obtain ⟨b, hb, rfl⟩ : ∃ b, bs[i]? = some b ∧ byteArr (b64I (KBw.bInts b)) = k := by
        rw [keysOf, List.getElem?_map, Option.map_eq_some_iff] at hk
        exact hk
      obtain ⟨a, tb, x, nn, rfl, ga⟩ := hth.2 i v b hv hb
      have ga2 := hsub2 _ _ (hsub _ _ ga)
      refine enterL (binds := [(Str.ofString "thing", .ref a)]) G2 S2 (S2.sub _ _ hfo) ⟨c', oc, vs', t', rfl, S2.sub _ _ hoc, d1, d2⟩ (by show dp2 < _; (first | lia | omega)) rfl (locs rfl) ?_ rfl rfl rfl (by decide)
      intro L3 h3 hL3 F3 N3
      try dsimp only
      k_fold
      walk_at "k!"
      refine item_tupleT (l := [.bytes b tb, x]) (j := 0) ⟨_, F3.keep _ _ ga2, rfl, nn, rfl⟩ (by decide) (by decide) rfl rfl ?_
      walk_at "k!"
      refine callOver (hid := []) (rest := []) G2 F3 N3 (Around.frames_deeper G2.B.stack) rfl rfl (fun _ h => nomatch h) fun g3 G3 S3 hfz3 hsz3 hsub3 hback3 => ?_
      refine b64encode_spec G3 S3 (by simp only [depth_deeper]; (first | lia | omega)) (by simp; (first | lia | omega)) rfl (hbs b (List.mem_of_getElem? hb)) ?_
      intro h4 tk4 t4 S4
      obtain ⟨F4, N4⟩ := hback3 _ _ S4
      try walk_at "k!"
      exact hR _ _ _ (Sep.of F4 N4)
    · intro h' tk' D c idx frs' B SU Fs F4 N4 hD4
      try walk_at "k!"
      refine h _ _ D c idx frs' _ B SU Fs (TabSt.full (c' := c') d1 d2) ((Sep.of F4 N4).drop fun r hr => ?_) fun r hr => ?_
      · rcases List.mem_cons.mp hr with rfl | hr
        · exact .head _
        · simp only [List.mem_append, List.mem_cons, List.not_mem_nil, or_false] at hr ⊢
          rcases hr with (hr | hr) | hr <;> simp [hr]
      · refine hD4 r ?_
        simp only [List.mem_append, List.mem_cons, List.not_mem_nil, or_false] at hr ⊢
        rcases hr with (hr | hr) | hr <;> simp [hr]
end
end
section
open PySem PySem.W PyProof.Rows
set_option maxRecDepth 100000

def u8 (x : Int) : UInt8 := x.toNat.toUInt8
theorem byteArr_list (l : List Int) : (byteArr l).toList = l.map u8 := by
  unfold byteArr u8; simp
def key (l : List Int) : List UInt8 := (b64I l).map u8
theorem key_four (a b c : Int) (r : List Int) : key (a :: b :: c :: r) = u8 (al (a / 4)) :: u8 (al (a % 4 * 16 + b / 16)) :: u8 (al (b % 16 * 4 + c / 64)) :: u8 (al (c % 64)) :: key r := by
  simp [key, b64I, full, padS]
theorem key_two (a b : Int) : key [a, b] = [u8 (al (a / 4)), u8 (al (a % 4 * 16 + b / 16)), u8 (al (b % 16 * 4)), u8 61] := by
  simp [key, b64I, full, padS]
theorem key_one (a : Int) : key [a] = [u8 (al (a / 4)), u8 (al (a % 4 * 16)), u8 61, u8 61] := by
  simp [key, b64I, full, padS]
theorem key_nil : key [] = [] := by simp [key, b64I, full, padS]

theorem bl_cons_lt {u v : UInt8} (a b : List UInt8) (h : u < v) : bl (u :: a) (v :: b) = true ∧ bl (v :: b) (u :: a) = false := by
  have h' : ¬ v < u := by rw [UInt8.lt_iff_toNat_lt] at *; (first | lia | omega)
  constructor
  · simp [bl, Builtin.Bytes.order, h]
  · simp [bl, Builtin.Bytes.order, h, h']
theorem bl_cons_eq (u : UInt8) (a b : List UInt8) : bl (u :: a) (u :: b) = bl a b := by
  have h' : ¬ u < u := by rw [UInt8.lt_iff_toNat_lt]; (first | lia | omega)
  simp [bl, Builtin.Bytes.order, h']
theorem bl_nil_cons (u : UInt8) (a : List UInt8) : bl [] (u :: a) = true ∧ bl (u :: a) [] = false := by
  simp [bl, Builtin.Bytes.order]

theorem u8_lt {x y : Int} (hx : 0 ≤ x) (hxy : x < y) (hy : y < 256) : u8 x < u8 y := by
  unfold u8
  rw [UInt8.lt_iff_toNat_lt]
  simp only [Nat.toUInt8_eq, UInt8.toNat_ofNat']
  (first | lia | omega)
theorem s1 : ∀ k : Nat, k < 4 → ∀ j : Nat, j < 16 → j = 0 ∨ (if k = 3 ∧ 4 ≤ j then alph.getD (k * 16 + j) 0 < alph.getD (k * 16) 0 else alph.getD (k * 16) 0 < alph.getD (k * 16 + j) 0) := by decide
theorem s2 : ∀ v : Nat, v < 64 → (if 52 ≤ v then alph.getD v 0 < 61 else 61 < alph.getD v 0) := by decide
theorem s3 : ∀ k : Nat, k < 16 → ∀ j : Nat, j < 4 → j = 0 ∨ (if k = 15 ∧ 2 ≤ j then alph.getD (k * 4 + j) 0 < alph.getD (k * 4) 0 else alph.getD (k * 4) 0 < alph.getD (k * 4 + j) 0) := by decide
theorem al_nat (n : Nat) : al (n : Int) = alph.getD n 0 := by simp [al]

/-- the sign of k*16+j beside that of k*16 -/
theorem t1 {k j : Nat} (hk : k < 4) (hj : j < 16) (h0 : j ≠ 0) : if k = 3 ∧ 4 ≤ j then u8 (al ((k * 16 + j : Nat) : Int)) < u8 (al ((k * 16 : Nat) : Int)) else u8 (al ((k * 16 : Nat) : Int)) < u8 (al ((k * 16 + j : Nat) : Int)) := by
  have h := (s1 k hk j hj).resolve_left h0
  split
  · rename_i c; rw [if_pos c] at h; exact u8_lt (al_in _).1 (by rw [al_nat, al_nat]; exact h) (al_in _).2
  · rename_i c; rw [if_neg c] at h; exact u8_lt (al_in _).1 (by rw [al_nat, al_nat]; exact h) (al_in _).2
theorem t2 {v : Nat} (hv : v < 64) : if 52 ≤ v then u8 (al (v : Int)) < u8 61 else u8 61 < u8 (al (v : Int)) := by
  have h := s2 v hv
  split
  · rename_i c; rw [if_pos c] at h; exact u8_lt (al_in _).1 (by rw [al_nat]; exact h) (by decide)
  · rename_i c; rw [if_neg c] at h; exact u8_lt (by decide) (by rw [al_nat]; exact h) (al_in _).2
theorem t3 {k j : Nat} (hk : k < 16) (hj : j < 4) (h0 : j ≠ 0) : if k = 15 ∧ 2 ≤ j then u8 (al ((k * 4 + j : Nat) : Int)) < u8 (al ((k * 4 : Nat) : Int)) else u8 (al ((k * 4 : Nat) : Int)) < u8 (al ((k * 4 + j : Nat) : Int)) := by
  have h := (s3 k hk j hj).resolve_left h0
  split
  · rename_i c; rw [if_pos c] at h; exact u8_lt (al_in _).1 (by rw [al_nat, al_nat]; exact h) (al_in _).2
  · rename_i c; rw [if_neg c] at h; exact u8_lt (al_in _).1 (by rw [al_nat, al_nat]; exact h) (al_in _).2

/-- the order of two keys, told by whether the shorter one goes behind -/
def Ord2 (a b : List UInt8) (behind : Bool) : Prop := bl a b = !behind ∧ bl b a = behind
theorem Ord2.cons {a b : List UInt8} {x : Bool} (u : UInt8) (h : Ord2 a b x) : Ord2 (u :: a) (u :: b) x := by
  unfold Ord2 at *; rw [bl_cons_eq, bl_cons_eq]; exact h
theorem Ord2.lt {u v : UInt8} (a b : List UInt8) (h : u < v) : Ord2 (u :: a) (v :: b) false := bl_cons_lt a b h
theorem Ord2.gt {u v : UInt8} (a b : List UInt8) (h : v < u) : Ord2 (u :: a) (v :: b) true := ⟨(bl_cons_lt b a h).2, (bl_cons_lt b a h).1⟩

/-- one octet beyond threes -/
theorem ord_one {x y : Nat} (hy : y < 256) (t c : List UInt8) {w : Nat} (hw : w < 4) :
    Ord2 [u8 (al ((x % 4 * 16 : Nat) : Int)), u8 61, u8 61] (u8 (al ((x % 4 * 16 + y / 16 : Nat) : Int)) :: u8 (al ((y % 16 * 4 + w : Nat) : Int)) :: t) (decide ((13 ≤ y ∧ y ≤ 15) ∨ (64 ≤ y ∧ x % 4 = 3))) := by
  by_cases h : y / 16 = 0
  · rw [h, Nat.add_zero]
    refine Ord2.cons _ ?_
    have q := t2 (v := y % 16 * 4 + w) (by (first | lia | omega))
    by_cases c : 52 ≤ y % 16 * 4 + w
    · rw [if_pos c] at q
      rw [decide_eq_true (by left; (first | lia | omega))]
      exact Ord2.gt _ _ q
    · rw [if_neg c] at q
      rw [decide_eq_false (by (first | lia | omega))]
      exact Ord2.lt _ _ q
  · have q := t1 (k := x % 4) (j := y / 16) (by (first | lia | omega)) (by (first | lia | omega)) h
    by_cases c : x % 4 = 3 ∧ 4 ≤ y / 16
    · rw [if_pos c] at q
      rw [decide_eq_true (by right; (first | lia | omega))]
      exact Ord2.gt _ _ q
    · rw [if_neg c] at q
      rw [decide_eq_false (by (first | lia | omega))]
      exact Ord2.lt _ _ q
/-- two octets beyond threes -/
theorem ord_two {y z : Nat} (hz : z < 256) (t : List UInt8) :
    Ord2 [u8 (al ((y % 16 * 4 : Nat) : Int)), u8 61] (u8 (al ((y % 16 * 4 + z / 64 : Nat) : Int)) :: u8 (al ((z % 64 : Nat) : Int)) :: t) (decide ((52 ≤ z ∧ z ≤ 63) ∨ (128 ≤ z ∧ y % 16 = 15))) := by
  by_cases h : z / 64 = 0
  · rw [h, Nat.add_zero]
    refine Ord2.cons _ ?_
    have q := t2 (v := z % 64) (by (first | lia | omega))
    by_cases c : 52 ≤ z % 64
    · rw [if_pos c] at q
      rw [decide_eq_true (by left; (first | lia | omega))]
      exact Ord2.gt _ _ q
    · rw [if_neg c] at q
      rw [decide_eq_false (by (first | lia | omega))]
      exact Ord2.lt _ _ q
  · have q := t3 (k := y % 16) (j := z / 64) (by (first | lia | omega)) (by (first | lia | omega)) h
    by_cases c : y % 16 = 15 ∧ 2 ≤ z / 64
    · rw [if_pos c] at q
      rw [decide_eq_true (by right; (first | lia | omega))]
      exact Ord2.gt _ _ q
    · rw [if_neg c] at q
      rw [decide_eq_false (by (first | lia | omega))]
      exact Ord2.lt _ _ q

theorem key_ne {l : List Int} (h : l ≠ []) : ∃ u t, key l = u :: t := by
  match l, h with
  | [a], _ => exact ⟨_, _, key_one a⟩
  | [a, b], _ => exact ⟨_, _, key_two a b⟩
  | a :: b :: c :: r, _ => exact ⟨_, _, key_four a b c r⟩

theorem behindP_three (x y z : Int) (r : List Int) (a : Nat) : behindP (x :: y :: z :: r) (a + 3) = behindP r a := by
  unfold behindP
  rw [show (a + 3) % 3 = a % 3 by (first | lia | omega)]
  by_cases h0 : a % 3 = 0
  · rw [if_pos h0, if_pos h0]
  · rw [if_neg h0, if_neg h0]
    obtain ⟨k, rfl⟩ : ∃ k, a = k + 1 := ⟨a - 1, by (first | lia | omega)⟩
    have e1 : (x :: y :: z :: r).getD (k + 1 + 3) 0 = r.getD (k + 1) 0 := rfl
    have e2 : (x :: y :: z :: r).getD (k + 1 + 3 - 1) 0 = r.getD (k + 1 - 1) 0 := rfl
    rw [e1, e2]

theorem key_ord : ∀ (row : List Int), KBa.In row → ∀ (a b : Nat), a < b → b ≤ row.length → Ord2 (key (row.take a)) (key (row.take b)) (behindP row a)
  | row, hin, 0, b, hab, hb => by
    obtain ⟨u, t, e⟩ := key_ne (l := row.take b) (by
      intro h
      have := congrArg List.length h
      rw [List.length_take, List.length_nil] at this; (first | lia | omega))
    rw [List.take_zero, key_nil, e]
    exact bl_nil_cons u t
  | [], _, a + 1, b, hab, hb => by simp at hb; (first | lia | omega)
  | [x], _, a + 1, b, hab, hb => by simp at hb; (first | lia | omega)
  | x :: y :: rest, hin, 1, b, hab, hb => by
    have hx := hin x (.head _)
    have hy := hin y (.tail _ (.head _))
    obtain ⟨x', rfl⟩ := Int.eq_ofNat_of_zero_le hx.1
    obtain ⟨y', rfl⟩ := Int.eq_ofNat_of_zero_le hy.1
    have hb1 : behindP ((x' : Int) :: (y' : Int) :: rest) 1 = decide ((13 ≤ y' ∧ y' ≤ 15) ∨ (64 ≤ y' ∧ x' % 4 = 3)) := by
      show decide ((13 ≤ (y' : Int) ∧ (y' : Int) ≤ 15) ∨ (64 ≤ (y' : Int) ∧ (x' : Int) % 4 = 3)) = _
      rw [decide_eq_decide]; (first | lia | omega)
    rw [hb1, show ((x' : Int) :: (y' : Int) :: rest).take 1 = [(x' : Int)] by rfl, key_one]
    have e1 : (x' : Int) % 4 * 16 = ((x' % 4 * 16 : Nat) : Int) := by (first | lia | omega)
    have e2 : (x' : Int) % 4 * 16 + (y' : Int) / 16 = ((x' % 4 * 16 + y' / 16 : Nat) : Int) := by (first | lia | omega)
    by_cases hb2 : b = 2
    · subst hb2
      rw [show ((x' : Int) :: (y' : Int) :: rest).take 2 = [(x' : Int), (y' : Int)] by rfl, key_two]
      rw [e2, e1, show (y' : Int) % 16 * 4 = ((y' % 16 * 4 + 0 : Nat) : Int) by (first | lia | omega)]
      exact Ord2.cons _ (ord_one (by (first | lia | omega)) _ [] (by (first | lia | omega)))
    · obtain ⟨k, rfl⟩ : ∃ k, b = k + 3 := ⟨b - 3, by (first | lia | omega)⟩
      match rest, hin, hb with
      | [], _, hb => exact absurd hb (by simp)
      | z :: r, hin, hb =>
        have hz := hin z (.tail _ (.tail _ (.head _)))
        obtain ⟨z', rfl⟩ := Int.eq_ofNat_of_zero_le hz.1
        rw [show ((x' : Int) :: (y' : Int) :: (z' : Int) :: r).take (k + 3) = (x' : Int) :: (y' : Int) :: (z' : Int) :: r.take k by rfl, key_four]
        rw [e2, e1, show (y' : Int) % 16 * 4 + (z' : Int) / 64 = ((y' % 16 * 4 + z' / 64 : Nat) : Int) by (first | lia | omega)]
        exact Ord2.cons _ (ord_one (by (first | lia | omega)) _ [] (by (first | lia | omega)))
  | [x, y], _, a + 2, b, hab, hb => by simp at hb; (first | lia | omega)
  | x :: y :: z :: r, hin, 2, b, hab, hb => by
    have hx := hin x (.head _)
    have hy := hin y (.tail _ (.head _))
    have hz := hin z (.tail _ (.tail _ (.head _)))
    obtain ⟨y', rfl⟩ := Int.eq_ofNat_of_zero_le hy.1
    obtain ⟨z', rfl⟩ := Int.eq_ofNat_of_zero_le hz.1
    have hb1 : behindP (x :: (y' : Int) :: (z' : Int) :: r) 2 = decide ((52 ≤ z' ∧ z' ≤ 63) ∨ (128 ≤ z' ∧ y' % 16 = 15)) := by
      show decide ((52 ≤ (z' : Int) ∧ (z' : Int) ≤ 63) ∨ (128 ≤ (z' : Int) ∧ (y' : Int) % 16 = 15)) = _
      rw [decide_eq_decide]; (first | lia | omega)
    obtain ⟨k, rfl⟩ : ∃ k, b = k + 3 := ⟨b - 3, by (first | lia | omega)⟩
    rw [hb1, show (x :: (y' : Int) :: (z' : Int) :: r).take 2 = [x, (y' : Int)] by rfl, key_two, show (x :: (y' : Int) :: (z' : Int) :: r).take (k + 3) = x :: (y' : Int) :: (z' : Int) :: r.take k by rfl, key_four]
    rw [show (y' : Int) % 16 * 4 = ((y' % 16 * 4 : Nat) : Int) by (first | lia | omega), show ((y' % 16 * 4 : Nat) : Int) + (z' : Int) / 64 = ((y' % 16 * 4 + z' / 64 : Nat) : Int) by (first | lia | omega), show (z' : Int) % 64 = ((z' % 64 : Nat) : Int) by (first | lia | omega)]
    exact Ord2.cons _ (Ord2.cons _ (ord_two (by (first | lia | omega)) _))
  | x :: y :: z :: r, hin, a + 3, b, hab, hb => by
    obtain ⟨k, rfl⟩ : ∃ k, b = k + 3 := ⟨b - 3, by (first | lia | omega)⟩
    rw [show (x :: y :: z :: r).take (a + 3) = x :: y :: z :: r.take a by rfl, show (x :: y :: z :: r).take (k + 3) = x :: y :: z :: r.take k by rfl, key_four, key_four, behindP_three]
    exact Ord2.cons _ (Ord2.cons _ (Ord2.cons _ (Ord2.cons _ (key_ord r (fun n hn => hin n (.tail _ (.tail _ (.tail _ hn)))) a k (by (first | lia | omega)) (by simp at hb; omega)))))

/-- the order of the sizes -/
def szLt (row : List Int) (a b : Int) : Prop := bl (key (row.take a.toNat)) (key (row.take b.toNat)) = true
theorem szLt_ahead {row : List Int} (hin : KBa.In row) {a b : Int} (ha : 0 ≤ a) (hab : a < b) (hb : b ≤ row.length) (h : behindP row a.toNat = false) : szLt row a b := by
  have := (key_ord row hin a.toNat b.toNat (by (first | lia | omega)) (by (first | lia | omega))).1
  rw [h] at this; exact this
theorem szLt_behind {row : List Int} (hin : KBa.In row) {a b : Int} (ha : 0 ≤ a) (hab : a < b) (hb : b ≤ row.length) (h : behindP row a.toNat = true) : szLt row b a := by
  have := (key_ord row hin a.toNat b.toNat (by (first | lia | omega)) (by (first | lia | omega))).2
  rw [h] at this; exact this

theorem range_up (m : Nat) : (rangeKs 0 m).Pairwise (· < ·) := by
  rw [rangeKs, List.pairwise_map]
  exact (List.pairwise_lt_range (n := m)).imp fun {a b} h => by (first | lia | omega)

theorem sizes_pair {row : List Int} (hin : KBa.In row) : (sizesP row).Pairwise (szLt row) := by
  have bnd : ∀ k ∈ rangeKs 0 row.length, 0 ≤ k ∧ k < row.length := fun k hk => by have := mem_rangeKs hk; (first | lia | omega)
  have hA : ∀ k ∈ aheadS row, (0 ≤ k ∧ k < row.length) ∧ behindP row k.toNat = false := fun k hk => by
    have := List.mem_filter.mp hk
    exact ⟨bnd k this.1, by simpa using this.2⟩
  have hB : ∀ k ∈ behindS row, (0 ≤ k ∧ k < row.length) ∧ behindP row k.toNat = true := fun k hk => by
    have := List.mem_filter.mp hk
    exact ⟨bnd k (List.mem_reverse.mp this.1), by simpa using this.2⟩
  rw [sizesP, List.append_assoc, List.pairwise_append]
  refine ⟨?_, ?_, fun a ha b hb => ?_⟩
  · refine ((range_up row.length).sublist List.filter_sublist).imp_of_mem fun {a b} ha hb h => ?_
    exact szLt_ahead hin (hA a ha).1.1 h (by have := (hA b hb).1.2; (first | lia | omega)) (hA a ha).2
  · rw [List.singleton_append, List.pairwise_cons]
    refine ⟨fun b hb => szLt_behind hin (hB b hb).1.1 (hB b hb).1.2 (Int.le_refl _) (hB b hb).2, ?_⟩
    have : (rangeKs 0 row.length).reverse.Pairwise (fun a b => b < a) := List.pairwise_reverse.mpr (range_up row.length)
    refine (this.sublist List.filter_sublist).imp_of_mem fun {a b} ha hb h => ?_
    exact szLt_behind hin (hB b hb).1.1 h (by have := (hB a ha).1.2; (first | lia | omega)) (hB b hb).2
  · rcases List.mem_append.mp hb with hb | hb
    · rw [List.mem_singleton] at hb; subst hb
      exact szLt_ahead hin (hA a ha).1.1 (hA a ha).1.2 (Int.le_refl _) (hA a ha).2
    · by_cases h : a < b
      · exact szLt_ahead hin (hA a ha).1.1 h (by have := (hB b hb).1.2; (first | lia | omega)) (hA a ha).2
      · have ne : a ≠ b := fun e => by have h1 := (hA a ha).2; rw [e, (hB b hb).2] at h1; cases h1
        exact szLt_behind hin (hB b hb).1.1 (by (first | lia | omega)) (by have := (hA a ha).1.2; (first | lia | omega)) (hB b hb).2

theorem sizes_mem {row : List Int} {k : Int} : k ∈ sizesP row ↔ 0 ≤ k ∧ k ≤ row.length := by
  have r : ∀ k : Int, k ∈ rangeKs 0 row.length ↔ 0 ≤ k ∧ k < row.length := fun k => by
    constructor
    · intro h; have := mem_rangeKs h; (first | lia | omega)
    · intro h
      refine List.mem_map.mpr ⟨k.toNat, List.mem_range.mpr (by (first | lia | omega)), by (first | lia | omega)⟩
  simp only [sizesP, aheadS, behindS, List.mem_append, List.mem_filter, List.mem_reverse, List.mem_singleton, r]
  constructor
  · rintro ((h | h) | h) <;> (first | lia | omega)
  · intro h
    by_cases e : k = row.length
    · exact .inl (.inr e)
    · cases hb : behindP row k.toNat with
      | false => exact .inl (.inl ⟨by (first | lia | omega), rfl⟩)
      | true => exact .inr ⟨by (first | lia | omega), rfl⟩

/-- the indices in their due order: size by size, those of like size as they stand -/
def dueIx (row : List Int) (szs : List Nat) : List Nat := (sizesP row).flatMap fun k => (List.range szs.length).filter fun i => decide (((szs.getD i 0 : Nat) : Int) = k)

theorem due_pair {row : List Int} (hin : KBa.In row) {szs : List Nat} {kb : List (Array UInt8)} (hkb : ∀ i, i < szs.length → (kb.getD i #[]).toList = key (row.take (szs.getD i 0))) : (dueIx row szs).Pairwise (Rst (ltK kb)) := by
  rw [dueIx, List.pairwise_flatMap]
  refine ⟨fun k hk => ?_, (sizes_pair hin).imp fun {a b} h x hx y hy => ?_⟩
  · refine ((List.pairwise_lt_range (n := szs.length)).sublist List.filter_sublist).imp_of_mem fun {i j} hi hj h => ?_
    have hi' := List.mem_filter.mp hi
    have hj' := List.mem_filter.mp hj
    simp only [List.mem_range, decide_eq_true_eq] at hi' hj'
    refine .inr ⟨?_, h⟩
    unfold ltK
    rw [hkb j hj'.1, hkb i hi'.1, show szs.getD j 0 = szs.getD i 0 by (first | lia | omega)]
    exact bl_irrefl _
  · have hx' := List.mem_filter.mp hx
    have hy' := List.mem_filter.mp hy
    simp only [List.mem_range, decide_eq_true_eq] at hx' hy'
    left
    unfold ltK
    rw [hkb x hx'.1, hkb y hy'.1]
    have : szLt row a b := h
    unfold szLt at this
    rw [← hx'.2, ← hy'.2, Int.toNat_natCast, Int.toNat_natCast] at this
    exact this

theorem due_perm {row : List Int} (hin : KBa.In row) {szs : List Nat} (hs : ∀ i, i < szs.length → szs.getD i 0 ≤ row.length) {kb : List (Array UInt8)} (hkb : ∀ i, i < szs.length → (kb.getD i #[]).toList = key (row.take (szs.getD i 0))) : (dueIx row szs).Perm (List.range szs.length) := by
  have nd : (dueIx row szs).Nodup := (due_pair hin hkb).imp fun {a b} h e => by subst e; exact Rst.irrefl (ltK_ord kb) h
  refine (List.perm_ext_iff_of_nodup nd List.nodup_range).mpr fun i => ?_
  simp only [dueIx, List.mem_flatMap, List.mem_filter, List.mem_range, decide_eq_true_eq, sizes_mem]
  constructor
  · rintro ⟨k, _, h, _⟩; exact h
  · intro h
    exact ⟨_, ⟨by (first | lia | omega), by have := hs i h; (first | lia | omega)⟩, h, rfl⟩
end
section
open PySem PySem.W PyProof.Rows PySem.Calls
set_option Elab.async false
set_option maxRecDepth 100000
set_option maxHeartbeats 8000000
example : PySem.Challenge.rw_pd0043_01.prog = PySem.Challenge.rw_pd0043_01.prog → hd.heap_39 = hd.heap_39 := by
  k_fill
  exact fun _ => rfl


theorem noFillI_list : fillsInplaceSlot (.type "list") "add" true = pure false := by
  unfold fillsInplaceSlot
  show (typeLookup (.type "list") (dunderI "add") >>= fun fi => pure (fi.isSome && !isSeqSlot fi)) = _
  rw [PySem.F.slot_list_iadd.lookup, pure_bind]
  rw [show ((some (Value.builtin "list.__iadd__")).isSome && !isSeqSlot (some (Value.builtin "list.__iadd__"))) = false from by decide +kernel]
theorem seq_list_iadd : seqSlot? (.type "list") (dunderI "add") = pure (some (.builtin "list.__iadd__")) := PySem.seqSlot_of PySem.F.slot_list_iadd.lookup (by decide +kernel)

theorem iadd_at {prog : Program} {w : World} {A : Around} {E : Value → Shared → Prop} {s : Shared} {D b : Addr} {vs ws : List Value} {n n2 : Nat} {Q : Value → Shared → Prop} (hl : s.heap.get? D = some (listOf (List.toArray vs) n)) (hb : s.heap.get? b = some (listOf (List.toArray ws) n2)) (hsz : vs.length + ws.length < 2 ^ 20)
    (h : ∀ h' n', Heap.SameBut D s.heap h' → h'.get? D = some (listOf (List.toArray (vs ++ ws)) n') → Q (.ref D) { s with heap := h' }) : wpAny (model prog w) A (inplaceOp .Add (.ref D) (.ref b)) Q E s := by
  have hT : s.TypeIs (.ref D) "list" := ⟨_, hl, rfl⟩
  have hTb : s.TypeIs (.ref b) "list" := ⟨_, hb, rfl⟩
  unfold inplaceOp
  refine wpAny_holding ?_
  refine wpAny_bind (wpAny_typeOf hT ?_)
  refine wpAny_bind (wpAny_of_eq noFillI_list ?_)
  rw [if_neg (by decide)]
  refine wpAny_bind (wpAny_binaryOp1_none (nm := "add") hT hTb noFill_list_add ?_)
  refine wpAny_bind (wpAny_of_eq seq_list_iadd ?_)
  have e : (List.toArray vs) ++ (List.toArray ws) = List.toArray (vs ++ ws) := by simp
  have go : wpAny (model prog w) A (call (.builtin "list.__iadd__") [.ref D, .ref b]) Q E s := by
    refine call_meets PySem.F.slot_list_iadd hT PySem.F.entry_list_iadd (PySem.F.args_list_iadd_2 _ _) (AutoSeq1.list___iadd___list_list_0 D (List.toArray vs) n b (List.toArray ws) n2 ?_ ?_ ?_) ⟨hl, hb, ?_⟩
    · simp [Builtin.List.listTooLong, sizeLine_eq]; (first | lia | omega)
    · rw [List.size_toArray, sizeLine_eq]; (first | lia | omega)
    · rw [List.size_toArray, List.size_toArray, sizeLine_eq]; (first | lia | omega)
    · have hu := get?_update_seq hl (fun x => x ++ List.toArray ws)
      rw [e] at hu
      exact h _ _ (Heap.SameBut.update ..) hu
  first
    | exact wpAny_bind (wpAny_rule (wpAny_bind (wpAny_mono go (fun r s' hr => wpAny_pure hr) fun _ _ x => x)))
    | exact wpAny_bind (wpAny_rule go)
    | exact wpAny_bind (wpAny_rule (wpAny_bind go))
end
section
open PySem PySem.W PyProof.Rows PySem.Calls
set_option Elab.async false
set_option maxRecDepth 100000
set_option maxHeartbeats 8000000
example : PySem.Challenge.rw_pd0043_01.prog = PySem.Challenge.rw_pd0043_01.prog → hd.heap_39 = hd.heap_39 := by
  k_fill
  exact fun _ => rfl


theorem eqGives_ref (a : Addr) : MeetsSeq.EqGives (.ref a) (.ref a) true := by
  intro prog w A E s Q hq
  unfold eqBool
  try with_reducible refine wpAny_holding ?_
  show wpAny _ _ (if ((Value.ref a) == (Value.ref a)) = true then _ else _) _ _ s
  rw [if_pos (by simp)]
  exact wpAny_bind (wpAny_rule (wpAny_pure hq))

/-- two lists of the same things are equal -/
theorem eq_same {prog : Program} {w : World} {A : Around} {E : Value → Shared → Prop} {s : Shared} {l b : Addr} {vs : List Value} {n n2 : Nat} {Q : Value → Shared → Prop} (hl : s.heap.get? l = some (listOf (List.toArray vs) n)) (hb : s.heap.get? b = some (listOf (List.toArray vs) n2))
    (hv : ∀ v ∈ vs, ∃ a, v = .ref a) (hu : A.units < cLine) (h : Q (.bool true) s) : wpAny (model prog w) A (compareOp .Eq (.ref l) (.ref b)) Q E s := by
  have hT : s.TypeIs (.ref l) "list" := ⟨_, hl, rfl⟩
  have hT' : s.TypeIs (.ref b) "list" := ⟨_, hb, rfl⟩
  show wpAny (model prog w) A (richCompare .Eq (.ref l) (.ref b)) Q E s
  have ht : ((List.range (List.toArray vs).size).all fun _ => true) = true := by simp
  have hm := MeetsSeq3.list_eq l b (List.toArray vs) (List.toArray vs) n n2 rfl (fun _ => true) (fun j h1 h2 => by
    obtain ⟨a, ha⟩ := hv ((List.toArray vs)[j]) (by simp)
    rw [ha]; exact eqGives_ref a)
  refine wpAny_richCompare_same_room (op := .Eq) hT hT' PySem.F.slot_list_eq (call_meets PySem.F.slot_list_eq hT PySem.F.entry_list_eq (PySem.F.args_list_eq_2 _ _) hm ⟨hl, hb, ?_⟩) hu
  rw [ht]
  exact ⟨by simp, h⟩
end
section
open PySem PySem.W PyProof.Rows PySem.Calls
set_option Elab.async false
set_option maxRecDepth 100000
set_option maxHeartbeats 8000000
example : PySem.Challenge.rw_pd0043_01.prog = PySem.Challenge.rw_pd0043_01.prog → hd.heap_39 = hd.heap_39 := by
  k_fill
  exact fun _ => rfl


local macro_rules | `(tactic| walk_at "t!") => `(tactic| repeat' (first
  | (fail_if_success (with_reducible show wpAny _ _ (exec (Stmt.While _ _ _ _) _) _ _ _)
     fail_if_success (with_reducible show wpAny _ _ (exec (Stmt.For _ _ _ _ _) _) _ _ _)
     fail_if_success (with_reducible show wpAny _ _ (exec (Stmt.Assign _ (Expr.ListComp _ _ _ _) _) _) _ _ _)
     fail_if_success (with_reducible show wpAny _ _ (eval (Expr.ListComp _ _ _ _) _) _ _ _)
     fail_if_success (with_reducible show wpAny _ _ (call _ _ _) _ _ _)
     fail_if_success (with_reducible show wpAny _ _ (subscriptTail _ _ _ _) _ _ _)
     fail_if_success (with_reducible show wpAny _ _ (truthy (Value.ref _)) _ _ _)
     fail_if_success (with_reducible show wpAny _ _ (setItem _ _ _) _ _ _)
     fail_if_success (with_reducible show wpAny _ _ (binaryOp _ (Value.ref _) _) _ _ _)
     fail_if_success (with_reducible show wpAny _ _ (compareOp _ (Value.ref _) _) _ _ _)
     (first | (k_unfold; (try dsimp only)) | walk1 | (dsimp only; walk1) | dsimp only))
  | fail "no step"))

theorem law_cut {M : Model} {A : Around} {tree : Sem Flow} {Q : Flow → Shared → Prop} {E : Value → Shared → Prop} {g h₁ : Heap} {L : Addr} {m : Str → Option Value} {gs : Array GenState} {d : Drawn} {tk₀ : Nat} {os : OsState} (F : Fr g L h₁ m)
    (ret : ∀ h tk tabs m', TabSt tabs → Fr g L h m' → News g L h tabs → Q (.ret (.bool true)) ⟨h, gs, d, tk, os⟩)
    (main : ∀ (Q' : Flow → Shared → Prop) (E' : Value → Shared → Prop), (∀ h tk tabs m', TabSt tabs → Fr g L h m' → News g L h tabs → Q' (.ret (.bool true)) ⟨h, gs, d, tk, os⟩) → wpAny M A tree Q' E' ⟨h₁, gs, d, tk₀, os⟩) :
    wpAny M A tree Q E ⟨h₁, gs, d, tk₀, os⟩ := main Q E ret
theorem grown_tabs {g h : Heap} {L : Addr} {tabs : List (Addr × Obj)} (ht : TabSt tabs) (N : News g L h tabs) : GrownAll [(108, 104)] h := by
  cases ht with
  | new => exact ⟨⟨_, (N _ (.head _)).1⟩, trivial⟩
  | full hd hq => exact ⟨⟨_, (N _ (.head _)).1⟩, trivial⟩

/-- the sizes of the beginnings -/
def szsOf (ds : List Int) : List Nat := ds.map fun k => ((k / 256) % ((ds.length : Int) + 1)).toNat
/-- those of one size -/
def ofSize (szs : List Nat) (n : Nat) (k : Int) : List Nat := (List.range n).filter fun i => decide (((szs.getD i 0 : Nat) : Int) = k)
theorem dueIx_eq (row : List Int) (szs : List Nat) : dueIx row szs = (sizesP row).flatMap (ofSize szs szs.length) := rfl
theorem ofSize_succ (szs : List Nat) (n : Nat) (k : Int) : ofSize szs (n + 1) k = if ((szs.getD n 0 : Nat) : Int) = k then ofSize szs n k ++ [n] else ofSize szs n k := by
  unfold ofSize
  rw [List.range_succ, List.filter_append]
  by_cases h : ((szs.getD n 0 : Nat) : Int) = k
  · rw [if_pos h, List.filter_cons, List.filter_nil, if_pos (decide_eq_true h)]
  · rw [if_neg h, List.filter_cons, List.filter_nil, if_neg (by rw [decide_eq_false h]; decide), List.append_nil]
theorem flat_len (szs : List Nat) (n : Nat) : ∀ l : List Int, (l.flatMap (ofSize szs n)).length ≤ l.length * n
  | [] => by simp
  | k :: r => by
    have h1 := flat_len szs n r
    have h2 : (ofSize szs n k).length ≤ n := by
      have := List.length_filter_le (fun i => decide (((szs.getD i 0 : Nat) : Int) = k)) (List.range n)
      rw [List.length_range] at this; exact this
    rw [List.flatMap_cons, List.length_append, List.length_cons, Nat.succ_mul]; (first | lia | omega)
theorem sizes_len (row : List Int) : (sizesP row).length ≤ 2 * row.length + 1 := by
  have h1 := List.length_filter_le (fun k : Int => !behindP row k.toNat) (rangeKs 0 row.length)
  have h2 := List.length_filter_le (fun k : Int => behindP row k.toNat) (rangeKs 0 row.length).reverse
  rw [List.length_reverse] at h2
  rw [rangeKs_length] at h1 h2
  simp only [sizesP, aheadS, behindS, List.length_append, List.length_cons, List.length_nil]; (first | lia | omega)
theorem tab_ne {g h : Heap} {L a : Addr} {o : Obj} {ps : Array Value} {news : List (Addr × Obj)} (N : News g L h news) (ha : (a, o) ∈ news) (hc : o.cls ≠ .none) (ht : (104, tabObj ps) ∈ news) : a ≠ 104 := fun e => by
  have h1 := (N _ ha).1
  have h2 := (N _ ht).1
  dsimp only at h1 h2
  rw [e, h2] at h1
  exact hc (by rw [← Option.some.inj h1])

theorem tab_nodict {tabs : List (Addr × Obj)} (ht : TabSt tabs) : ∀ p ∈ tabs, ∀ es n, p.2.data ≠ .dict es n := by
  intro p hp es n e
  cases ht with
  | new => rw [List.mem_singleton] at hp; subst hp; cases e
  | full hd hq =>
    rcases List.mem_cons.mp hp with rfl | hp
    · cases e
    · rw [List.mem_singleton] at hp; subst hp
      dsimp only at e
      rw [hd] at e; cases e

theorem few_call {w : World} {p : Program} {loose : List Str} {mean : ExcName → Option Value} {mg mb : Str → Option Value} {g h : Heap} {L it l : Addr} {m : Str → Option Value} {env : Env} {own tabs rest : List (Addr × Obj)} {vs : List Value} {bs : List (Array UInt8)} {n : Int} {t : Tok} {tk eT : Nat} {s : Shared} {Q : Value → Shared → Prop} {E : Value → Shared → Prop}
    (K : Below callerA g [] g) (X : (hd.heap_39 w.params).In g) (T : Top p loose mean mg mb g) (C : CodeHd g 108 104) (hf : env.frame = some L) (hke : env.scope.kind = .function)
    (F : Fr g L h m) (N : News g L h ((tabs ++ own) ++ rest)) (ht : TabSt tabs) (src : SrcN own it l) (hap : ∀ q ∈ rest, ∀ r ∈ tabs ++ own, q.1 ≠ r.1) (hot : ∀ q ∈ tabs, ∀ r ∈ own, r.1 ≠ q.1)
    (hl : (l, listOf (List.toArray vs) eT) ∈ rest) (hlen : vs.length = bs.length) (hth : ∀ (i : Nat) v b, vs[i]? = some v → bs[i]? = some b → ∃ a tb x nn, v = .ref a ∧ (a, ({ cls := .type "tuple", data := .seq #[.bytes b tb, x] nn } : Obj)) ∈ rest)
    (h1 : 1 ≤ vs.length) (h64 : vs.length < 64) (hn1 : -100 ≤ n) (hn2 : n ≤ 100) (hbs : ∀ b ∈ bs, b.size < 2 ^ 20)
    (hQ : ∀ h' tk' D c idx tabs', Best (ltK (keysOf bs)) vs.length n.toNat idx → TabSt tabs' → Fr g L h' m → News g L h' ((D, listOf (List.toArray (idx.map fun i => vs.getD i Value.none)) c) :: (tabs' ++ rest)) → Q (.ref D) { s with heap := h', toks := tk' }) :
    wpAny (model PySem.Challenge.rw_pd0043_01.row.prog w) (callerA.deeper env) (call (.ref 109) [.int n t, .ref it]) Q E { s with heap := h, toks := tk } := by
  refine callOO (s := { s with heap := h, toks := tk }) (own := tabs ++ own) (frs := []) (rest := rest) (A₀ := callerA) (base := g) (outer := []) ⟨K.stack, fun _ _ e => e, trivial, X, T⟩ F N (Around.frames_deeper K.stack) hf hke (fun q hq hm => ?_) fun g' oL G' S' hfz hsub hback => ?_
  · obtain ⟨r, hr, e⟩ := List.mem_map.mp hm
    rw [List.append_nil] at hr
    exact hap q hq r hr e.symm
  have frz : ∀ q ∈ rest, g'.get? q.1 = some q.2 := fun q hq => by
    have z := N q (List.mem_append_right _ hq)
    refine hfz _ _ z.1 z.2.1 (fun hm => ?_)
    obtain ⟨r, hr, e⟩ := List.mem_map.mp hm
    rw [List.append_nil] at hr
    exact hap q hq r hr e.symm
  have hLn : ∀ q ∈ tabs ++ own, L ≠ q.1 := fun q hq => (N q (List.mem_append_left _ hq)).2.1.symm
  refine few_spec (tabs := tabs) (own := own) (frs := [(L, oL)]) (bs := bs) G' (C.keeps hsub) (S'.drop fun q hq => ?_) ht src ⟨_, frz _ hl, rfl, eT, rfl⟩ ⟨hlen, fun i v b hv hb => ?_⟩ (fun q hq r hr => ?_) (fun q hq r hr => ?_) h1 h64 hn1 hn2 (by simp only [depth_deeper, depth_caller, recursionLimit]; (first | lia | omega)) (by simp only [units_deeper, units_caller, cLine]; (first | lia | omega)) rfl hbs ?_
  · simp only [List.mem_append, List.mem_cons, List.not_mem_nil, or_false] at hq ⊢
    rcases hq with hq | hq | hq <;> simp [hq]
  · obtain ⟨a, tb, x, nn, e, hm⟩ := hth i v b hv hb
    exact ⟨a, tb, x, nn, e, frz _ hm⟩
  · rw [List.mem_singleton] at hr; subst hr
    exact hLn q (List.mem_append_right _ hq)
  · rcases List.mem_append.mp hr with hr | hr
    · exact hot q hq r hr
    · rw [List.mem_singleton] at hr; subst hr
      exact hLn q (List.mem_append_left _ hq)
  intro h' tk' D c idx frs' tabs' B SU Fs ht' S'' hD
  obtain ⟨frs0, SU0, F', N'⟩ := hback h' ((D, listOf (List.toArray (idx.map fun i => vs.getD i Value.none)) c) :: tabs') frs' SU (fun q hq es n => by
    rcases List.mem_cons.mp hq with rfl | hq
    · exact fun e => by cases e
    · exact tab_nodict ht' q hq es n) (S''.drop fun q hq => by simpa using hq)
  cases frs0 with
  | cons _ _ => exact SU0.elim
  | nil => exact hQ h' tk' D c idx tabs' B ht' F' (Mine.News.sub N' fun q hq => by simpa using hq)

theorem tabs_apart {g h : Heap} {L : Addr} {tabs news : List (Addr × Obj)} (N : News g L h news) (ht : TabSt tabs) (h1 : ∀ r ∈ tabs, r ∈ news) {q : Addr × Obj} (hq : q ∈ news) (hs : ∃ xs n, q.2.data = .seq xs n) : ∀ r ∈ tabs, q.1 ≠ r.1 := by
  intro r hr e
  have z1 := (N q hq).1
  have z2 := (N r (h1 r hr)).1
  rw [e, z2] at z1
  obtain ⟨xs, n, hd⟩ := hs
  have hf : ∃ vs, r.2.data = .fields vs := by
    cases ht with
    | new => rw [List.mem_singleton] at hr; subst hr; exact ⟨_, rfl⟩
    | full hd hq =>
      rcases List.mem_cons.mp hr with rfl | hr
      · exact ⟨_, rfl⟩
      · rw [List.mem_singleton] at hr; subst hr; exact ⟨_, hd⟩
  obtain ⟨vs, hf⟩ := hf
  rw [← Option.some.inj z1, hf] at hd
  cases hd

theorem iter_list {prog : Program} {w : World} {A : Around} {E : Value → Shared → Prop} {s : Shared} {l : Addr} {items : Array Value} {Q : Value → Shared → Prop} (hl : s.heap.IsList l items)
    (h : Q (.ref s.heap.objs.size) { s with heap := s.heap.push { cls := .type "list_iterator", data := .fields #[.ref l, .int 0 0] } }) : wpAny (model prog w) A (call (.builtin "iter") [.ref l]) Q E s := by
  refine call_function_entry (by decide +kernel) (by decide +kernel) kdk_entry_iter (kdk_args_iter _) ?_
  unfold Builtin.«iter»
  refine wpAny_bind (m := someArgs "iter" 1 2 _) (wpAny_pure ?_)
  dsimp only
  refine wpAny_bind (wpAny_pyIter_list hl ?_)
  exact wpAny_pure ⟨_, rfl, h⟩

/-- the bytes of the things -/
def bytesOf (ds : List Int) : List (Array UInt8) := ds.map fun k => byteArr ((ds.map (· % 256)).take ((k / 256) % ((ds.length : Int) + 1)).toNat)
theorem row_in (ds : List Int) : KBa.In (ds.map (· % 256)) := fun x hx => by
  obtain ⟨y, _, rfl⟩ := List.mem_map.mp hx
  exact ⟨Int.emod_nonneg _ (by decide), Int.emod_lt_of_pos _ (by decide)⟩
theorem szs_len (ds : List Int) : (szsOf ds).length = ds.length := by rw [szsOf, List.length_map]
theorem szs_le (ds : List Int) (i : Nat) (h : i < (szsOf ds).length) : (szsOf ds).getD i 0 ≤ (ds.map (· % 256)).length := by
  rw [szs_len] at h
  rw [List.length_map, szsOf, List.getD_eq_getElem?_getD, List.getElem?_map, List.getElem?_eq_getElem h]
  have h1 := Int.emod_lt_of_pos (ds[i] / 256) (show 0 < (ds.length : Int) + 1 by (first | lia | omega))
  show ((ds[i] / 256) % ((ds.length : Int) + 1)).toNat ≤ ds.length
  (first | lia | omega)
theorem keys_at (ds : List Int) (i : Nat) (h : i < (szsOf ds).length) : ((keysOf (bytesOf ds)).getD i #[]).toList = key ((ds.map (· % 256)).take ((szsOf ds).getD i 0)) := by
  rw [szs_len] at h
  rw [keysOf, bytesOf, szsOf, List.getD_eq_getElem?_getD, List.getD_eq_getElem?_getD, List.getElem?_map, List.getElem?_map, List.getElem?_map, List.getElem?_eq_getElem h]
  show (byteArr (b64I (KBw.bInts (byteArr ((ds.map (· % 256)).take ((ds[i] / 256) % ((ds.length : Int) + 1)).toNat))))).toList = key ((ds.map (· % 256)).take ((ds[i] / 256) % ((ds.length : Int) + 1)).toNat)
  rw [KBa.ints_make fun x hx => row_in ds x (List.mem_of_mem_take hx), byteArr_list]
  rfl
/-- what the law is due -/
theorem due_of (ds : List Int) {n : Nat} {idx : List Nat} {N : Nat} (hN : N = ds.length) (B : Best (ltK (keysOf (bytesOf ds))) N n idx) : idx = (dueIx (ds.map (· % 256)) (szsOf ds)).take n := by
  subst hN
  rw [← szs_len] at B
  exact Best.eq (ltK_ord _) (due_perm (row_in ds) (szs_le ds) (keys_at ds)) (due_pair (row_in ds) (keys_at ds)) B
theorem due_lt (ds : List Int) {n i : Nat} (h : i ∈ (dueIx (ds.map (· % 256)) (szsOf ds)).take n) : i < ds.length := by
  have := (due_perm (row_in ds) (szs_le ds) (keys_at ds)).mem_iff.mp (List.mem_of_mem_take h)
  rw [List.mem_range, szs_len] at this
  exact this

theorem holds_dev : PySem.Challenge.rw_pd0043_01.Holds := hd (by
  k_go0
  all_goals (try k_fold)
  all_goals (try dsimp only)
  rename_i w s₀ s₁ mg mb G0 Y fa o pm cd doc ho hcd hg Xm V T0 B0 TE TW ns hs hlay hL1 hr1 hl2 as1 as2 la vs as3 hlL ra w1 r0 hI hr hc63 hcond hD h1 tk1 oS dS X0 X T K F0 N l0
  refine law_cut F0 ?_ ?_
  · intro h tk tabs m' ht F' N'
    refine ⟨goodW_bool F' (by assumption) (raisesW_false ?_) ?_, grown_tabs ht N'⟩
    · wrow_none_raised
    · wrow_post
  intro Q' E' hV
  clear G0 Y ho hcd Xm V T0 B0 TE TW hs hlay hL1 hr1 hl2 ra w1 r0 hr hcond hD X0 hT8 hT9 hlL
  have dS' : oS.data = Data.cell none := dS
  clear dS
  generalize ghostOf s₁.heap [(108, 104)] = g at *
  generalize s₁.heap.objs.size = L at *
  obtain ⟨m0, hm0, F⟩ : ∃ m0, Binds m0 [(Str.ofString "script", Value.ref la)] ∧ Fr g L h1 m0 := by
    refine ⟨_, ?_, F0⟩
    exact bc rfl bn
  clear F0
  rw [← ov_self hm0] at F
  dsimp only [ov] at F
  clear hm0
  walk1
  refine try_cut (fun s' => ∃ h' tk' D dvs e ds m', s' = { heap := h', gens := s₁.gens, drawn := s₁.drawn, toks := tk', os := s₁.os } ∧ Fr g L h' m' ∧ Binds m' [(Str.ofString "script", Value.ref la), (Str.ofString "drawn", .ref D)] ∧
    News g L h' [(D, listOf (List.toArray dvs) e), (L + 1, oS), (104, tabObj #[])] ∧ IntsAre dvs ds ∧ 1 ≤ ds.length ∧ ds.length ≤ 12) (fun _ _ => False) ?_ (fun _ _ x => x.elim) ?_
  rotate_left
  · intro Q2 mid _
    walk_at "c!"
    · rename Fr _ _ _ _ => F2
      rename News _ _ _ _ => N2
      refine mid _ ⟨_, _, _, _, _, _, _, rfl, F2, bc rfl (bc rfl bn), N2, by assumption, ?_, ?_⟩ <;> simp only [List.length_take, List.length_drop] <;> (first | lia | omega)
    · rename Fr _ _ _ _ => F2
      rename News _ _ _ _ => N2
      refine mid _ ⟨_, _, _, [_, _, _, _, _, _, _, _, _], _, [2307, 2112, 316, 512, 1038, 1480, 255, 1823, 898], _, rfl, F2, bc rfl (bc rfl bn), N2, ?_, by decide, by decide⟩
      exact .cons _ _ (.cons _ _ (.cons _ _ (.cons _ _ (.cons _ _ (.cons _ _ (.cons _ _ (.cons _ _ (.cons _ _ .nil))))))))
  clear N F
  rintro s' ⟨h2, tk2, D, dvs, eD, ds, m2, rfl, F2, hm2, N2, hI2, hd1, hd12⟩
  rw [← ov_self hm2] at F2
  dsimp only [ov] at F2
  clear hm2
  dsimp only
  walk1
  refine try_cut (fun s' => ∃ h' tk' R rvs e m', s' = { heap := h', gens := s₁.gens, drawn := s₁.drawn, toks := tk', os := s₁.os } ∧ Fr g L h' m' ∧ Binds m' [(Str.ofString "script", Value.ref la), (Str.ofString "drawn", .ref D), (Str.ofString "row", .ref R)] ∧
    News g L h' [(R, listOf (List.toArray rvs) e), (D, listOf (List.toArray dvs) eD), (L + 1, oS), (104, tabObj #[])] ∧ IntsAre rvs (ds.map (· % 256)) ∧ R ≠ D ∧ R ≠ L + 1 ∧ R ≠ 104) (fun _ _ => False) ?_ (fun _ _ x => x.elim) ?_
  rotate_left
  · intro Q2 mid _
    refine compA (by rfl) (by rfl) rfl (by decide) ?_
    walk_at "c!"
    refine compList (RR := fun acc C => compPost _ _ _ _ _ acc C) (fz := [(D, listOf (List.toArray dvs) eD), (L + 1, oS), (104, tabObj #[])]) (news := []) (fun i ys news₁ => news₁ = [] ∧ IntsAre ys ((ds.map (· % 256)).take i)) rfl (.inr ⟨_, .head _⟩) F2 N2 (by rw [sizeLine_eq, hI2.length]; (first | lia | omega)) (by decide) rfl ⟨rfl, .nil⟩ ?_ ?_ (by intro _ _; rfl)
    · rintro i v ys news₁ C oC D' m₂ h₃ tk₃ fix wr s' - hv ⟨rfl, hI⟩ hyl hfix hn1 hfx hwx hCD hNs F₃ N₃
      obtain ⟨k, t, rfl, hk⟩ := hI2.at i v hv
      refine storeCx F₃ N₃ hNs (mem_off hn1 hfx hCD) rfl rfl ?_
      intro h₄ oC₄ m₄ F₄ N₄ hN₄ hx₄ _
      refine wpAny_tests_nil ?_
      rw [if_pos rfl]
      walk_at "c!"
      refine ⟨_, _, _, _, _, rfl, F₄, N₄, hN₄, hn1, rfl, ?_⟩
      rw [List.take_add_one, List.getElem?_map, hk, Option.map_some, Option.toList_some, Int.fmod_eq_emod_of_nonneg _ (by decide)]
      exact ksk_snoc hI
    · rintro R C h₃ tk₃ m₃ ys news₁ ⟨rfl, hI⟩ F₃ N₃ hC hCL hCD hC0 hoff
      rw [hI2.length, List.take_of_length_le (by simp)] at hI
      refine compPostA F₃ N₃ hC hCL hCD hC0 hoff ?ca ?cb ?cc ?_
      case ca => rfl
      case cb => rfl
      case cc => rfl
      intro h₄ F₄ N₄ hR₄
      refine mid _ ⟨_, _, R, ys, ys.length, _, rfl, F₄, bc rfl (bc rfl (bc rfl bn)), N₄, hI, ?_, ?_, ?_⟩
      · exact (hR₄ _ (.head _)).symm
      · exact (hR₄ _ (.tail _ (.head _))).symm
      · exact (hR₄ _ (.tail _ (.tail _ (.head _)))).symm
  clear N2 F2
  rintro s' ⟨h3, tk3, R, rvs, eR, m3, rfl, F3, hm3, N3, hIR, hRD, hRS, hRT⟩
  rw [← ov_self hm3] at F3
  dsimp only [ov] at F3
  clear hm3
  dsimp only
  walk_at "c!"
  rename_i TH _ l4 h4 F4 N4
  refine try_cut (fun s' => ∃ h' tk' tvs tens eT m', s' = { heap := h', gens := s₁.gens, drawn := s₁.drawn, toks := tk', os := s₁.os } ∧ Fr g L h' m' ∧ Binds m' [(Str.ofString "things", Value.ref TH), (Str.ofString "script", Value.ref la), (Str.ofString "row", .ref R)] ∧
    News g L h' ((TH, listOf (List.toArray tvs) eT) :: (tens ++ [(R, listOf (List.toArray rvs) eR), (L + 1, oS), (104, tabObj #[])])) ∧ tvs.length = ds.length ∧
    (∀ (j : Nat) (k : Int), ds[j]? = some k → ∃ a tb x nn, tvs[j]? = some (.ref a) ∧ (a, ({ cls := .type "tuple", data := .seq #[.bytes (byteArr ((ds.map (· % 256)).take ((k / 256) % ((ds.length : Int) + 1)).toNat)) tb, x] nn } : Obj)) ∈ tens) ∧
    (∀ p ∈ tens, TH < p.1 ∧ ∃ xs n, p.2.data = .seq xs n)) (fun _ _ => False) ?_ (fun _ _ x => x.elim) ?_
  rotate_left
  · intro Q2 mid _
    refine wpAny_For ?_
    walk_at "c!"
    refine forList (fz := [(R, listOf (List.toArray rvs) eR), (D, listOf (List.toArray dvs) eD), (L + 1, oS), (104, tabObj #[])]) (news := [(TH, listOf #[] 0)])
      (fun i m₁ news₁ => ∃ (tvs : List Value) (tens : List (Addr × Obj)) (eT : Nat), news₁ = (TH, listOf (List.toArray tvs) eT) :: tens ∧ tvs.length = i ∧
        (∀ (j : Nat) (k : Int), j < i → ds[j]? = some k → ∃ a tb x nn, tvs[j]? = some (.ref a) ∧ (a, ({ cls := .type "tuple", data := .seq #[.bytes (byteArr ((ds.map (· % 256)).take ((k / 256) % ((ds.length : Int) + 1)).toNat)) tb, x] nn } : Obj)) ∈ tens) ∧ (∀ p ∈ tens, TH < p.1 ∧ ∃ xs n, p.2.data = .seq xs n) ∧
        Binds m₁ [(Str.ofString "things", Value.ref TH), (Str.ofString "script", Value.ref la), (Str.ofString "row", .ref R)]) rfl (.inr ⟨_, .tail _ (.head _)⟩) F4 (Mine.News.sub N4 fun q hq => ?_) ⟨[], [], 0, rfl, rfl, (fun j k hj => absurd hj (Nat.not_lt_zero _)), (fun _ h => nomatch h), bc rfl (bc rfl (bc rfl bn))⟩ ?_ ?_ (by intro _ _; rfl)
    · simp only [List.cons_append, List.nil_append, List.mem_cons, List.not_mem_nil, or_false] at hq ⊢
      rcases hq with rfl | rfl | rfl | rfl | rfl <;> simp
    · rintro i v m₁ news₁ h5 tk5 fix wr hv ⟨tvs, tens, eT, rfl, hlen, hent, hne, hm⟩ hfix hn1 hwx hfw F5 N5
      obtain ⟨k, t, rfl, hk⟩ := hI2.at i v hv
      rw [← ov_self hm] at F5
      dsimp only [ov] at F5
      have hmR : (R, listOf (List.toArray rvs) eR) ∈ fix ++ (TH, listOf (List.toArray tvs) eT) :: tens := List.mem_append_left _ (hfix _ (.head _))
      have hmT : (TH, listOf (List.toArray tvs) eT) ∈ fix ++ (TH, listOf (List.toArray tvs) eT) :: tens := List.mem_append_right _ (.head _)
      walk_at "k!"
      rename Fr _ _ _ _ => F6
      rename News _ _ _ _ => N6
      refine call_len_list (items := List.toArray rvs) (isL N6 hmR) (by simp [hIR.length]; (first | lia | omega)) ?_
      rw [List.size_toArray, hIR.length, List.length_map]
      walk_at "k!"
      have hk0 : 0 ≤ (k.fdiv 256).fmod ((ds.length : Int) + 1) := by rw [Int.fmod_eq_emod_of_nonneg _ (by (first | lia | omega))]; exact Int.emod_nonneg _ (by (first | lia | omega))
      have hke : (k.fdiv 256).fmod ((ds.length : Int) + 1) = (k / 256) % ((ds.length : Int) + 1) := by rw [Int.fmod_eq_emod_of_nonneg _ (by (first | lia | omega)), Int.fdiv_eq_ediv_of_nonneg _ (by decide)]
      dsimp only
      refine kmk_slice (s := ⟨_, s₁.gens, s₁.drawn, _, s₁.os⟩) F6 N6 (isL (h := _) N6 hmR) .none (.int _ _) ?_ ?_ ?_ ?_
      rotate_left
      · with_unfolding_all rfl
      · intro _; rfl
      · rw [List.size_toArray, hIR.length, sizeLine_eq, List.length_map]; (first | lia | omega)
      intro B h7 F7 N7 l7
      rw [pick_take hk0, hke] at N7
      have hInR : KBa.In (ds.map (· % 256)) := fun x hx => by
        obtain ⟨y, _, rfl⟩ := List.mem_map.mp hx
        exact ⟨Int.emod_nonneg _ (by decide), Int.emod_lt_of_pos _ (by decide)⟩
      walk_at "k!"
      refine KBa.make_K F7 N7 (by rfl) (isL N7 (.head _)) (hIR.take _) (fun x hx => hInR x (List.mem_of_mem_take hx)) (by simp; (first | lia | omega)) ?_
      intro h8 t8 k8 F8 N8 _
      walk_at "k!"
      refine call_len_list (items := List.toArray tvs) (isL N8 (.tail _ hmT)) (by simp; have := (List.getElem?_eq_some_iff.mp hv).1; have := hI2.length; (first | lia | omega)) ?_
      rw [List.size_toArray]
      walk_at "k!"
      rename_i T' h9 F9 N9 l9
      generalize hoT : ({ cls := Value.type "tuple", data := Data.seq #[Value.bytes (byteArr ((ds.map (· % 256)).take ((k / 256) % ((ds.length : Int) + 1)).toNat)) t8, Value.int (-(tvs.length : Int)) (k8 + 1 + 1)] } : Obj) = oT at N9
      have hTT : TH < T' := allLt_mem l9.2 _ hmT
      have hnT : ∀ q ∈ fix ++ (TH, listOf (List.toArray tvs) eT) :: tens, q.1 < T' := fun q hq => allLt_mem l9.2 q hq
      have hfT : ∀ q ∈ fix, q.1 ≠ TH := fun q hq e => by
        rcases hfw q hq with h | h
        · exact hn1 (TH, listOf (List.toArray tvs) eT) (.head _) (e ▸ h)
        · simp only [List.mem_cons, List.not_mem_nil, or_false] at h
          rcases h with rfl | rfl | rfl | rfl
          · exact absurd l4.1 (by rw [show R = TH from e]; exact Nat.lt_irrefl _)
          · exact absurd l4.2.1 (by rw [show D = TH from e]; exact Nat.lt_irrefl _)
          · exact absurd l4.2.2.1 (by rw [show L + 1 = TH from e]; exact Nat.lt_irrefl _)
          · exact absurd l4.2.2.2 (by rw [show 104 = TH from e]; exact Nat.lt_irrefl _)
      refine append_K (D := TH) F9 (Mine.News.sub (b := fix ++ (TH, listOf (List.toArray tvs) eT) :: ((T', oT) :: tens)) N9 fun q hq => ?_) (upd_mid (fun q hq => ?_) hfT) ?_ (by rw [List.size_toArray, sizeLine_eq]; have := (List.getElem?_eq_some_iff.mp hv).1; have := hI2.length; (first | lia | omega))
      · simp only [List.mem_append, List.mem_cons] at hq ⊢
        rcases hq with hq | hq | hq | hq <;> simp [hq]
      · rcases List.mem_cons.mp hq with rfl | hq
        · exact Nat.ne_of_gt hTT
        · exact Nat.ne_of_gt (hne q hq).1
      intro h10 F10 N10
      walk_at "k!"
      rename Fr _ _ _ _ => F11
      rename News _ _ _ _ => N11
      rw [List.push_toArray] at N11
      refine ⟨_, _, _, (TH, listOf (List.toArray (tvs ++ [.ref T'])) (eT + 1)) :: ((T', oT) :: tens), rfl, F11, N11, fun q hq => ?_, tvs ++ [.ref T'], (T', oT) :: tens, eT + 1, rfl, by simp [hlen], fun j k' hj hk' => ?_, fun q hq => ?_, bc rfl (bc rfl (bc rfl bn))⟩
      · rcases List.mem_cons.mp hq with rfl | hq
        · exact hn1 (TH, listOf (List.toArray tvs) eT) (.head _)
        rcases List.mem_cons.mp hq with rfl | hq
        · intro hw
          obtain ⟨o, ho⟩ := hwx _ hw
          exact absurd (hnT _ (List.mem_append_left _ ho)) (Nat.lt_irrefl _)
        · exact hn1 q (.tail _ hq)
      · by_cases c : j < i
        · obtain ⟨a, tb, x, nn, e1, e2⟩ := hent j k' c hk'
          exact ⟨a, tb, x, nn, by rw [List.getElem?_append_left (by (first | lia | omega))]; exact e1, .tail _ e2⟩
        · have e : j = i := by (first | lia | omega)
          subst e
          rw [hk] at hk'
          cases hk'
          refine ⟨T', t8, Value.int (-(tvs.length : Int)) (k8 + 1 + 1), 0, by rw [List.getElem?_append_right (by (first | lia | omega)), hlen]; simp, by rw [← hoT]; exact .head _⟩
      · rcases List.mem_cons.mp hq with rfl | hq
        · exact ⟨hTT, by rw [← hoT]; exact ⟨_, _, rfl⟩⟩
        · exact hne q hq
    · rintro m₁ news₁ h5 tk5 ⟨tvs, tens, eT, rfl, hlen, hent, hne, hm⟩ F5 N5
      rw [hI2.length] at hlen hent
      refine mid _ ⟨_, _, tvs, tens, eT, _, rfl, F5, hm, Mine.News.sub N5 fun q hq => ?_, hlen, fun j k hk => hent j k (List.getElem?_eq_some_iff.mp hk).1 hk, hne⟩
      simp only [List.mem_append, List.mem_cons, List.not_mem_nil, or_false] at hq ⊢
      rcases hq with hq | hq | hq | hq | hq <;> simp [hq]
  clear F4 N4
  rintro s' ⟨h5, tk5, tvs, tens, eT, m5, rfl, F5, hm5, N5, hlenT, hent, hTne⟩
  rw [← ov_self hm5] at F5
  dsimp only [ov] at F5
  clear hm5
  dsimp only
  walk1
  refine try_cut (fun s' => ∃ h' tk' wish tw m', s' = { heap := h', gens := s₁.gens, drawn := s₁.drawn, toks := tk', os := s₁.os } ∧ Fr g L h' m' ∧ Binds m' [(Str.ofString "things", Value.ref TH), (Str.ofString "row", .ref R), (Str.ofString "wish", .int wish tw)] ∧
    News g L h' ((TH, listOf (List.toArray tvs) eT) :: (tens ++ [(R, listOf (List.toArray rvs) eR), (L + 1, oS), (104, tabObj #[])])) ∧ -1 ≤ wish ∧ wish ≤ 20) (fun _ _ => False) ?_ (fun _ _ x => x.elim) ?_
  rotate_left
  · intro Q2 mid _
    have hc : ns.length ≤ 63 := by (first | lia | omega)
    have fin : ∀ (a : Int) (h : Heap) (tk : Nat) (tw : Tok) (m' : Str → Option Value), Fr g L h m' → m' (Str.ofString "things") = some (Value.ref TH) → m' (Str.ofString "row") = some (.ref R) → m' (Str.ofString "wish") = some (.int ((a + 5).fmod (((ds.length : Nat) : Int) + 3) - 1) tw) →
        News g L h ((TH, listOf (List.toArray tvs) eT) :: (tens ++ [(R, listOf (List.toArray rvs) eR), (L + 1, oS), (104, tabObj #[])])) → Q2 .next { heap := h, gens := s₁.gens, drawn := s₁.drawn, toks := tk, os := s₁.os } := by
      intro a h tk tw m' F1 b1 b2 b3 N1
      refine mid _ ⟨h, tk, _, tw, m', rfl, F1, bc b1 (bc b2 (bc b3 bn)), N1, ?_, ?_⟩
      · rw [Int.fmod_eq_emod_of_nonneg _ (by (first | lia | omega))]
        have := Int.emod_nonneg (a + 5) (show ((ds.length : Nat) : Int) + 3 ≠ 0 by (first | lia | omega)); (first | lia | omega)
      · rw [Int.fmod_eq_emod_of_nonneg _ (by (first | lia | omega))]
        have := Int.emod_lt_of_pos (a + 5) (show 0 < ((ds.length : Nat) : Int) + 3 by (first | lia | omega)); (first | lia | omega)
    walk_at "t!"
    refine wpAny_truthy_list (items := List.toArray vs) (SrcN.keepsList lifted F5) (by rw [List.size_toArray, hI.length]; (first | lia | omega)) ?_
    by_cases hv0 : vs = []
    · rw [if_neg (by simp [hv0])]
      walk_at "t!"
      refine call_len_list (items := List.toArray tvs) (isL N5 (.head _)) (by simp [hlenT]; (first | lia | omega)) ?_
      rw [List.size_toArray, hlenT]
      walk_at "t!"
      rename Fr _ _ _ _ => F6
      rename News _ _ _ _ => N6
      exact fin 0 _ _ _ _ F6 rfl rfl rfl N6
    · rw [if_pos (by simp [hv0])]
      walk_at "t!"
      obtain ⟨v0, hvv⟩ : ∃ v0, vs[0]? = some v0 := ⟨vs[0]'(List.length_pos_iff.mpr hv0), List.getElem?_eq_getElem _⟩
      obtain ⟨k0, t0, rfl, _⟩ := hI.at 0 v0 hvv
      dsimp only
      refine item_listL (SrcN.keepsList lifted F5) (by decide) (by decide) (x := .int k0 t0) (by simpa using hvv) ?_
      walk_at "t!"
      refine call_len_list (items := List.toArray tvs) (isL N5 (.head _)) (by simp [hlenT]; (first | lia | omega)) ?_
      rw [List.size_toArray, hlenT]
      walk_at "t!"
      rename Fr _ _ _ _ => F6
      rename News _ _ _ _ => N6
      exact fin k0 _ _ _ _ F6 rfl rfl rfl N6
  clear N5 F5
  rintro s' ⟨h6, tk6, wish, tw, m6, rfl, F6, hm6, N6, hw1, hw2⟩
  rw [← ov_self hm6] at F6
  dsimp only [ov] at F6
  clear hm6
  dsimp only
  walk_at "t!"
  rename_i DU _ l7 h7 F7 N7
  refine try_cut (fun s' => ∃ h' tk' eD oS' cv m', s' = { heap := h', gens := s₁.gens, drawn := s₁.drawn, toks := tk', os := s₁.os } ∧ Fr g L h' m' ∧ Binds m' [(Str.ofString "due", Value.ref DU), (Str.ofString "things", Value.ref TH), (Str.ofString "row", .ref R), (Str.ofString "wish", .int wish tw)] ∧
    News g L h' ((DU, listOf (List.toArray ((dueIx (ds.map (· % 256)) (szsOf ds)).map fun i => tvs.getD i Value.none)) eD) :: (TH, listOf (List.toArray tvs) eT) :: (tens ++ [(R, listOf (List.toArray rvs) eR), (L + 1, oS'), (104, tabObj #[])])) ∧ oS'.data = .cell cv) (fun _ _ => False) ?_ (fun _ _ x => x.elim) ?_
  rotate_left
  · intro Q2 mid _
    refine wpAny_For ?_
    walk_at "t!"
    refine callOver (hid := []) (rest := (DU, listOf #[] 0) :: (TH, listOf (List.toArray tvs) eT) :: (tens ++ [(R, listOf (List.toArray rvs) eR), (L + 1, oS), (104, tabObj #[])])) ⟨K, X, T⟩ F7 N7 (Around.frames_deeper K.stack) rfl rfl (fun _ _ h => nomatch h) fun g' G' S' hfz hsz hsub hback => ?_
    refine sizes_spec G' S' ⟨_, hfz _ _ (N7 (R, listOf (List.toArray rvs) eR) (by simp)).1 (by simp), rfl, eR, rfl⟩ hIR (by rw [List.length_map]; (first | lia | omega)) (by simp only [depth_deeper, depth_caller, recursionLimit]; (first | lia | omega)) (by simp only [units_deeper, units_caller, cLine]; (first | lia | omega)) rfl ?_
    intro h8 tk8 SZ ws eS S8 hIS
    obtain ⟨F8, N8⟩ := hback _ _ S8
    try dsimp only
    walk_at "t!"
    have hSZn : ∀ q ∈ (DU, listOf #[] 0) :: (TH, listOf (List.toArray tvs) eT) :: (tens ++ [(R, listOf (List.toArray rvs) eR), (L + 1, oS), (104, tabObj #[])]), q.1 ≠ SZ := fun q hq e => by
      have z := hfz _ _ (N7 q hq).1 (by simp)
      have z2 := (S8.own _ (.head _)).2
      rw [e] at z; dsimp only at z2; rw [z2] at z; cases z
    refine forList (fz := (SZ, listOf (List.toArray ws) eS) :: (TH, listOf (List.toArray tvs) eT) :: (tens ++ [(R, listOf (List.toArray rvs) eR), (104, tabObj #[])])) (news := [(DU, listOf #[] 0), (L + 1, oS)])
      (fun i m₁ news₁ => ∃ (o : Obj) (cv : Option Value) (dv : List Value) (eD : Nat), o.data = .cell cv ∧ dv = (((sizesP (ds.map (· % 256))).take i).flatMap (ofSize (szsOf ds) ds.length)).map (fun i => tvs.getD i Value.none) ∧ news₁ = [(DU, listOf (List.toArray dv) eD), (L + 1, o)] ∧
        Binds m₁ [(Str.ofString "due", Value.ref DU), (Str.ofString "things", Value.ref TH), (Str.ofString "row", .ref R), (Str.ofString "wish", .int wish tw)]) rfl (.inr ⟨_, .head _⟩) F8 (Mine.News.sub N8 fun q hq => ?_) ⟨oS, _, [], 0, dS', rfl, rfl, bc rfl (bc rfl (bc rfl (bc rfl bn)))⟩ ?_ ?_ (by intro _ _; rfl)
    · simp only [List.cons_append, List.nil_append, List.mem_append, List.mem_cons, List.not_mem_nil, or_false] at hq ⊢
      rcases hq with hq | hq | (hq | hq | hq) | hq | hq <;> simp [hq]
    · rintro i v m₁ news₁ h9 tk9 fix wr hv ⟨o, cv, dv, eD, ho, hdv, rfl, hm⟩ hfix hn1 hwx hfw F9 N9
      obtain ⟨k, t, rfl, hk⟩ := hIS.at i v hv
      rw [← ov_self hm] at F9
      dsimp only [ov] at F9
      walk_at "t!"
      have hfD : ∀ q ∈ fix, q.1 ≠ DU ∧ q.1 ≠ L + 1 := fun q hq => by
        rcases hfw q hq with h | h
        · exact ⟨fun e => hn1 _ (.head _) (show DU ∈ wr from e ▸ h), fun e => hn1 _ (.tail _ (.head _)) (show L + 1 ∈ wr from e ▸ h)⟩
        · rcases List.mem_cons.mp h with rfl | h
          · exact ⟨(hSZn _ (.head _)).symm, (hSZn (L + 1, oS) (by simp)).symm⟩
          rcases List.mem_cons.mp h with rfl | h
          · exact ⟨Nat.ne_of_lt l7.1, Nat.ne_of_gt l4.2.2.1⟩
          have hA := fun q hq => allLt_mem l7.2 q hq
          rcases List.mem_append.mp h with h | h
          · exact ⟨Nat.ne_of_lt (hA q (List.mem_append_left _ h)), Nat.ne_of_gt (Nat.lt_trans l4.2.2.1 (hTne q h).1)⟩
          · rcases List.mem_cons.mp h with rfl | h
            · exact ⟨Nat.ne_of_lt (hA _ (List.mem_append_right _ (.head _))), hRS⟩
            · rw [List.mem_singleton] at h; subst h
              exact ⟨Nat.ne_of_lt (hA (104, tabObj #[]) (by simp)), Nat.ne_of_lt (Nat.lt_succ_of_lt l0)⟩
      have hDL : DU ≠ L + 1 := Nat.ne_of_gt (Nat.lt_trans l4.2.2.1 l7.1)
      k_dflt (refine' storeX_C F9 (Mine.News.sub (b := fix ++ [(DU, _)] ++ (L + 1, o) :: []) N9 (fun q hq => by simpa using hq)) ?sc (updF_mid (by intro _ q; exact nomatch q) ?hpre) ho ?_ ?sa ?sb)
      case sa => rfl
      case sb => rfl
      case sc => rfl
      case hpre =>
        intro q hq
        rcases List.mem_append.mp hq with hq | hq
        · exact (hfD q hq).2
        · rw [List.mem_singleton] at hq; subst hq; exact hDL
      intro h10 o10 F10 N10 ho10
      walk_at "t!"
      refine compE (by rfl) rfl (by decide) ?_
      walk_at "t!"
      have hTHf : (TH, listOf (List.toArray tvs) eT) ∈ fix := hfix _ (.tail _ (.head _))
      refine compList (RR := fun acc C => compPost _ _ _ _ _ acc C) (fz := fix ++ [(DU, listOf (List.toArray dv) eD), (L + 1, o10)]) (news := []) (fun i2 ys news₁ => news₁ = [] ∧ ys = (ofSize (szsOf ds) i2 k).map fun i => tvs.getD i Value.none) rfl (.inr ⟨eT, List.mem_append_left _ hTHf⟩) F10 (Mine.News.sub N10 fun q hq => by simpa using hq) (by rw [sizeLine_eq]; (first | lia | omega)) (by decide) rfl ⟨rfl, rfl⟩ ?_ ?_ (by intro _ _; rfl)
      · rintro i2 v2 ys news₁ C oC D' m₂ h₃ tk₃ fix2 wr2 s' - hv2 ⟨rfl, rfl⟩ hyl hfix2 hn12 hfx2 hwx2 hCD hNs F₃ N₃
        have hi2 : i2 < ds.length := by have := (List.getElem?_eq_some_iff.mp hv2).1; (first | lia | omega)
        obtain ⟨a, tb, x, nn, e1, e2⟩ := hent i2 ds[i2] (List.getElem?_eq_getElem hi2)
        rw [e1] at hv2
        cases hv2
        refine storeCx F₃ N₃ hNs (mem_off hn12 hfx2 hCD) rfl rfl ?_
        intro h₄ oC₄ m₄ F₄ N₄ hN₄ hx₄ _
        have hcell : (L + 1, o10) ∈ (C, oC₄) :: (D', LCg.lst ((ofSize (szsOf ds) i2 k).map fun i => tvs.getD i Value.none)) :: (fix2 ++ []) := .tail _ (.tail _ (List.mem_append_left _ (hfix2 _ (List.mem_append_right _ (.tail _ (.head _))))))
        refine wpAny_tests_one ?_
        walk_at "t!"
        refine item_tupleT (l := [.bytes (byteArr ((ds.map (· % 256)).take ((ds[i2] / 256) % ((ds.length : Int) + 1)).toNat)) tb, x]) (j := 0) ⟨_, (N₄ _ (.tail _ (.tail _ (List.mem_append_left _ (hfix2 _ (List.mem_append_left _ (hfix _ (.tail _ (.tail _ (List.mem_append_left _ e2)))))))))).1, rfl, nn, rfl⟩ (by decide) (by decide) rfl rfl ?_
        walk_at "t!"
        have hInR : KBa.In (ds.map (· % 256)) := fun x hx => by
          obtain ⟨y, _, rfl⟩ := List.mem_map.mp hx
          exact ⟨Int.emod_nonneg _ (by decide), Int.emod_lt_of_pos _ (by decide)⟩
        have hsz0 : ((ds[i2] / 256) % ((ds.length : Int) + 1)).toNat ≤ ds.length := by
          have := Int.emod_lt_of_pos (ds[i2] / 256) (show 0 < (ds.length : Int) + 1 by (first | lia | omega))
          (first | lia | omega)
        have hszi : (szsOf ds).getD i2 0 = ((ds[i2] / 256) % ((ds.length : Int) + 1)).toNat := by
          rw [szsOf, List.getD_eq_getElem?_getD, List.getElem?_map, List.getElem?_eq_getElem hi2]; rfl
        have hlen2 : ((ds.map (· % 256)).take ((ds[i2] / 256) % ((ds.length : Int) + 1)).toNat).length = (szsOf ds).getD i2 0 := by
          rw [List.length_take, List.length_map, Nat.min_eq_left hsz0, hszi]
        refine KBw.len_K (KBa.ints_make fun x hx => hInR x (List.mem_of_mem_take hx)) (by rw [hlen2, hszi]; (first | lia | omega)) ?_
        rw [hlen2]
        have hgd : tvs.getD i2 Value.none = .ref a := by rw [List.getD_eq_getElem?_getD, e1]; rfl
        walk_at "t!"
        · rename_i heq
          refine ⟨_, _, _, _, _, rfl, F₄, N₄, hN₄, hn12, rfl, ?_⟩
          rw [ofSize_succ, if_pos heq, List.map_append]
          show _ = _ ++ [tvs.getD i2 Value.none]
          rw [hgd]
        · rename_i hne2
          refine ⟨_, _, _, _, _, rfl, F₄, N₄, hN₄, hn12, rfl, ?_⟩
          rw [ofSize_succ, if_neg hne2]
      · rintro Y C h₃ tk₃ m₃ ys news₁ ⟨rfl, rfl⟩ F₃ N₃ hC hCL hCD hC0 hoff
        refine compPostE F₃ N₃ hC hCL hCD hC0 hoff ?_
        intro h11 F11 N11 hY11
        rw [List.append_nil] at N11 hY11
        walk_at "t!"
        have hb1 := flat_len (szsOf ds) ds.length ((sizesP (ds.map (· % 256))).take i)
        have hb2 := sizes_len (ds.map (· % 256))
        have hb3 : (ofSize (szsOf ds) tvs.length k).length ≤ tvs.length := by
          have := List.length_filter_le (fun i => decide ((((szsOf ds).getD i 0 : Nat) : Int) = k)) (List.range tvs.length)
          rw [List.length_range] at this; exact this
        have hb4 : ((sizesP (ds.map (· % 256))).take i).length * ds.length ≤ 25 * 12 := Nat.mul_le_mul (by rw [List.length_take]; rw [List.length_map] at hb2; (first | lia | omega)) hd12
        have hYD : Y ≠ DU := (hY11 (DU, listOf (List.toArray dv) eD) (List.mem_append_right _ (.head _))).symm
        have nDU := N11 (DU, listOf (List.toArray dv) eD) (.tail _ (List.mem_append_right _ (.head _)))
        refine iadd_at nDU.1 (N11 _ (.head _)).1 (by rw [hdv, List.length_map, List.length_map]; (first | lia | omega)) ?_
        intro h12 n12 hs12 hg12
        have F12 := F11.change hs12 nDU.2.1 nDU.2.2
        have N12 : News g L h12 (fix ++ [(DU, listOf (List.toArray (dv ++ (ofSize (szsOf ds) tvs.length k).map fun i => tvs.getD i Value.none)) n12), (L + 1, o10)]) := fun q hq => by
          have keep : ∀ p ∈ fix ++ [(DU, listOf (List.toArray dv) eD), (L + 1, o10)], p.1 ≠ DU → h12.get? p.1 = some p.2 ∧ p.1 ≠ L ∧ g.get? p.1 = none := fun p hp hne => ⟨(hs12.2 p.1 hne).trans (N11 p (.tail _ hp)).1, (N11 p (.tail _ hp)).2⟩
          rcases List.mem_append.mp hq with hq | hq
          · exact keep q (List.mem_append_left _ hq) (hfD q hq).1
          rcases List.mem_cons.mp hq with rfl | hq
          · exact ⟨hg12, nDU.2⟩
          · rw [List.mem_singleton] at hq; subst hq
            exact keep _ (List.mem_append_right _ (.tail _ (.head _))) (Ne.symm hDL)
        clear F11 N11 F10 N10
        dsimp only
        walk_at "t!"
        rename Fr _ _ _ _ => F13
        rename News _ _ _ _ => N13
        refine ⟨_, _, _, _, rfl, F13, N13, fun q hq => ?_, o10, _, _, n12, ho10, ?_, rfl, bc rfl (bc rfl (bc rfl (bc rfl bn)))⟩
        · rcases List.mem_cons.mp hq with rfl | hq
          · exact hn1 (DU, listOf (List.toArray dv) eD) (.head _)
          · rw [List.mem_singleton] at hq; subst hq
            exact hn1 (L + 1, o) (.tail _ (.head _))
        · rw [List.take_add_one, hk, Option.toList_some, List.flatMap_append, List.map_append, ← hdv, hlenT]
          simp only [List.flatMap_cons, List.flatMap_nil, List.append_nil]
    · rintro m₁ news₁ h9 tk9 ⟨o, cv, dv, eD, ho, hdv, rfl, hm⟩ F9 N9
      rw [hIS.length, List.take_length] at hdv
      have hL2 : (szsOf ds).length = ds.length := by rw [szsOf, List.length_map]
      rw [← hL2, ← dueIx_eq] at hdv
      subst hdv
      refine mid _ ⟨h9, tk9, eD, o, cv, _, rfl, F9, hm, Mine.News.sub N9 fun q hq => ?_, ho⟩
      simp only [List.cons_append, List.nil_append, List.mem_append, List.mem_cons, List.not_mem_nil, or_false] at hq ⊢
      rcases hq with hq | hq | hq | hq | hq | hq <;> simp [hq]
  clear N7 F7
  rintro s' ⟨h8, tk8, eD, oS8, cv8, m8, rfl, F8, hm8, N8, hoS8⟩
  rw [← ov_self hm8] at F8
  dsimp only [ov] at F8
  clear hm8
  dsimp only
  walk1
  refine try_cut (fun s' => ∃ h' tk' FW KP e1 e2 m', s' = { heap := h', gens := s₁.gens, drawn := s₁.drawn, toks := tk', os := s₁.os } ∧ Fr g L h' m' ∧ Binds m' [(Str.ofString "few", Value.ref FW), (Str.ofString "kept", Value.ref KP), (Str.ofString "things", Value.ref TH), (Str.ofString "row", .ref R), (Str.ofString "wish", .int wish tw)] ∧
    News g L h' ((FW, listOf (List.toArray (((dueIx (ds.map (· % 256)) (szsOf ds)).take wish.toNat).map fun i => tvs.getD i Value.none)) e1) :: (KP, listOf (List.toArray tvs) e2) :: (TH, listOf (List.toArray tvs) eT) :: (tens ++ [(R, listOf (List.toArray rvs) eR), (104, tabObj #[])]))) (fun _ _ => False) ?_ (fun _ _ x => x.elim) ?_
  rotate_left
  · intro Q2 mid _
    walk_at "t!"
    walk1
    walk_at "t!"
    rename_i h9 tk9 F9 N9
    dsimp only
    refine kmk_slice (s := ⟨_, s₁.gens, s₁.drawn, _, s₁.os⟩) F9 N9 (isL (h := _) N9 (.head _)) .none (.int _ _) ?_ ?_ ?_ ?_
    rotate_left
    · with_unfolding_all rfl
    · intro _; rfl
    · rw [List.size_toArray, List.length_map, sizeLine_eq]
      have hb1 := flat_len (szsOf ds) (szsOf ds).length (sizesP (ds.map (· % 256)))
      have hb2 := sizes_len (ds.map (· % 256))
      have hb4 : (sizesP (ds.map (· % 256))).length * (szsOf ds).length ≤ 25 * 12 := Nat.mul_le_mul (by rw [List.length_map] at hb2; (first | lia | omega)) (by rw [szsOf, List.length_map]; (first | lia | omega))
      rw [dueIx_eq]; (first | lia | omega)
    intro FW h10 F10 N10 l10
    rw [pick_take (by split <;> (first | lia | omega)), show (if (0 : Int) > wish then (0 : Int) else wish).toNat = wish.toNat by split <;> (first | lia | omega), ← List.map_take] at N10
    walk_at "t!"
    refine list_copyK (items := List.toArray tvs) F10 N10 (isL N10 (.tail _ (.tail _ (.head _)))) ?_ (by rw [List.size_toArray, sizeLine_eq]; (first | lia | omega))
    intro KP eK h11 F11 N11 l11
    walk_at "t!"
    rename Fr _ _ _ _ => F12
    rename News _ _ _ _ => N12
    refine mid _ ⟨_, _, FW, KP, 0, eK, _, rfl, F12, bc rfl (bc rfl (bc rfl (bc rfl (bc rfl bn)))), Mine.News.sub N12 fun q hq => ?_⟩
    simp only [List.mem_append, List.mem_cons, List.not_mem_nil, or_false] at hq ⊢
    rcases hq with hq | hq | hq | hq | hq | hq <;> simp [hq]
  clear N8 F8
  rintro s' ⟨h9, tk9, FW, KP, eF, eK, m9, rfl, F9, hm9, N9⟩
  rw [← ov_self hm9] at F9
  dsimp only [ov] at F9
  clear hm9
  dsimp only
  have hInR : KBa.In (ds.map (· % 256)) := fun x hx => by
    obtain ⟨y, _, rfl⟩ := List.mem_map.mp hx
    exact ⟨Int.emod_nonneg _ (by decide), Int.emod_lt_of_pos _ (by decide)⟩
  have hmR : (R, listOf (List.toArray rvs) eR) ∈ (FW, listOf (List.toArray (((dueIx (ds.map (· % 256)) (szsOf ds)).take wish.toNat).map fun i => tvs.getD i Value.none)) eF) :: (KP, listOf (List.toArray tvs) eK) :: (TH, listOf (List.toArray tvs) eT) :: (tens ++ [(R, listOf (List.toArray rvs) eR), (104, tabObj #[])]) := by simp
  walk_at "t!"
  refine KBa.make_K F9 N9 (by rfl) (isL N9 hmR) hIR hInR (by simp; (first | lia | omega)) ?_
  intro h10 t10 k10 F10 N10 _
  walk_at "t!"
  refine callOver (hid := []) (rest := _) ⟨K, X, T⟩ F10 N10 (Around.frames_deeper K.stack) rfl rfl (fun _ _ h => nomatch h) fun g' G' S' hfz hsz hsub hback => ?_
  refine b64encode_spec G' S' (by simp only [depth_deeper, depth_caller, recursionLimit]; (first | lia | omega)) (by simp only [units_deeper, units_caller, cLine]; (first | lia | omega)) rfl (by rw [← KBw.ints_length, KBa.ints_make hInR, List.length_map]; (first | lia | omega)) ?_
  intro h11 tk11 t11 S11
  obtain ⟨F11, N11⟩ := hback _ _ S11
  rw [KBa.ints_make hInR]
  try dsimp only at F11 N11 ⊢
  walk_at "t!"
  refine call_type_of (typeIs_bytes _ _ _) rfl ?_
  walk_at "t!"
  rename Fr _ _ _ _ => F12
  rename News _ _ _ _ => N12
  refine callOver (hid := []) (rest := _) ⟨K, X, T⟩ F12 N12 (Around.frames_deeper K.stack) rfl rfl (fun _ _ h => nomatch h) fun g' G' S' hfz hsz hsub hback => ?_
  refine signs_spec G' S' ⟨_, hfz _ _ (N12 (R, listOf (List.toArray rvs) eR) (by simp)).1 (by simp), rfl, eR, rfl⟩ hIR (by rw [List.length_map]; (first | lia | omega)) hInR (by simp only [depth_deeper, depth_caller, recursionLimit]; (first | lia | omega)) (by simp only [units_deeper, units_caller, cLine]; (first | lia | omega)) rfl ?_
  intro h13 tk13 t13 S13
  obtain ⟨F13, N13⟩ := hback _ _ S13
  clear F12 N12
  try dsimp only at F13 N13 ⊢
  walk_at "t!"
  · rename_i hb
    exact absurd hb (by simp)
  rw [List.nil_append] at N13
  have hvr : ∀ v ∈ ((dueIx (ds.map (· % 256)) (szsOf ds)).take wish.toNat).map (fun i => tvs.getD i Value.none), ∃ a, v = .ref a := fun v hv => by
    obtain ⟨i, hi, rfl⟩ := List.mem_map.mp hv
    obtain ⟨a, _, _, _, e, _⟩ := hent i _ (List.getElem?_eq_getElem (due_lt ds hi))
    exact ⟨a, by rw [List.getD_eq_getElem?_getD, e]; rfl⟩
  have htr : ∀ v ∈ tvs, ∃ a, v = .ref a := fun v hv => by
    obtain ⟨i, hi⟩ := List.mem_iff_getElem?.mp hv
    have hil := (List.getElem?_eq_some_iff.mp hi).1
    obtain ⟨a, _, _, _, e, _⟩ := hent i _ (List.getElem?_eq_getElem (hlenT ▸ hil))
    rw [hi] at e
    exact ⟨a, Option.some.inj e⟩
  generalize hFWv : ((dueIx (ds.map (· % 256)) (szsOf ds)).take wish.toNat).map (fun i => tvs.getD i Value.none) = fwv at *
  have hbl : tvs.length = (bytesOf ds).length := by rw [bytesOf, List.length_map]; exact hlenT
  have hbs : ∀ b ∈ bytesOf ds, b.size < 2 ^ 20 := fun b hb => by
    obtain ⟨k, _, rfl⟩ := List.mem_map.mp hb
    rw [← KBw.ints_length, KBa.ints_make fun x hx => hInR x (List.mem_of_mem_take hx), List.length_take, List.length_map]
    (first | lia | omega)
  have hseq : ∀ q ∈ (FW, listOf (List.toArray fwv) eF) :: (KP, listOf (List.toArray tvs) eK) :: (TH, listOf (List.toArray tvs) eT) :: (tens ++ [(R, listOf (List.toArray rvs) eR)]), ∃ xs n, q.2.data = .seq xs n := fun q hq => by
    simp only [List.mem_append, List.mem_cons, List.not_mem_nil, or_false] at hq
    rcases hq with rfl | rfl | rfl | hq | rfl
    · exact ⟨_, _, rfl⟩
    · exact ⟨_, _, rfl⟩
    · exact ⟨_, _, rfl⟩
    · exact (hTne q hq).2
    · exact ⟨_, _, rfl⟩
  have hthR : ∀ (i : Nat) v b, tvs[i]? = some v → (bytesOf ds)[i]? = some b → ∃ a tb x nn, v = .ref a ∧ (a, ({ cls := .type "tuple", data := .seq #[.bytes b tb, x] nn } : Obj)) ∈ (FW, listOf (List.toArray fwv) eF) :: (KP, listOf (List.toArray tvs) eK) :: (TH, listOf (List.toArray tvs) eT) :: (tens ++ [(R, listOf (List.toArray rvs) eR)]) := fun i v b hv hb => by
    rw [bytesOf, List.getElem?_map, Option.map_eq_some_iff] at hb
    obtain ⟨k, hk, rfl⟩ := hb
    obtain ⟨a, tb, x, nn, e1, e2⟩ := hent i k hk
    rw [hv] at e1
    exact ⟨a, tb, x, nn, Option.some.inj e1, .tail _ (.tail _ (.tail _ (List.mem_append_left _ e2)))⟩
  generalize hrest : (FW, listOf (List.toArray fwv) eF) :: (KP, listOf (List.toArray tvs) eK) :: (TH, listOf (List.toArray tvs) eT) :: (tens ++ [(R, listOf (List.toArray rvs) eR)]) = rest at *
  have mFW : (FW, listOf (List.toArray fwv) eF) ∈ rest := hrest ▸ .head _
  have mKP : (KP, listOf (List.toArray tvs) eK) ∈ rest := hrest ▸ .tail _ (.head _)
  have mTH : (TH, listOf (List.toArray tvs) eT) ∈ rest := hrest ▸ .tail _ (.tail _ (.head _))
  have N14 : News g L h13 (([(104, tabObj #[])] ++ []) ++ rest) := Mine.News.sub N13 fun q hq => by
    rw [← hrest] at hq
    simp only [List.cons_append, List.nil_append, List.append_nil, List.mem_append, List.mem_cons, List.not_mem_nil, or_false] at hq ⊢
    rcases hq with hq | hq | hq | hq | hq | hq <;> simp [hq]
  try dsimp only
  refine few_call (s := s₁) (tabs := [(104, tabObj #[])]) (own := []) (rest := rest) (bs := bytesOf ds) (eT := eT) K X T codeHd rfl rfl F13 N14 .new (.inl ⟨rfl, rfl⟩) (fun q hq r hr => tabs_apart N14 .new (fun r hr => by simpa using Or.inl hr) (List.mem_append_right _ hq) (hseq q hq) r (by simpa using hr)) (fun _ _ _ h => nomatch h) mTH hbl hthR (by (first | lia | omega)) (by (first | lia | omega)) (by (first | lia | omega)) (by (first | lia | omega)) hbs ?_
  intro h15 tk15 D1 c1 idx1 tabs1 B1 ht1 F15 N15
  rw [due_of ds hlenT B1, hFWv] at N15
  walk_at "t!"
  refine eq_same (N15 _ (.head _)).1 (N15 _ (.tail _ (List.mem_append_right _ mFW))).1 hvr (by simp only [units_deeper, units_caller, cLine]; (first | lia | omega)) ?_
  walk_at "t!"
  try dsimp only
  refine iter_list (items := List.toArray tvs) (isL N15 (.tail _ (List.mem_append_right _ mTH))) ?_
  refine with_push F15 N15 rfl fun F16 N16 => ?_
  walk_at "t!"
  try dsimp only
  refine few_call (s := s₁) (tabs := tabs1) (own := [(h15.objs.size, { cls := .type "list_iterator", data := .fields #[.ref TH, .int 0 0] })]) (rest := rest) (bs := bytesOf ds) (eT := eT) K X T codeHd rfl rfl F16 (Mine.News.sub N16 fun q hq => ?_) ht1 (.inr ⟨_, rfl, rfl, rfl⟩) (fun q hq r hr => ?_) (fun q hq r hr => ?_) mTH hbl hthR (by (first | lia | omega)) (by (first | lia | omega)) (by (first | lia | omega)) (by (first | lia | omega)) hbs ?_
  · simp only [List.mem_append, List.mem_cons, List.not_mem_nil, or_false] at hq ⊢
    rcases hq with (hq | hq) | hq <;> simp [hq]
  · rcases List.mem_append.mp hr with hr | hr
    · exact tabs_apart N15 ht1 (fun r hr => .tail _ (List.mem_append_left _ hr)) (.tail _ (List.mem_append_right _ hq)) (hseq q hq) r hr
    · rw [List.mem_singleton] at hr; subst hr
      exact Nat.ne_of_lt (Heap.lt_size (N15 q (.tail _ (List.mem_append_right _ hq))).1)
  · rw [List.mem_singleton] at hr; subst hr
    exact Nat.ne_of_gt (Heap.lt_size (N15 q (.tail _ (List.mem_append_left _ hq))).1)
  intro h17 tk17 D2 c2 idx2 tabs2 B2 ht2 F17 N17
  rw [due_of ds hlenT B2, hFWv] at N17
  clear F15 N15 F16 N16 F13 N13 N14
  walk_at "t!"
  refine eq_same (N17 _ (.head _)).1 (N17 _ (.tail _ (List.mem_append_right _ mFW))).1 hvr (by simp only [units_deeper, units_caller, cLine]; (first | lia | omega)) ?_
  walk_at "t!"
  refine eq_same (N17 _ (.tail _ (List.mem_append_right _ mTH))).1 (N17 _ (.tail _ (List.mem_append_right _ mKP))).1 htr (by simp only [units_deeper, units_caller, cLine]; (first | lia | omega)) ?_
  walk_at "t!"
  exact hV _ _ tabs2 _ ht2 F17 (Mine.News.sub N17 fun q hq => .tail _ (List.mem_append_left _ hq)))
end
end
end
end Mine
end
theorem PySem.Challenge.cw_pd0043_01_holds : PySem.Challenge.rw_pd0043_01.Holds :=
  Mine.holds_dev
