import PyProof.Rows.All
import Wide.All
import OpenK.AllK
import Wide.FinOn
import PySem.Challenge.RW_ff0019_01
open PySem PySem.W PyProof.Rows PySem.Calls
set_option Elab.async false
set_option maxRecDepth 100000
set_option linter.unusedVariables false
namespace Mine
set_option maxHeartbeats 8000000 in
open_top hd for PySem.Challenge.rw_ff0019_01
abbrev PR : Program := PySem.Challenge.rw_ff0019_01.row.prog
abbrev Lg := List (Addr × Obj)

structure SL (h₀ : Heap) (L : Addr) (m : Str → Option Value) (h : Heap) (mu pe : Lg) : Prop where
  fr : Fr h₀ L h m
  nw : News h₀ L h (mu ++ pe)
  nd : ((mu ++ pe).map (·.1)).Nodup

structure Fm (w : World) (A A₀ : Around) (base : Heap) (outer : List Env) (env : Env) (h₀ : Heap) (L : Addr) (p : Program) (loose : List Str) (mean : ExcName → Option Value) (mg mb : Str → Option Value) : Prop where
  B : Below A₀ base outer h₀
  hA : A.frames = some (env :: outer)
  hf : env.frame = some L
  hk : env.scope.kind = .function
  X : (hd.heap_39 w.params).In h₀
  T : Top p loose mean mg mb h₀

inductive Rp (d : Addr) (o o' : Obj) : Lg → Lg → Prop
  | head {r} : Rp d o o' ((d, o) :: r) ((d, o') :: r)
  | tail {p r r'} : Rp d o o' r r' → Rp d o o' (p :: r) (p :: r')

theorem Rp.keys {d o o'} : ∀ {l l' : Lg}, Rp d o o' l l' → l'.map (·.1) = l.map (·.1)
  | _, _, .head => rfl
  | _, _, .tail h => by simp [h.keys]
theorem Rp.mem {d o o'} : ∀ {l l' : Lg}, Rp d o o' l l' → (d, o) ∈ l
  | _, _, .head => .head _
  | _, _, .tail h => .tail _ h.mem
theorem Rp.app {d o o'} {l l' : Lg} (r : Lg) (h : Rp d o o' l l') : Rp d o o' (l ++ r) (l' ++ r) := by
  induction h with
  | head => exact .head
  | tail _ ih => exact .tail ih
theorem Rp.upd {d o o'} : ∀ {l l' : Lg}, Rp d o o' l l' → (l.map (·.1)).Nodup → Upd d o o' l l'
  | _, _, .head, n => .head fun p hp e => by
      rw [List.map_cons, List.nodup_cons] at n
      exact n.1 (by have := List.mem_map_of_mem (f := Prod.fst) hp; rw [e] at this; exact this)
  | _, _, .tail (p := p) h, n => by
      rw [List.map_cons, List.nodup_cons] at n
      exact .tail (fun e => n.1 (by have := List.mem_map_of_mem (f := Prod.fst) h.mem; rw [← e] at this; exact this)) (h.upd n.2)

theorem SL.upd {h₀ L m h mu mu' pe d o o'} (S : SL h₀ L m h mu pe) (r : Rp d o o' mu mu') : Upd d o o' (mu ++ pe) (mu' ++ pe) := (r.app pe).upd S.nd
theorem SL.nd' {h₀ L m h mu mu' pe d o o'} (S : SL h₀ L m h mu pe) (r : Rp d o o' mu mu') : ((mu' ++ pe).map (·.1)).Nodup := by rw [(r.app pe).keys]; exact S.nd
theorem SL.get {h₀ L m h mu pe a o} (S : SL h₀ L m h mu pe) (hm : (a, o) ∈ mu) : h.get? a = some o := S.nw.get (List.mem_append_left _ hm)
theorem SL.getp {h₀ L m h mu pe a o} (S : SL h₀ L m h mu pe) (hm : (a, o) ∈ pe) : h.get? a = some o := S.nw.get (List.mem_append_right _ hm)

theorem SL.perm {h₀ L m h mu mu' pe} (S : SL h₀ L m h mu pe) (p : mu.Perm mu') : SL h₀ L m h mu' pe :=
  ⟨S.fr, fun q hq => S.nw q (by rcases List.mem_append.mp hq with z | z; exact List.mem_append_left _ (p.mem_iff.mpr z); exact List.mem_append_right _ z),
    ((List.Perm.map _ (p.append_right pe)).nodup_iff).mp S.nd⟩
theorem SL.sub {h₀ L m h mu mu' pe pe'} (S : SL h₀ L m h mu pe) (p : (mu' ++ pe').Sublist (mu ++ pe)) : SL h₀ L m h mu' pe' :=
  ⟨S.fr, fun q hq => S.nw q (p.subset hq), (p.map _).nodup S.nd⟩
theorem SL.drop1 {h₀ L m h x mu pe} (S : SL h₀ L m h (x :: mu) pe) : SL h₀ L m h mu pe := S.sub (List.sublist_cons_self _ _)
theorem SL.toPe {h₀ L m h x mu pe} (S : SL h₀ L m h (x :: mu) pe) : SL h₀ L m h mu (x :: pe) :=
  ⟨S.fr, fun q hq => S.nw q (by
    rcases List.mem_append.mp hq with z | z
    · exact .tail _ (List.mem_append_left _ z)
    · rcases List.mem_cons.mp z with rfl | z
      · exact .head _
      · exact .tail _ (List.mem_append_right _ z)),
    ((List.Perm.map _ (List.perm_middle (a := x) (l₁ := mu) (l₂ := pe))).nodup_iff).mpr S.nd⟩
theorem SL.lt {h₀ L m h mu pe} (S : SL h₀ L m h mu pe) : ∀ p ∈ mu ++ pe, p.1 < h.objs.size := fun p hp => Heap.lt_size (S.nw p hp).1
theorem SL.push {h₀ L m h mu pe} (S : SL h₀ L m h mu pe) (o : Obj) (hf : o.isFreed = false := by rfl) : SL h₀ L m (h.push o) ((h.objs.size, o) :: mu) pe := by
  refine ⟨S.fr.push o, S.nw.push S.fr o hf, ?_⟩
  show (((h.objs.size, o) :: (mu ++ pe)).map (·.1)).Nodup
  rw [List.map_cons, List.nodup_cons]
  refine ⟨fun q => ?_, S.nd⟩
  obtain ⟨p, hp, e⟩ := List.mem_map.mp q
  exact absurd (S.lt p hp) (by rw [e]; exact Nat.lt_irrefl _)
theorem SL.of {h₀ L m h h' mu pe d o} (S : SL h₀ L m h mu pe) (F : Fr h₀ L h' m) (N : News h₀ L h' ((d, o) :: (mu ++ pe))) (l : ∀ p ∈ mu ++ pe, p.1 < d) : SL h₀ L m h' ((d, o) :: mu) pe := by
  refine ⟨F, N, ?_⟩
  show (((d, o) :: (mu ++ pe)).map (·.1)).Nodup
  rw [List.map_cons, List.nodup_cons]
  refine ⟨fun q => ?_, S.nd⟩
  obtain ⟨p, hp, e⟩ := List.mem_map.mp q
  exact absurd (l p hp) (by rw [e]; exact Nat.lt_irrefl _)
theorem SL.with {h₀ L m m' h h' mu mu' pe} (S : SL h₀ L m h mu pe) (F : Fr h₀ L h' m') (N : News h₀ L h' (mu' ++ pe)) (e : ((mu' ++ pe).map (·.1)).Nodup) : SL h₀ L m' h' mu' pe := let _ := S; ⟨F, N, e⟩
theorem SL.set {h₀ L m h mu mu' pe d o o' h'} (S : SL h₀ L m h mu pe) (r : Rp d o o' mu mu') (hs : Heap.SameBut d h h') (hg : h'.get? d = some o') : SL h₀ L m h' mu' pe := by
  have hd := S.nw (d, o) (List.mem_append_left _ r.mem)
  obtain ⟨pre, post, e1, e2, n1, n2⟩ := (S.upd r).split
  refine ⟨⟨S.fr.ns.sameBut hs (Ne.symm hd.2.1), fun b ob e => (hs.2 b (fun q => ?_)).trans (S.fr.keep b ob e), S.fr.above⟩, ?_, S.nd' r⟩
  · rw [q, hd.2.2] at e; cases e
  · rw [e2]
    have N := S.nw
    rw [e1] at N
    exact news_set N n1 n2 hs hg
theorem SL.update {h₀ L m h mu mu' pe d o} (f : Obj → Obj) (S : SL h₀ L m h mu pe) (r : Rp d o (f o) mu mu') (hf : (f o).isFreed = false := by rfl) : SL h₀ L m (h.update d f) mu' pe :=
  S.set r (Heap.SameBut.update ..) (Heap.get?_update_self f (S.get r.mem) hf)

abbrev Ret (R : Result → Shared → Prop) (h₀ : Heap) (L : Addr) (m : Str → Option Value) (g : Heap) : Flow → Shared → Prop :=
  fun fl s' => LeaveK h₀ L m g R (match fl with | .ret v => v | _ => .none) s'
abbrev Err (w : World) (A : Around) (env' : Env) (R : Result → Shared → Prop) : Value → Shared → Prop :=
  fun e s' => wpAny (model PR w) (A.deeper env') (leaving env' e) (fun _ s'' => R (.error e) s'') (fun e' s'' => R (.error e') s'') s'

section
variable {w : World} {A A₀ : Around} {base h₀ h : Heap} {outer : List Env} {env : Env} {L : Addr} {p : Program} {loose : List Str} {mean : ExcName → Option Value} {mg mb m : Str → Option Value} {mu pe : Lg}
  {G : Array GenState} {D : Drawn} {tk : Nat} {O : OsState} {R : Result → Shared → Prop} {name qual : Str} {params : Arguments} {body : List Stmt} {scope : Scope} {cl : List (Str × Addr)} {dV kV doc pm cdv ct oc : Value} {an od : Option Addr} {osl : Array (Option Value)} {f : Addr} {args : Args} {binds : List (Str × Value)}

theorem enter (C : Fm w A A₀ base outer env h₀ L p loose mean mg mb) (S : SL h₀ L m h mu pe)
    (ho : (hd.heap_39 w.params).lookup f = some ⟨oc, od, .func (fnX name qual params body scope cl dV kV doc pm an cdv ct), osl⟩) (hcd : codeIn (hd.heap_39 w.params) cdv qual = true) (hroom : A.depth < recursionLimit)
    (hbind : BindsTo ⟨h, G, D, tk, O⟩ (fnX name qual params body scope cl dV kV doc pm an cdv ct) args binds) (hloc : ∀ y ∈ binds, scope.names.lookup y.1 = some .local)
    (k : ∀ g L' h₁, Fm w (A.deeper (envX qual scope L' f cdv cl)) A base (env :: outer) (envX qual scope L' f cdv cl) g L' p loose mean mg mb → SL g L' (fun y => binds.reverse.lookup y) h₁ mu pe →
      wpAny (model PR w) (A.deeper (envX qual scope L' f cdv cl)) (execs body (envX qual scope L' f cdv cl)) (Ret R h₀ L m g) (Err w A (envX qual scope L' f cdv cl) R) ⟨h₁, G, D, tk + binds.length, O⟩)
    (hcell : ∀ x ∈ scope.names, x.2 ≠ .cell) (hco : scope.isCoroutine = false) (hgen : scope.isGenerator = false) (hk : scope.kind = .function) :
    codeAny (model PR w) A (.call (.ref f) args) R ⟨h, G, D, tk, O⟩ :=
  callX_plain C.B S.fr S.nw C.T.nolimit C.hA C.hf C.hk ((C.X.keeps S.fr.keep) _ _ ho) rfl (codeRec_of (C.X.keeps S.fr.keep) hcd) hroom hbind hloc
    (fun g L' h₁ _ F' N' B' st _ => k g L' h₁ ⟨B', by rw [Around.deeper, C.hA]; rfl, rfl, hk, C.X.keeps st, C.T.keeps st⟩ ⟨F', N', S.nd⟩) hcell hco hgen hk

theorem nd_cells {mu pe : Lg} {L' : Addr} {cells : Lg} (nd : ((mu ++ pe).map (·.1)).Nodup) (l : ∀ p ∈ mu ++ pe, p.1 < L') (lc : ∀ p ∈ cells, L' < p.1) (nc : (cells.map (·.1)).Nodup) : (((cells ++ mu) ++ pe).map (·.1)).Nodup := by
  rw [List.append_assoc, List.map_append, List.nodup_append]
  refine ⟨nc, nd, fun a ha b hb e => ?_⟩
  obtain ⟨p, hp, rfl⟩ := List.mem_map.mp ha
  obtain ⟨q, hq, rfl⟩ := List.mem_map.mp hb
  exact absurd (Nat.lt_trans (lc p hp) (e ▸ l q hq)) (Nat.lt_irrefl _)

theorem enterC (C : Fm w A A₀ base outer env h₀ L p loose mean mg mb) (S : SL h₀ L m h mu pe)
    (ho : (hd.heap_39 w.params).lookup f = some ⟨oc, od, .func (fnX name qual params body scope [] dV kV doc pm an cdv ct), osl⟩) (hcd : codeIn (hd.heap_39 w.params) cdv qual = true) (hroom : A.depth < recursionLimit)
    (hbind : BindsTo ⟨h, G, D, tk, O⟩ (fnX name qual params body scope [] dV kV doc pm an cdv ct) args binds)
    (hkind : (binds.all fun y => scope.names.lookup y.1 == some .local || scope.names.lookup y.1 == some .cell) = true) (hnd : ((cellsFrom 0 scope.names []).map (·.1)).Nodup)
    (k : ∀ g L' h₁ tk' cells, Fm w (A.deeper (envOfC qual scope L' f cdv)) A base (env :: outer) (envOfC qual scope L' f cdv) g L' p loose mean mg mb →
      CellsAre (bindC (envOfC qual scope L' f cdv).kindOf binds fun _ => none) (cellsFrom (L' + 1) scope.names []) cells → ((∀ p ∈ cells, L' < p.1) → (cells.map (·.1)).Nodup → SL g L' (bindL (envOfC qual scope L' f cdv).kindOf binds fun _ => none) h₁ (cells ++ mu) pe) →
      wpAny (model PR w) (A.deeper (envOfC qual scope L' f cdv)) (execs body (envOfC qual scope L' f cdv)) (Ret R h₀ L m g) (Err w A (envOfC qual scope L' f cdv) R) ⟨h₁, G, D, tk', O⟩)
    (hco : scope.isCoroutine = false) (hgen : scope.isGenerator = false) (hk : scope.kind = .function) :
    codeAny (model PR w) A (.call (.ref f) args) R ⟨h, G, D, tk, O⟩ :=
  callX_cells C.B S.fr S.nw C.T.nolimit C.hA C.hf C.hk ((C.X.keeps S.fr.keep) _ _ ho) rfl (codeRec_of (C.X.keeps S.fr.keep) hcd) hroom hbind (kindsX hkind) hnd
    (fun g L' h₁ tk' cells _ F' N' Y B' st l => k g L' h₁ tk' cells ⟨B', by rw [Around.deeper, C.hA]; rfl, rfl, hk, C.X.keeps st, C.T.keeps st⟩ Y fun lc nc => ⟨F', by rw [List.append_assoc]; exact N', nd_cells S.nd l lc nc⟩) hco hgen hk

theorem enterS {cc : Addr} (C : Fm w A A₀ base outer env h₀ L p loose mean mg mb) (S : SL h₀ L m h mu pe)
    (ho : (hd.heap_39 w.params).lookup f = some ⟨oc, od, .func (ksFn name qual params body scope dV kV doc pm an cdv ct cc), osl⟩) (hcd : codeIn (hd.heap_39 w.params) cdv qual = true) (hroom : A.depth < recursionLimit)
    (hbind : BindsTo ⟨h, G, D, tk, O⟩ (ksFn name qual params body scope dV kV doc pm an cdv ct cc) args binds) (hloc : ∀ y ∈ binds, scope.names.lookup y.1 = some .local)
    (k : ∀ g L' h₁, Fm w (A.deeper (ksEnv qual scope L' f cdv cc)) A base (env :: outer) (ksEnv qual scope L' f cdv cc) g L' p loose mean mg mb → SL g L' (fun y => binds.reverse.lookup y) h₁ mu pe →
      _root_.PySem.wpAt (model PR w) (A.deeper (ksEnv qual scope L' f cdv cc)) (.func body (ksEnv qual scope L' f cdv cc)) (execs body (ksEnv qual scope L' f cdv cc)) (Ret R h₀ L m g) (Err w A (ksEnv qual scope L' f cdv cc) R) ⟨h₁, G, D, tk + binds.length, O⟩)
    (hcell : ∀ x ∈ scope.names, x.2 ≠ .cell) (hco : scope.isCoroutine = false) (hgen : scope.isGenerator = false) (hk : scope.kind = .function) :
    codeAny (model PR w) A (.call (.ref f) args) R ⟨h, G, D, tk, O⟩ :=
  ks_code_super C.B S.fr C.X S.nw C.T C.hA C.hf C.hk ho hcd hroom hbind hloc
    (fun g L' h₁ _ F' N' B' X' T' _ => k g L' h₁ ⟨B', by rw [Around.deeper, C.hA]; rfl, rfl, hk, X', T'⟩ ⟨F', N', S.nd⟩) hcell hco hgen hk

theorem leave {g h' : Heap} {L' : Addr} {m' : Str → Option Value} {mu' pe' : Lg} {v : Value} (S : SL g L' m' h' mu' pe') (k : SL h₀ L m h' mu' pe' → R (.ok (.ret v)) ⟨h', G, D, tk, O⟩) :
    LeaveK h₀ L m g R v ⟨h', G, D, tk, O⟩ := leaveK_ S.fr S.nw fun F N => k ⟨F, N, S.nd⟩

end
abbrev Nm := List Int
abbrev TKd (w : World) : HeapKind PR w Nm := tupleKind (intKind PR w)
abbrev Ents := List (Nm × Addr × Value)
abbrev dOb (w : World) (cls : Value) (dx : Option Addr) (xs : Ents) (n : Nat) : Obj := ⟨cls, dx, .dict (xs.map (entryOfKey (TKd w))).toArray n, #[]⟩
abbrev tupO (vs : List Value) (n : Nat) : Obj := ⟨.type "tuple", none, .seq vs.toArray n, #[]⟩
def IsNm (w : World) (pe : Lg) (ks : Nm) (a : Addr) : Prop := ∃ vs n, (a, tupO vs n) ∈ pe ∧ ItemsAre (intKind PR w) ks vs
theorem IsNm.mono {w pe pe' ks a} (x : IsNm w pe ks a) (h : pe ⊆ pe') : IsNm w pe' ks a := let ⟨vs, n, m, i⟩ := x; ⟨vs, n, h m, i⟩
theorem IsNm.is {w pe ks a} (x : IsNm w pe ks a) {h : Heap} (hp : ∀ p ∈ pe, h.get? p.1 = some p.2) : (TKd w).is h ks a := let ⟨vs, n, m, i⟩ := x; ⟨_, _, n, hp _ m, rfl, rfl, i⟩
structure EntOk (w : World) (pe : Lg) (xs : Ents) : Prop where
  is : ∀ x ∈ xs, IsNm w pe x.1 x.2.1
  nd : (xs.map (·.1)).Nodup
theorem EntOk.mono {w pe pe' xs} (x : EntOk w pe xs) (h : pe ⊆ pe') : EntOk w pe' xs := ⟨fun y hy => (x.is y hy).mono h, x.nd⟩
theorem SL.pes {h₀ L m h mu pe} (S : SL h₀ L m h mu pe) : ∀ p ∈ pe, h.get? p.1 = some p.2 := fun _ hp => S.getp hp
theorem EntOk.iss {w pe xs} (x : EntOk w pe xs) {h : Heap} (hp : ∀ p ∈ pe, h.get? p.1 = some p.2) : ∀ y ∈ xs, (TKd w).is h y.1 y.2.1 := fun y hy => (x.is y hy).is hp
theorem EntOk.nil {w pe} : EntOk w pe [] := ⟨fun _ h => (nomatch h), List.nodup_nil⟩
theorem storedH_keys {xs : Ents} {k a v} : (storedH xs k a v).map (·.1) = if (atKey xs k).isSome then xs.map (·.1) else xs.map (·.1) ++ [k] := by
  unfold storedH
  split
  · exact keys_map_putAt xs k v
  · simp
theorem atKey_isSome {xs : Ents} {k : Nm} : (atKey xs k).isSome = decide (k ∈ xs.map (·.1)) := by
  unfold atKey
  rw [Option.isSome_map, Bool.eq_iff_iff, List.find?_isSome]
  simp only [List.mem_map, decide_eq_true_eq]
theorem EntOk.put {w pe xs k a v} (x : EntOk w pe xs) (hk : IsNm w pe k a) : EntOk w pe (storedH xs k a v) := by
  refine ⟨fun y hy => ?_, ?_⟩
  · unfold storedH at hy
    split at hy
    · obtain ⟨z, hz, rfl⟩ := List.mem_map.mp hy
      unfold putAt
      split <;> exact x.is z hz
    · rcases List.mem_append.mp hy with z | z
      · exact x.is y z
      · rw [List.mem_singleton] at z; subst z; exact hk
  · rw [storedH_keys]
    split
    · exact x.nd
    · rename_i h
      rw [atKey_isSome] at h
      rw [List.nodup_append]
      refine ⟨x.nd, by simp, fun a ha b hb e => h ?_⟩
      rw [List.mem_singleton] at hb
      subst hb; subst e
      simpa using ha
def cutH (xs : Ents) (k : Nm) : Ents := xs.filter fun x => !decide (x.1 = k)
theorem cutH_keys {xs : Ents} {k} : (cutH xs k).map (·.1) = (xs.map (·.1)).filter fun x => !decide (x = k) := by
  unfold cutH
  rw [List.filter_map]
  rfl
theorem EntOk.cut {w pe xs k} (x : EntOk w pe xs) : EntOk w pe (cutH xs k) :=
  ⟨fun y hy => x.is y ((List.mem_filter.mp hy).1), by rw [cutH_keys]; exact x.nd.filter _⟩

section
variable {w : World} {A : Around} {h : Heap} {G : Array GenState} {D : Drawn} {tk : Nat} {O : OsState} {d a : Addr} {o : Obj} {xs : Ents} {ep : Nat} {k : Nm} {v : Value} {pe : Lg}

theorem dget {E : Value → Shared → Prop} {Q : Option Value → Shared → Prop} (hu : A.units < cLine) (hp : ∀ p ∈ pe, h.get? p.1 = some p.2) (hkey : IsNm w pe k a) (ho : h.get? d = some o) (hd : o.data = .dict (xs.map (entryOfKey (TKd w))).toArray ep) (x : EntOk w pe xs)
    (hq : ∀ tk', Q ((atKey xs k).map (·.2)) ⟨h, G, D, tk', O⟩) : wpAny (model PR w) A (dictGet d (.ref a)) Q E ⟨h, G, D, tk, O⟩ := by
  unfold dictGet
  try with_reducible refine wpAny_holding ?_
  refine wpAny_bind ((TKd w).pyHash hu (hkey.is hp) (wpAny_bind (wpAny_dictFind_heap (knd := TKd w) hu (hkey.is hp) ho hd (by simp) (x.iss hp) x.nd ?_ ?_)))
  · intro hno
    have := hq (tk + (TKd w).draws k)
    rw [atKey_none_of_get hno] at this
    exact wpAny_pure this
  · intro j p hj
    have := hq (tk + (TKd w).draws k)
    rw [atKey_of_get x.nd hj] at this
    refine wpAny_bind (wpAny_dictEntries ho hd ?_)
    rw [entry_at (knd := TKd w) (xs := xs) (by simp) j, hj]
    exact wpAny_pure this

theorem dset {E : Value → Shared → Prop} {Q : Unit → Shared → Prop} {cls : Value} {dx : Option Addr} (hu : A.units < cLine) (hp : ∀ p ∈ pe, h.get? p.1 = some p.2) (hkey : IsNm w pe k a) (ho : h.get? d = some (dOb w cls dx xs ep)) (x : EntOk w pe xs) (hz : xs.length ≤ 1000)
    (hq : ∀ tk' n' h', Heap.SameBut d h h' → h'.get? d = some (dOb w cls dx (storedH xs k a v) n') → Q () ⟨h', G, D, tk', O⟩) : wpAny (model PR w) A (dictSet d (.ref a) v) Q E ⟨h, G, D, tk, O⟩ := by
  have hsz : xs.length ≤ sizeLine := by rw [sizeLine_eq]; omega
  have he : (xs.map (entryOfKey (TKd w))).toArray.toList = xs.map (entryOfKey (TKd w)) := by simp
  unfold dictSet
  try with_reducible refine wpAny_holding ?_
  refine wpAny_bind ((TKd w).pyHash hu (hkey.is hp) ?_)
  unfold dictSetHashed
  try with_reducible refine wpAny_holding ?_
  refine wpAny_bind (wpAny_dictFind_heap (knd := TKd w) hu (hkey.is hp) ho rfl he (x.iss hp) x.nd ?_ ?_)
  · intro hno
    refine wpAny_bind (wpAny_rule (wpAny_updateDictKeys (hz := by simpa using hsz) ho rfl (hq _ (ep + 1) _ (Heap.SameBut.update ..) ?_)))
    rw [Heap.get?_update_self _ ho rfl, storedH_new (atKey_none_of_get hno)]
    simp [Obj.mapDictKeys, entryOfKey]
  · intro j p hj
    refine wpAny_bind (wpAny_rule (wpAny_bind (wpAny_updateDict ho rfl (wpAny_point (hq _ ep _ (Heap.SameBut.update ..) ?_)))))
    rw [Heap.get?_update_self _ ho rfl, storedH_old (atKey_of_get x.nd hj)]
    simp only [Obj.mapDict]
    congr 3
    apply Array.ext'
    rw [Array.toList_modify, he]
    exact modify_map_putAt (entryOfKey (TKd w)) _ k v (fun _ _ => rfl) x.nd hj

theorem eraseIdx_cut : ∀ {xs : Ents} {j : Nat} {p : Addr × Value} {k : Nm}, (xs.map (·.1)).Nodup → xs[j]? = some (k, p) → xs.eraseIdx j = cutH xs k
  | [], _, _, _, _, e => by simp at e
  | x :: xs, 0, p, k, n, e => by
    simp only [List.getElem?_cons_zero, Option.some.injEq] at e
    subst e
    rw [List.map_cons, List.nodup_cons] at n
    show xs = cutH ((k, p) :: xs) k
    unfold cutH
    rw [List.filter_cons, if_neg (by simp)]
    exact (List.filter_eq_self.mpr fun y hy => by
      simp only [Bool.not_eq_true', decide_eq_false_iff_not]
      exact fun q => n.1 (by have := List.mem_map_of_mem (f := Prod.fst) hy; rw [q] at this; exact this)).symm
  | x :: xs, j + 1, p, k, n, e => by
    simp only [List.getElem?_cons_succ] at e
    rw [List.map_cons, List.nodup_cons] at n
    have hne : ¬ x.1 = k := fun q => n.1 (q ▸ List.mem_map.mpr ⟨_, List.mem_of_getElem? e, rfl⟩)
    rw [List.eraseIdx_cons_succ, eraseIdx_cut n.2 e]
    unfold cutH
    rw [List.filter_cons, if_pos (by simp [hne])]

theorem map_eraseIdx' {α β : Type} (f : α → β) : ∀ (l : List α) (i : Nat), (l.eraseIdx i).map f = (l.map f).eraseIdx i
  | [], _ => rfl
  | x :: l, 0 => rfl
  | x :: l, i + 1 => by simp [map_eraseIdx' f l i]
theorem dtake {E : Value → Shared → Prop} {Q : Option DictEntry → Shared → Prop} {cls : Value} {dx : Option Addr} (hu : A.units < cLine) (hp : ∀ p ∈ pe, h.get? p.1 = some p.2) (hkey : IsNm w pe k a) (ho : h.get? d = some (dOb w cls dx xs ep)) (x : EntOk w pe xs) (hz : xs.length ≤ 1000)
    {p : Addr × Value} (hin : atKey xs k = some p)
    (hq : ∀ tk' n' h', Heap.SameBut d h h' → h'.get? d = some (dOb w cls dx (cutH xs k) n') → Q (some (entryOfKey (TKd w) (k, p))) ⟨h', G, D, tk', O⟩) : wpAny (model PR w) A (Builtin.Dict.takeOut d (.ref a)) Q E ⟨h, G, D, tk, O⟩ := by
  have hsz : xs.length ≤ sizeLine := by rw [sizeLine_eq]; omega
  have he : (xs.map (entryOfKey (TKd w))).toArray.toList = xs.map (entryOfKey (TKd w)) := by simp
  unfold Builtin.Dict.takeOut
  try with_reducible refine wpAny_holding ?_
  refine wpAny_bind ((TKd w).pyHash hu (hkey.is hp) ?_)
  refine wpAny_bind (wpAny_dictFind_heap (knd := TKd w) hu (hkey.is hp) ho rfl he (x.iss hp) x.nd ?_ ?_)
  · intro hno
    rw [atKey_none_of_get hno] at hin; cases hin
  · intro j q hj
    obtain rfl : q = p := by rw [atKey_of_get x.nd hj] at hin; exact Option.some.inj hin
    refine wpAny_bind (wpAny_dictEntries ho rfl ?_)
    rw [entry_at (knd := TKd w) (xs := xs) he j, hj]
    refine wpAny_bind (wpAny_updateDictKeys (hz := by simpa using hsz)  ho rfl (wpAny_pure (hq _ (ep + 1) _ (Heap.SameBut.update ..) ?_)))
    rw [Heap.get?_update_self _ ho rfl]
    simp only [Obj.mapDictKeys]
    congr 3
    apply Array.ext'
    have hj' : j < xs.length := (List.getElem?_eq_some_iff.mp hj).1
    rw [Array.eraseIdxIfInBounds, dif_pos (by simpa using hj'), Array.toList_eraseIdx, he, ← eraseIdx_cut x.nd hj]
    exact (map_eraseIdx' _ _ _).symm

theorem dtake_no {E : Value → Shared → Prop} {Q : Option DictEntry → Shared → Prop} (hu : A.units < cLine) (hp : ∀ p ∈ pe, h.get? p.1 = some p.2) (hkey : IsNm w pe k a) (ho : h.get? d = some o) (hd : o.data = .dict (xs.map (entryOfKey (TKd w))).toArray ep) (x : EntOk w pe xs)
    (hin : atKey xs k = none) (hq : ∀ tk', Q none ⟨h, G, D, tk', O⟩) : wpAny (model PR w) A (Builtin.Dict.takeOut d (.ref a)) Q E ⟨h, G, D, tk, O⟩ := by
  have he : (xs.map (entryOfKey (TKd w))).toArray.toList = xs.map (entryOfKey (TKd w)) := by simp
  unfold Builtin.Dict.takeOut
  try with_reducible refine wpAny_holding ?_
  refine wpAny_bind ((TKd w).pyHash hu (hkey.is hp) ?_)
  refine wpAny_bind (wpAny_dictFind_heap (knd := TKd w) hu (hkey.is hp) ho hd he (x.iss hp) x.nd ?_ ?_)
  · intro hno
    exact wpAny_pure (hq _)
  · intro j q hj
    rw [atKey_of_get x.nd hj] at hin; cases hin

end
section
variable {w : World} {A : Around} {h : Heap} {G : Array GenState} {D : Drawn} {tk : Nat} {O : OsState} {t a : Addr} {xs : Ents} {ep : Nat} {k : Nm} {v : Value} {pe : Lg} {od : Option Obj} {ox : Obj} {E : Value → Shared → Prop}

theorem call_slot {prog : Program} {i owner n : String} {Bi : Builtin} {self : Value} {rest : List Value} {s : Shared} {Q : Value → Shared → Prop} (hk : builtinKind i = some .slot) (hs : splitId i = some (owner, n)) (plain : plainId i = true) (entry : entryFor table i = some Bi)
    (hi : Looks (model prog w) s.heap (isInstance self (.type owner)) true) (ha : argsOk i ⟨self :: rest, []⟩)
    (b : wpAny (model prog w) A.in1 (Bi ⟨self :: rest, []⟩) (fun fin s' => ∃ v, fin = .done (.ret v) ∧ Q v s') E s) : wpAny (model prog w) A (call (.builtin i) (self :: rest)) Q E s :=
  wpAny_call (codeAny_call_builtin plain entry (check_slot hk hs hi ha (wpAny_mono b (fun fin s' h' => by obtain ⟨v, rfl, hv⟩ := h'; exact hv) fun _ _ h' => h')))
theorem check_meth {M : Model} {A : Around} {E : Value → Shared → Prop} {s : Shared} {i owner n : String} {self : Value} {rest : List Value} {kw : List (Str × Value)} {Q : Unit → Shared → Prop}
    (hk : builtinKind i = some .method) (hs : splitId i = some (owner, n)) (hi : Looks M s.heap (isInstance self (.type owner)) true) (ha : argsOk i ⟨self :: rest, kw⟩) (q : Q () s) :
    wpAny M A (checkBuiltinCall i ⟨self :: rest, kw⟩) Q E s := by
  simp only [checkBuiltinCall, hk, hs]
  refine wpAny_bind (hi.here ?_)
  simp only [Bool.not_true, Bool.false_eq_true, if_false]
  cases hsig : Manifest.signature? i with
  | none => exact wpAny_pure q
  | some sig =>
    simp only [argsOk, hsig] at ha
    have h2 : Bind.checkArgs i sig ⟨self :: rest, kw⟩ = pure () := ha
    show wpAny M A (Bind.checkArgs i sig ⟨self :: rest, kw⟩) Q E s
    rw [h2]; exact wpAny_pure q
theorem call_meth' {prog : Program} {i owner n : String} {Bi : Builtin} {self : Value} {rest : List Value} {s : Shared} {Q : Value → Shared → Prop} (hk : builtinKind i = some .method) (hs : splitId i = some (owner, n)) (plain : plainId i = true) (entry : entryFor table i = some Bi)
    (hi : Looks (model prog w) s.heap (isInstance self (.type owner)) true) (ha : argsOk i ⟨self :: rest, []⟩)
    (b : wpAny (model prog w) A.in1 (Bi ⟨self :: rest, []⟩) (fun fin s' => ∃ v, fin = .done (.ret v) ∧ Q v s') E s) : wpAny (model prog w) A (call (.builtin i) (self :: rest)) Q E s :=
  wpAny_call (codeAny_call_builtin plain entry (check_meth hk hs hi ha (wpAny_mono b (fun fin s' h' => by obtain ⟨v, rfl, hv⟩ := h'; exact hv) fun _ _ h' => h')))

theorem kd_contains (w : World) : findIn (hd.heap_39 w.params) (.ref 145) "__contains__" = some (some (.builtin "dict.__contains__")) := by k_is
theorem kd_getitem (w : World) : findIn (hd.heap_39 w.params) (.ref 145) "__getitem__" = some (some (.builtin "dict.__getitem__")) := by k_is
theorem kd_len (w : World) : findIn (hd.heap_39 w.params) (.ref 145) "__len__" = some (some (.builtin "dict.__len__")) := by k_is
theorem kd_bool (w : World) : findIn (hd.heap_39 w.params) (.ref 145) "__bool__" = some none := by k_is
theorem kd_setitem (w : World) : findIn (hd.heap_39 w.params) (.ref 145) "__setitem__" = some (some (.ref 128)) := by k_is
theorem kd_delitem (w : World) : findIn (hd.heap_39 w.params) (.ref 145) "__delitem__" = some (some (.ref 135)) := by k_is
theorem kd_dict (w : World) : subIn (hd.heap_39 w.params) (.ref 145) (.type "dict") = some true := by k_is


structure OdAt (w : World) (h : Heap) (pe : Lg) (t : Addr) (td : Addr) (fs : List DictEntry) (nf : Nat) (xs : Ents) (ep : Nat) : Prop where
  X : (hd.heap_39 w.params).In h
  o : h.get? t = some (dOb w (.ref 145) (some td) xs ep)
  f : h.get? td = some (dictOf fs nf)
  p : ∀ p ∈ pe, h.get? p.1 = some p.2
  x : EntOk w pe xs
  s : (t == sysModules) = false
theorem OdAt.inst {w h pe t td fs nf xs ep} (T : OdAt w h pe t td fs nf xs ep) : PySem.W.InstAt h t (dOb w (.ref 145) (some td) xs ep) 145 (some (dictOf fs nf)) := ⟨T.o, rfl, rfl, T.f⟩
theorem OdAt.isDict {w h pe t td fs nf xs ep} {M : Model} (T : OdAt w h pe t td fs nf xs ep) : Looks M h (isInstance (.ref t) (.type "dict")) true :=
  T.inst.type.andThen (looks_subIn T.X (kd_dict w))

theorem od_contains {td fs nf} {Q : Bool → Shared → Prop} (hu : A.units + 1 < cLine) (T : OdAt w h pe t td fs nf xs ep) (hk : IsNm w pe k a) (q : ∀ tk', Q (decide (k ∈ xs.map (·.1))) ⟨h, G, D, tk', O⟩) :
    wpAny (model PR w) A (contains (.ref t) (.ref a)) Q E ⟨h, G, D, tk, O⟩ := by
  have hlk : Looks (model PR w) h (specialOf (.ref t) "__contains__") (some (.builtin "dict.__contains__")) := T.inst.type.andThen (looks_findIn T.X (kd_contains w))
  unfold contains
  try with_reducible refine wpAny_holding ?_
  refine wpAny_bind (hlk.at ?_)
  show wpAny _ _ (if (some (Value.builtin "dict.__contains__") == some Value.none) = true then _ else _) _ E _
  rw [if_neg (by rw [beq_builtin_none]; exact Bool.false_ne_true)]
  unfold callSpecialUnlessNone?
  refine wpAny_bind (wpAny_bind (hlk.at ?_))
  dsimp only
  refine wpAny_holding (wpAny_bind ?_)
  rw [slot_dict_contains.bind]
  refine wpAny_pure ?_
  show wpAny _ _ (if (Value.builtin "dict.__contains__" == Value.none) = true then _ else _) _ E _
  rw [if_neg (by decide)]
  refine wpAny_bind (call_meth' (i := "dict.__contains__") (owner := "dict") (n := "__contains__") (by decide +kernel) (by decide +kernel) slot_dict_contains.plain entry_dict_contains T.isDict (args_dict_contains _ _) ?_)
  show wpAny _ _ (dictGet t (.ref a) >>= _) _ _ _
  refine wpAny_bind (dget hu T.p hk T.o rfl T.x fun tk' => ?_)
  have e := atKey_isSome (xs := xs) (k := k)
  cases hf : (atKey xs k) with
  | some p =>
    rw [hf] at e
    have := q tk'
    rw [← e] at this
    exact wpAny_pure ⟨_, rfl, wpAny_pure (wpAny_truthy_bool this)⟩
  | none =>
    rw [hf] at e
    have := q tk'
    rw [← e] at this
    show wpAny _ _ (Builtin.Dict.pendingKey? t (.ref a) >>= _) _ _ _
    exact wpAny_bind (wpAny_pendingKey_other T.s (wpAny_pure ⟨_, rfl, wpAny_pure (wpAny_truthy_bool this)⟩))
theorem od_in {td fs nf} {Q : Value → Shared → Prop} (hu : A.units + 1 < cLine) (T : OdAt w h pe t td fs nf xs ep) (hk : IsNm w pe k a) (q : ∀ tk', Q (.bool (decide (k ∈ xs.map (·.1)))) ⟨h, G, D, tk', O⟩) :
    wpAny (model PR w) A (compareOp .In (.ref a) (.ref t)) Q E ⟨h, G, D, tk, O⟩ :=
  wpAny_bind (od_contains hu T hk fun tk' => wpAny_pure (q tk'))
theorem od_notIn {td fs nf} {Q : Value → Shared → Prop} (hu : A.units + 1 < cLine) (T : OdAt w h pe t td fs nf xs ep) (hk : IsNm w pe k a) (q : ∀ tk', Q (.bool (!decide (k ∈ xs.map (·.1)))) ⟨h, G, D, tk', O⟩) :
    wpAny (model PR w) A (compareOp .NotIn (.ref a) (.ref t)) Q E ⟨h, G, D, tk, O⟩ :=
  wpAny_bind (od_contains hu T hk fun tk' => wpAny_pure (q tk'))
theorem kd_noSeq (w : World) : noSeq (hd.heap_39 w.params) 145 = true := by k_is

theorem od_seqKey {td fs nf v nm} {Q : Value → Shared → Prop} (T : OdAt w h pe t td fs nf xs ep) (q : Q v ⟨h, G, D, tk, O⟩) : wpAny (model PR w) A (sequenceKey (.ref t) v nm) Q E ⟨h, G, D, tk, O⟩ := by
  unfold sequenceKey
  refine wpAny_bind (T.inst.type.at ?_)
  refine wpAny_bind ((anyM_none T.X (kd_noSeq w)).at ?_)
  rw [if_pos (show (!false) = true from rfl)]
  exact wpAny_pure q
theorem od_getItem {td fs nf} {p : Addr × Value} {Q : Value → Shared → Prop} (hu : A.units + 1 < cLine) (T : OdAt w h pe t td fs nf xs ep) (hk : IsNm w pe k a) (hp : atKey xs k = some p) (q : ∀ tk', Q p.2 ⟨h, G, D, tk', O⟩) :
    wpAny (model PR w) A (getItem (.ref t) (.ref a)) Q E ⟨h, G, D, tk, O⟩ := by
  have hlk : Looks (model PR w) h (specialOf (.ref t) "__getitem__") (some (.builtin "dict.__getitem__")) := T.inst.type.andThen (looks_findIn T.X (kd_getitem w))
  unfold getItem
  try with_reducible refine wpAny_holding ?_
  refine wpAny_bind (od_seqKey T ?_)
  unfold callSpecial?
  refine wpAny_bind (wpAny_bind (hlk.at ?_))
  dsimp only
  refine wpAny_holding (wpAny_bind ?_)
  rw [slot_dict_getitem.bind]
  refine wpAny_pure ?_
  refine wpAny_bind (call_meth' (i := "dict.__getitem__") (owner := "dict") (n := "__getitem__") (by decide +kernel) (by decide +kernel) slot_dict_getitem.plain entry_dict_getitem T.isDict (args_dict_getitem _ _) ?_)
  show wpAny _ _ (dictGet t (.ref a) >>= _) _ _ _
  refine wpAny_bind (dget hu T.p hk T.o rfl T.x fun tk' => ?_)
  rw [hp]
  exact wpAny_pure ⟨_, rfl, wpAny_pure (wpAny_pure (q tk'))⟩

theorem isFn128 (w : World) : typeIn (hd.heap_39 w.params) (.ref 128) = some (.type "function") := by k_is
theorem isFn135 (w : World) : typeIn (hd.heap_39 w.params) (.ref 135) = some (.type "function") := by k_is
theorem od_setItem {td fs nf} {kv v : Value} {Q : Unit → Shared → Prop} (T : OdAt w h pe t td fs nf xs ep) (q : wpAny (model PR w) A (call (.ref 128) [.ref t, kv, v]) (fun _ => Q ()) E ⟨h, G, D, tk, O⟩) :
    wpAny (model PR w) A (setItem (.ref t) kv v) Q E ⟨h, G, D, tk, O⟩ := by
  unfold setItem
  try with_reducible refine wpAny_holding ?_
  refine wpAny_bind (od_seqKey T ?_)
  exact wpAny_bind (special_fn T.X T.inst (kd_setitem w) (isFn128 w) (wpAny_mono q (fun r s' hr => wpAny_pure hr) fun _ _ y => y))
theorem od_delItem {td fs nf} {kv : Value} {Q : Unit → Shared → Prop} (T : OdAt w h pe t td fs nf xs ep) (q : wpAny (model PR w) A (call (.ref 135) [.ref t, kv]) (fun _ => Q ()) E ⟨h, G, D, tk, O⟩) :
    wpAny (model PR w) A (delItem (.ref t) kv) Q E ⟨h, G, D, tk, O⟩ := by
  unfold delItem
  try with_reducible refine wpAny_holding ?_
  refine wpAny_bind (od_seqKey T ?_)
  exact wpAny_bind (special_fn T.X T.inst (kd_delitem w) (isFn135 w) (wpAny_mono q (fun r s' hr => wpAny_pure hr) fun _ _ y => y))

theorem kd_slotlen : builtinKind "dict.__len__" = some .slot := by decide +kernel
theorem od_len0 {td fs nf} {B : Around} {Q : Option Value → Shared → Prop} (T : OdAt w h pe t td fs nf xs ep) (q : Q (some (.int xs.length tk)) ⟨h, G, D, tk + 1, O⟩) : wpAny (model PR w) B (callSpecial? (.ref t) "__len__") Q E ⟨h, G, D, tk, O⟩ := by
  have hlk : Looks (model PR w) h (specialOf (.ref t) "__len__") (some (.builtin "dict.__len__")) := T.inst.type.andThen (looks_findIn T.X (kd_len w))
  unfold callSpecial?
  refine wpAny_bind (hlk.at ?_)
  dsimp only
  refine wpAny_holding (wpAny_bind ?_)
  rw [F.slot_dict_len.bind]
  refine wpAny_pure ?_
  refine wpAny_bind (call_slot (i := "dict.__len__") (owner := "dict") (n := "__len__") kd_slotlen (by decide +kernel) F.slot_dict_len.plain F.entry_dict_len T.isDict (F.args_dict_len_1 _) ?_)
  unfold Builtin.«dict.__len__» Builtin.Dict.dictSlotNone
  refine wpAny_bind (wpAny_bind ?_)
  show wpAny _ _ (Builtin.Dict.notOrdered "__len__" _) _ _ _
  show wpAny _ _ (pure ()) _ _ _
  refine wpAny_pure ?_
  refine wpAny_bind (wpAny_pure (wpAny_pure ?_))
  refine wpAny_bind (wpAny_pure ?_)
  refine wpAny_bind (wpAny_bind (wpAny_dictEntries T.o rfl (wpAny_pure ?_)))
  show wpAny _ _ (Builtin.Dict.pendingCount t >>= _) _ _ _
  unfold Builtin.Dict.pendingCount
  rw [if_neg (by rw [T.s]; decide)]
  refine wpAny_bind (wpAny_pure ?_)
  refine wpAny_bind (wpAny_mkInt ?_)
  refine wpAny_pure ⟨_, rfl, wpAny_pure ?_⟩
  simpa using q

theorem od_lenBody {td fs nf} {B : Around} {Q : Value → Shared → Prop} (T : OdAt w h pe t td fs nf xs ep) (hz : xs.length ≤ 1000) (q : Q (.int xs.length (tk + 1)) ⟨h, G, D, tk + 1 + 1, O⟩) : wpAny (model PR w) B (Builtin.«len» ⟨[.ref t], []⟩) (fun fin s' => ∃ r, fin = .done (.ret r) ∧ Q r s') E ⟨h, G, D, tk, O⟩ := by
  unfold Builtin.«len»
  refine wpAny_bind (m := oneArg "len" _) (wpAny_pure ?_)
  refine wpAny_bind (od_len0 T ?_)
  refine wpAny_bind (wpAny_holding (wpAny_pure ?_))
  refine wpAny_bind (wpAny_letGo ?_)
  show wpAny _ _ (if ((xs.length : Nat) : Int) < 0 then _ else _) _ _ _
  rw [if_neg (by omega)]
  show wpAny _ _ (if ((xs.length : Nat) : Int) ≥ 2 ^ 63 then _ else _) _ _ _
  rw [if_neg (by omega)]
  exact wpAny_bind (wpAny_mkInt (wpAny_pure ⟨_, rfl, q⟩))
theorem od_len {td fs nf} {Q : Value → Shared → Prop} (T : OdAt w h pe t td fs nf xs ep) (hz : xs.length ≤ 1000) (q : Q (.int xs.length (tk + 1)) ⟨h, G, D, tk + 1 + 1, O⟩) : wpAny (model PR w) A (call (.builtin "len") [.ref t]) Q E ⟨h, G, D, tk, O⟩ :=
  Calls.call_function_entry kind_len plain_len entry_len (args_len1 _) (od_lenBody T hz q)
theorem od_truthy {td fs nf} {Q : Bool → Shared → Prop} (T : OdAt w h pe t td fs nf xs ep) (hz : xs.length ≤ 1000) (q : Q (!xs.isEmpty) ⟨h, G, D, tk + 1 + 1, O⟩) : wpAny (model PR w) A (truthy (.ref t)) Q E ⟨h, G, D, tk, O⟩ := by
  unfold truthy
  refine wpAny_bind (m := callSpecial? (.ref t) (Str.ofString "__bool__")) (wpAny_bind (wpAny_bind (T.inst.type.at ((looks_findIn T.X (kd_bool w)).at (wpAny_pure ?_)))))
  refine wpAny_bind (wpAny_bind (T.inst.type.at ((looks_findIn T.X (kd_len w)).at ?_)))
  show wpAny _ _ (runValue (.builtin "len" ⟨[.ref t], []⟩) >>= _) _ _ _
  refine wpAny_bind (wpAny_runValue (codeAny_builtin entry_len ?_))
  refine wpAny_mono (od_lenBody T hz (Q := fun r s' => r = .int xs.length (tk + 1) ∧ s' = ⟨h, G, D, tk + 1 + 1, O⟩) ⟨rfl, rfl⟩) (fun fin s' h' => ?_) fun _ _ y => y
  obtain ⟨r, rfl, rfl, rfl⟩ := h'
  refine wpAny_pure ?_
  have e : (((xs.length : Nat) : Int) != 0) = !xs.isEmpty := by cases xs <;> simp; omega
  rw [e]; exact q
end
section
variable {w : World} {A A₀ : Around} {base h₀ h : Heap} {outer : List Env} {L : Addr} {p : Program} {loose : List Str} {mean : ExcName → Option Value} {mg mb m : Str → Option Value} {mu mu' pe : Lg}
  {G : Array GenState} {D : Drawn} {tk : Nat} {O : OsState} {E : Value → Shared → Prop} {cn : Str} {cs : Scope} {a : Addr} {ccd : Value} {cl : List (Str × Addr)} {env : Env} {x : Str} {pos : Pos} {v : Value}

theorem nmL {Q : Value → Shared → Prop} (S : SL h₀ L m h mu pe) (hv : m x = some v) (q : Q v ⟨h, G, D, tk, O⟩) (hk : cs.kind = .function) (hx : (envX cn cs L a ccd cl).kindOf x = some .local) (hd : (x == ("__debug__" : Str)) = false) :
    wpAny (model PR w) A (eval (.Name x pos) (envX cn cs L a ccd cl)) Q E ⟨h, G, D, tk, O⟩ := nameX_L S.fr hv q hk hx hd
theorem nmK {Q : Value → Shared → Prop} (S : SL h₀ L m h mu pe) (C : Fm w A A₀ base outer (envX cn cs L a ccd cl) h₀ L p loose mean mg mb) (e : nsIn (hd.heap_39 w.params) mainGlobals x = some (some v)) (q : Q v ⟨h, G, D, tk, O⟩)
    (hx : (envX cn cs L a ccd cl).kindOf x = some .globalImplicit) (hd : (x == ("__debug__" : Str)) = false) :
    wpAny (model PR w) A (eval (.Name x pos) (envX cn cs L a ccd cl)) Q E ⟨h, G, D, tk, O⟩ := nameX_K S.fr C.X (topRead_of C.T) e q C.hk hx hd
theorem nmB {Q : Value → Shared → Prop} (S : SL h₀ L m h mu pe) (C : Fm w A A₀ base outer (envX cn cs L a ccd cl) h₀ L p loose mean mg mb) (e : nsIn (hd.heap_39 w.params) mainGlobals x = some none) (hv : bootBuiltins x = some v) (hn : x ≠ "__name__") (q : Q v ⟨h, G, D, tk, O⟩)
    (hx : (envX cn cs L a ccd cl).kindOf x = some .globalImplicit) (hd : (x == ("__debug__" : Str)) = false) :
    wpAny (model PR w) A (eval (.Name x pos) (envX cn cs L a ccd cl)) Q E ⟨h, G, D, tk, O⟩ := nameX_B S.fr C.X (topRead_of C.T) e hv hn q C.hk hx hd
theorem cInt {i k} {Q : Value → Shared → Prop} (q : Q (.int i tk) ⟨h, G, D, tk + 1, O⟩) : wpAny (model PR w) A (eval (.Constant (.int i) k pos) env) Q E ⟨h, G, D, tk, O⟩ := wpAny_Constant_int q
theorem cStr {k} {Q : Value → Shared → Prop} (q : Q (.str x tk) ⟨h, G, D, tk + 1, O⟩) : wpAny (model PR w) A (eval (.Constant (.str x) k pos) env) Q E ⟨h, G, D, tk, O⟩ := wpAny_Constant_str q
theorem stL {Q : Unit → Shared → Prop} (S : SL h₀ L m h mu pe) (q : ∀ h', SL h₀ L (fun y => if y = x then some v else m y) h' mu pe → Q () ⟨h', G, D, tk + 1, O⟩) (hk : cs.kind = .function) (hx : (envX cn cs L a ccd cl).kindOf x = some .local) :
    wpAny (model PR w) A (storeName (envX cn cs L a ccd cl) x v) Q E ⟨h, G, D, tk, O⟩ := storeX_L S.fr S.nw (fun h' F N => q h' ⟨F, N, S.nd⟩) hk hx
theorem callK {f : Value} {first : List Value} {e : Expr} {rest : List Expr} {Q : Value → Shared → Prop} {s : Shared} (hk : keepIn (hd.heap_39 w.params) f = true)
    (q : wpAny (model PR w) A (spliced (backTo pos (starEach (e :: rest) env))) (fun vs s₁ => (hd.heap_39 w.params).In s₁.heap ∧ wpAny (model PR w) A (call f (first ++ vs)) Q E s₁) E s)
    (he : starEach (e :: rest) env = (false, eval e env) :: starEach rest env) (hp : (backTo pos (starEach rest env)).any (·.1) = false) :
    wpAny (model PR w) A (callWith pos f first (backTo pos (starEach (e :: rest) env)) []) Q E s := by
  rw [he] at q ⊢
  exact callWith_of (P := (hd.heap_39 w.params).In) (by show ((false || (backTo pos (starEach rest env)).any (·.1)) || false) = false; rw [hp]; rfl) (keeps_K hk) (evalArgs_plain q)
theorem callK0 {f : Value} {first : List Value} {Q : Value → Shared → Prop} {s : Shared} (hk : keepIn (hd.heap_39 w.params) f = true) (X : (hd.heap_39 w.params).In s.heap) (q : wpAny (model PR w) A (call f (first ++ [])) Q E s) :
    wpAny (model PR w) A (callWith pos f first (backTo pos (starEach [] env)) []) Q E s := callWith_K0 X hk q
theorem callB {f : Value} {first : List Value} {e : Expr} {rest : List Expr} {Q : Value → Shared → Prop} {s : Shared} (hk : ∀ h, Looks (model PR w) h (keeperOf f) .machine)
    (q : wpAny (model PR w) A (spliced (backTo pos (starEach (e :: rest) env))) (fun vs s₁ => wpAny (model PR w) A (call f (first ++ vs)) Q E s₁) E s)
    (he : starEach (e :: rest) env = (false, eval e env) :: starEach rest env) (hp : (backTo pos (starEach rest env)).any (·.1) = false) :
    wpAny (model PR w) A (callWith pos f first (backTo pos (starEach (e :: rest) env)) []) Q E s := by
  rw [he] at q ⊢
  exact callWith_of (P := fun _ => True) (by show ((false || (backTo pos (starEach rest env)).any (·.1)) || false) = false; rw [hp]; rfl) (fun h _ => ⟨_, .inr (.inl rfl), hk h⟩) (evalArgs_plain (wpAny_mono q (fun _ _ z => ⟨trivial, z⟩) fun _ _ z => z))
theorem callB0 {f : Value} {first : List Value} {Q : Value → Shared → Prop} {s : Shared} (hk : ∀ h, Looks (model PR w) h (keeperOf f) .machine) (q : wpAny (model PR w) A (call f (first ++ [])) Q E s) :
    wpAny (model PR w) A (callWith pos f first (backTo pos (starEach [] env)) []) Q E s :=
  callWith_of (P := fun _ => True) rfl (fun h _ => ⟨_, .inr (.inl rfl), hk h⟩) (evalArgs_nil3 ⟨trivial, q⟩)
theorem mach {i : String} (M : Model) (h : Heap) : Looks M h (keeperOf (.builtin i)) .machine := Looks.of_pure rfl
theorem machT {i : String} (M : Model) (h : Heap) : Looks M h (keeperOf (.type i)) .machine := Looks.of_pure rfl
theorem callM {q' f : Addr} {self : Value} {first : List Value} {e : Expr} {rest : List Expr} {Q : Value → Shared → Prop} {s : Shared} (hf : fnIn (hd.heap_39 w.params) f = true)
    (q : wpAny (model PR w) A (spliced (backTo pos (starEach (e :: rest) env))) (fun vs s₁ => MethP (hd.heap_39 w.params) q' f self s₁.heap ∧ wpAny (model PR w) A (call (.ref q') (first ++ vs)) Q E s₁) E s)
    (he : starEach (e :: rest) env = (false, eval e env) :: starEach rest env) (hp : (backTo pos (starEach rest env)).any (·.1) = false) :
    wpAny (model PR w) A (callWith pos (.ref q') first (backTo pos (starEach (e :: rest) env)) []) Q E s := by
  rw [he] at q ⊢
  exact callWith_of (P := MethP (hd.heap_39 w.params) q' f self) (by show ((false || (backTo pos (starEach rest env)).any (·.1)) || false) = false; rw [hp]; rfl) (keeps_M hf) (evalArgs_plain q)
theorem SL.X (S : SL h₀ L m h mu pe) (C : Fm w A A₀ base outer env h₀ L p loose mean mg mb) : (hd.heap_39 w.params).In h := C.X.keeps S.fr.keep
theorem mid {P : Shared → Prop} {st : Stmt} {rest : List Stmt} {Q : Flow → Shared → Prop} {s : Shared} (h1 : wpAny (model PR w) A (exec st env) (fun f s' => f = .next ∧ P s') E s) (h2 : ∀ s', P s' → wpAny (model PR w) A (execs rest env) Q E s') : wpAny (model PR w) A (execs (st :: rest) env) Q E s :=
  wpAny_execs_cons (wpAny_mono h1 (fun f s' ⟨e, p⟩ => by subst e; exact h2 s' p) fun _ _ z => z)
theorem midAt {P : Shared → Prop} {c : Code} {st : Stmt} {rest : List Stmt} {Q : Flow → Shared → Prop} {s : Shared} (h1 : wpAny (model PR w) A (exec st env) (fun f s' => f = .next ∧ P s') E s) (h2 : ∀ s', P s' → _root_.PySem.wpAt (model PR w) A c (execs rest env) Q E s') : _root_.PySem.wpAt (model PR w) A c (execs (st :: rest) env) Q E s :=
  ks_wpAt_execs_cons (wpAt_of_wpAny (wpAny_mono h1 (fun f s' ⟨e, p⟩ => by subst e; exact h2 s' p) fun _ _ z => z))
end
local macro_rules | `(tactic| walk_at "nm") => `(tactic| first
  | (refine' nmL ?S ?v ?_ ?a ?b ?c; (case a => exact rfl); (case b => exact rfl); (case c => decide); (case S => assumption); (case v => exact rfl))
  | (refine' nmK ?S ?C ?e ?_ ?b ?c; (case b => exact rfl); (case c => decide); (case S => assumption); (case C => assumption); (case e => k_is))
  | (refine' nmB ?S ?C ?e ?v ?n ?_ ?b ?c; (case b => exact rfl); (case c => decide); (case S => assumption); (case C => assumption); (case e => k_is); (case v => boot_fast); (case n => decide)))
local macro_rules | `(tactic| walk_at "m") => `(tactic| first
  | ((with_reducible show wpAny _ _ (execs (_ :: _) _) _ _ _); refine wpAny_execs_cons ?_)
  | ((with_reducible show wpAny _ _ (execs [] _) _ _ _); refine wpAny_execs_nil ?_)
  | ((with_reducible show wpAny _ _ (eval (Expr.Name _ _) _) _ _ _); walk_at "nm")
  | ((with_reducible show wpAny _ _ (eval (Expr.Constant (Const.int _) _ _) _) _ _ _); refine cInt ?_)
  | ((with_reducible show wpAny _ _ (eval (Expr.Constant (Const.str _) _ _) _) _ _ _); refine cStr ?_)
  | ((with_reducible show wpAny _ _ (eval (Expr.Constant (Const.bool _) _ _) _) _ _ _); refine wpAny_Constant_bool ?_)
  | ((with_reducible show wpAny _ _ (eval (Expr.Constant Const.none _ _) _) _ _ _); refine wpAny_Constant_none ?_)
  | ((with_reducible show wpAny _ _ (spliced (backTo _ (starEach (_ :: _) _))) _ _ _); refine spliced_more ?_)
  | ((with_reducible show wpAny _ _ (spliced (backTo _ (starEach [] _))) _ _ _); refine spliced_none ?_)
  | ((with_reducible show wpAny _ _ (eval (Expr.Attribute _ _ _) _) _ _ _); refine Attribute_any_ ?_)
  | ((with_reducible show wpAny _ _ (eval (Expr.Call (Expr.Attribute _ _ _) _ [] _) _) _ _ _); refine MethodCall_ ?_)
  | ((with_reducible show wpAny _ _ (eval (Expr.Call _ _ [] _) _) _ _ _); refine Call_ ?_)
  | ((with_reducible show wpAny _ _ (eval (Expr.Compare _ [_] [_] _) _) _ _ _); refine wpAny_Compare1 ?_)
  | ((with_reducible show wpAny _ _ (eval (Expr.BinOp _ _ _ _) _) _ _ _); refine wpAny_BinOp ?_)
  | ((with_reducible show wpAny _ _ (eval (Expr.Subscript _ _ _) _) _ _ _); refine Subscript_ ?_)
  | ((with_reducible show wpAny _ _ (eval (Expr.IfExp _ _ _ _) _) _ _ _); refine wpAny_IfExp ?_)
  | ((with_reducible show wpAny _ _ (eval (Expr.Tuple _ _ _) _) _ _ _); refine Tuple_ ?_)
  | ((with_reducible show wpAny _ _ (eval (Expr.List _ _) _) _ _ _); refine List_ ?_)
  | ((with_reducible show wpAny _ _ (exec (Stmt.If _ _ _ _) _) _ _ _); refine wpAny_If ?_)
  | ((with_reducible show wpAny _ _ (exec (Stmt.Expr _ _) _) _ _ _); refine wpAny_Expr_any ?_)
  | ((with_reducible show wpAny _ _ (exec (Stmt.Return (some _) _) _) _ _ _); refine wpAny_Return_some ?_)
  | ((with_reducible show wpAny _ _ (exec (Stmt.Return none _) _) _ _ _); refine wpAny_Return_none ?_)
  | ((with_reducible show wpAny _ _ (exec (Stmt.Assign [Expr.Name _ _] _ _) _) _ _ _); refine wpAny_Assign_Name ?_)
  | ((with_reducible show wpAny _ _ (exec (Stmt.Assign [Expr.Attribute _ _ _] _ _) _) _ _ _); refine plainObj_wpAny_Assign_Attribute ?_)
  | ((with_reducible show wpAny _ _ (exec (Stmt.Assign [Expr.Subscript _ _ _] _ _) _) _ _ _); refine wpAny_Assign_Subscript ?_)
  | ((with_reducible show wpAny _ _ (isTrue (Expr.Compare _ [_] [_] _) _ _) _ _ _); refine wpAny_isTrue_Compare1 ?_)
  | ((with_reducible show wpAny _ _ (isTrue _ _ _) _ _ _); refine isTrue_plain ?_)
  | ((with_reducible show wpAny _ _ (truthy (Value.bool _)) _ _ _); refine wpAny_truthy_bool ?_))
local macro_rules | `(tactic| walk_at "del") => `(tactic| refine wpAny_Delete (wpAny_deleteEach_cons (wpAny_delete_Subscript ?_)))
local macro_rules | `(tactic| walk_at "ms") => `(tactic| repeat walk_at "m")
abbrev nC : Str := "_OidOrderedDict__keysCache"
abbrev nK : Str := "_SortedDict__keys"
abbrev nD : Str := "_SortedDict__dirty"
abbrev nL : Str := "_SortedDict__keysLens"
abbrev ent1 (w : World) (x : Str) (t : Tok) (v : Value) : DictEntry := ⟨PyData.keyHash w.params x, .str x t, v⟩
def odF (w : World) (t1 t2 t3 : Tok) (kc kl : Addr) (b : Bool) (ln : Option (Tok × Addr)) : List DictEntry := match ln with
  | none => [ent1 w nC t1 (.ref kc), ent1 w nK t2 (.ref kl), ent1 w nD t3 (.bool b)]
  | some (t4, ls) => [ent1 w nC t1 (.ref kc), ent1 w nK t2 (.ref kl), ent1 w nD t3 (.bool b), ent1 w nL t4 (.ref ls)]
section
variable {w : World} {t1 t2 t3 t4 : Tok} {kc kl ls : Addr} {b : Bool} {ln : Option (Tok × Addr)}
theorem odF_C : getL nC (odF w t1 t2 t3 kc kl b ln) = some (some (.ref kc)) := by
  rcases ln with _ | ⟨t4, ls⟩ <;> rfl
theorem odF_K : getL nK (odF w t1 t2 t3 kc kl b ln) = some (some (.ref kl)) := by
  rcases ln with _ | ⟨t4, ls⟩ <;> rfl
theorem odF_D : getL nD (odF w t1 t2 t3 kc kl b ln) = some (some (.bool b)) := by
  rcases ln with _ | ⟨t4, ls⟩ <;> rfl
theorem odF_L : getL nL (odF w t1 t2 t3 kc kl b (some (t4, ls))) = some (some (.ref ls)) := by rfl
theorem odF_no {x : Str} (h1 : (nC == x) = false) (h2 : (nK == x) = false) (h3 : (nD == x) = false) (h4 : (nL == x) = false) : getL x (odF w t1 t2 t3 kc kl b ln) = some none := by
  have e1 : ∀ t, (Value.str nC t).isStr x = false := fun _ => h1
  have e2 : ∀ t, (Value.str nK t).isStr x = false := fun _ => h2
  have e3 : ∀ t, (Value.str nD t).isStr x = false := fun _ => h3
  have e4 : ∀ t, (Value.str nL t).isStr x = false := fun _ => h4
  rcases ln with _ | ⟨t4, ls⟩ <;> simp [getL, odF, ent1, e1, e2, e3, e4, DictEntry.refKey]

theorem odF_putK {hs ky kl'} {n : Nat} : (putL nK hs ky (.ref kl') (odF w t1 t2 t3 kc kl b ln), putN nK (odF w t1 t2 t3 kc kl b ln) n) = (odF w t1 t2 t3 kc kl' b ln, n) := by
  rcases ln with _ | ⟨t4, ls⟩ <;> rfl
theorem odF_putD {hs ky b'} {n : Nat} : (putL nD hs ky (.bool b') (odF w t1 t2 t3 kc kl b ln), putN nD (odF w t1 t2 t3 kc kl b ln) n) = (odF w t1 t2 t3 kc kl b' ln, n) := by
  rcases ln with _ | ⟨t4, ls⟩ <;> rfl
theorem odF_putL {tk ls'} {n : Nat} : (putL nL (PyData.keyHash w.params nL) (.str nL tk) (.ref ls') (odF w t1 t2 t3 kc kl b ln), putN nL (odF w t1 t2 t3 kc kl b ln) n) =
    (odF w t1 t2 t3 kc kl b (some (match ln with | none => (tk, ls') | some (t4, _) => (t4, ls'))), match ln with | none => n + 1 | some _ => n) := by
  rcases ln with _ | ⟨t4, ls⟩ <;> rfl
theorem odF_Ds : (getL nD (odF w t1 t2 t3 kc kl b ln)).isSome = true := by rw [odF_D]; rfl
theorem odF_Ks : (getL nK (odF w t1 t2 t3 kc kl b ln)).isSome = true := by rw [odF_K]; rfl
theorem odF_Ls : (getL nL (odF w t1 t2 t3 kc kl b ln)).isSome = true := by
  rcases ln with _ | ⟨t4, ls⟩ <;> rfl
theorem odF_len : (odF w t1 t2 t3 kc kl b ln).length ≤ 1000 := by
  rcases ln with _ | ⟨t4, ls⟩ <;> simp [odF]
end

theorem kg_ga (w : World) : findIn (hd.heap_39 w.params) (.ref 145) "__getattribute__" = some (some (.builtin "dict.__getattribute__")) := by k_is
theorem kg_hook (w : World) : findIn (hd.heap_39 w.params) (.ref 145) "__getattr__" = some none := by k_is
theorem kg_dict (w : World) : hasDictIn (hd.heap_39 w.params) 145 = true := by k_is
theorem entry_dga : entryFor table "dict.__getattribute__" = some Builtin.«object.__getattribute__» := am_entry_dict_getattribute
theorem refuse_dict (self : Value) : refuseLoop self "__setattr__" [.type "dict", .type "object"] = pure () := by kernel_rfl
theorem mk_mro {K : Frag} {C : Addr} {oc : Value} {od : Option Addr} {cd : ClassData} {sl : Array (Option Value)} {l : List Value} (ho : K.lookup C = some ⟨oc, od, .cls cd, sl⟩) (hm : cd.mro = l) : ∃ cd, clsIn K C = some cd ∧ cd.mro = l :=
  ⟨cd, by unfold clsIn; rw [ho], hm⟩
theorem kg_mro (w : World) : ∃ cd, clsIn (hd.heap_39 w.params) 145 = some cd ∧ cd.mro = [.ref 145, .ref 105, .type "dict", .type "object"] := by
  refine' mk_mro ?h ?r
  case h => k_is
  case r => rfl
theorem kg_isobj (w : World) : subIn (hd.heap_39 w.params) (.ref 145) (.type "object") = some true := by k_is
theorem args_dga (a b : Value) : argsOk "dict.__getattribute__" ⟨[a, b], []⟩ := by unfold argsOk; kernel_rfl
theorem kg_sa (w : World) : findIn (hd.heap_39 w.params) (.ref 145) "__setattr__" = some (some (.builtin "object.__setattr__")) := by k_is
theorem kg_no (w : World) : noGet (hd.heap_39 w.params) none = true := by k_is

section
variable {w : World} {A A₀ : Around} {base h₀ h : Heap} {outer : List Env} {L : Addr} {p : Program} {loose : List Str} {mean : ExcName → Option Value} {mg mb m : Str → Option Value} {mu mu' pe : Lg}
  {G : Array GenState} {D : Drawn} {tk : Nat} {O : OsState} {E : Value → Shared → Prop} {t td : Addr} {ox : Obj} {es es' : List DictEntry} {n n' : Nat} {name : Str} {v : Value}
theorem odFind {expr : Bool} {Q : Value → Shared → Prop} {od : Option Obj} (X : (hd.heap_39 w.params).In h) (I : PySem.W.InstAt h t ox 145 od) (hf : findObj (hd.heap_39 w.params) 145 od name = some (.value v)) (hv : handedIn v = true)
    (q : Q v ⟨h, G, D, tk + 1, O⟩) : wpAny (model PR w) A (getAttr (.ref t) name expr) Q E ⟨h, G, D, tk, O⟩ := by
  have L0 := I.type (M := model PR w)
  have L1 := looks_findIn (M := model PR w) X (kg_ga w)
  have L2 := looks_findIn (M := model PR w) X (kg_hook w)
  have L3 := looks_find (M := model PR w) X I hf
  unfold getAttr getAttrBy
  refine wpAny_bind (wpAny_mkText (wpAny_holding (wpAny_bind (L0.at (wpAny_bind (L1.at ?_))))))
  show wpAny _ _ (getAttrByItsOwn (.ref t) (.str name tk) (.ref 145) (.builtin "dict.__getattribute__") true expr) _ _ _
  unfold getAttrByItsOwn hookBefore
  refine wpAny_bind (L2.at ?_)
  refine wpAny_bind (wpAny_attempt (wpAny_holding ?_))
  unfold callGetattribute
  rw [if_neg (by simp [onTheHeap])]
  unfold boundAndCalled
  refine wpAny_bind (wpAny_of_eq (F.slot_dict_getattribute.bind _) ?_)
  refine wpAny_mono (Q := fun r s' => r = v ∧ s' = ⟨h, G, D, tk + 1, O⟩) (E := fun _ _ => False) (call_slot (i := "dict.__getattribute__") (owner := "dict") (n := "__getattribute__") (by decide +kernel) (by decide +kernel) F.slot_dict_getattribute.plain entry_dga (I.type.andThen (looks_subIn X (kd_dict w))) (args_dga _ _) ?_) (fun r s' hr => ?_) fun _ _ z => z.elim
  · refine wpAny_bind (wpAny_pure (wpAny_bind (wpAny_pure (wpAny_bind (L0.at (wpAny_bind (L3.at ?_)))))))
    exact wpAny_pure ⟨_, rfl, rfl, rfl⟩
  · obtain ⟨rfl, rfl⟩ := hr
    show wpAny _ _ (handedOut _) _ _ _
    rw [handedOut_of hv]; exact wpAny_pure q
theorem odGet {expr : Bool} {Q : Value → Shared → Prop} (X : (hd.heap_39 w.params).In h) (I : PySem.W.InstAt h t ox 145 (some (dictOf es n))) (ha : findIn (hd.heap_39 w.params) (.ref 145) name = some none)
    (hl : getL name es = some (some v)) (hv : handedIn v = true) (q : Q v ⟨h, G, D, tk + 1, O⟩) : wpAny (model PR w) A (getAttr (.ref t) name expr) Q E ⟨h, G, D, tk, O⟩ :=
  odFind X I (findObj_own (kg_dict w) ha (kg_no w) hl) hv q
open Builtin Builtin.ObjectAttr in
theorem odStore {R : Result → Shared → Prop} {od : Obj} {tn : Tok} (S : SL h₀ L m h mu pe) (X : (hd.heap_39 w.params).In h) (I : PySem.W.InstAt h t ox 145 (some od)) (hox : ox.dict = some td) (ht : takerIn (hd.heap_39 w.params) 145 name = some none)
    (ho : od = dictOf es n) (hl : (getL name es).isSome = true) (e : (putL name (PyData.keyHash w.params name) (.str name tk) v es, putN name es n) = (es', n')) (r : Rp td (dictOf es n) (dictOf es' n') mu mu') (hz : es'.length ≤ 1000)
    (q : ∀ h', SL h₀ L m h' mu' pe → R (.ok (.ret .none)) ⟨h', G, D, tk + 1, O⟩) : codeAny (model PR w) A (.call (.builtin "object.__setattr__") ⟨[.ref t, .str name tn, v], []⟩) R ⟨h, G, D, tk, O⟩ := by
  subst ho
  obtain ⟨cd, hc, hmro⟩ := kg_mro w
  obtain ⟨cd', hc', hd'⟩ := any_some (kg_dict w)
  obtain rfl : cd = cd' := Option.some.inj (hc.symm.trans hc')
  have SF := PySem.F.store_object
  refine codeAny_call_builtin SF.slot.plain SF.entry (@check_slot (model PR w) _ _ _ "object.__setattr__" "object" "__setattr__" (.ref t) [.str name tn, v] [] _ SF.kind SF.split (I.type.andThen (looks_subIn X (kg_isobj w))) (SF.args (.ref t) (.str name tn) v) ?_)
  obtain ⟨attr, ha, hr⟩ := Option.bind_eq_some_iff.mp ht
  have hm : Looks (model PR w) h (mroOf (.ref 145)) cd.mro := (looks_clsIn X hc).andThen .now
  have L3 : Looks (model PR w) h (storeTaker? attr) none := by
    cases attr with
    | none => cases hr; exact .now
    | some a =>
      obtain ⟨b, hb, hbb⟩ := Option.map_eq_some_iff.mp hr
      refine (looks_takesIn X hb).andThen ?_
      cases b
      · exact .now
      · cases hbb
  rw [osa_eq, refuse_eq]
  refine wpAny_bind (wpAny_bind (I.type.at (wpAny_bind (hm.at ?_))))
  rw [hmro, refuseLoop_ref, refuseLoop_ref, refuse_dict]
  refine wpAny_pure (wpAny_bind (I.type.at (wpAny_bind ((looks_findIn X ha).at (wpAny_bind (L3.at ?_))))))
  dsimp only
  have e1 : Obj.putName name (PyData.keyHash w.params name) (.str name tk) v (dictOf es n) = dictOf es' n' := by
    rw [putName_dict]
    obtain ⟨a, b⟩ := Prod.mk.inj e
    rw [a, b]
  have S' := SL.update (Obj.putName name (PyData.keyHash w.params name) (.str name tk) v) S (by rw [e1]; exact r) (by rw [e1]; rfl)
  have hD := S.get r.mem
  obtain ⟨hx, hcl, hn, -⟩ := I
  obtain ⟨oc, odi, oda, osl⟩ := ox
  dsimp only at hcl hox
  subst hcl hox
  refine wpAny_bind (wpAny_pure (wpAny_bind (wpAny_bind (wpAny_loadPart hx (wpAny_bind ((looks_clsIn X hc).at ?_))))))
  rw [hd']
  refine wpAny_pure (a := some td) (wpAny_bind (wpAny_pure (wpAny_bind ?_)))
  unfold nsSet
  refine wpAny_bind (wpAny_bind (wpAny_askSetting (wpAny_pure (wpAny_bind (wpAny_mkText (wpAny_bind (wpAny_loadPart hD ?_)))))))
  dsimp only
  have c : (!es.toArray.any (·.key.isStr name) && es.toArray.any (·.refKey)) = false := by
    rw [← Array.any_toList, ← Array.any_toList]
    unfold getL at hl
    split at hl
    · rename_i en he
      rw [List.any_eq_true.mpr ⟨en, List.mem_of_find?_eq_some he, List.find?_some he⟩]; rfl
    · split at hl
      · cases hl
      · rename_i z; rw [Bool.not_eq_true] at z; rw [z, Bool.and_false]
  rw [aRefKeyMayBeTheName_at, c]
  refine wpAny_updatePart hD ?_
  have hD' : (h.update td (Obj.putName name (PyData.keyHash w.params name) (.str name tk) v)).get? td = some (dictOf es' n') := by
    rw [Heap.get?_update_self _ hD (by rw [e1]; rfl), e1]
  refine wpAny_bind (wpAny_lookBehind hD' (pastItsLine_dict (by rw [List.size_toArray, sizeLine_eq]; omega)) ?_)
  exact wpAny_pure (q _ S')
theorem odSet {Q : Unit → Shared → Prop} (S : SL h₀ L m h mu pe) (X : (hd.heap_39 w.params).In h) (I : PySem.W.InstAt h t ox 145 (some (dictOf es n))) (hox : ox.dict = some td) (ht : takerIn (hd.heap_39 w.params) 145 name = some none)
    (hl : (getL name es).isSome = true) (e : (putL name (PyData.keyHash w.params name) (.str name (tk + 1)) v es, putN name es n) = (es', n')) (r : Rp td (dictOf es n) (dictOf es' n') mu mu') (hz : es'.length ≤ 1000)
    (q : ∀ h', SL h₀ L m h' mu' pe → Q () ⟨h', G, D, tk + 2, O⟩) : wpAny (model PR w) A (setAttr (.ref t) name v) Q E ⟨h, G, D, tk, O⟩ :=
  set_plain X I (kg_sa w) (odStore S X I hox ht rfl hl e r hz q)
end

theorem ka_C (w : World) : findIn (hd.heap_39 w.params) (.ref 145) nC = some none := by k_is
theorem ka_K (w : World) : findIn (hd.heap_39 w.params) (.ref 145) nK = some none := by k_is
theorem ka_D (w : World) : findIn (hd.heap_39 w.params) (.ref 145) nD = some none := by k_is
theorem ka_L (w : World) : findIn (hd.heap_39 w.params) (.ref 145) nL = some none := by k_is
theorem kt_C (w : World) : takerIn (hd.heap_39 w.params) 145 nC = some none := by k_is
theorem kt_K (w : World) : takerIn (hd.heap_39 w.params) 145 nK = some none := by k_is
theorem kt_D (w : World) : takerIn (hd.heap_39 w.params) 145 nD = some none := by k_is
theorem kt_L (w : World) : takerIn (hd.heap_39 w.params) 145 nL = some none := by k_is

structure OR where
  t : Addr
  td : Addr
  kc : Addr
  kl : Addr
  nt : Nat
  nd : Nat
  nc : Nat
  nk : Nat
  t1 : Tok
  t2 : Tok
  t3 : Tok
  b : Bool
  ln : Option (Tok × Addr)
  nl : Nat
  lv : List Value
  xs : Ents
  ks : List (Nm × Addr)
  cs : Ents
def refs (ks : List (Nm × Addr)) : List Value := ks.map fun x => .ref x.2
def OR.lens (r : OR) : Lg := match r.ln with
  | none => []
  | some (_, ls) => [(ls, PySem.W.listOf r.lv.toArray r.nl)]
abbrev OR.F (w : World) (r : OR) : List DictEntry := odF w r.t1 r.t2 r.t3 r.kc r.kl r.b r.ln
abbrev OR.oT (w : World) (r : OR) : Obj := dOb w (.ref 145) (some r.td) r.xs r.nt
abbrev OR.oD (w : World) (r : OR) : Obj := dictOf (r.F w) r.nd
abbrev OR.oC (w : World) (r : OR) : Obj := dOb w (.type "dict") none r.cs r.nc
abbrev OR.oK (r : OR) : Obj := PySem.W.listOf (refs r.ks).toArray r.nk
def OR.led (w : World) (r : OR) : Lg := (r.t, r.oT w) :: (r.td, r.oD w) :: (r.kc, r.oC w) :: (r.kl, r.oK) :: r.lens
structure OR.Ok (w : World) (pe : Lg) (r : OR) : Prop where
  x : EntOk w pe r.xs
  c : EntOk w pe r.cs
  k : ∀ y ∈ r.ks, IsNm w pe y.1 y.2
  same : (r.ks.map (·.1)).Perm (r.xs.map (·.1))
  cin : ∀ y ∈ r.xs.map (·.1), y ∈ r.cs.map (·.1)
  cv : ∀ y ∈ r.cs, ∃ a, y.2.2 = .ref a ∧ IsNm w pe y.1 a
  st : (r.t == sysModules) = false
  sc : (r.kc == sysModules) = false
theorem OR.Ok.mono {w pe pe' r} (x : OR.Ok w pe r) (h : pe ⊆ pe') : OR.Ok w pe' r :=
  ⟨x.x.mono h, x.c.mono h, fun y hy => (x.k y hy).mono h, x.same, x.cin, fun y hy => let ⟨a, e, i⟩ := x.cv y hy; ⟨a, e, i.mono h⟩, x.st, x.sc⟩
section
variable {w : World} {h₀ h : Heap} {L : Addr} {m : Str → Option Value} {mu mr pe : Lg} {r : OR}
theorem OR.at (S : SL h₀ L m h (r.led w ++ mr) pe) : h.get? r.t = some (r.oT w) ∧ h.get? r.td = some (r.oD w) ∧ h.get? r.kc = some (r.oC w) ∧ h.get? r.kl = some r.oK :=
  ⟨S.get (.head _), S.get (.tail _ (.head _)), S.get (.tail _ (.tail _ (.head _))), S.get (.tail _ (.tail _ (.tail _ (.head _))))⟩
theorem OR.inst (S : SL h₀ L m h (r.led w ++ mr) pe) : PySem.W.InstAt h r.t (r.oT w) 145 (some (r.oD w)) := ⟨(OR.at S).1, rfl, rfl, (OR.at S).2.1⟩
theorem OR.odAt (S : SL h₀ L m h (r.led w ++ mr) pe) (X : (hd.heap_39 w.params).In h) (kx : EntOk w pe r.xs) (ks : (r.t == sysModules) = false) : OdAt w h pe r.t r.td (r.F w) r.nd r.xs r.nt := ⟨X, (OR.at S).1, (OR.at S).2.1, S.pes, kx, ks⟩
end
theorem canon_dga : Manifest.canonical "dict.__getattribute__" = "object.__getattribute__" := by decide +kernel
section
variable {w : World} {A A₀ : Around} {base h₀ h : Heap} {outer : List Env} {L : Addr} {mu mu' mr pe : Lg}
  {G : Array GenState} {D : Drawn} {tk : Nat} {O : OsState} {E : Value → Shared → Prop} {t : Addr} {ox : Obj} {es : List DictEntry} {n : Nat} {name : Str} {v : Value}
theorem odMeth {pl : Sem Bool} {f : Addr} {Q : Value × List Value → Shared → Prop} (X : (hd.heap_39 w.params).In h) (I : PySem.W.InstAt h t ox 145 (some (dictOf es n)))
    (hf : findIn (hd.heap_39 w.params) (.ref 145) name = some (some (.ref f))) (ht : typeIn (hd.heap_39 w.params) (.ref f) = some (.type "function")) (hl : getL name es = some none) (q : Q (.ref f, [.ref t]) ⟨h, G, D, tk, O⟩) :
    wpAny (model PR w) A (getMethod (.ref t) name pl) Q E ⟨h, G, D, tk, O⟩ := by
  have hs : shadowIn (some (dictOf es n)) name = some false := by show (lookIn name (dictOf es n)).map _ = _; rw [lookIn_dict, hl]; rfl
  unfold getMethod specialOf
  refine wpAny_bind (wpAny_bind (I.type.at ((looks_findIn X (kg_ga w)).at ?_)))
  dsimp only
  rw [canon_dga, if_neg (by decide)]
  refine wpAny_bind (wpAny_bind (I.type.at ((looks_findIn X (kg_hook w)).at ?_)))
  refine wpAny_bind (wpAny_bind (I.type.at ((looks_findIn X hf).at (wpAny_bind ((looks_typeIn X ht).at ?_)))))
  rw [if_neg (by decide +kernel)]
  refine wpAny_bind (wpAny_loadPart I.at_ ?_)
  have hd := I.dict
  cases e : ox.dict with
  | none => exact wpAny_bind (wpAny_rule (wpAny_pure q))
  | some dx =>
    rw [e] at hd
    obtain ⟨r, a, b⟩ := Option.map_eq_some_iff.mp hs
    refine wpAny_bind (wpAny_bind (wpAny_loadPart hd ?_))
    rw [nsLook_of a]
    refine wpAny_pure ?_
    rw [b]
    exact wpAny_bind (wpAny_rule (wpAny_pure q))
end
theorem slot_wd_get : Slot "wrapper_descriptor" "__get__" "wrapper_descriptor.__get__" := .of (owner := "wrapper_descriptor") (n := "__get__") (by rw [typeLookup_type, builtinLookup_eq_fast]; kernel_rfl) (by decide +kernel) (by decide +kernel) (by decide +kernel)
  (by first | exact .inl (by decide +kernel) | exact .inr (by decide +kernel)) (by rw [isSubtype_type]; kernel_rfl)
theorem slot_md_get : Slot "method_descriptor" "__get__" "method_descriptor.__get__" := .of (owner := "method_descriptor") (n := "__get__") (by rw [typeLookup_type, builtinLookup_eq_fast]; kernel_rfl) (by decide +kernel) (by decide +kernel) (by decide +kernel)
  (by first | exact .inl (by decide +kernel) | exact .inr (by decide +kernel)) (by rw [isSubtype_type]; kernel_rfl)
theorem entry_wd_get : entryFor table "wrapper_descriptor.__get__" = some Builtin.«wrapper_descriptor.__get__» := entryFor_of_tree (by kernel_rfl)
theorem entry_md_get : entryFor table "method_descriptor.__get__" = some Builtin.«method_descriptor.__get__» := entryFor_of_tree (by kernel_rfl)
theorem args_wd_get (a b c : Value) : argsOk "wrapper_descriptor.__get__" ⟨[a, b, c], []⟩ := by unfold argsOk; kernel_rfl
theorem args_md_get (a b c : Value) : argsOk "method_descriptor.__get__" ⟨[a, b, c], []⟩ := by unfold argsOk; kernel_rfl
abbrev boundO (T : String) (id : String) (t : Addr) : Obj := { cls := .type T, data := .fields #[.builtin id, .ref t] }
section
variable {w : World} {A A₀ : Around} {base h₀ h : Heap} {outer : List Env} {L : Addr} {mu mu' mr pe : Lg}
  {G : Array GenState} {D : Drawn} {tk : Nat} {O : OsState} {E : Value → Shared → Prop} {t so : Addr} {ox : Obj} {name : Str} {v : Value}
theorem wd_bind {id : String} {c : Value} {Q : Fin → Shared → Prop} (ho : h.get? t = some ox) (hc : Looks (model PR w) h (isSubtype ox.cls (.type "dict")) true) (hid : ".".intercalate (id.cutAt '.').dropLast = "dict") (q : Q (.done (.ret (.ref h.objs.size))) ⟨h.push (boundO "method-wrapper" id t), G, D, tk, O⟩) :
    wpAny (model PR w) A (Builtin.«wrapper_descriptor.__get__» ⟨[.builtin id, .ref t, c], []⟩) Q E ⟨h, G, D, tk, O⟩ := by
  unfold Builtin.«wrapper_descriptor.__get__»
  repeat (first | (rw [hid]; refine Looks.at hc ?_) | lk)
  exact q
theorem md_bind {id : String} {c : Addr} {Q : Fin → Shared → Prop} (ho : h.get? t = some ox) (hc : Looks (model PR w) h (isSubtype ox.cls (.type "dict")) true) (hid : ".".intercalate (id.cutAt '.').dropLast = "dict") (htold : Manifest.toldItsClass.contains id = false) (q : Q (.done (.ret (.ref h.objs.size))) ⟨h.push (boundO "builtin_function_or_method" id t), G, D, tk, O⟩) :
    wpAny (model PR w) A (Builtin.«method_descriptor.__get__» ⟨[.builtin id, .ref t, .ref c], []⟩) Q E ⟨h, G, D, tk, O⟩ := by
  have hc' : Looks (model PR w) h (isSubtype ox.cls (.type (".".intercalate (id.cutAt '.').dropLast))) true := by rw [hid]; exact hc
  have e0 : ∀ a, (Value.ref a == Value.none) = false := fun _ => rfl
  unfold Builtin.«method_descriptor.__get__»
  repeat (first | ((with_reducible show wpAny _ _ (isSubtype _ _) _ _ _); refine Looks.at hc' ?_) | (rw [htold, if_neg (by decide)]) | (simp only [e0, Bool.false_eq_true, if_false]) | lk)
  exact q
theorem sup_ga {id gid T bT : String} {tn : Tok} {Bi : Builtin} {Q : Fin → Shared → Prop} (X : (hd.heap_39 w.params).In h) (I : PySem.W.InstAt h t ox 145 od)
    (hso : h.get? so = some (ks_superObj 105 t 145)) (hno : Looks (model PR w) h (opaqueClassAbove (.ref 145)) none) (hown : classOwn (.type "dict") name = pure (some (.builtin id))) (hn : (name == ("__class__" : Str)) = false)
    (hty : typeOf (.builtin id) = pure (.type T)) (slot : Slot T "__get__" gid) (entry : entryFor table gid = some Bi) (args : argsOk gid ⟨[.builtin id, .ref t, .ref 145], []⟩)
    (hb : ∀ {B : Around} {Q' : Fin → Shared → Prop} {E' : Value → Shared → Prop}, Q' (.done (.ret (.ref h.objs.size))) ⟨h.push (boundO bT id t), G, D, tk, O⟩ → wpAny (model PR w) B (Bi ⟨[.builtin id, .ref t, .ref 145], []⟩) Q' E' ⟨h, G, D, tk, O⟩)
    (q : Q (.done (.ret (.ref h.objs.size))) ⟨h.push (boundO bT id t), G, D, tk, O⟩) : wpAny (model PR w) A (Builtin.«super.__getattribute__» ⟨[.ref so, .str name tn], []⟩) Q E ⟨h, G, D, tk, O⟩ := by
  have hlk := slot.lookup
  obtain ⟨cd, hcd, hmro⟩ := kg_mro w
  have hC : Looks (model PR w) h (mroOf (.ref 145)) [.ref 145, .ref 105, .type "dict", .type "object"] := hmro ▸ (looks_clsIn X hcd).andThen .now
  have hl : (([.ref 145, .ref 105, .type "dict", .type "object"] : List Value).dropWhile (· != .ref 105)).drop 1 = [.type "dict", .type "object"] := by decide
  have hxC : t ≠ 145 := ks_ne X I hcd
  have hne : (Value.ref t == Value.ref 145) = false := by simp [hxC]
  have hTf : ∀ {g' : Array GenState} {d' : Drawn} {t' : Nat} {o' : OsState}, (⟨h, g', d', t', o'⟩ : Shared).TypeIs (.builtin id) T := hty
  have hdt : (ks_superObj 105 t 145 : Obj).data = .fields #[.ref 105, .ref t, .ref 145] := rfl
  have f0 : (#[.ref 105, .ref t, .ref 145] : Array Value)[0]? = some (.ref 105) := rfl
  have f1 : (#[.ref 105, .ref t, .ref 145] : Array Value)[1]? = some (.ref t) := rfl
  have f2 : (#[.ref 105, .ref t, .ref 145] : Array Value)[2]? = some (.ref 145) := rfl
  unfold Builtin.«super.__getattribute__»
  repeat (first
    | (with_reducible refine wpAny_field hso hdt f0 ?_) | (with_reducible refine wpAny_field hso hdt f1 ?_) | (with_reducible refine wpAny_field hso hdt f2 ?_)
    | (with_reducible refine PySem.ks_wpAny_notOpaque hno ?_)
    | (with_reducible refine Looks.at hC ?_; rw [hl])
    | (with_reducible refine wpAny_typeOf hTf ?_)
    | (with_reducible refine wpAny_call_entry slot hTf entry ?_ args)
    | (with_reducible refine ⟨_, rfl, ?_⟩)
    | (simp only [hn, hne, Bool.or_false, Bool.false_eq_true, if_false])
    | wp_step
    | dsimp only)
  refine hb ⟨_, rfl, ?_⟩
  repeat (first | wp_step | dsimp only)
  exact q
end
section
variable {w : World} {A A₀ : Around} {base h₀ h : Heap} {outer : List Env} {L : Addr} {m : Str → Option Value} {mu mu' mr pe : Lg}
  {G : Array GenState} {D : Drawn} {tk : Nat} {O : OsState} {E : Value → Shared → Prop} {t so q' : Addr} {ox : Obj} {od : Option Obj} {name : Str} {v : Value}
theorem sup_meth {id gid T bT : String} {Bi : Builtin} {pl : Sem Bool} {Q : Value × List Value → Shared → Prop} (X : (hd.heap_39 w.params).In h) (I : PySem.W.InstAt h t ox 145 od)
    (hso : h.get? so = some (ks_superObj 105 t 145)) (hno : Looks (model PR w) h (opaqueClassAbove (.ref 145)) none) (hown : classOwn (.type "dict") name = pure (some (.builtin id))) (hn : (name == ("__class__" : Str)) = false)
    (hty : typeOf (.builtin id) = pure (.type T)) (slot : Slot T "__get__" gid) (entry : entryFor table gid = some Bi) (args : argsOk gid ⟨[.builtin id, .ref t, .ref 145], []⟩)
    (hb : ∀ {B : Around} {Q' : Fin → Shared → Prop} {E' : Value → Shared → Prop} {tk : Nat}, Q' (.done (.ret (.ref h.objs.size))) ⟨h.push (boundO bT id t), G, D, tk, O⟩ → wpAny (model PR w) B (Bi ⟨[.builtin id, .ref t, .ref 145], []⟩) Q' E' ⟨h, G, D, tk, O⟩)
    (q : Q (.ref h.objs.size, []) ⟨h.push (boundO bT id t), G, D, tk + 1, O⟩) : wpAny (model PR w) A (getMethod (.ref so) name pl) Q E ⟨h, G, D, tk, O⟩ := by
  have hlk := PySem.F.ks_slot_super_ga.lookup
  have hcan := PySem.F.ks_canon_super_ga
  have hT : ∀ t', (⟨h, G, D, t', O⟩ : Shared).TypeIs (.ref so) "super" := fun _ => ⟨_, hso, rfl⟩
  unfold getMethod
  refine wpAny_bind (wpAny_specialOf (hT _) hlk ?_)
  show wpAny _ _ (if (Manifest.canonical "super.__getattribute__" != "object.__getattribute__") = true then _ else _) _ _ _
  rw [if_pos hcan]
  unfold getAttr getAttrBy
  refine wpAny_bind (wpAny_bind (wpAny_mkText (wpAny_holding (wpAny_bind (wpAny_typeOf (hT _) (wpAny_bind (wpAny_of_eq hlk ?_)))))))
  show wpAny _ _ (getAttrByItsOwn (.ref so) (.str name tk) (.type "super") (.builtin "super.__getattribute__") true false) _ _ _
  unfold getAttrByItsOwn hookBefore callGetattribute boundAndCalled
  refine wpAny_bind (wpAny_of_eq (show (if onTheHeap (.type "super") then typeLookup (.type "super") "__getattr__" else pure none) = pure none from rfl) ?_)
  refine wpAny_bind (wpAny_attempt (wpAny_holding ?_))
  show wpAny _ _ (bindSpecial (.builtin "super.__getattribute__") (.ref so) >>= _) _ _ _
  refine wpAny_bind (wpAny_of_eq (PySem.F.ks_slot_super_ga.bind _) ?_)
  refine wpAny_mono (Q := fun v s' => v = .ref h.objs.size ∧ s' = ⟨h.push (boundO bT id t), G, D, tk + 1, O⟩) (E := fun _ _ => False)
    (wpAny_call_entry PySem.F.ks_slot_super_ga (hT _) PySem.F.ks_entry_super_ga (sup_ga X I hso hno hown hn hty slot entry args hb ⟨_, rfl, rfl, rfl⟩) (PySem.F.ks_gaArgs_super _ _)) (fun v s' hv => ?_) fun _ _ z => z.elim
  obtain ⟨rfl, rfl⟩ := hv
  exact wpAny_pure (wpAny_pure q)

theorem call_bound {id T : String} {Bi : Builtin} {rest : List Value} {Q : Value → Shared → Prop} (hq : h.get? q' = some (boundO T id t)) (hT : (Value.type T == .type "method" || Value.type T == .type "builtin_function_or_method" || Value.type T == .type "method-wrapper") = true) (hT' : (Value.type T != .type "method") = true)
    (hc : Looks (model PR w) h (checkBoundCall id ⟨.ref t :: rest, []⟩) ()) (hp : plainId id = true) (entry : entryFor table id = some Bi)
    (b : wpAny (model PR w) A.in1 (Bi ⟨.ref t :: rest, []⟩) (fun fin s' => ∃ v, fin = .done (.ret v) ∧ Q v s') E ⟨h, G, D, tk, O⟩) : wpAny (model PR w) A (call (.ref q') rest) Q E ⟨h, G, D, tk, O⟩ := by
  refine wpAny_call (codeAny_of_tree ?_)
  show wpAny _ _ (callAny (.ref q') ⟨rest, []⟩) _ _ _
  unfold callAny
  refine wpAny_bind (wpAny_load hq ?_)
  dsimp only
  rw [if_pos hT]
  show wpAny _ _ (if (Value.type T != .type "method") = true then _ else _) _ _ _
  rw [if_pos hT']
  refine wpAny_bind (hc.at ?_)
  refine wpAny_pure (a := Fin.again (.builtin id ⟨.ref t :: rest, []⟩)) ⟨plainId_quiet hp _, codeAny_builtin entry ?_⟩
  rw [Around.under_plainId hp]
  exact wpAny_mono b (fun fin s' h' => by obtain ⟨v, rfl, hv⟩ := h'; exact hv) fun _ _ h' => h'
theorem bc_setitem (a b c : Value) (M : Model) : Looks M h (checkBoundCall "dict.__setitem__" ⟨[a, b, c], []⟩) () := Looks.of_pure (by kernel_rfl)
theorem bc_delitem (a b : Value) (M : Model) : Looks M h (checkBoundCall "dict.__delitem__" ⟨[a, b], []⟩) () := Looks.of_pure (by kernel_rfl)
theorem bc_init (a : Value) (M : Model) : Looks M h (checkBoundCall "dict.__init__" ⟨[a], []⟩) () := Looks.of_pure (by kernel_rfl)
theorem own_setitem : classOwn (.type "dict") "__setitem__" = pure (some (.builtin "dict.__setitem__")) := by kernel_rfl
theorem own_delitem : classOwn (.type "dict") "__delitem__" = pure (some (.builtin "dict.__delitem__")) := by kernel_rfl
theorem own_init : classOwn (.type "dict") "__init__" = pure (some (.builtin "dict.__init__")) := by kernel_rfl
theorem own_clear : classOwn (.type "dict") "clear" = pure (some (.builtin "dict.clear")) := by kernel_rfl
theorem tyW {i : String} (e : fastBuiltinType i = pure (.type "wrapper_descriptor")) : typeOf (.builtin i) = pure (.type "wrapper_descriptor") := by show builtinType _ = _; rw [builtinType_eq_fast]; exact e
theorem ty_setitem : typeOf (.builtin "dict.__setitem__") = pure (.type "wrapper_descriptor") := tyW (by kernel_rfl)
theorem ty_delitem : typeOf (.builtin "dict.__delitem__") = pure (.type "wrapper_descriptor") := tyW (by kernel_rfl)
theorem ty_init : typeOf (.builtin "dict.__init__") = pure (.type "wrapper_descriptor") := tyW (by kernel_rfl)
theorem ty_clear : typeOf (.builtin "dict.clear") = pure (.type "method_descriptor") := by show builtinType _ = _; rw [builtinType_eq_fast]; kernel_rfl
theorem ty_get : typeOf (.builtin "dict.get") = pure (.type "method_descriptor") := by show builtinType _ = _; rw [builtinType_eq_fast]; kernel_rfl
theorem clk (M : Model) (X : (hd.heap_39 w.params).In h) : Looks M h (opaqueClassAbove (.ref 145)) none := looks_opaque X (by k_is)
theorem k_isub (w : World) : mroIn (hd.heap_39 w.params) 145 (.ref 105) = some true := by k_is
theorem k_superN (w : World) : nsIn (hd.heap_39 w.params) mainGlobals "super" = some none := by k_is
theorem mk_cls {K : Frag} {C : Addr} {oc : Value} {od : Option Addr} {cd : ClassData} {sl : Array (Option Value)} (ho : K.lookup C = some ⟨oc, od, .cls cd, sl⟩) : ∃ cd, clsIn K C = some cd := ⟨cd, by unfold clsIn; rw [ho]⟩
theorem kg_105 (w : World) : ∃ cd, clsIn (hd.heap_39 w.params) 105 = some cd := by
  refine' mk_cls ?h
  case h => k_is
theorem mk_cell {K : Frag} {C v : Addr} {oc : Value} {od : Option Addr} {sl : Array (Option Value)} (ho : K.lookup C = some ⟨oc, od, .cell (some (.ref v)), sl⟩) : ∃ oc od sl, K.lookup C = some ⟨oc, od, .cell (some (.ref v)), sl⟩ := ⟨_, _, _, ho⟩
theorem kg_cell (w : World) : ∃ oc od sl, (hd.heap_39 w.params).lookup 25 = some ⟨oc, od, .cell (some (.ref 105)), sl⟩ := by
  refine' mk_cell ?h
  case h => k_is
theorem sup_file : ((PR.main.file : Str) == ("/claim/cut.py" : Str)) = true := by decide +kernel
theorem sup_top : (PR.main.scope.names.lookup ("super" : Str)).isSome = false := by decide +kernel
theorem sup_boot : bootBuiltins "super" = some (.type "super") := by boot_by_name

theorem sup_node {base : Heap} {outer : List Env} {p : Program} {loose : List Str} {mean : ExcName → Option Value} {mg mb : Str → Option Value} {A₀ : Around} {body : List Stmt} {qn : Str} {scope : Scope} {p0 p1 : Pos} {attr : Str} {whole : Sem Value} {fd : FuncData} {ar : Arg} {vs : Array Value} {tf : Tok} {f cda : Addr} {oc ccl : Value} {od' cdd : Option Addr} {osl ccs : Array (Option Value)} {Q : Value → Shared → Prop}
    (C : Fm w A A₀ base outer (ksEnv qn scope L f (.ref cda) 25) h₀ L p loose mean mg mb) (S : SL h₀ L m h mu pe)
    (hf : (hd.heap_39 w.params).lookup f = some ⟨oc, od', .func fd, osl⟩) (hp : (fd.params.posonlyargs ++ fd.params.args).head? = some ar) (hv : m ar.arg = some (.ref t)) (I : PySem.W.InstAt h t ox 145 od)
    (hcode : (hd.heap_39 w.params).lookup cda = some ⟨ccl, cdd, .fields vs, ccs⟩) (hvs : vs[2]? = some (.str "/claim/cut.py" tf))
    (hat : (attr == ("__class__" : Str)) = false) (hks : scope.names.lookup ("super" : Str) = some .globalImplicit) (hkc : scope.names.lookup ("__class__" : Str) = some .free) (hka : scope.names.lookup ar.arg = some .local)
    (k : ∀ so h', SL h₀ L m h' ((so, ks_superObj 105 t 145) :: mu) pe → Q (.ref so) ⟨h', G, D, tk, O⟩) :
    _root_.PySem.wpAt (model PR w) A (.func body (ksEnv qn scope L f (.ref cda) 25)) (attributeBase (.Call (.Name "super" p0) [] [] p1) attr (ksEnv qn scope L f (.ref cda) 25) whole) Q E ⟨h, G, D, tk, O⟩ := by
  obtain ⟨cd, hcd⟩ := kg_105 w
  obtain ⟨cl, cld, csl, hcell⟩ := kg_cell w
  exact ks_node S.fr C.X S.nw C.T hf hp hv I hcode hvs sup_file hcell hcd (k_isub w) (k_superN w) hat hks hkc hka C.hk sup_top sup_boot fun so h' F N l => k so h' (S.of F N l)
end
theorem kd_od (w : World) : subIn (hd.heap_39 w.params) (.ref 145) (.type "collections.OrderedDict") = some false := by k_is
section
variable {w : World} {A A₀ : Around} {base h₀ h : Heap} {outer : List Env} {L : Addr} {m : Str → Option Value} {mu mu' mr pe : Lg}
  {G : Array GenState} {D : Drawn} {tk : Nat} {O : OsState} {E : Value → Shared → Prop} {t so q' a td : Addr} {ox : Obj} {od : Option Obj} {name : Str} {v : Value} {fs : List DictEntry} {nf ep : Nat} {xs : Ents} {k : Nm} {env : Env} {pos : Pos}
theorem callBd {id T : String} {first : List Value} {e : Expr} {rest : List Expr} {Q : Value → Shared → Prop} {s : Shared} (hT : ((Value.type T : Value) != .type "method") = true) (hT' : (Value.type T == .type "builtin_function_or_method" || Value.type T == .type "method-wrapper") = true)
    (q : wpAny (model PR w) A (spliced (backTo pos (starEach (e :: rest) env))) (fun vs s₁ => s₁.heap.get? q' = some (boundO T id t) ∧ wpAny (model PR w) A (call (.ref q') (first ++ vs)) Q E s₁) E s)
    (he : starEach (e :: rest) env = (false, eval e env) :: starEach rest env) (hp : (backTo pos (starEach rest env)).any (·.1) = false) :
    wpAny (model PR w) A (callWith pos (.ref q') first (backTo pos (starEach (e :: rest) env)) []) Q E s := by
  rw [he] at q ⊢
  refine callWith_of (P := fun h => h.get? q' = some (boundO T id t)) (by show ((false || (backTo pos (starEach rest env)).any (·.1)) || false) = false; rw [hp]; rfl) (fun h hh => ⟨.machine, .inr (.inl rfl), ?_⟩) (evalArgs_plain q)
  refine (Looks.ld (part := none) hh).andThen ?_
  dsimp only
  rw [if_pos hT]
  show Looks _ _ (pure (if (Value.type T == .type "builtin_function_or_method" || Value.type T == .type "method-wrapper") = true then Keeper.machine else Keeper.caller)) _
  rw [if_pos hT']
  exact .now
theorem callBd0 {id T : String} {first : List Value} {Q : Value → Shared → Prop} {s : Shared} (hT : ((Value.type T : Value) != .type "method") = true) (hT' : (Value.type T == .type "builtin_function_or_method" || Value.type T == .type "method-wrapper") = true)
    (hh : s.heap.get? q' = some (boundO T id t)) (q : wpAny (model PR w) A (call (.ref q') (first ++ [])) Q E s) : wpAny (model PR w) A (callWith pos (.ref q') first (backTo pos (starEach [] env)) []) Q E s := by
  refine callWith_of (P := fun h => h.get? q' = some (boundO T id t)) rfl (fun h hh => ⟨.machine, .inr (.inl rfl), ?_⟩) (evalArgs_nil3 ⟨hh, q⟩)
  refine (Looks.ld (part := none) hh).andThen ?_
  dsimp only
  rw [if_pos hT]
  show Looks _ _ (pure (if (Value.type T == .type "builtin_function_or_method" || Value.type T == .type "method-wrapper") = true then Keeper.machine else Keeper.caller)) _
  rw [if_pos hT']
  exact .now
theorem od_notOrdered {nm : String} {args : Args} {Q : Unit → Shared → Prop} (T : OdAt w h pe t td fs nf xs ep) (ha : args.pos.headD .none = .ref t) (q : Q () ⟨h, G, D, tk, O⟩) : wpAny (model PR w) A (Builtin.Dict.notOrdered nm args) Q E ⟨h, G, D, tk, O⟩ := by
  unfold Builtin.Dict.notOrdered
  split
  · rw [ha]
    refine wpAny_bind (T.inst.type.at ?_)
    refine wpAny_ite ?_
    rw [if_pos (by decide)]
    have hno : Looks (model PR w) h (isInstance (.ref t) (.type "collections.OrderedDict")) false := T.inst.type.andThen (looks_subIn T.X (kd_od w))
    refine wpAny_bind (hno.at ?_)
    exact wpAny_pure q
  · exact wpAny_pure q
theorem od_setBody {Q : Fin → Shared → Prop} (hu : A.units < cLine) (T : OdAt w h pe t td fs nf xs ep) (hk : IsNm w pe k a) (hz : xs.length ≤ 1000)
    (q : ∀ tk' n' h', Heap.SameBut t h h' → h'.get? t = some (dOb w (.ref 145) (some td) (storedH xs k a v) n') → Q (.done (.ret .none)) ⟨h', G, D, tk', O⟩) :
    wpAny (model PR w) A (Builtin.«dict.__setitem__» ⟨[.ref t, .ref a, v], []⟩) Q E ⟨h, G, D, tk, O⟩ := by
  unfold Builtin.«dict.__setitem__»
  refine wpAny_bind (od_notOrdered T rfl ?_)
  show wpAny _ _ (dictSet t (.ref a) v >>= _) _ _ _
  exact wpAny_bind (dset hu T.p hk T.o T.x hz fun tk' n' h' hs hg => wpAny_pure (q tk' n' h' hs hg))
theorem appendL {d : Addr} {its : Array Value} {n : Nat} {x : Value} {Q : Value → Shared → Prop} (S : SL h₀ L m h mu pe) (r : Rp d (PySem.W.listOf its n) (PySem.W.listOf (its.push x) (n + 1)) mu mu') (hz : its.size ≤ 1000)
    (q : ∀ h', SL h₀ L m h' mu' pe → Q .none ⟨h', G, D, tk, O⟩) : wpAny (model PR w) A (call (.builtin "list.append") [.ref d, x]) Q E ⟨h, G, D, tk, O⟩ :=
  append_K S.fr S.nw (S.upd r) (fun h' F N => q h' ⟨F, N, S.nd' r⟩) (by rw [sizeLine_eq]; omega)
theorem OR.rK {r : OR} {ks : List (Nm × Addr)} {n : Nat} : Rp r.kl r.oK ({ r with ks := ks, nk := n } : OR).oK (r.led w ++ mr) (({ r with ks := ks, nk := n } : OR).led w ++ mr) := .tail (.tail (.tail .head))
theorem OR.rD {r : OR} {b : Bool} : Rp r.td (r.oD w) (({ r with b := b } : OR).oD w) (r.led w ++ mr) (({ r with b := b } : OR).led w ++ mr) := .tail .head
theorem OR.rT {r : OR} {xs : Ents} {n : Nat} : Rp r.t (r.oT w) (({ r with xs := xs, nt := n } : OR).oT w) (r.led w ++ mr) (({ r with xs := xs, nt := n } : OR).led w ++ mr) := .head
theorem OR.rC {r : OR} {cs : Ents} {n : Nat} : Rp r.kc (r.oC w) (({ r with cs := cs, nc := n } : OR).oC w) (r.led w ++ mr) (({ r with cs := cs, nc := n } : OR).led w ++ mr) := .tail (.tail .head)
theorem refs_push {ks : List (Nm × Addr)} {k : Nm} {a : Addr} : (refs ks).toArray.push (.ref a) = (refs (ks ++ [(k, a)])).toArray := by simp [refs]
theorem od_append {r : OR} {k : Nm} {a kl : Addr} {Q : Value → Shared → Prop} (S : SL h₀ L m h (r.led w ++ mr) pe) (hz : r.ks.length < 1000)
    (q : ∀ h', SL h₀ L m h' (({ r with ks := r.ks ++ [(k, a)], nk := r.nk + 1 } : OR).led w ++ mr) pe → Q .none ⟨h', G, D, tk, O⟩) (ht : r.kl = kl := by rfl) : wpAny (model PR w) A (call (.builtin "list.append") [.ref kl, .ref a]) Q E ⟨h, G, D, tk, O⟩ := by
  subst ht
  refine appendL (its := (refs r.ks).toArray) (n := r.nk) S ?_ (by simp [refs]; omega) q
  have := @OR.rK w mr r (r.ks ++ [(k, a)]) (r.nk + 1)
  rw [refs_push (k := k)]
  exact this
section
variable {r : OR} {expr : Bool} {Q : Value → Shared → Prop}
theorem od_getK (S : SL h₀ L m h (r.led w ++ mr) pe) (X : (hd.heap_39 w.params).In h) (q : Q (.ref r.kl) ⟨h, G, D, tk + 1, O⟩) (ht : r.t = t := by rfl) : wpAny (model PR w) A (getAttr (.ref t) nK expr) Q E ⟨h, G, D, tk, O⟩ := by
  subst ht; exact odGet X (OR.inst S) (ka_K w) odF_K rfl q
theorem od_getC (S : SL h₀ L m h (r.led w ++ mr) pe) (X : (hd.heap_39 w.params).In h) (q : Q (.ref r.kc) ⟨h, G, D, tk + 1, O⟩) (ht : r.t = t := by rfl) : wpAny (model PR w) A (getAttr (.ref t) nC expr) Q E ⟨h, G, D, tk, O⟩ := by
  subst ht; exact odGet X (OR.inst S) (ka_C w) odF_C rfl q
theorem od_getD (S : SL h₀ L m h (r.led w ++ mr) pe) (X : (hd.heap_39 w.params).In h) (q : Q (.bool r.b) ⟨h, G, D, tk + 1, O⟩) (ht : r.t = t := by rfl) : wpAny (model PR w) A (getAttr (.ref t) nD expr) Q E ⟨h, G, D, tk, O⟩ := by
  subst ht; exact odGet X (OR.inst S) (ka_D w) odF_D rfl q
theorem od_getL {t4 : Tok} {ls : Addr} (S : SL h₀ L m h (r.led w ++ mr) pe) (X : (hd.heap_39 w.params).In h) (hl : r.ln = some (t4, ls)) (q : Q (.ref ls) ⟨h, G, D, tk + 1, O⟩) (ht : r.t = t := by rfl) : wpAny (model PR w) A (getAttr (.ref t) nL expr) Q E ⟨h, G, D, tk, O⟩ := by
  subst ht
  refine odGet X (OR.inst S) (ka_L w) (v := .ref ls) ?_ rfl q
  show getL nL (odF w r.t1 r.t2 r.t3 r.kc r.kl r.b r.ln) = _
  rw [hl]; exact odF_L
end
section
variable {r : OR} {Q : Unit → Shared → Prop}
theorem od_setD {b' : Bool} (S : SL h₀ L m h (r.led w ++ mr) pe) (X : (hd.heap_39 w.params).In h) (q : ∀ h', SL h₀ L m h' (({ r with b := b' } : OR).led w ++ mr) pe → Q () ⟨h', G, D, tk + 2, O⟩) (ht : r.t = t := by rfl) :
    wpAny (model PR w) A (setAttr (.ref t) nD (.bool b')) Q E ⟨h, G, D, tk, O⟩ := by
  subst ht; exact odSet S X (OR.inst S) rfl (kt_D w) odF_Ds odF_putD (.tail .head) odF_len q
theorem od_setK {kl : Addr} {n' : Nat} (S : SL h₀ L m h ((kl, PySem.W.listOf #[] n') :: (r.led w ++ mr)) pe) (X : (hd.heap_39 w.params).In h)
    (q : ∀ h', SL h₀ L m h' (({ r with kl := kl, nk := n', ks := [] } : OR).led w ++ mr) pe → Q () ⟨h', G, D, tk + 2, O⟩) (ht : r.t = t := by rfl) :
    wpAny (model PR w) A (setAttr (.ref t) nK (.ref kl)) Q E ⟨h, G, D, tk, O⟩ := by
  subst ht
  refine odSet S X (OR.inst (S.drop1)) rfl (kt_K w) odF_Ks odF_putK (.tail (.tail .head)) odF_len fun h' S' => q h' ?_
  have hp : List.Perm ((kl, PySem.W.listOf #[] n') :: (r.t, r.oT w) :: (r.td, dictOf (odF w r.t1 r.t2 r.t3 r.kc kl r.b r.ln) r.nd) :: (r.kc, r.oC w) :: (r.kl, r.oK) :: (r.lens ++ mr))
      ((r.t, r.oT w) :: (r.td, dictOf (odF w r.t1 r.t2 r.t3 r.kc kl r.b r.ln) r.nd) :: (r.kc, r.oC w) :: (kl, PySem.W.listOf #[] n') :: (r.lens ++ ((r.kl, r.oK) :: mr))) :=
    (List.Perm.swap _ _ _).trans (.cons _ ((List.Perm.swap _ _ _).trans (.cons _ ((List.Perm.swap _ _ _).trans (.cons _ (.cons _ List.perm_middle.symm))))))
  have S1 := SL.perm (mu' := ({ r with kl := kl, nk := n', ks := [] } : OR).led w ++ ((r.kl, r.oK) :: mr)) S' hp
  refine S1.sub ?_
  exact ((List.Sublist.refl _).append (List.sublist_cons_self _ _)).append (List.Sublist.refl _)
end
end
section
variable {w : World} {A A₀ : Around} {base h₀ h : Heap} {outer : List Env} {env : Env} {L : Addr} {p : Program} {loose : List Str} {mean : ExcName → Option Value} {mg mb m : Str → Option Value} {mu mr pe : Lg}
  {G : Array GenState} {D : Drawn} {tk : Nat} {O : OsState} {R : Result → Shared → Prop}

theorem sd_setitem {r : OR} {a : Addr} {k : Nm} {v : Value} (C : Fm w A A₀ base outer env h₀ L p loose mean mg mb) (S : SL h₀ L m h (r.led w ++ mr) pe) (ok : r.Ok w pe) (hk : IsNm w pe k a) (hz : r.xs.length < 1000) (hzk : r.ks.length < 1000) (hd : A.depth < 900) (hu : A.units < 9000)
    (post : ∀ n1 n2 h' tk', SL h₀ L m h' (({ r with xs := storedH r.xs k a v, nt := n1, ks := if k ∈ r.xs.map (·.1) then r.ks else r.ks ++ [(k, a)], b := if k ∈ r.xs.map (·.1) then r.b else true, nk := n2 } : OR).led w ++ mr) pe → R (.ok (.ret .none)) ⟨h', G, D, tk', O⟩) :
    codeAny (model PR w) A (.call (.ref 45) ⟨[.ref r.t, .ref a, v], []⟩) R ⟨h, G, D, tk, O⟩ := by
  refine' enterS (binds := [("self", .ref r.t), ("key", .ref a), ("value", v)]) C S ?k6 ?k7 ?k8 ?k9 ?kB ?_ ?c2 ?c3 ?c4 ?c5
  case k6 => k_is
  case k7 => k_is
  case k8 => show A.depth < 1000; omega
  case k9 => exact BindsTo.of_eq rfl
  case kB => exact locs rfl
  case c2 => decide
  case c3 => exact rfl
  case c4 => exact rfl
  case c5 => exact rfl
  intro g L' h₁ C' S'
  refine midAt (P := fun s' => ∃ n2 h' tk', s' = ⟨h', G, D, tk', O⟩ ∧ SL g L' (fun y => ([("self", .ref r.t), ("key", .ref a), ("value", v)] : List (Str × Value)).reverse.lookup y) h' (({ r with ks := if k ∈ r.xs.map (·.1) then r.ks else r.ks ++ [(k, a)], b := if k ∈ r.xs.map (·.1) then r.b else true, nk := n2 } : OR).led w ++ mr) pe) ?_ ?_
  · walk_at "ms"
    refine od_notIn (by show A.units + 3 + 1 < 9900; omega) (OR.odAt S' (S'.X C') ok.x ok.st) hk fun tk' => ?_
    walk_at "m"
    by_cases hin : k ∈ r.xs.map (·.1)
    · rw [if_neg (by simp [hin])]
      walk_at "m"
      refine ⟨rfl, r.nk, _, _, rfl, ?_⟩
      simp only [if_pos hin]
      exact S'
    · rw [if_pos (by simp [hin])]
      walk_at "ms"
      refine od_getK S' (S'.X C') ?_
      refine getMethod_list_append (OR.at S').2.2.2 rfl rfl ?_
      refine callB (mach _) ?_ rfl rfl
      walk_at "ms"
      refine od_append (k := k) S' hzk fun h₂ S₂ => ?_
      walk_at "ms"
      refine od_setD S₂ (S₂.X C') fun h₃ S₃ => ?_
      walk_at "m"
      refine ⟨rfl, r.nk + 1, _, _, rfl, ?_⟩
      simp only [if_neg hin]
      exact S₃
  · rintro _ ⟨n2, h₂, tk₂, rfl, S₂⟩
    obtain ⟨r1, er1⟩ : ∃ r1 : OR, r1 = { r with ks := if k ∈ r.xs.map (·.1) then r.ks else r.ks ++ [(k, a)], b := if k ∈ r.xs.map (·.1) then r.b else true, nk := n2 } := ⟨_, rfl⟩
    rw [← er1] at S₂
    have et : r.t = r1.t := by rw [er1]
    have ex : r.xs = r1.xs := by rw [er1]
    have x1 : EntOk w pe r1.xs := ex ▸ ok.x
    have s1 : (r1.t == sysModules) = false := et ▸ ok.st
    rw [et] at S₂
    refine ks_wpAt_execs_cons ?_
    refine ks_wpAt_Expr_any (ks_wpAt_MethodCall ?_)
    refine' sup_node C' S₂ ?hf ?hp ?hv (OR.inst S₂) ?hc ?hvs ?hat ?hks ?hkc ?hka ?_
    case hf => k_is
    case hp => exact rfl
    case hv => exact rfl
    case hc => k_is
    case hvs => exact rfl
    case hat => decide
    case hks => exact rfl
    case hkc => exact rfl
    case hka => exact rfl
    intro so h₃ S₃
    refine sup_meth (S₃.X C') (OR.inst (S₃.drop1)) (S₃.get (.head _)) (clk _ (S₃.X C')) own_setitem (by decide) ty_setitem slot_wd_get entry_wd_get (args_wd_get _ _ _) (fun q => wd_bind (OR.at S₃.drop1).1 (looks_subIn (S₃.X C') (kd_dict w)) (by decide +kernel) q) ?_
    have S₄ := S₃.push (boundO "method-wrapper" "dict.__setitem__" r1.t)
    refine callBd (T := "method-wrapper") (id := "dict.__setitem__") (t := r1.t) (by decide) (by decide) ?_ rfl rfl
    walk_at "ms"
    refine ⟨S₄.get (.head _), ?_⟩
    refine call_bound (S₄.get (.head _)) rfl rfl (bc_setitem _ _ _ _) slot_dict_setitem.plain entry_dict_setitem ?_
    refine od_setBody (by show A.units + 3 + 1 < 9900; omega) (OR.odAt (r := r1) (S₄.drop1.drop1) (S₄.X C') x1 s1) hk (ex ▸ Nat.le_of_lt hz) fun tk₅ n₅ h₅ hs hg => ⟨_, rfl, ?_⟩
    have S₅ := (S₄.set (.tail (.tail (OR.rT (xs := storedH r1.xs k a v) (n := n₅)))) hs hg).drop1.drop1
    refine wpAt_of_wpAny (wpAny_execs_nil ?_)
    refine leave S₅ fun S₆ => ?_
    have := post n₅ n2 h₅ tk₅ (by rw [er1] at S₆; exact S₆)
    exact this
end
section
variable {w : World} {A A₀ : Around} {base h₀ h : Heap} {outer : List Env} {L : Addr} {m : Str → Option Value} {mu mu' mr pe : Lg}
  {G : Array GenState} {D : Drawn} {tk : Nat} {O : OsState} {E : Value → Shared → Prop} {d a : Addr} {v : Value} {n : Nat} {xs : Ents} {k : Nm}
abbrev eOb (w : World) (xs : Ents) (n : Nat) : Obj := dOb w (.type "dict") none xs n
theorem eDict (ho : h.get? d = some (eOb w xs n)) (x : EntOk w pe xs) (hp : ∀ p ∈ pe, h.get? p.1 = some p.2) : h.DictOfH (TKd w) d xs :=
  ⟨_, _, n, ho, ⟨rfl, rfl, rfl⟩, rfl, by simp, x.iss hp, x.nd⟩
theorem ed_in {Q : Value → Shared → Prop} (hu : A.units + 1 < cLine) (ho : h.get? d = some (eOb w xs n)) (x : EntOk w pe xs) (hp : ∀ p ∈ pe, h.get? p.1 = some p.2) (hs : (d == sysModules) = false) (hk : IsNm w pe k a)
    (q : ∀ tk', Q (.bool (decide (k ∈ xs.map (·.1)))) ⟨h, G, D, tk', O⟩) : wpAny (model PR w) A (compareOp .In (.ref a) (.ref d)) Q E ⟨h, G, D, tk, O⟩ :=
  wpAny_in_heap (knd := TKd w) hu (hk.is hp) hs (eDict ho x hp) (by rw [atKey_isSome]; exact q _)
theorem ed_notIn {Q : Value → Shared → Prop} (hu : A.units + 1 < cLine) (ho : h.get? d = some (eOb w xs n)) (x : EntOk w pe xs) (hp : ∀ p ∈ pe, h.get? p.1 = some p.2) (hs : (d == sysModules) = false) (hk : IsNm w pe k a)
    (q : ∀ tk', Q (.bool (!decide (k ∈ xs.map (·.1)))) ⟨h, G, D, tk', O⟩) : wpAny (model PR w) A (compareOp .NotIn (.ref a) (.ref d)) Q E ⟨h, G, D, tk, O⟩ :=
  wpAny_notIn_heap (knd := TKd w) hu (hk.is hp) hs (eDict ho x hp) (by rw [atKey_isSome]; exact q _)
theorem ed_getItem {Q : Value → Shared → Prop} {p : Addr × Value} (hu : A.units + 1 < cLine) (ho : h.get? d = some (eOb w xs n)) (x : EntOk w pe xs) (hp : ∀ p ∈ pe, h.get? p.1 = some p.2) (hk : IsNm w pe k a) (hx : atKey xs k = some p)
    (q : ∀ tk', Q p.2 ⟨h, G, D, tk', O⟩) : wpAny (model PR w) A (getItem (.ref d) (.ref a)) Q E ⟨h, G, D, tk, O⟩ :=
  wpAny_getItem_heap (knd := TKd w) hu (hk.is hp) (eDict ho x hp) hx (q _)
theorem ed_setItem {Q : Unit → Shared → Prop} (hu : A.units + 1 < cLine) (ho : h.get? d = some (eOb w xs n)) (x : EntOk w pe xs) (hp : ∀ p ∈ pe, h.get? p.1 = some p.2) (hk : IsNm w pe k a) (hz : xs.length ≤ 1000)
    (q : ∀ tk' n' h', Heap.SameBut d h h' → h'.get? d = some (eOb w (storedH xs k a v) n') → Q () ⟨h', G, D, tk', O⟩) : wpAny (model PR w) A (setItem (.ref d) (.ref a) v) Q E ⟨h, G, D, tk, O⟩ := by
  have hT : (⟨h, G, D, tk, O⟩ : Shared).TypeIs (.ref d) "dict" := ⟨_, ho, rfl⟩
  unfold setItem
  try with_reducible refine wpAny_holding ?_
  refine wpAny_bind (wpAny_sequenceKey hT (by decide) ?_)
  refine wpAny_bind (wpAny_callSpecial?_slot (name := Str.ofString "__setitem__") hT slot_dict_setitem
    (wpAny_call_entry slot_dict_setitem hT entry_dict_setitem ?_ (args_dict_setitem _ _ _)))
  show wpAny _ _ (Builtin.Dict.notOrdered "__setitem__" ⟨[.ref d, .ref a, v], []⟩ >>= _) _ _ _
  refine wpAny_bind (wpAny_notOrdered_dict hT ?_)
  show wpAny _ _ (dictSet d (.ref a) v >>= _) _ _ _
  exact wpAny_bind (dset hu hp hk ho x hz fun tk' n' h' hs hg => wpAny_pure ⟨.none, rfl, wpAny_pure (q tk' n' h' hs hg)⟩)
theorem isTupleY {Q : Value → Shared → Prop} (hp : ∀ p ∈ pe, h.get? p.1 = some p.2) (hk : IsNm w pe k a) (q : Q (.bool true) ⟨h, G, D, tk, O⟩) : wpAny (model PR w) A (call (.builtin "isinstance") [.ref a, .type "tuple"]) Q E ⟨h, G, D, tk, O⟩ := by
  obtain ⟨vs, n, hm, _⟩ := hk
  exact call_isinstance_yes (Tx := "tuple") ⟨_, hp _ hm, rfl⟩ meta_tuple isSubtype_tuple_tuple q
theorem k_105ga (w : World) : specialIn (hd.heap_39 w.params) (.ref 105) "__getattribute__" = some (some (.builtin "type.__getattribute__")) := by k_is
theorem k_105rd (w : World) : readsIn (hd.heap_39 w.params) 105 (.type "type") = true := by k_is
theorem clsMeth {f : Addr} {name : Str} {pl : Sem Bool} {Q : Value × List Value → Shared → Prop} (X : (hd.heap_39 w.params).In h) (e : findCls (hd.heap_39 w.params) (.ref 105) (.type "type") name = some (.val (.ref f)))
    (q : Q (.ref f, []) ⟨h, G, D, tk + 1, O⟩) : wpAny (model PR w) A (getMethod (.ref 105) name pl) Q E ⟨h, G, D, tk, O⟩ :=
  method_cls X (k_105ga w) (cls_value X (k_105rd w) e rfl q)
end
section
variable {w : World} {A A₀ : Around} {base h₀ h : Heap} {outer : List Env} {env : Env} {L : Addr} {p : Program} {loose : List Str} {mean : ExcName → Option Value} {mg mb m : Str → Option Value} {mu mr pe : Lg}
  {G : Array GenState} {D : Drawn} {tk : Nat} {O : OsState} {R : Result → Shared → Prop}
structure PutRel (r r' : OR) (k : Nm) (a : Addr) (v : Value) : Prop where
  t : r'.t = r.t
  xs : r'.xs = storedH r.xs k a v
  ks : r'.ks = if k ∈ r.xs.map (·.1) then r.ks else r.ks ++ [(k, a)]
  b : r'.b = if k ∈ r.xs.map (·.1) then r.b else true
  ln : r'.ln = r.ln
  lv : r'.lv = r.lv
  cs : r'.cs = if k ∈ r.cs.map (·.1) then r.cs else r.cs ++ [(k, a, .ref a)]
theorem PutRel.ok {r r' : OR} {k a v} (x : PutRel r r' k a v) (hkc : r'.kc = r.kc) (hk : IsNm w pe k a) (ok : r.Ok w pe) : r'.Ok w pe := by
  have e1 : r'.xs.map (·.1) = if k ∈ r.xs.map (·.1) then r.xs.map (·.1) else r.xs.map (·.1) ++ [k] := by
    rw [x.xs, storedH_keys, atKey_isSome]; simp only [decide_eq_true_eq]
  refine ⟨by rw [x.xs]; exact ok.x.put hk, ?_, ?_, ?_, ?_, ?_, by rw [x.t]; exact ok.st, by rw [hkc]; exact ok.sc⟩
  · rw [x.cs]
    split
    · exact ok.c
    · rename_i h
      refine ⟨fun y hy => ?_, ?_⟩
      · rcases List.mem_append.mp hy with z | z
        · exact ok.c.is y z
        · rw [List.mem_singleton] at z; subst z; exact hk
      · rw [List.map_append, List.nodup_append]
        refine ⟨ok.c.nd, by simp, fun b hb c hc e => h ?_⟩
        simp only [List.map_cons, List.map_nil, List.mem_singleton] at hc
        subst hc; subst e; exact hb
  · rw [x.ks]
    split
    · exact ok.k
    · intro y hy
      rcases List.mem_append.mp hy with z | z
      · exact ok.k y z
      · rw [List.mem_singleton] at z; subst z; exact hk
  · rw [x.ks, e1]
    split
    · exact ok.same
    · rw [List.map_append]; exact ok.same.append_right _
  · rw [x.cs, e1]
    intro y hy
    split
    · rename_i hc
      split at hy
      · exact ok.cin y hy
      · rcases List.mem_append.mp hy with z | z
        · exact ok.cin y z
        · rw [List.mem_singleton] at z; subst z; exact hc
    · rw [List.map_append]
      split at hy
      · exact List.mem_append_left _ (ok.cin y hy)
      · rcases List.mem_append.mp hy with z | z
        · exact List.mem_append_left _ (ok.cin y z)
        · exact List.mem_append_right _ (by simpa using z)
  · rw [x.cs]
    split
    · exact ok.cv
    · intro y hy
      rcases List.mem_append.mp hy with z | z
      · exact ok.cv y z
      · rw [List.mem_singleton] at z; subst z; exact ⟨a, rfl, hk⟩

theorem oid_setitem {r : OR} {a : Addr} {k : Nm} {v : Value} (C : Fm w A A₀ base outer env h₀ L p loose mean mg mb) (S : SL h₀ L m h (r.led w ++ mr) pe) (ok : r.Ok w pe) (hk : IsNm w pe k a) (hz : r.xs.length < 1000) (hzc : r.cs.length < 1000) (hd : A.depth < 880) (hu : A.units < 8900)
    (post : ∀ r' h' tk', PutRel r r' k a v → r'.Ok w pe → SL h₀ L m h' (r'.led w ++ mr) pe → R (.ok (.ret .none)) ⟨h', G, D, tk', O⟩) :
    codeAny (model PR w) A (.call (.ref 128) ⟨[.ref r.t, .ref a, v], []⟩) R ⟨h, G, D, tk, O⟩ := by
  have hzk : r.ks.length < 1000 := by have := ok.same.length_eq; simp only [List.length_map] at this; omega
  refine' enter (binds := [("self", .ref r.t), ("key", .ref a), ("value", v)]) (cl := []) C S ?k6 ?k7 ?k8 ?k9 ?kB ?_ ?c2 ?c3 ?c4 ?c5
  case k6 => k_is
  case k7 => k_is
  case k8 => show A.depth < 1000; omega
  case k9 => exact BindsTo.of_eq rfl
  case kB => exact locs rfl
  case c2 => decide
  case c3 => exact rfl
  case c4 => exact rfl
  case c5 => exact rfl
  intro g L' h₁ C' S'
  walk_at "ms"
  refine clsMeth (S'.X C') (by k_is) ?_
  refine callK (by k_is) ?_ rfl rfl
  walk_at "ms"
  refine ⟨S'.X C', wpAny_call ?_⟩
  refine sd_setitem (k := k) C' S' ok hk hz hzk (by show A.depth + 1 < 900; omega) (by show A.units + 3 < 9000; omega) fun n1 n2 h₂ tk₂ S₂ => ?_
  obtain ⟨r1, er1⟩ : ∃ r1 : OR, r1 = { r with xs := storedH r.xs k a v, nt := n1, ks := if k ∈ r.xs.map (·.1) then r.ks else r.ks ++ [(k, a)], b := if k ∈ r.xs.map (·.1) then r.b else true, nk := n2 } := ⟨_, rfl⟩
  rw [← er1] at S₂
  have et : r.t = r1.t := by rw [er1]
  have ec : r.kc = r1.kc := by rw [er1]
  have ecs : r.cs = r1.cs := by rw [er1]
  have c1 : EntOk w pe r1.cs := ecs ▸ ok.c
  have s1 : (r1.kc == sysModules) = false := ec ▸ ok.sc
  walk_at "ms"
  refine od_getC S₂ (S₂.X C') ?_ et.symm
  refine ed_notIn (by show A.units + 3 + 1 < 9900; omega) (OR.at S₂).2.2.1 c1 S₂.pes s1 hk fun tk₃ => ?_
  walk_at "m"
  by_cases hin : k ∈ r1.cs.map (·.1)
  · rw [if_neg (by simp [hin])]
    walk_at "ms"
    refine leave S₂ fun S₃ => ?_
    have pr : PutRel r r1 k a v := by
      subst er1
      exact ⟨rfl, rfl, rfl, rfl, rfl, rfl, (if_pos hin).symm⟩
    exact post r1 _ _ pr (pr.ok ec.symm hk ok) S₃
  · rw [if_pos (by simp [hin])]
    walk_at "ms"
    refine callB (mach _) ?_ rfl rfl
    walk_at "ms"
    refine isTupleY S₂.pes hk ?_
    walk_at "ms"
    rw [if_pos rfl]
    walk_at "ms"
    refine od_getC S₂ (S₂.X C') ?_ et.symm
    walk_at "ms"
    refine ed_setItem (by show A.units + 3 + 1 < 9900; omega) (OR.at S₂).2.2.1 c1 S₂.pes hk (by rw [← ecs]; omega) fun tk₄ n₄ h₄ hs hg => ?_
    have S₃ := S₂.set (OR.rC (cs := storedH r1.cs k a (.ref a)) (n := n₄)) hs hg
    walk_at "ms"
    refine leave S₃ fun S₄ => ?_
    have pr : PutRel r ({ r1 with cs := storedH r1.cs k a (.ref a), nc := n₄ } : OR) k a v := by
      subst er1
      refine ⟨rfl, rfl, rfl, rfl, rfl, rfl, ?_⟩
      have h0 : atKey r.cs k = none := by
        have := atKey_isSome (xs := r.cs) (k := k)
        rw [decide_eq_false hin] at this
        simpa using this
      rw [if_neg hin]
      exact storedH_new h0 _ _
    exact post _ _ _ pr (pr.ok ec.symm hk ok) S₄
end
theorem mk_od {K : Frag} {C : Addr} {oc : Value} {od : Option Addr} {cd : ClassData} {sl : Array (Option Value)} {l : List Value} (ho : K.lookup C = some ⟨oc, od, .cls cd, sl⟩) (hm : cd.mro = l) (h1 : cd.hasDel = false) (h2 : cd.abstract = false) (h3 : (sl.toList[4]?).join = some (.builtin "dict.__new__")) :
    ∃ oc od cd sl, K.lookup C = some ⟨oc, od, .cls cd, sl⟩ ∧ cd.mro = l ∧ cd.hasDel = false ∧ cd.abstract = false ∧ (sl.toList[4]?).join = some (.builtin "dict.__new__") := ⟨_, _, _, _, ho, hm, h1, h2, h3⟩
theorem kg_od (w : World) : ∃ oc od cd sl, (hd.heap_39 w.params).lookup 145 = some ⟨oc, od, .cls cd, sl⟩ ∧ cd.mro = [.ref 145, .ref 105, .type "dict", .type "object"] ∧ cd.hasDel = false ∧ cd.abstract = false ∧ (sl.toList[4]?).join = some (.builtin "dict.__new__") := by
  refine' mk_od ?h ?a ?b ?c ?d
  case h => k_is
  case a => rfl
  case b => rfl
  case c => rfl
  case d => rfl
theorem kg_call (w : World) : specialIn (hd.heap_39 w.params) (.ref 145) "__call__" = some (some (.builtin "type.__call__")) := by k_is
theorem kg_inst (w : World) : instIn (hd.heap_39 w.params) (.ref 145) (.type "type") = some true := by k_is
theorem kg_init (w : World) : findIn (hd.heap_39 w.params) (.ref 145) "__init__" = some (some (.ref 123)) := by k_is
theorem isFn123 (w : World) : typeIn (hd.heap_39 w.params) (.ref 123) = some (.type "function") := by k_is
theorem kg_self (w : World) : subIn (hd.heap_39 w.params) (.ref 145) (.ref 145) = some true := by k_is
theorem dn_kind : builtinKind "dict.__new__" = some .builtinFn := by decide +kernel
theorem dn_split : splitId "dict.__new__" = some ("dict", "__new__") := by decide +kernel
theorem dn_entry : entryFor table "dict.__new__" = some Builtin.«dict.__new__» := entryFor_of_tree (by kernel_rfl)
abbrev odO (dx : Addr) : Obj := { cls := .ref 145, dict := some dx, data := .dict #[] }
section
variable {w : World} {A A₀ : Around} {base h₀ h : Heap} {outer : List Env} {L : Addr} {m : Str → Option Value} {mu mu' mr pe : Lg}
  {G : Array GenState} {D : Drawn} {tk : Nat} {O : OsState} {E : Value → Shared → Prop} {R : Result → Shared → Prop}
theorem od_madeBy {M : Model} (X : (hd.heap_39 w.params).In h) : Looks M h (Bind.madeBy (.ref 145)) (some "dict.__new__") := by
  obtain ⟨oc, od, cd, sl, ho, hm, -, -, h4⟩ := kg_od w
  have hmro : Looks M h (mroOf (.ref 145)) [.ref 145, .ref 105, .type "dict", .type "object"] := hm ▸ (looks_clsIn X (by unfold clsIn; rw [ho])).andThen .now
  intro A Q E s k q
  unfold Bind.madeBy
  refine wpAny_bind (hmro A _ E s k ?_)
  rw [List.forIn_cons]
  refine wpAny_bind (wpAny_bind (wpAny_bind (wpAny_bind (wpAny_loadPart (k _ _ (X _ _ ho)) (wpAny_pure ?_)))))
  dsimp only
  rw [← Array.getElem?_toList, h4]
  exact wpAny_pure (wpAny_pure (wpAny_pure q))
theorem dn_args : argsOk "dict.__new__" ⟨[.ref 145], []⟩ := by unfold argsOk; kernel_rfl
theorem dn_check {B : Around} {Q : Unit → Shared → Prop} (q : Q () ⟨h, G, D, tk, O⟩) : wpAny (model PR w) B (match Manifest.signature? "dict.__new__" with | some sig => Bind.checkArgs "dict.__new__" sig ⟨[.ref 145], []⟩ | x => pure ()) Q E ⟨h, G, D, tk, O⟩ := by
  have ha := dn_args
  cases hsig : Manifest.signature? "dict.__new__" with
  | none => exact wpAny_pure q
  | some sig =>
    simp only [argsOk, hsig] at ha
    have h2 : Bind.checkArgs "dict.__new__" sig ⟨[.ref 145], []⟩ = pure () := ha
    show wpAny _ _ (Bind.checkArgs "dict.__new__" sig ⟨[.ref 145], []⟩) Q E _
    rw [h2]; exact wpAny_pure q
theorem od_new {B : Around} {Q : Result → Shared → Prop} (X : (hd.heap_39 w.params).In h)
    (q : Q (.ok (.ret (.ref (h.objs.size + 1)))) ⟨(h.push emptyDict).push (odO h.objs.size), G, D, tk, O⟩) : codeAny (model PR w) B (.call (.builtin "dict.__new__") ⟨[.ref 145], []⟩) Q ⟨h, G, D, tk, O⟩ := by
  obtain ⟨oc, od, cd, sl, ho, hm, hdel, habs, h4⟩ := kg_od w
  have hC := X _ _ ho
  have made := od_madeBy (M := model PR w) X
  have hmro : Looks (model PR w) h (mroOf (.ref 145)) [.ref 145, .ref 105, .type "dict", .type "object"] := hm ▸ (looks_clsIn X (by unfold clsIn; rw [ho])).andThen .now
  have sub := looks_subIn (M := model PR w) X (kd_dict w)
  refine codeAny_call_builtin_code (Code.quiet_builtin _ (by decide +kernel)) ?_
  simp only [checkBuiltinCall, dn_kind, dn_split]
  have base : Looks (model PR w) h (Bind.staticBase (.ref 145)) (.ref 145) := by
    intro A Q E s k q
    unfold Bind.staticBase
    refine wpAny_bind (hmro A _ E s k ?_)
    rw [List.forIn_cons]
    exact wpAny_bind (wpAny_bind (wpAny_bind (made A _ E s k (wpAny_pure (wpAny_pure (wpAny_pure q))))))
  rw [if_pos (by decide)]
  repeat (first | (with_reducible refine dn_check ?_) | simp only [bne_self_eq_false, Bool.false_eq_true, if_false, Bool.not_true] | lk)
  refine codeAny_builtin dn_entry ?_
  unfold Builtin.«dict.__new__»
  have hany : ([.ref 145, .ref 105, .type "dict", .type "object"] : List Value).any (fun | .type n => !["dict", "object", "collections.defaultdict", "collections.OrderedDict"].contains n | _ => false) = false := by decide
  repeat (first | rw [hany] | simp only [Bool.false_eq_true, if_false, Bool.not_true] | lk)
  refine nd_load (Heap.get?_push_of_some _ (Heap.get?_push_of_some _ hC)) ?_
  refine wpAny_pure (wpAny_pure (a := cd.hasDel) ?_)
  rw [hdel, if_neg (by decide)]
  refine wpAny_pure (wpAny_pure ?_)
  have e : (h.push emptyDict).objs.size = h.objs.size + 1 := Heap.size_push ..
  show Q (.ok (.ret (.ref (h.push emptyDict).objs.size))) _
  rw [e]; exact q
theorem od_make (X : (hd.heap_39 w.params).In h)
    (q : codeAny (model PR w) (A.under (.builtin "type.__call__" ⟨[.ref 145], []⟩)) (.call (.ref 123) ⟨[.ref (h.objs.size + 1)], []⟩) (InitBack (h.objs.size + 1) R) ⟨(h.push emptyDict).push (odO h.objs.size), G, D, tk, O⟩) :
    codeAny (model PR w) A (.call (.ref 145) ⟨[], []⟩) R ⟨h, G, D, tk, O⟩ := by
  obtain ⟨oc, od, cd, sl, ho, hm, hdel, habs, h4⟩ := kg_od w
  have hC := X _ _ ho
  have made := od_madeBy (M := model PR w) X
  have hmro : Looks (model PR w) h (mroOf (.ref 145)) [.ref 145, .ref 105, .type "dict", .type "object"] := hm ▸ (looks_clsIn X (by unfold clsIn; rw [ho])).andThen .now
  have call := looks_specialIn (M := model PR w) X (kg_call w)
  have typ := looks_instIn (M := model PR w) X (kg_inst w)
  refine codeAny_of_tree ?_
  show wpAny _ _ (callAny (.ref 145) _) _ _ _
  refine nd_load hC ?_
  show wpAny _ _ (callAny.viaDunder (.ref 145) _) _ _ _
  unfold callAny.viaDunder
  refine wpAny_bind (call.at ?_)
  dsimp only
  rw [tc_bind]
  refine wpAny_bind (wpAny_pure (wpAny_bind (wpAny_pure ?_)))
  refine wpAny_pure (a := Fin.again (.call (.builtin "type.__call__") ⟨[.ref 145], []⟩)) (And.intro rfl ?_)
  refine codeAny_call_builtin_at (Code.quiet_builtin _ (by decide +kernel)) entry_typeCall (check_slot tc_kind tc_split typ (tc_args _ _ _) ?_)
  unfold Builtin.«type.__call__»
  repeat (first | simp only [Bool.false_eq_true, if_false] | with_reducible refine wpAny_call ?_ | lk)
  refine od_new X ?_
  have k : ∀ b o, h.get? b = some o → ((h.push emptyDict).push (odO h.objs.size)).get? b = some o := fun b o e => Heap.get?_push_of_some _ (Heap.get?_push_of_some _ e)
  have hx : ((h.push emptyDict).push (odO h.objs.size)).get? (h.objs.size + 1) = some (odO h.objs.size) := by heap_get
  have t1 : Looks (model PR w) ((h.push emptyDict).push (odO h.objs.size)) (typeOf (.ref (h.objs.size + 1))) (.ref 145) := (Looks.ld hx).andThen .now
  have s1 := (looks_subIn (M := model PR w) X (kg_self w)).keeps k
  have i1 := (looks_findIn (M := model PR w) X (kg_init w)).keeps k
  have b1 := (bind_fn (M := model PR w) X (.ref (h.objs.size + 1)) (isFn123 w)).keeps k
  unfold isInstance callSpecial? specialOf
  repeat (first | with_reducible refine wpAny_call ?_ | lk)
  refine codeAny_mono q fun r s' z => ?_
  rcases r with e | (v | _ | _ | _) <;> first | exact z | exact z.elim | skip
  obtain ⟨rfl, z⟩ := z
  exact wpAny_pure (wpAny_pure z)
end
section
variable {w : World} {A A₀ : Around} {base h₀ h : Heap} {outer : List Env} {env : Env} {L : Addr} {p : Program} {loose : List Str} {mean : ExcName → Option Value} {mg mb m : Str → Option Value} {mu mr pe : Lg}
  {G : Array GenState} {D : Drawn} {tk : Nat} {O : OsState} {R : Result → Shared → Prop} {E : Value → Shared → Prop}
theorem big {h : Heap} (X : (hd.heap_39 w.params).In h) : 145 < h.objs.size := by
  obtain ⟨oc, od, cd, sl, ho, -⟩ := kg_od w
  exact Heap.lt_size (X _ _ ho)
theorem notSys {h : Heap} (X : (hd.heap_39 w.params).In h) {a : Addr} (ha : h.objs.size ≤ a) : (a == sysModules) = false := by
  have := big X
  rw [beq_eq_false_iff_ne]
  have h1 : 1 < a := Nat.lt_of_lt_of_le (Nat.lt_trans (by decide) this) ha
  exact Nat.ne_of_gt h1
theorem newDictL {pos : Pos} {Q : Value → Shared → Prop} (S : SL h₀ L m h mu pe) (q : Q (.ref h.objs.size) ⟨h.push (eOb w [] 0), G, D, tk, O⟩) : wpAny (model PR w) A (eval (.Dict [] [] pos) env) Q E ⟨h, G, D, tk, O⟩ := wpAny_Dict_empty q
theorem newListL {vs : List Value} {Q : Value → Shared → Prop} (hz : vs.length ≤ 1000) (q : Q (.ref h.objs.size) ⟨h.push (PySem.W.listOf vs.toArray 0), G, D, tk, O⟩) : wpAny (model PR w) A (newList vs) Q E ⟨h, G, D, tk, O⟩ :=
  wpAny_newObj_type q (by show vs.toArray.size ≤ sizeLine; rw [List.size_toArray, sizeLine_eq]; omega)
theorem newTupleL {vs : List Value} {Q : Value → Shared → Prop} (hz : vs.length ≤ 1000) (q : Q (.ref h.objs.size) ⟨h.push (tupO vs 0), G, D, tk, O⟩) : wpAny (model PR w) A (newTuple vs) Q E ⟨h, G, D, tk, O⟩ :=
  wpAny_newObj_type q (by show vs.toArray.size ≤ sizeLine; rw [List.size_toArray, sizeLine_eq]; omega)
theorem od_initBody {t td : Addr} {fs : List DictEntry} {nf ep : Nat} {xs : Ents} {Q : Fin → Shared → Prop} (T : OdAt w h pe t td fs nf xs ep) (q : Q (.done (.ret .none)) ⟨h, G, D, tk, O⟩) :
    wpAny (model PR w) A (Builtin.«dict.__init__» ⟨[.ref t], []⟩) Q E ⟨h, G, D, tk, O⟩ := by
  unfold Builtin.«dict.__init__» Builtin.Dict.selfAndRest
  refine wpAny_bind (wpAny_bind (od_notOrdered T rfl ?_))
  refine wpAny_bind (wpAny_pure (wpAny_pure ?_))
  show wpAny _ _ (Builtin.Dict.addKeywords t [] >>= _) _ _ _
  unfold Builtin.Dict.addKeywords
  exact wpAny_bind (wpAny_pure (wpAny_pure q))

theorem sd_init {t td kc : Addr} {t1 : Tok} {nf : Nat} (C : Fm w A A₀ base outer env h₀ L p loose mean mg mb) (S : SL h₀ L m h ((t, dOb w (.ref 145) (some td) [] 0) :: (td, dictOf [ent1 w nC t1 (.ref kc)] nf) :: (kc, eOb w [] 0) :: mr) pe) (hs : (t == sysModules) = false) (hc : (kc == sysModules) = false)
    (hd : A.depth < 900) (hu : A.units < 9000)
    (post : ∀ (r : OR) h' tk', r.t = t → r.xs = [] → r.ks = [] → r.cs = [] → r.b = true → r.Ok w pe → SL h₀ L m h' (r.led w ++ mr) pe → R (.ok (.ret .none)) ⟨h', G, D, tk', O⟩) :
    codeAny (model PR w) A (.call (.ref 37) ⟨[.ref t], []⟩) R ⟨h, G, D, tk, O⟩ := by
  refine' enterS (binds := [("self", .ref t)]) C S ?k6 ?k7 ?k8 ?k9 ?kB ?_ ?c2 ?c3 ?c4 ?c5
  case k6 => k_is
  case k7 => k_is
  case k8 => show A.depth < 1000; omega
  case k9 => exact BindsTo.of_eq rfl
  case kB => exact locs rfl
  case c2 => decide
  case c3 => exact rfl
  case c4 => exact rfl
  case c5 => exact rfl
  intro g L' h₁ C' S'
  have I : PySem.W.InstAt h₁ t (dOb w (.ref 145) (some td) [] 0) 145 (some (dictOf [ent1 w nC t1 (.ref kc)] nf)) := ⟨S'.get (.head _), rfl, rfl, S'.get (.tail _ (.head _))⟩
  refine ks_wpAt_execs_cons (wpAt_of_wpAny ?_)
  walk_at "ms"
  refine newListL (by decide) ?_
  have S₂ := S'.push (PySem.W.listOf #[] 0)
  walk_at "ms"
  refine odSet (es' := [ent1 w nC t1 (.ref kc), ent1 w nK _ (.ref h₁.objs.size)]) (n' := nf + 1) S₂ (S₂.X C') ⟨S₂.get (.tail _ (.head _)), rfl, rfl, S₂.get (.tail _ (.tail _ (.head _)))⟩ rfl (kt_K w) rfl rfl (.tail (.tail .head)) (by simp) fun h₃ S₃ => ?_
  refine ks_wpAt_execs_cons (wpAt_of_wpAny ?_)
  walk_at "ms"
  refine odSet (es' := [ent1 w nC t1 (.ref kc), ent1 w nK _ (.ref h₁.objs.size), ent1 w nD _ (.bool true)]) (n' := nf + 1 + 1) S₃ (S₃.X C') ⟨S₃.get (.tail _ (.head _)), rfl, rfl, S₃.get (.tail _ (.tail _ (.head _)))⟩ rfl (kt_D w) rfl rfl (.tail (.tail .head)) (by simp) fun h₄ S₄ => ?_
  obtain ⟨r, er⟩ : ∃ r : OR, r = { t := t, td := td, kc := kc, kl := h₁.objs.size, nt := 0, nd := nf + 1 + 1, nc := 0, nk := 0, t1 := t1, t2 := tk + 1 + 1, t3 := tk + 1 + 2 + 1, b := true, ln := none, nl := 0, lv := [], xs := [], ks := [], cs := [] } := ⟨_, rfl⟩
  have S₅ : SL g L' (fun y => ([("self", .ref t)] : List (Str × Value)).reverse.lookup y) h₄ (r.led w ++ mr) pe := by
    subst er
    exact S₄.perm ((List.Perm.swap _ _ _).trans (.cons _ ((List.Perm.swap _ _ _).trans (.cons _ (List.Perm.swap _ _ _)))))
  have ok : r.Ok w pe := by
    subst er
    exact ⟨EntOk.nil, EntOk.nil, fun _ h => (nomatch h), .nil, fun _ h => (nomatch h), fun _ h => (nomatch h), hs, hc⟩
  have et : t = r.t := by rw [er]
  rw [et] at S₅
  refine ks_wpAt_execs_cons ?_
  refine ks_wpAt_Expr_any (ks_wpAt_MethodCall ?_)
  refine' sup_node C' S₅ ?hf ?hp ?hv (OR.inst S₅) ?hc ?hvs ?hat ?hks ?hkc ?hka ?_
  case hf => k_is
  case hp => exact rfl
  case hv => exact rfl
  case hc => k_is
  case hvs => exact rfl
  case hat => decide
  case hks => exact rfl
  case hkc => exact rfl
  case hka => exact rfl
  intro so h₆ S₆
  refine sup_meth (S₆.X C') (OR.inst (S₆.drop1)) (S₆.get (.head _)) (clk _ (S₆.X C')) own_init (by decide) ty_init slot_wd_get entry_wd_get (args_wd_get _ _ _) (fun q => wd_bind (OR.at S₆.drop1).1 (looks_subIn (S₆.X C') (kd_dict w)) (by decide +kernel) q) ?_
  have S₇ := S₆.push (boundO "method-wrapper" "dict.__init__" r.t)
  refine callBd0 (T := "method-wrapper") (id := "dict.__init__") (t := r.t) (by decide) (by decide) (S₇.get (.head _)) ?_
  refine call_bound (S₇.get (.head _)) rfl rfl (bc_init _ _) F.slot_dict_init.plain F.entry_dict_init ?_
  refine od_initBody (OR.odAt (r := r) S₇.drop1.drop1 (S₇.X C') ok.x ok.st) ⟨_, rfl, ?_⟩
  refine wpAt_of_wpAny (wpAny_execs_nil ?_)
  refine leave S₇.drop1.drop1 fun S₈ => ?_
  exact post r _ _ et.symm (by rw [er]) (by rw [er]) (by rw [er]) (by rw [er]) ok S₈

theorem k_md123 (w : World) : True := trivial
theorem oid_init {t td : Addr} (C : Fm w A A₀ base outer env h₀ L p loose mean mg mb) (S : SL h₀ L m h ((t, dOb w (.ref 145) (some td) [] 0) :: (td, dictOf [] 0) :: mr) pe) (hs : (t == sysModules) = false)
    (hd : A.depth < 880) (hu : A.units < 8900)
    (post : ∀ (r : OR) h' tk', r.t = t → r.xs = [] → r.ks = [] → r.cs = [] → r.b = true → r.Ok w pe → SL h₀ L m h' (r.led w ++ mr) pe → R (.ok (.ret .none)) ⟨h', G, D, tk', O⟩) :
    codeAny (model PR w) A (.call (.ref 123) ⟨[.ref t], []⟩) R ⟨h, G, D, tk, O⟩ := by
  refine' enter (binds := [("self", .ref t)]) (cl := []) C S ?k6 ?k7 ?k8 ?k9 ?kB ?_ ?c2 ?c3 ?c4 ?c5
  case k6 => k_is
  case k7 => k_is
  case k8 => show A.depth < 1000; omega
  case k9 => exact BindsTo.of_eq rfl
  case kB => exact locs rfl
  case c2 => decide
  case c3 => exact rfl
  case c4 => exact rfl
  case c5 => exact rfl
  intro g L' h₁ C' S'
  walk_at "ms"
  refine newDictL S' ?_
  have S₂ := S'.push (eOb w [] 0)
  walk_at "ms"
  refine odSet (es' := [ent1 w nC _ (.ref h₁.objs.size)]) (n' := 0 + 1) S₂ (S₂.X C') ⟨S₂.get (.tail _ (.head _)), rfl, rfl, S₂.get (.tail _ (.tail _ (.head _)))⟩ rfl (kt_C w) rfl rfl (.tail (.tail .head)) (by simp) fun h₃ S₃ => ?_
  have hc := notSys (S'.X C') (Nat.le_refl h₁.objs.size)
  walk_at "ms"
  refine clsMeth (S₃.X C') (by k_is) ?_
  refine callK (by k_is) ?_ rfl rfl
  walk_at "ms"
  refine ⟨S₃.X C', wpAny_call ?_⟩
  have S₄ := S₃.perm ((List.Perm.swap _ _ _).trans (.cons _ (List.Perm.swap _ _ _)))
  refine sd_init C' S₄ hs hc (by show A.depth + 1 < 900; omega) (by show A.units + 3 < 9000; omega) fun r h₅ tk₅ e1 e2 e3 e4 e5 ok S₅ => ?_
  walk_at "ms"
  exact leave S₅ fun S₆ => post r _ _ e1 e2 e3 e4 e5 ok S₆

theorem Fm.under {c : Addr} {rest : List Value} {kw : List (Str × Value)} (C : Fm w A A₀ base outer env h₀ L p loose mean mg mb) : Fm w (A.under (.builtin "type.__call__" ⟨.ref c :: rest, kw⟩)) A₀ base outer env h₀ L p loose mean mg mb :=
  ⟨C.B, by show pushEnvs (Code.builtin "type.__call__" ⟨.ref c :: rest, kw⟩).envs A.frames = _; rw [show (Code.builtin "type.__call__" ⟨.ref c :: rest, kw⟩).envs = [] from rfl]; exact C.hA, C.hf, C.hk, C.X, C.T⟩
theorem und_depth {c : Addr} {rest : List Value} {kw : List (Str × Value)} : (A.under (.builtin "type.__call__" ⟨.ref c :: rest, kw⟩)).depth = A.depth + 1 := depth_under_kw ..
theorem und_units {c : Addr} {rest : List Value} {kw : List (Str × Value)} : (A.under (.builtin "type.__call__" ⟨.ref c :: rest, kw⟩)).units ≤ A.units + 5 := by
  show A.units + (Code.builtin "type.__call__" ⟨.ref c :: rest, kw⟩).cUnits ≤ _
  rw [show (Code.builtin "type.__call__" ⟨.ref c :: rest, kw⟩).cUnits = 1 from rfl]
  omega
theorem od_create {Q : Value → Shared → Prop} (C : Fm w A A₀ base outer env h₀ L p loose mean mg mb) (S : SL h₀ L m h mr pe) (hd : A.depth < 860) (hu : A.units < 8800)
    (post : ∀ (r : OR) h' tk', r.xs = [] → r.ks = [] → r.cs = [] → r.b = true → r.Ok w pe → SL h₀ L m h' (r.led w ++ mr) pe → Q (.ref r.t) ⟨h', G, D, tk', O⟩) :
    wpAny (model PR w) A (call (.ref 145) []) Q E ⟨h, G, D, tk, O⟩ := by
  have X := S.X C
  refine wpAny_call (od_make X ?_)
  have S₁ := S.push emptyDict
  have S₂ := S₁.push (odO h.objs.size)
  have e : (h.push emptyDict).objs.size = h.objs.size + 1 := Heap.size_push ..
  rw [e] at S₂
  refine oid_init (C.under (c := 145) (rest := []) (kw := [])) S₂ (notSys X (Nat.le_succ _)) (by rw [und_depth]; omega) (Nat.lt_of_le_of_lt und_units (by omega)) fun r h' tk' e1 e2 e3 e4 e5 ok S₃ => ?_
  rw [← e1]
  exact ⟨rfl, post r h' tk' e2 e3 e4 e5 ok S₃⟩
end
section
variable {w : World} {A A₀ : Around} {base h₀ h : Heap} {outer : List Env} {env : Env} {L : Addr} {p : Program} {loose : List Str} {mean : ExcName → Option Value} {mg mb m : Str → Option Value} {mu mr pe : Lg}
  {G : Array GenState} {D : Drawn} {tk : Nat} {O : OsState} {R : Result → Shared → Prop} {E : Value → Shared → Prop}
def cutK (ks : List (Nm × Addr)) (k : Nm) : List (Nm × Addr) := ks.eraseP fun y => decide (y.1 = k)
theorem rm_loop {kl a : Addr} {n : Nat} {k : Nm} (hu : A.units + 1 < cLine) (hp : ∀ p ∈ pe, h.get? p.1 = some p.2) (hk : IsNm w pe k a) : ∀ (post pre : List (Nm × Addr)), (∀ y ∈ pre ++ post, IsNm w pe y.1 y.2) → (∀ y ∈ pre, y.1 ≠ k) → k ∈ post.map (·.1) → (pre ++ post).length ≤ 1000 →
    h.get? kl = some (PySem.W.listOf (refs (pre ++ post)).toArray n) →
    (∀ h', Heap.SameBut kl h h' → h'.get? kl = some (PySem.W.listOf (refs (pre ++ cutK post k)).toArray (n + 1)) → R (.ok (.ret .none)) ⟨h', G, D, tk, O⟩) →
    codeAny (model PR w) A (.builtin "list.remove.loop" ⟨[.ref kl, .ref a, rawInt (pre.length : Int)], []⟩) R ⟨h, G, D, tk, O⟩
  | [], pre, _, _, hin, _, _, _ => by simp at hin
  | y :: post, pre, his, hne, hin, hz, hl, q => by
    refine codeAny_builtin MeetsSeq.entry_remove_loop ?_
    rw [Around.under_plainId MeetsSeq.plain_remove_loop _]
    unfold Builtin.«list.remove.loop»
    have hy := his y (List.mem_append_right _ (.head _))
    have hi : (refs (pre ++ y :: post)).toArray[((pre.length : Nat) : Int).toNat]? = some (.ref y.2) := by simp [refs]
    repeat (first | rw [hi] | ((with_reducible show wpAny _ _ (eqBool _ _) _ _ _); refine (TKd w).eqBool (x := y.1) (y := k) hu (hy.is hp) (hk.is hp) ?_) | lk)
    by_cases e : y.1 = k
    · rw [decide_eq_true e, if_pos rfl]
      unfold Builtin.List.listUpdate updateSeq
      repeat lk
      have hcut : cutK (y :: post) k = post := by unfold cutK; rw [List.eraseP_cons_of_pos (by simpa using e)]
      have hg : (h.update kl (Obj.mapSeq fun x => x.eraseIdxIfInBounds ((pre.length : Nat) : Int).toNat)).get? kl = some (PySem.W.listOf (refs (pre ++ cutK (y :: post) k)).toArray (n + 1)) := by
        have e1 : (refs (pre ++ y :: post)).toArray.eraseIdxIfInBounds ((pre.length : Nat) : Int).toNat = (refs (pre ++ post)).toArray := by
          have hlt : ((pre.length : Nat) : Int).toNat < (refs (pre ++ y :: post)).toArray.size := by simp [refs]
          rw [Array.eraseIdxIfInBounds, dif_pos hlt]
          apply Array.ext'
          rw [Array.toList_eraseIdx]
          simp only [refs, Int.toNat_natCast]
          rw [← map_eraseIdx']
          congr 1
          rw [List.eraseIdx_append_of_length_le (Nat.le_refl _), Nat.sub_self]
          rfl
        rw [Heap.get?_update_self _ hl (by simp [Obj.mapSeq, Obj.isFreed]), hcut]
        simp only [Obj.mapSeq, e1]
        have e2 : ((refs (pre ++ post)).toArray.size == (refs (pre ++ y :: post)).toArray.size) = false := by simp [refs]
        rw [e2]; rfl
      refine nd_bind (m := updatePart kl none _) (wpAny_updatePart hl (wpAny_pure ?_))
      refine wpAny_lookBehind hg ?_ ?_
      · exact pastItsLine_seq (by rw [sizeLine_eq]; simp only [refs, List.size_toArray, List.length_map, hcut] at *; simp only [List.length_append, List.length_cons] at hz ⊢; omega)
      · exact wpAny_pure (q _ (Heap.SameBut.update ..) hg)
    · rw [decide_eq_false e, if_neg (by decide)]
      have e1 : ((pre.length : Nat) : Int) + 1 = ((pre ++ [y]).length : Int) := by simp
      have e2 : pre ++ y :: post = (pre ++ [y]) ++ post := by simp
      have hcut : cutK (y :: post) k = y :: cutK post k := by unfold cutK; rw [List.eraseP_cons_of_neg (by simpa using e)]
      rw [e1]
      refine wpAny_pure (a := Fin.again _) ⟨plainId_quiet MeetsSeq.plain_remove_loop _, ?_⟩
      refine rm_loop hu hp hk post (pre ++ [y]) (e2 ▸ his) (fun z hz' => ?_) ?_ (e2 ▸ hz) (e2 ▸ hl) fun h' hs hg => q h' hs ?_
      · rcases List.mem_append.mp hz' with u | u
        · exact hne z u
        · rw [List.mem_singleton] at u; subst u; exact e
      · simp only [List.map_cons, List.mem_cons] at hin
        exact hin.resolve_left fun q => e q.symm
      · rw [hcut]
        simpa using hg

theorem gm_list {l : Addr} {its : Array Value} {n : Nat} {name : Str} {id : String} {pl : Sem Bool} {Q : Value × List Value → Shared → Prop} (hl : h.get? l = some (PySem.W.listOf its n)) (slot : Slot "list" name id) (hty : typeOf (.builtin id) = pure (.type "method_descriptor"))
    (q : Q (.builtin id, [.ref l]) ⟨h, G, D, tk, O⟩) : wpAny (model PR w) A (getMethod (.ref l) name pl) Q E ⟨h, G, D, tk, O⟩ :=
  getMethod_builtin (T := "list") ⟨_, hl, rfl⟩ F.plainAttrs_list slot hty (fun a e => by cases e; exact ⟨_, hl, rfl⟩) q
theorem od_remove {r : OR} {k : Nm} {a kl : Addr} {Q : Value → Shared → Prop} (S : SL h₀ L m h (r.led w ++ mr) pe) (hu : A.units + 1 < cLine) (hk : IsNm w pe k a) (his : ∀ y ∈ r.ks, IsNm w pe y.1 y.2) (hin : k ∈ r.ks.map (·.1)) (hz : r.ks.length ≤ 1000)
    (q : ∀ h', SL h₀ L m h' (({ r with ks := cutK r.ks k, nk := r.nk + 1 } : OR).led w ++ mr) pe → Q .none ⟨h', G, D, tk, O⟩) (ht : r.kl = kl := by rfl) : wpAny (model PR w) A (call (.builtin "list.remove") [.ref kl, .ref a]) Q E ⟨h, G, D, tk, O⟩ := by
  subst ht
  have hl := (OR.at S).2.2.2
  refine wpAny_call (codeAny_call_builtin F.slot_list_remove.plain F.entry_list_remove (F.slot_list_remove.check _ _ _ _ _ _ _ _ ⟨_, hl, rfl⟩ (F.args_list_remove_2 _ _) ?_))
  show wpAny _ _ (pure (Fin.again (.builtin "list.remove.loop" ⟨[.ref r.kl, .ref a, rawInt (([] : List (Nm × Addr)).length : Int)], []⟩))) _ _ _
  refine wpAny_pure ⟨plainId_quiet MeetsSeq.plain_remove_loop _, ?_⟩
  refine rm_loop hu S.pes hk r.ks [] his (fun _ h => (nomatch h)) hin hz hl fun h' hs hg => ?_
  exact q h' (S.set OR.rK hs hg)
theorem od_delBody {t td : Addr} {fs : List DictEntry} {nf ep : Nat} {xs : Ents} {k : Nm} {a : Addr} {pr : Addr × Value} {Q : Fin → Shared → Prop} (hu : A.units < cLine) (T : OdAt w h pe t td fs nf xs ep) (hk : IsNm w pe k a) (hz : xs.length ≤ 1000) (hin : atKey xs k = some pr)
    (q : ∀ tk' n' h', Heap.SameBut t h h' → h'.get? t = some (dOb w (.ref 145) (some td) (cutH xs k) n') → Q (.done (.ret .none)) ⟨h', G, D, tk', O⟩) :
    wpAny (model PR w) A (Builtin.«dict.__delitem__» ⟨[.ref t, .ref a], []⟩) Q E ⟨h, G, D, tk, O⟩ := by
  unfold Builtin.«dict.__delitem__» Builtin.Dict.dictSlotArgs
  refine wpAny_bind (wpAny_bind (od_notOrdered T rfl ?_))
  refine wpAny_bind (wpAny_pure (wpAny_pure ?_))
  show wpAny _ _ (Builtin.Dict.takeOut t (.ref a) >>= _) _ _ _
  refine wpAny_bind (dtake hu T.p hk T.o T.x hz hin fun tk' n' h' hs hg => ?_)
  refine wpAny_bind (wpAny_letGo ?_)
  exact wpAny_pure (q tk' n' h' hs hg)
theorem ed_delItem {d : Addr} {xs : Ents} {n : Nat} {k : Nm} {a : Addr} {pr : Addr × Value} {Q : Unit → Shared → Prop} (hu : A.units + 1 < cLine) (ho : h.get? d = some (eOb w xs n)) (x : EntOk w pe xs) (hp : ∀ p ∈ pe, h.get? p.1 = some p.2) (hk : IsNm w pe k a) (hz : xs.length ≤ 1000) (hin : atKey xs k = some pr)
    (q : ∀ tk' n' h', Heap.SameBut d h h' → h'.get? d = some (eOb w (cutH xs k) n') → Q () ⟨h', G, D, tk', O⟩) : wpAny (model PR w) A (delItem (.ref d) (.ref a)) Q E ⟨h, G, D, tk, O⟩ := by
  have hT : (⟨h, G, D, tk, O⟩ : Shared).TypeIs (.ref d) "dict" := ⟨_, ho, rfl⟩
  unfold delItem
  try with_reducible refine wpAny_holding ?_
  refine wpAny_bind (wpAny_sequenceKey hT (by decide) ?_)
  refine wpAny_bind (wpAny_callSpecial?_slot (name := Str.ofString "__delitem__") hT F.slot_dict_delitem
    (wpAny_call_entry F.slot_dict_delitem hT F.entry_dict_delitem ?_ (F.args_dict_delitem_2 _ _)))
  unfold Builtin.«dict.__delitem__» Builtin.Dict.dictSlotArgs
  refine wpAny_bind (wpAny_bind (wpAny_notOrdered_dict hT ?_))
  refine wpAny_bind (wpAny_pure (wpAny_pure ?_))
  show wpAny _ _ (Builtin.Dict.takeOut d (.ref a) >>= _) _ _ _
  refine wpAny_bind (dtake hu hp hk ho x hz hin fun tk' n' h' hs hg => ?_)
  refine wpAny_bind (wpAny_letGo ?_)
  exact wpAny_pure ⟨_, rfl, wpAny_pure (q tk' n' h' hs hg)⟩
end
section
variable {w : World} {A A₀ : Around} {base h₀ h : Heap} {outer : List Env} {env : Env} {L : Addr} {p : Program} {loose : List Str} {mean : ExcName → Option Value} {mg mb m : Str → Option Value} {mu mr pe : Lg}
  {G : Array GenState} {D : Drawn} {tk : Nat} {O : OsState} {R : Result → Shared → Prop} {E : Value → Shared → Prop}
theorem atKey_some {xs : Ents} {k : Nm} (h : k ∈ xs.map (·.1)) : ∃ p, atKey xs k = some p := by
  have := atKey_isSome (xs := xs) (k := k)
  rw [decide_eq_true h] at this
  exact Option.isSome_iff_exists.mp this
theorem sd_delitem {r : OR} {a : Addr} {k : Nm} (C : Fm w A A₀ base outer env h₀ L p loose mean mg mb) (S : SL h₀ L m h (r.led w ++ mr) pe) (ok : r.Ok w pe) (hk : IsNm w pe k a) (hin : k ∈ r.xs.map (·.1)) (hz : r.xs.length < 1000) (hd : A.depth < 900) (hu : A.units < 9000)
    (post : ∀ n1 n2 h' tk', SL h₀ L m h' (({ r with xs := cutH r.xs k, nt := n1, ks := cutK r.ks k, b := true, nk := n2 } : OR).led w ++ mr) pe → R (.ok (.ret .none)) ⟨h', G, D, tk', O⟩) :
    codeAny (model PR w) A (.call (.ref 53) ⟨[.ref r.t, .ref a], []⟩) R ⟨h, G, D, tk, O⟩ := by
  have hzk : r.ks.length < 1000 := by have := ok.same.length_eq; simp only [List.length_map] at this; omega
  have hink : k ∈ r.ks.map (·.1) := (ok.same.mem_iff).mpr hin
  obtain ⟨pr, hpr⟩ := atKey_some hin
  refine' enterS (binds := [("self", .ref r.t), ("key", .ref a)]) C S ?k6 ?k7 ?k8 ?k9 ?kB ?_ ?c2 ?c3 ?c4 ?c5
  case k6 => k_is
  case k7 => k_is
  case k8 => show Around.depth _ < 1000; first | omega | (simp only [und_depth]; omega)
  case k9 => exact BindsTo.of_eq rfl
  case kB => exact locs rfl
  case c2 => decide
  case c3 => exact rfl
  case c4 => exact rfl
  case c5 => exact rfl
  intro g L' h₁ C' S'
  refine ks_wpAt_execs_cons (wpAt_of_wpAny ?_)
  walk_at "ms"
  refine od_in (by show A.units + 3 + 1 < 9900; omega) (OR.odAt S' (S'.X C') ok.x ok.st) hk fun tk' => ?_
  walk_at "m"
  rw [if_pos (by simpa using hin)]
  walk_at "ms"
  refine od_getK S' (S'.X C') ?_
  refine gm_list (OR.at S').2.2.2 F.slot_list_remove F.type_list_remove ?_
  refine callB (mach _) ?_ rfl rfl
  walk_at "ms"
  refine od_remove (k := k) S' (by show A.units + 3 + 1 < 9900; omega) hk ok.k hink (Nat.le_of_lt hzk) fun h₂ S₂ => ?_
  walk_at "ms"
  refine od_setD S₂ (S₂.X C') fun h₃ S₃ => ?_
  walk_at "m"
  obtain ⟨r1, er1⟩ : ∃ r1 : OR, r1 = { r with ks := cutK r.ks k, b := true, nk := r.nk + 1 } := ⟨_, rfl⟩
  have S₄ : SL g L' (fun y => ([("self", .ref r.t), ("key", .ref a)] : List (Str × Value)).reverse.lookup y) h₃ (r1.led w ++ mr) pe := by rw [er1]; exact S₃
  have et : r.t = r1.t := by rw [er1]
  have ex : r.xs = r1.xs := by rw [er1]
  have x1 : EntOk w pe r1.xs := ex ▸ ok.x
  have s1 : (r1.t == sysModules) = false := et ▸ ok.st
  rw [et] at S₄
  refine ks_wpAt_execs_cons ?_
  refine ks_wpAt_Expr_any (ks_wpAt_MethodCall ?_)
  refine' sup_node C' S₄ ?hf ?hp ?hv (OR.inst S₄) ?hc ?hvs ?hat ?hks ?hkc ?hka ?_
  case hf => k_is
  case hp => exact rfl
  case hv => exact rfl
  case hc => k_is
  case hvs => exact rfl
  case hat => decide
  case hks => exact rfl
  case hkc => exact rfl
  case hka => exact rfl
  intro so h₅ S₅
  refine sup_meth (S₅.X C') (OR.inst (S₅.drop1)) (S₅.get (.head _)) (clk _ (S₅.X C')) own_delitem (by decide) ty_delitem slot_wd_get entry_wd_get (args_wd_get _ _ _) (fun q => wd_bind (OR.at S₅.drop1).1 (looks_subIn (S₅.X C') (kd_dict w)) (by decide +kernel) q) ?_
  have S₆ := S₅.push (boundO "method-wrapper" "dict.__delitem__" r1.t)
  refine callBd (T := "method-wrapper") (id := "dict.__delitem__") (t := r1.t) (by decide) (by decide) ?_ rfl rfl
  walk_at "ms"
  refine ⟨S₆.get (.head _), ?_⟩
  refine call_bound (S₆.get (.head _)) rfl rfl (bc_delitem _ _ _) F.slot_dict_delitem.plain F.entry_dict_delitem ?_
  refine od_delBody (by show A.units + 3 + 1 < 9900; omega) (OR.odAt (r := r1) (S₆.drop1.drop1) (S₆.X C') x1 s1) hk (ex ▸ Nat.le_of_lt hz) (ex ▸ hpr) fun tk₅ n₅ h₆ hs hg => ⟨_, rfl, ?_⟩
  have S₇ := (S₆.set (.tail (.tail (OR.rT (xs := cutH r1.xs k) (n := n₅)))) hs hg).drop1.drop1
  refine wpAt_of_wpAny (wpAny_execs_nil ?_)
  refine leave S₇ fun S₈ => ?_
  exact post n₅ (r.nk + 1) h₆ tk₅ (by rw [er1] at S₈; exact S₈)

structure DelRel (r r' : OR) (k : Nm) : Prop where
  t : r'.t = r.t
  xs : r'.xs = cutH r.xs k
  ks : r'.ks = cutK r.ks k
  b : r'.b = true
  cs : r'.cs = cutH r.cs k
theorem cutK_keys {ks : List (Nm × Addr)} {k : Nm} : (cutK ks k).map (·.1) = (ks.map (·.1)).erase k := by
  induction ks with
  | nil => rfl
  | cons y ks ih =>
    unfold cutK at ih ⊢
    by_cases e : y.1 = k
    · rw [List.eraseP_cons_of_pos (by simpa using e), List.map_cons, e, List.erase_cons_head]
    · rw [List.eraseP_cons_of_neg (by simpa using e), List.map_cons, List.map_cons, List.erase_cons_tail (by simpa using e), ih]
theorem cutH_erase {xs : Ents} {k : Nm} (n : (xs.map (·.1)).Nodup) : (cutH xs k).map (·.1) = (xs.map (·.1)).erase k := by
  rw [cutH_keys, n.erase_eq_filter]
  congr 1
  funext x
  by_cases e : x = k <;> simp [e]
theorem DelRel.ok {r r' : OR} {k} (x : DelRel r r' k) (hkc : r'.kc = r.kc) (ok : r.Ok w pe) : r'.Ok w pe := by
  refine ⟨by rw [x.xs]; exact ok.x.cut, by rw [x.cs]; exact ok.c.cut, ?_, ?_, ?_, ?_, by rw [x.t]; exact ok.st, by rw [hkc]; exact ok.sc⟩
  · rw [x.ks]; exact fun y hy => ok.k y (List.mem_of_mem_eraseP hy)
  · rw [x.ks, x.xs, cutK_keys, cutH_erase ok.x.nd]; exact ok.same.erase k
  · rw [x.xs, x.cs, cutH_keys, cutH_keys]
    intro y hy
    rw [List.mem_filter] at hy ⊢
    exact ⟨ok.cin y hy.1, hy.2⟩
  · rw [x.cs]; exact fun y hy => ok.cv y (List.mem_filter.mp hy).1
theorem oid_delitem {r : OR} {a : Addr} {k : Nm} (C : Fm w A A₀ base outer env h₀ L p loose mean mg mb) (S : SL h₀ L m h (r.led w ++ mr) pe) (ok : r.Ok w pe) (hk : IsNm w pe k a) (hin : k ∈ r.xs.map (·.1)) (hz : r.xs.length < 1000) (hzc : r.cs.length < 1000) (hd : A.depth < 880) (hu : A.units < 8900)
    (post : ∀ r' h' tk', DelRel r r' k → r'.Ok w pe → SL h₀ L m h' (r'.led w ++ mr) pe → R (.ok (.ret .none)) ⟨h', G, D, tk', O⟩) :
    codeAny (model PR w) A (.call (.ref 135) ⟨[.ref r.t, .ref a], []⟩) R ⟨h, G, D, tk, O⟩ := by
  refine' enter (binds := [("self", .ref r.t), ("key", .ref a)]) (cl := []) C S ?k6 ?k7 ?k8 ?k9 ?kB ?_ ?c2 ?c3 ?c4 ?c5
  case k6 => k_is
  case k7 => k_is
  case k8 => show Around.depth _ < 1000; first | omega | (simp only [und_depth]; omega)
  case k9 => exact BindsTo.of_eq rfl
  case kB => exact locs rfl
  case c2 => decide
  case c3 => exact rfl
  case c4 => exact rfl
  case c5 => exact rfl
  intro g L' h₁ C' S'
  walk_at "ms"
  refine clsMeth (S'.X C') (by k_is) ?_
  refine callK (by k_is) ?_ rfl rfl
  walk_at "ms"
  refine ⟨S'.X C', wpAny_call ?_⟩
  refine sd_delitem (k := k) C' S' ok hk hin hz (by show A.depth + 1 < 900; omega) (by show A.units + 3 < 9000; omega) fun n1 n2 h₂ tk₂ S₂ => ?_
  obtain ⟨r1, er1⟩ : ∃ r1 : OR, r1 = { r with xs := cutH r.xs k, nt := n1, ks := cutK r.ks k, b := true, nk := n2 } := ⟨_, rfl⟩
  rw [← er1] at S₂
  have et : r.t = r1.t := by rw [er1]
  have ec : r.kc = r1.kc := by rw [er1]
  have ecs : r.cs = r1.cs := by rw [er1]
  have c1 : EntOk w pe r1.cs := ecs ▸ ok.c
  have s1 : (r1.kc == sysModules) = false := ec ▸ ok.sc
  have hinc : k ∈ r1.cs.map (·.1) := ecs ▸ ok.cin k hin
  obtain ⟨pc, hpc⟩ := atKey_some hinc
  walk_at "ms"
  refine od_getC S₂ (S₂.X C') ?_ et.symm
  refine ed_in (by show A.units + 3 + 1 < 9900; omega) (OR.at S₂).2.2.1 c1 S₂.pes s1 hk fun tk₃ => ?_
  walk_at "m"
  rw [if_pos (by simpa using hinc)]
  walk_at "m"
  walk_at "del"
  walk_at "ms"
  refine od_getC S₂ (S₂.X C') ?_ et.symm
  walk_at "ms"
  refine ed_delItem (by show A.units + 3 + 1 < 9900; omega) (OR.at S₂).2.2.1 c1 S₂.pes hk (by rw [← ecs]; omega) hpc fun tk₄ n₄ h₄ hs hg => ?_
  have S₃ := S₂.set (OR.rC (cs := cutH r1.cs k) (n := n₄)) hs hg
  refine wpAny_deleteEach_nil ?_
  walk_at "ms"
  refine leave S₃ fun S₄ => ?_
  have pr : DelRel r ({ r1 with cs := cutH r1.cs k, nc := n₄ } : OR) k := by
    subst er1
    exact ⟨rfl, rfl, rfl, rfl, rfl⟩
  exact post _ _ _ pr (pr.ok ec.symm ok) S₄
end
section
open PySem.W
variable {n : Nat} {lq : Nat → Nat → Bool}
structure SOrd (n : Nat) (lq : Nat → Nat → Bool) : Prop where
  irr : ∀ i, lq i i = false
  tr : ∀ i j k, lq i j = true → lq j k = true → lq i k = true
  tot : ∀ i j, i < n → j < n → i ≠ j → lq i j = false → lq j i = true
structure Pm (n : Nat) (p : Array Nat) : Prop where
  sz : p.size = n
  pm : p.toList.Perm (List.range n)
abbrev gp (p : Array Nat) (i : Nat) : Nat := p.getD i 0
theorem gp_eq (p : Array Nat) (i : Nat) : gp p i = (p[i]?).getD 0 := Array.getD_eq_getD_getElem? ..
theorem Pm.bd {p} (x : Pm n p) {i} (hi : i < n) : gp p i < n := by
  have h : i < p.size := by rw [x.sz]; exact hi
  have e : gp p i = p[i] := by simp [gp, Array.getD, h]
  rw [e]
  have : p[i] ∈ p.toList := by simp
  exact List.mem_range.mp (x.pm.mem_iff.mp this)
theorem Pm.ne {p} (x : Pm n p) {i j} (hi : i < n) (hj : j < n) (h : i ≠ j) : gp p i ≠ gp p j := by
  have nd : p.toList.Nodup := x.pm.nodup_iff.mpr List.nodup_range
  have h1 : i < p.size := by rw [x.sz]; exact hi
  have h2 : j < p.size := by rw [x.sz]; exact hj
  have e1 : gp p i = p.toList[i]'(by simpa using h1) := by simp [gp, Array.getD, h1]
  have e2 : gp p j = p.toList[j]'(by simpa using h2) := by simp [gp, Array.getD, h2]
  rw [e1, e2]
  intro q
  exact h ((List.getElem_inj nd).mp q)
theorem Pm.of {p q : Array Nat} (x : Pm n p) (h : q.Perm p) : Pm n q := ⟨by rw [h.size_eq, x.sz], (Array.perm_iff_toList_perm.mp h).trans x.pm⟩
theorem Pm.range : Pm n (List.toArray (List.range n)) := ⟨by simp, by simp⟩
def Asc (lq : Nat → Nat → Bool) (m : Nat) (p : Array Nat) : Prop := ∀ i j, i < j → j < m → lq (gp p i) (gp p j) = true
def Dsc (lq : Nat → Nat → Bool) (m : Nat) (p : Array Nat) : Prop := ∀ i j, i < j → j < m → lq (gp p j) (gp p i) = true
theorem Asc.succ {p m} (o : SOrd n lq) (a : Asc lq m p) (h : 0 < m → lq (gp p (m - 1)) (gp p m) = true) : Asc lq (m + 1) p := by
  intro i j hij hj
  by_cases e : j = m
  · subst e
    have h1 := h (by omega)
    by_cases e2 : i = j - 1
    · rw [e2]; exact h1
    · exact o.tr _ _ _ (a i (j - 1) (by omega) (by omega)) h1
  · exact a i j hij (by omega)
theorem Dsc.succ {p m} (o : SOrd n lq) (a : Dsc lq m p) (h : 0 < m → lq (gp p m) (gp p (m - 1)) = true) : Dsc lq (m + 1) p := by
  intro i j hij hj
  by_cases e : j = m
  · subst e
    have h1 := h (by omega)
    by_cases e2 : i = j - 1
    · rw [e2]; exact h1
    · exact o.tr _ _ _ h1 (a i (j - 1) (by omega) (by omega))
  · exact a i j hij (by omega)
theorem gp_rev {p : Array Nat} {m i : Nat} (hm : m ≤ p.size) (hi : i < m) : gp (kas_rev p 0 m) i = gp p (m - 1 - i) := by
  rw [gp_eq, gp_eq]
  unfold kas_rev
  rw [PyProof.Rows.getElem?_mirror_all hm, if_pos ⟨Nat.zero_le _, hi⟩]
  congr 2
  omega
theorem Dsc.rev {p m} (a : Dsc lq m p) (hm : m ≤ p.size) : Asc lq m (kas_rev p 0 m) := by
  intro i j hij hj
  rw [gp_rev hm (by omega), gp_rev hm hj]
  exact a _ _ (by omega) (by omega)
theorem gp_bub {p : Array Nat} {k l i : Nat} (hk : k < p.size) (hl : l ≤ k) (hi : i ≤ k) : gp (PyProof.Rows.bubble p k (k - l)) i = if i = l then gp p k else if l < i then gp p (i - 1) else gp p i := by
  simp only [gp_eq]
  rw [PyProof.Rows.getElem?_bubble hk _ (by omega)]
  have e : k - (k - l) = l := by omega
  rw [e]
  by_cases h1 : i = l
  · rw [if_pos h1, if_pos h1]
  · rw [if_neg h1, if_neg h1]
    by_cases h2 : l < i
    · rw [if_pos ⟨h2, hi⟩, if_pos h2]
    · rw [if_neg (fun q => h2 q.1), if_neg h2]
variable {cmp : Nat → Nat → (Bool → Shared → Prop) → Shared → Prop} {I : Shared → Prop}
def CmpOk (n : Nat) (lq : Nat → Nat → Bool) (I : Shared → Prop) (cmp : Nat → Nat → (Bool → Shared → Prop) → Shared → Prop) : Prop :=
  ∀ i j s C, i < n → j < n → I s → (∀ s', I s' → C (lq i j) s') → cmp i j C s
theorem ky {α : Type} {T₁ T₂ : KasT α} {Q : α → Shared → Prop} {s : Shared} (h : T₁.kasWp cmp Q s) : (if true = true then T₁ else T₂).kasWp cmp Q s := by rw [if_pos rfl]; exact h
theorem kn {α : Type} {T₁ T₂ : KasT α} {Q : α → Shared → Prop} {s : Shared} (h : T₂.kasWp cmp Q s) : (if false = true then T₁ else T₂).kasWp cmp Q s := by rw [if_neg (by simp)]; exact h
theorem so_asc {p : Array Nat} (o : SOrd n lq) (c : CmpOk n lq I cmp) (x : Pm n p) : ∀ (f m : Nat) (s : Shared) (Q : Nat → Shared → Prop), 1 ≤ m → m + f ≤ n → Asc lq m p → I s → (∀ m' s', m ≤ m' → m' ≤ m + f → Asc lq m' p → (m' = m → 0 < f → lq (gp p m) (gp p (m - 1)) = true) → I s' → Q m' s') → (kas_asc p f m).kasWp cmp Q s
  | 0, m, s, Q, h1, hf, a, hi, k => k m s (Nat.le_refl _) (by omega) a (fun _ h => absurd h (Nat.lt_irrefl _)) hi
  | f + 1, m, s, Q, h1, hf, a, hi, k => by
    show cmp (gp p m) (gp p (m - 1)) _ s
    refine c _ _ s _ (x.bd (by omega)) (x.bd (by omega)) hi fun s' hi' => ?_
    cases e : lq (gp p m) (gp p (m - 1)) with
    | true => refine ky ?_; exact k m s' (Nat.le_refl _) (by omega) a (fun _ _ => e) hi'
    | false =>
      refine kn ?_
      have e2 := o.tot _ _ (x.bd (by omega)) (x.bd (by omega)) (x.ne (by omega) (by omega) (by omega)) e
      exact so_asc o c x f (m + 1) s' Q (by omega) (by omega) (a.succ o fun _ => e2) hi' fun m' s'' q1 q2 q3 q4 q5 => k m' s'' (by omega) (by omega) q3 (fun e3 => by omega) q5
theorem so_desc {p : Array Nat} (o : SOrd n lq) (c : CmpOk n lq I cmp) (x : Pm n p) : ∀ (f m : Nat) (s : Shared) (Q : Array Nat × Nat × Nat → Shared → Prop), 1 ≤ m → m + f ≤ n → Dsc lq m p → I s → (∀ m' s', m ≤ m' → m' ≤ n → Dsc lq m' p → I s' → Q (p, m', 0) s') → (kas_desc f p m 0).kasWp cmp Q s
  | 0, m, s, Q, h1, hf, a, hi, k => k m s (Nat.le_refl _) (by omega) a hi
  | f + 1, m, s, Q, h1, hf, a, hi, k => by
    show cmp (gp p m) (gp p (m - 1)) _ s
    refine c _ _ s _ (x.bd (by omega)) (x.bd (by omega)) hi fun s' hi' => ?_
    cases e : lq (gp p m) (gp p (m - 1)) with
    | true =>
      refine ky ?_
      rw [if_neg (by omega)]
      exact so_desc o c x f (m + 1) s' Q (by omega) (by omega) (a.succ o fun _ => e) hi' fun m' s'' q1 q2 q3 q4 => k m' s'' (by omega) q2 q3 q4
    | false =>
      refine kn ?_
      show cmp (gp p (m - 1)) (gp p m) _ s'
      refine c _ _ s' _ (x.bd (by omega)) (x.bd (by omega)) hi' fun s'' hi'' => ?_
      rw [o.tot _ _ (x.bd (by omega)) (x.bd (by omega)) (x.ne (by omega) (by omega) (by omega)) e]
      refine ky ?_
      exact k m s'' (Nat.le_refl _) (by omega) a hi''
theorem so_count {p : Array Nat} (o : SOrd n lq) (c : CmpOk n lq I cmp) (x : Pm n p) (h2 : 2 ≤ n) {s : Shared} {Q : Nat × Array Nat → Shared → Prop} (hi : I s) (k : ∀ m p' s', 1 ≤ m → m ≤ n → Pm n p' → Asc lq m p' → I s' → Q (m, p') s') : (kas_count n p).kasWp cmp Q s := by
  unfold kas_count
  rw [KasT.kasWp_bind]
  refine so_asc o c x (n - 1) 1 s _ (Nat.le_refl _) (by omega) (fun i j h1 h3 => by omega) hi fun m s' h1 h3 h4 h5 hi' => ?_
  by_cases e : (m == n) = true
  · rw [if_pos e]
    exact k m p s' h1 (by omega) x h4 hi'
  · rw [if_neg e]
    have hne : m ≠ n := by simpa using e
    by_cases h6 : m > 1
    · rw [if_pos h6]
      show cmp (gp p 0) (gp p (m - 1)) _ s'
      refine c _ _ s' _ (x.bd (by omega)) (x.bd (by omega)) hi' fun s'' hi'' => ?_
      rw [h4 0 (m - 1) (by omega) (by omega)]
      refine ky ?_
      exact k m p s'' h1 (by omega) x h4 hi''
    · rw [if_neg h6]
      have em : m = 1 := by omega
      subst em
      unfold kas_descPart
      rw [KasT.kasWp_bind]
      have hd := h5 rfl (by omega)
      refine so_desc o c x (n - 2) 2 s' _ (by omega) (by omega) ?_ hi' fun m' s'' q1 q2 q3 q4 => ?_
      · intro i j h7 h8
        have : i = 0 ∧ j = 1 := by omega
        obtain ⟨rfl, rfl⟩ := this
        exact hd
      · show (if (0 : Nat) > 0 then _ else kas_tail3 m' n p : KasT _).kasWp cmp Q s''
        rw [if_neg (by omega)]
        unfold kas_tail3
        rw [KasT.kasWp_bind]
        have x' : Pm n (kas_rev p 0 m') := x.of (PyProof.Rows.mirror_perm ..)
        refine so_asc o c x' (n - m') m' s'' _ (by omega) (by omega) (q3.rev (by rw [x.sz]; exact q2)) q4 fun m2 s3 r1 r2 r3 r4 r5 => ?_
        exact k m2 _ s3 (by omega) (by omega) x' r3 r5
theorem so_place {p : Array Nat} {k : Nat} (o : SOrd n lq) (c : CmpOk n lq I cmp) (x : Pm n p) (hk : k < n) (a : Asc lq k p) : ∀ (f l r : Nat) (s : Shared) (Q : Nat → Shared → Prop), r - l ≤ f → l ≤ r → r ≤ k → (∀ i, i < l → lq (gp p i) (gp p k) = true) → (∀ i, r ≤ i → i < k → lq (gp p k) (gp p i) = true) → I s →
    (∀ l' s', l' ≤ k → (∀ i, i < l' → lq (gp p i) (gp p k) = true) → (∀ i, l' ≤ i → i < k → lq (gp p k) (gp p i) = true) → I s' → Q l' s') → (kas_place p k f l r).kasWp cmp Q s
  | 0, l, r, s, Q, hf, hl, hr, h1, h2, hi, q => q l s (by omega) h1 (fun i h => h2 i (by omega)) hi
  | f + 1, l, r, s, Q, hf, hl, hr, h1, h2, hi, q => by
    unfold kas_place
    by_cases e : l ≥ r
    · rw [if_pos e]
      exact q l s (by omega) h1 (fun i h => h2 i (by omega)) hi
    · rw [if_neg e]
      show cmp (gp p k) (gp p ((l + r) / 2)) _ s
      have hm : (l + r) / 2 < k := by omega
      refine c _ _ s _ (x.bd (by omega)) (x.bd (by omega)) hi fun s' hi' => ?_
      cases e2 : lq (gp p k) (gp p ((l + r) / 2)) with
      | true =>
        refine ky ?_
        refine so_place o c x hk a f l ((l + r) / 2) s' Q (by omega) (by omega) (by omega) h1 (fun i q1 q2 => ?_) hi' q
        by_cases e3 : i = (l + r) / 2
        · rw [e3]; exact e2
        · exact o.tr _ _ _ e2 (a _ _ (by omega) q2)
      | false =>
        refine kn ?_
        have e4 := o.tot _ _ (x.bd (by omega)) (x.bd (by omega)) (x.ne (by omega) (by omega) (by omega)) e2
        refine so_place o c x hk a f ((l + r) / 2 + 1) r s' Q (by omega) (by omega) (by omega) (fun i q1 => ?_) h2 hi' q
        by_cases e3 : i = (l + r) / 2
        · rw [e3]; exact e4
        · exact o.tr _ _ _ (a _ _ (by omega) (by omega)) e4
theorem so_bin (o : SOrd n lq) (c : CmpOk n lq I cmp) : ∀ (f k : Nat) (p : Array Nat) (s : Shared) (Q : Array Nat → Shared → Prop), k + f = n → Pm n p → Asc lq k p → I s → (∀ p' s', Pm n p' → Asc lq n p' → I s' → Q p' s') → (kas_bin f p k).kasWp cmp Q s
  | 0, k, p, s, Q, hf, x, a, hi, q => q p s x (by simpa [← hf] using a) hi
  | f + 1, k, p, s, Q, hf, x, a, hi, q => by
    unfold kas_bin
    rw [KasT.kasWp_bind]
    refine so_place o c x (by omega) a k 0 k s _ (by omega) (by omega) (by omega) (fun i h => by omega) (fun i h1 h2 => by omega) hi fun l s' hl h1 h2 hi' => ?_
    have hk : k < p.size := by rw [x.sz]; omega
    refine so_bin o c f (k + 1) _ s' Q (by omega) (x.of (PyProof.Rows.bubble_perm ..)) (fun i j hij hj => ?_) hi' q
    rw [gp_bub hk hl (by omega), gp_bub hk hl (by omega)]
    by_cases e1 : i = l
    · rw [if_pos e1, if_neg (by omega), if_pos (by omega)]
      exact h2 _ (by omega) (by omega)
    · rw [if_neg e1]
      by_cases e2 : l < i
      · rw [if_pos e2, if_neg (by omega), if_pos (by omega)]
        exact a _ _ (by omega) (by omega)
      · rw [if_neg e2]
        by_cases e3 : j = l
        · rw [if_pos e3]; exact h1 _ (by omega)
        · rw [if_neg e3]
          by_cases e4 : l < j
          · rw [if_pos e4]
            by_cases e5 : i = j - 1
            · omega
            · exact a _ _ (by omega) (by omega)
          · rw [if_neg e4]
            exact a _ _ hij (by omega)
theorem so_sort (o : SOrd n lq) (c : CmpOk n lq I cmp) (h2 : 2 ≤ n) {s : Shared} {Q : Array Nat → Shared → Prop} (hi : I s) (k : ∀ p s', Pm n p → Asc lq n p → I s' → Q p s') : (kas_sort n).kasWp cmp Q s := by
  unfold kas_sort
  rw [KasT.kasWp_bind]
  refine so_count o c .range h2 hi fun m p s' h1 h3 x a hi' => ?_
  dsimp only
  by_cases e : m < n
  · rw [if_pos e]
    have em : max m 1 = m := by omega
    rw [em]
    exact so_bin o c _ _ _ _ _ (by omega) x a hi' k
  · rw [if_neg e]
    have : m = n := by omega
    subst this
    exact k p s' x a hi'
end
section
variable {w : World} {A : Around} {E : Value → Shared → Prop} {s : Shared} {h₀ h : Heap} {L : Addr} {m : Str → Option Value} {mu mr pe : Lg}
  {G : Array GenState} {D : Drawn} {tk : Nat} {O : OsState} {d it : Addr} {xs : Ents} {n i : Nat}
def KIt (h : Heap) (it d : Addr) (i n ep : Nat) : Prop := h.IsKeyIter it d i n ep
abbrev kitOb (d : Addr) (n ep : Nat) : Obj := { cls := .type "dict_keyiterator", data := .fields #[.ref d, .int 0 0, .int n 0, .int ep 0] }
theorem ed_iter {Q : Value → Shared → Prop} (ho : h.get? d = some (eOb w xs n)) (hs : (d == sysModules) = false)
    (q : Q (.ref h.objs.size) ⟨h.push (kitOb d xs.length n), G, D, tk, O⟩) : wpAny (model PR w) A (pyIter (.ref d)) Q E ⟨h, G, D, tk, O⟩ := by
  have hT : (⟨h, G, D, tk, O⟩ : Shared).TypeIs (.ref d) "dict" := ⟨_, ho, rfl⟩
  refine wpAny_pyIter_slot hT F.slot_dict_iter (wpAny_call_entry F.slot_dict_iter hT F.entry_dict_iter ?_ (F.args_dict_iter_1 _))
  unfold Builtin.«dict.__iter__»
  refine wpAny_bind ?_
  unfold Builtin.Dict.dictSlotNone
  refine wpAny_bind (wpAny_notOrdered_dict hT ?_)
  show wpAny _ _ (pure (Value.ref d)) _ _ _
  refine wpAny_pure ?_
  show wpAny _ _ (Builtin.Dict.showsAll d >>= _) _ _ _
  unfold Builtin.Dict.showsAll
  rw [if_neg (by rw [hs]; exact Bool.false_ne_true)]
  refine wpAny_bind (wpAny_pure ?_)
  refine wpAny_bind (wpAny_dictEntries ho rfl ?_)
  refine wpAny_bind (wpAny_dictEpoch ho rfl ?_)
  refine wpAny_bind (wpAny_newObj_type (wpAny_pure ⟨_, rfl, "dict_keyiterator", _, ⟨_, Heap.get?_push_size _ rfl, rfl⟩, F.slot_dict_keyiterator_next.lookup, ?_⟩))
  simpa [rawInt] using q
theorem ed_next {k : Nm} {a : Addr} {v : Value} {Q : Option Value → Shared → Prop} (hit : h.IsKeyIter it d i xs.length n) (hod : h.get? d = some (eOb w xs n)) (hx : xs[i]? = some (k, a, v))
    (hQ : ∀ h', h'.IsKeyIter it d (i + 1) xs.length n → Heap.SameBut it h h' → Q (some (.ref a)) ⟨h', G, D, tk, O⟩) : wpAny (model PR w) A (pyNext (.ref it)) Q E ⟨h, G, D, tk, O⟩ := by
  obtain ⟨o, ho, hc, hd⟩ := id hit
  have hT := Heap.IsKeyIter.typeIs (s := ⟨h, G, D, tk, O⟩) hit
  unfold pyNext
  refine wpAny_bind (wpAny_attempt (wpAny_callSpecial?_slot (name := Str.ofString "__next__") hT F.slot_dict_keyiterator_next
    (wpAny_call_entry F.slot_dict_keyiterator_next hT F.entry_dict_keyiterator_next ?_ (F.args_dict_keyiterator_next_1 _))))
  refine wpAny_bind (wpAny_pure ?_)
  refine wpAny_bind ?_
  refine wpAny_bind ?_
  first | refine wpAny_bind (wpAny_typeNameOfWhole_keyiter hT (wpAny_pure ?_)) | refine wpAny_bind (wpAny_typeNameOf_keyiter hT (wpAny_pure ?_))
  refine wpAny_bind (wpAny_fieldsOf ho hd ?_)
  have hown : Builtin.Dict_items.ownsTuple "dict_keyiterator" = false := by decide
  simp only [hown, Bool.false_eq_true, if_false]
  show wpAny _ _ (if (Value.ref d == Value.none) = true then _ else _) _ _ _
  rw [if_neg (show ¬ ((Value.ref d == Value.none) = true) from Bool.false_ne_true)]
  refine wpAny_bind (wpAny_pure ?_)
  refine wpAny_bind (wpAny_dictEntries hod rfl ?_)
  have hsz : (xs.map (entryOfKey (TKd w))).toArray.size = xs.length := by simp
  rw [if_neg (by rw [hsz]; simp)]
  refine wpAny_bind (wpAny_pure ?_)
  refine wpAny_bind (wpAny_dictEpoch hod rfl ?_)
  rw [if_neg (by simp)]
  refine wpAny_pure ?_
  have hg : (xs.map (entryOfKey (TKd w))).toArray[i]? = some (entryOfKey (TKd w) (k, a, v)) := by simp [hx]
  simp only [show ¬ ((i : Int) < 0) from by omega, if_false, Int.toNat_natCast, hg]
  refine wpAny_bind ?_
  first | refine wpAny_bind (wpAny_typeNameOfWhole_keyiter hT (wpAny_pure ?_)) | refine wpAny_bind (wpAny_typeNameOf_keyiter hT (wpAny_pure ?_))
  refine wpAny_bind (wpAny_isOneOf_keyiter hT ?_)
  show wpAny _ _ (setField (.ref it) 1 (rawInt ((i : Int) + 1)) >>= _) _ _ _
  refine wpAny_bind (wpAny_setField ho hd (by simp) ?_)
  have hit' : (h.update it (Obj.mapFields (·.setIfInBounds 1 (rawInt ((i : Int) + 1))))).IsKeyIter it d (i + 1) xs.length n :=
    ⟨_, Heap.get?_update_self _ ho (Obj.isFreed_of_fields (Obj.data_mapFields hd _)), (Obj.cls_mapFields ..).trans hc, by rw [Obj.data_mapFields hd]; simp [rawInt]⟩
  refine wpAny_bind (wpAny_holding ?_)
  refine wpAny_bind (wpAny_isOneOf_keyiter (s := ⟨h.update it (Obj.mapFields (·.setIfInBounds 1 (rawInt ((i : Int) + 1)))), G, D, tk, O⟩) hit'.typeIs ?_)
  show wpAny _ _ (pure (Value.ref a)) _ _ _
  exact wpAny_pure (wpAny_pure ⟨_, rfl, wpAny_pure (hQ _ hit' (Heap.SameBut.update ..))⟩)
theorem ed_stop {Q : Option Value → Shared → Prop} (hh : A.handled = none) (hit : h.IsKeyIter it d i xs.length n) (hod : h.get? d = some (eOb w xs n)) (hx : xs.length ≤ i)
    (hQ : ∀ h', Heap.ExtBut it h h' → Q none ⟨h', G, D, tk, O⟩) : wpAny (model PR w) A (pyNext (.ref it)) Q E ⟨h, G, D, tk, O⟩ := by
  obtain ⟨o, ho, hc, hd⟩ := id hit
  have hT := Heap.IsKeyIter.typeIs (s := ⟨h, G, D, tk, O⟩) hit
  unfold pyNext
  refine wpAny_bind (wpAny_attempt (wpAny_callSpecial?_slot (name := Str.ofString "__next__") hT F.slot_dict_keyiterator_next
    (wpAny_call_entry F.slot_dict_keyiterator_next hT F.entry_dict_keyiterator_next ?_ (F.args_dict_keyiterator_next_1 _))))
  refine wpAny_bind (wpAny_pure ?_)
  refine wpAny_bind ?_
  refine wpAny_bind ?_
  first | refine wpAny_bind (wpAny_typeNameOfWhole_keyiter hT (wpAny_pure ?_)) | refine wpAny_bind (wpAny_typeNameOf_keyiter hT (wpAny_pure ?_))
  refine wpAny_bind (wpAny_fieldsOf ho hd ?_)
  have hown : Builtin.Dict_items.ownsTuple "dict_keyiterator" = false := by decide
  simp only [hown, Bool.false_eq_true, if_false]
  show wpAny _ _ (if (Value.ref d == Value.none) = true then _ else _) _ _ _
  rw [if_neg (show ¬ ((Value.ref d == Value.none) = true) from Bool.false_ne_true)]
  refine wpAny_bind (wpAny_pure ?_)
  refine wpAny_bind (wpAny_dictEntries hod rfl ?_)
  have hsz : (xs.map (entryOfKey (TKd w))).toArray.size = xs.length := by simp
  rw [if_neg (by rw [hsz]; simp)]
  refine wpAny_bind (wpAny_pure ?_)
  refine wpAny_bind (wpAny_dictEpoch hod rfl ?_)
  rw [if_neg (by simp)]
  refine wpAny_pure ?_
  have hge : (xs.map (entryOfKey (TKd w))).toArray.size ≤ i := by rw [hsz]; exact hx
  simp only [show ¬ ((i : Int) < 0) from by omega, if_false, Int.toNat_natCast, Array.getElem?_eq_none hge]
  refine wpAny_bind ?_
  first | refine wpAny_bind (wpAny_typeNameOfWhole_keyiter hT (wpAny_pure ?_)) | refine wpAny_bind (wpAny_typeNameOf_keyiter hT (wpAny_pure ?_))
  show wpAny _ _ (setField (.ref it) 0 .none >>= _) _ _ _
  refine wpAny_bind (wpAny_setField ho hd (by simp) ?_)
  show wpAny _ _ (newExc (.type "StopIteration") [] >>= _) _ _ _
  refine wpAny_bind ?_
  simp only [newExc, newTuple]
  refine wpAny_bind (wpAny_newObj_type ?_ (by size_fits))
  refine wpAny_bind (m := firstArgMember _ _) (wpAny_of_eq (a := Value.none) (by first | rfl | (simp only [firstArgMember]; rfl)) ?_)
  refine wpAny_newObj_type ?_ (by size_fits)
  simp only [raiseNew]
  refine wpAny_bind (wpAny_handled ?_)
  rw [show A.in1.handled = none from hh]
  refine wpAny_bind (wpAny_pure (wpAny_throw ?_))
  refine wpAny_bind (wpAny_isInstance (T := "StopIteration") (b := true) ⟨_, Heap.get?_push_size _ rfl, rfl⟩ isSubtype_stop ?_)
  exact wpAny_pure (hQ _ (((Heap.SameBut.update ..).extBut.push _).push _))
abbrev kvs (xs : Ents) : List Value := xs.map fun x => .ref x.2.1
theorem ed_walks (hh : A.handled = none) (I d : Addr) (hne : d ≠ I) (xs : Ents) (n : Nat) :
    Walks PR w A I [I, d] [I] xs.length (fun i v => (kvs xs)[i]? = some v) (fun i h => h.IsKeyIter I d i xs.length n ∧ h.get? d = some (eOb w xs n)) where
  sub := fun b hb => by simp at hb; simp [hb]
  frame := fun _ _ _ st hk => ⟨st.1.at fun o e => hk I (by simp) o e, hk d (by simp) _ st.2⟩
  item := fun i s Q E hi st hQ => by
    obtain ⟨x, hx⟩ : ∃ p, xs[i]? = some p := ⟨xs[i], by simp [hi]⟩
    obtain ⟨k, a, v⟩ := x
    obtain ⟨hp, G', D', tk', O'⟩ := s
    refine ed_next st.1 st.2 hx fun h' hit' hs' => ?_
    exact hQ (.ref a) h' tk' (by simp [kvs, hx]) ⟨hit', hs'.extBut d _ hne st.2⟩ fun b o hb e => hs'.extBut b o (fun h => hb (by simp [h])) e
  done := fun s Q E st hQ => by
    obtain ⟨hp, G', D', tk', O'⟩ := s
    exact ed_stop hh st.1 st.2 (Nat.le_refl _) fun h' he' => hQ h' tk' fun b o hb e => he' b o (fun h => hb (by simp [h])) e
  self := fun _ _ _ _ st hQ => wpAny_pyIter_keyiter st.1 hQ
theorem ed_src (lo : (d == sysModules) = false) : KdlSrc PR w "dict" d d xs.length (fun i v => (kvs xs)[i]? = some v) (fun h => h.get? d = some (eOb w xs n)) where
  type := fun _ hm => ⟨_, hm, rfl⟩
  there := fun _ hm => ⟨Heap.lt_size hm, Heap.lt_size hm⟩
  keep := fun _ _ hm hk => hk d (.inl rfl) _ hm
  notList := by decide
  notTuple := by decide
  hint := fun _ _ _ _ hm hq => kdl_hint_dict ⟨_, hm, rfl⟩ hq
  iter := fun _ s hh hm => ⟨_, _, (fun _ _ hq => by obtain ⟨hp, G', D', tk', O'⟩ := s; exact ed_iter hm lo hq), ed_walks hh _ d (Nat.ne_of_lt (Heap.lt_size hm)) xs n, ⟨⟨_, Heap.get?_push_size _ rfl, rfl, rfl⟩, Heap.get?_push_of_some _ hm⟩⟩
end
abbrev Sb := List (Nat × Tok)
def smE (bs : Sb) : Array (Int × Value) := (bs.map fun b => ((b.1 : Int), Value.int b.1 b.2)).toArray
def smT (bs : Sb) (led : Bool) : SetTable := { mask := 7, place := (bs.map (·.1)).toArray, dummies := #[], finger := 0, led := led, moves := 0, plain := true }
abbrev smO (bs : Sb) (n : Nat) (led : Bool) : Obj := { cls := .type "set", dict := none, data := .set (smE bs) n (smT bs led) }
def Sm (bs : Sb) : Prop := bs.map (·.1) ∈ ([[], [1], [2], [3], [1, 2], [1, 3], [2, 3], [1, 2, 3]] : List (List Nat))
def smIns (bs : Sb) (k : Nat) (t : Tok) : Sb := if k ∈ bs.map (·.1) then bs else bs.filter (fun b => decide (b.1 < k)) ++ (k, t) :: bs.filter (fun b => decide (k < b.1))
theorem Sm.cases {bs : Sb} (h : Sm bs) : bs = [] ∨ (∃ t, bs = [(1, t)]) ∨ (∃ t, bs = [(2, t)]) ∨ (∃ t, bs = [(3, t)]) ∨ (∃ t u, bs = [(1, t), (2, u)]) ∨ (∃ t u, bs = [(1, t), (3, u)]) ∨ (∃ t u, bs = [(2, t), (3, u)]) ∨ (∃ t u v, bs = [(1, t), (2, u), (3, v)]) := by
  unfold Sm at h
  match bs, h with
  | [], _ => simp
  | [(a, t)], h => simp at h ⊢; omega
  | [(a, t), (b, u)], h => simp at h ⊢; omega
  | [(a, t), (b, u), (c, v)], h => simp at h ⊢; omega
  | _ :: _ :: _ :: _ :: _, h => simp at h
theorem smIns_ok {bs : Sb} {k : Nat} {t : Tok} (h : Sm bs) (hk : k = 1 ∨ k = 2 ∨ k = 3) : Sm (smIns bs k t) := by
  rcases h.cases with rfl | ⟨_, rfl⟩ | ⟨_, rfl⟩ | ⟨_, rfl⟩ | ⟨_, _, rfl⟩ | ⟨_, _, rfl⟩ | ⟨_, _, rfl⟩ | ⟨_, _, _, rfl⟩ <;> rcases hk with rfl | rfl | rfl <;> simp [smIns, Sm]
theorem smIns_keys {bs : Sb} {k : Nat} {t : Tok} {x : Nat} : x ∈ (smIns bs k t).map (·.1) ↔ x ∈ bs.map (·.1) ∨ x = k := by
  unfold smIns
  split
  · rename_i h
    exact ⟨.inl, fun z => z.elim id fun e => e ▸ h⟩
  · simp only [List.map_append, List.map_cons, List.mem_append, List.mem_cons, List.mem_map, List.mem_filter, decide_eq_true_eq]
    constructor
    · rintro (⟨b, ⟨h1, h2⟩, rfl⟩ | rfl | ⟨b, ⟨h1, h2⟩, rfl⟩)
      · exact .inl ⟨b, h1, rfl⟩
      · exact .inr rfl
      · exact .inl ⟨b, h1, rfl⟩
    · rintro (⟨b, h1, rfl⟩ | rfl)
      · rcases Nat.lt_trichotomy b.1 k with q | q | q
        · exact .inl ⟨b, ⟨h1, q⟩, rfl⟩
        · exact .inr (.inl q)
        · exact .inr (.inr ⟨b, ⟨h1, q⟩, rfl⟩)
      · exact .inr (.inl rfl)
theorem sm_lay {bs : Sb} {k : Nat} {t : Tok} {led : Bool} (h : Sm bs) (hk : k = 1 ∨ k = 2 ∨ k = 3) (hn : k ∉ bs.map (·.1)) :
    layNew (smT bs led) (smE bs) (k : Int) (.int k t) = (smE (smIns bs k t), smT (smIns bs k t) led, false, false) := by
  rcases h.cases with rfl | ⟨_, rfl⟩ | ⟨_, rfl⟩ | ⟨_, rfl⟩ | ⟨_, _, rfl⟩ | ⟨_, _, rfl⟩ | ⟨_, _, rfl⟩ | ⟨_, _, _, rfl⟩ <;> rcases hk with rfl | rfl | rfl <;> first | (exfalso; revert hn; simp; done) | kernel_rfl
theorem sm_fits {bs : Sb} {led : Bool} (h : Sm bs) : (smT bs led).fits (smE bs).size = true := by
  rcases h.cases with rfl | ⟨_, rfl⟩ | ⟨_, rfl⟩ | ⟨_, rfl⟩ | ⟨_, _, rfl⟩ | ⟨_, _, rfl⟩ | ⟨_, _, rfl⟩ | ⟨_, _, _, rfl⟩ <;> rfl
theorem Sm.len {bs : Sb} (h : Sm bs) : bs.length ≤ 3 := by
  rcases h.cases with rfl | ⟨_, rfl⟩ | ⟨_, rfl⟩ | ⟨_, rfl⟩ | ⟨_, _, rfl⟩ | ⟨_, _, rfl⟩ | ⟨_, _, rfl⟩ | ⟨_, _, _, rfl⟩ <;> simp
theorem smE_size {bs : Sb} : (smE bs).size = bs.length := by simp [smE]
theorem sm_size {bs : Sb} (h : Sm bs) : (smE bs).size < scanBound := by
  rw [smE_size]
  exact Nat.lt_of_le_of_lt h.len (by decide)
theorem sm_full {bs : Sb} {led : Bool} (h : Sm bs) : (smT bs led).tooFull = false := by
  rcases h.cases with rfl | ⟨_, rfl⟩ | ⟨_, rfl⟩ | ⟨_, rfl⟩ | ⟨_, _, rfl⟩ | ⟨_, _, rfl⟩ | ⟨_, _, rfl⟩ | ⟨_, _, _, rfl⟩ <;> rfl
section
variable {w : World} {A : Around} {E : Value → Shared → Prop} {h : Heap} {G : Array GenState} {D : Drawn} {tk : Nat} {O : OsState} {a : Addr} {bs : Sb} {n k : Nat} {t : Tok} {led : Bool}
theorem sm_hash (hk : k = 1 ∨ k = 2 ∨ k = 3) : (intKind PR w).hash (k : Int) = (k : Int) := by
  rcases hk with rfl | rfl | rfl <;> with_unfolding_all rfl
theorem sm_elems (h : Sm bs) : ElemsOf (intKind PR w) (smE bs).toList := by
  have hk : ∀ b ∈ bs, b.1 = 1 ∨ b.1 = 2 ∨ b.1 = 3 := by
    rcases h.cases with rfl | ⟨_, rfl⟩ | ⟨_, rfl⟩ | ⟨_, rfl⟩ | ⟨_, _, rfl⟩ | ⟨_, _, rfl⟩ | ⟨_, _, rfl⟩ | ⟨_, _, _, rfl⟩ <;> simp
  intro e he
  simp only [smE, List.mem_map] at he
  obtain ⟨b, hb, rfl⟩ := he
  exact ⟨⟨(b.1 : Int), intKind_is _ _ _ _, (sm_hash (hk b hb)).symm⟩, rfl⟩
theorem sm_idx {bs : Sb} : (smE bs).toList.findIdx? (fun e => (intKind PR w).is (k : Int) e.2) = bs.findIdx? fun b => decide (b.1 = k) := by
  have e : ∀ b : Nat × Tok, (intKind PR w).is (k : Int) (Value.int b.1 b.2) = decide (b.1 = k) := fun b => by
    show decide _ = _ 
    first
      | (rw [decide_eq_decide]; omega)
      | simp
  simp only [smE, List.findIdx?_map]
  congr 1
  funext b
  exact e b
theorem sm_addHashed {Q : Bool → Shared → Prop} (ho : h.get? a = some (smO bs n led)) (hb : Sm bs) (hk : k = 1 ∨ k = 2 ∨ k = 3)
    (q : ∀ b h', Heap.SameBut a h h' → h'.get? a = some (smO (smIns bs k t) (if k ∈ bs.map (·.1) then n else n + 1) led) → Q b ⟨h', G, D, tk, O⟩) :
    wpAny (model PR w) A (setAddHashed a (.int k t) (k : Int)) Q E ⟨h, G, D, tk, O⟩ := by
  have hsz : (smE bs).size < scanBound := sm_size hb
  have hel := sm_elems (w := w) hb
  unfold setAddHashed setAddHashedIn
  refine wpAny_holding (wpAny_bind (wpAny_setState_of ho rfl (sm_fits hb) ?_))
  dsimp only
  rw [byScan_of (knd := intKind PR w) rfl hsz hel]
  simp only [↓reduceIte]
  unfold setAddByScan
  refine wpAny_bind ?_
  refine wpAny_bind (wpAny_rule ?_)
  have sc := @wpAny_setScan_of PR w Int _ (intKind PR w) A E ⟨h, G, D, tk, O⟩ a (smO bs n led) (smE bs) n (smT bs led) (.int k t) (k : Int) true
  rw [sm_hash hk] at sc
  refine wpAny_bind (sc (intKind_is _ _ _ _) ho rfl (sm_fits hb) hel ?_)
  rw [sm_idx]
  by_cases hin : k ∈ bs.map (·.1)
  · obtain ⟨j, hj⟩ : ∃ j, (bs.findIdx? fun b => decide (b.1 = k)) = some j := by
      cases e : bs.findIdx? fun b => decide (b.1 = k) with
      | some j => exact ⟨j, rfl⟩
      | none =>
        obtain ⟨b, hb, e2⟩ := List.mem_map.mp hin
        have := List.findIdx?_eq_none_iff.mp e b hb
        simp [e2] at this
    rw [hj]
    dsimp only
    refine wpAny_pure (wpAny_pure ?_)
    refine q _ h (Heap.SameBut.refl a h) ?_
    rw [smIns, if_pos hin, if_pos hin]; exact ho
  · have hs : (bs.findIdx? fun b => decide (b.1 = k)) = none := by
      rw [List.findIdx?_eq_none_iff]
      intro b hb
      simp only [decide_eq_false_iff_not]
      exact fun e => hin (List.mem_map.mpr ⟨b, hb, e⟩)
    rw [hs]
    dsimp only
    rw [sm_lay hb hk hin]
    dsimp only
    refine wpAny_bind ?_
    show wpAny _ _ (pure PUnit.unit) _ _ _
    refine wpAny_pure ?_
    have hpl : (smT (smIns bs k t) led).plain = true := rfl
    rw [if_pos hpl]
    rw [hashByValue_scannable 8 rfl]
    refine wpAny_bind (wpAny_pure ?_)
    simp only [plainKind, ↓reduceIte]
    have ho1 : (h.update a (Obj.putSet (smE (smIns bs k t)) (smT (smIns bs k t) led))).get? a = some (smO (smIns bs k t) (n + 1) led) := by
      have := Heap.get?_update_self (Obj.putSet (smE (smIns bs k t)) (smT (smIns bs k t) led)) ho (by rw [putSet_of _ _ rfl]; rfl)
      rw [putSet_of _ _ rfl] at this; exact this
    refine wpAny_bind (wpAny_storeSet_of ho rfl ?_ ?_)
    · rw [sm_full (smIns_ok hb hk)]
      simp only [Bool.and_false, Bool.false_eq_true, ↓reduceIte]
      exact wpAny_pure (wpAny_pure (q _ _ (Heap.SameBut.update ..) (by rw [if_neg hin]; exact ho1)))
    · exact fits_of_scanBound (sm_size (smIns_ok hb hk))
theorem sm_add0 {Q : Bool → Shared → Prop} (ho : h.get? a = some (smO bs n led)) (hb : Sm bs) (hk : k = 1 ∨ k = 2 ∨ k = 3)
    (q : ∀ b h', Heap.SameBut a h h' → h'.get? a = some (smO (smIns bs k t) (if k ∈ bs.map (·.1) then n else n + 1) led) → Q b ⟨h', G, D, tk + 1, O⟩) :
    wpAny (model PR w) A (setAdd a (.int k t)) Q E ⟨h, G, D, tk, O⟩ := by
  unfold setAdd
  refine wpAny_holding (wpAny_bind ((intKind PR w).pyHash (intKind_is PR w (k : Int) t) ?_))
  rw [sm_hash hk]
  exact sm_addHashed ho hb hk q
theorem sm_add {Q : Value → Shared → Prop} (ho : h.get? a = some (smO bs n led)) (hb : Sm bs) (hk : k = 1 ∨ k = 2 ∨ k = 3)
    (q : ∀ h', Heap.SameBut a h h' → h'.get? a = some (smO (smIns bs k t) (if k ∈ bs.map (·.1) then n else n + 1) led) → Q .none ⟨h', G, D, tk + 1, O⟩) :
    wpAny (model PR w) A (call (.builtin "set.add") [.ref a, .int k t]) Q E ⟨h, G, D, tk, O⟩ := by
  refine wpAny_call_entry F.slot_set_add ⟨_, ho, rfl⟩ F.entry_set_add ?_ (F.args_set_add_2 _ _)
  unfold Builtin.«set.add» Builtin.Frozenset.oneOther
  simp only [List.isEmpty_nil, bind_assoc]
  unfold Builtin.Frozenset.addrOf
  refine wpAny_bind (wpAny_pure ?_)
  try dsimp only
  refine wpAny_bind (wpAny_pure ?_)
  try dsimp only
  refine wpAny_bind ?_
  refine sm_add0 ho hb hk fun b h' hs hg => ?_
  show wpAny _ _ (ret Value.none) _ _ _
  exact wpAny_pure ⟨_, rfl, q h' hs hg⟩
end
theorem slot_si_next : Slot "set_iterator" "__next__" "set_iterator.__next__" :=
  .of (owner := "set_iterator") (n := "__next__") (by rw [typeLookup_type, builtinLookup_eq_fast]; kernel_rfl) (by decide +kernel) (by decide +kernel) (by decide +kernel)
    (by first | exact .inl (by decide +kernel) | exact .inr (by decide +kernel)) (by rw [isSubtype_type]; kernel_rfl)
theorem entry_si_next : entryFor table "set_iterator.__next__" = some Builtin.«set_iterator.__next__» := entryFor_of_tree (by kernel_rfl)
theorem args_si_next (a : Value) : argsOk "set_iterator.__next__" ⟨[a], []⟩ := by unfold argsOk; kernel_rfl
theorem slot_si_iter : Slot "set_iterator" "__iter__" "set_iterator.__iter__" :=
  .of (owner := "set_iterator") (n := "__iter__") (by rw [typeLookup_type, builtinLookup_eq_fast]; kernel_rfl) (by decide +kernel) (by decide +kernel) (by decide +kernel)
    (by first | exact .inl (by decide +kernel) | exact .inr (by decide +kernel)) (by rw [isSubtype_type]; kernel_rfl)
theorem entry_set_iter : entryFor table "set.__iter__" = some Builtin.«frozenset.__iter__» :=
  entryFor_alias (id' := "frozenset.__iter__") (by kernel_rfl) rfl (by decide +kernel) (by kernel_rfl)
abbrev bt (w : World) : Bool := w.params.followText "set-order"
def ordE (w : World) (a : Addr) (n : Nat) (bs : Sb) : List (Int × Value) := if bt w then (pickOrder (w.params.setOrder a n) (smE bs)).toList else (smE bs).toList
abbrev ordV (w : World) (a : Addr) (n : Nat) (bs : Sb) : List Value := (ordE w a n bs).map (·.2)
theorem erase_perm {α : Type} : ∀ {l : List α} {i : Nat} (h : i < l.length), (l[i] :: l.eraseIdx i).Perm l
  | x :: l, 0, _ => by simp
  | x :: l, i + 1, h => by
    simp only [List.getElem_cons_succ, List.eraseIdx_cons_succ]
    exact (List.Perm.swap _ _ _).trans (.cons _ (erase_perm (by simpa using h)))
theorem pick_go {α : Type} (next : Nat → Nat) : ∀ (f k : Nat) (l : List α) (out : Array α), l.length = f → ((pickOrder.go next f k l out).toList).Perm (out.toList ++ l)
  | 0, k, l, out, h => by
    rw [List.eq_nil_of_length_eq_zero h]
    unfold pickOrder.go
    simp
  | f + 1, k, l, out, h => by
    unfold pickOrder.go
    have hlt : next k % l.length < l.length := Nat.mod_lt _ (by omega)
    rw [List.getElem?_eq_getElem hlt]
    dsimp only
    refine (pick_go next f (k + 1) (l.eraseIdx (next k % l.length)) (out.push l[next k % l.length]) (by rw [List.length_eraseIdx_of_lt hlt]; omega)).trans ?_
    rw [Array.toList_push, List.append_assoc]
    refine List.Perm.append_left _ ?_
    exact erase_perm hlt
theorem ordE_perm {w : World} {a : Addr} {n : Nat} {bs : Sb} : (ordE w a n bs).Perm (smE bs).toList := by
  unfold ordE
  split
  · have := pick_go (w.params.setOrder a n) (smE bs).size 0 (smE bs).toList #[] (by simp)
    simpa [pickOrder] using this
  · exact List.Perm.refl _
def slotAt (bs : Sb) : Nat → Nat
  | 0 => 0
  | i + 1 => ((bs.map (·.1))[i]?).getD 0 + 1
theorem sm_below {bs : Sb} (h : Sm bs) {i : Nat} (hi : i ≤ bs.length) {led : Bool} : SetTable.below (smT bs led).place (slotAt bs i) = i := by
  rcases h.cases with rfl | ⟨_, rfl⟩ | ⟨_, rfl⟩ | ⟨_, rfl⟩ | ⟨_, _, rfl⟩ | ⟨_, _, rfl⟩ | ⟨_, _, rfl⟩ | ⟨_, _, _, rfl⟩ <;>
    rcases i with _ | _ | _ | _ | i <;> first | (exfalso; simp at hi; done) | (exfalso; simp at hi; omega) | kernel_rfl
def SIt (h : Heap) (it a : Addr) (slot i n ep : Nat) : Prop :=
  ∃ o, h.get? it = some o ∧ o.cls = .type "set_iterator" ∧ o.data = .fields #[.int slot 0, .int i 0, .ref a, .int n 0, .int ep 0]
section
variable {w : World} {A : Around} {E : Value → Shared → Prop} {h : Heap} {G : Array GenState} {D : Drawn} {tk : Nat} {O : OsState} {a it : Addr} {bs : Sb} {n i slot : Nat}
theorem sm_ask {Q : Bool → Shared → Prop} {s : Shared} (q : Q (bt w) s) : wpAny (model PR w) A setsByText Q E s := by
  unfold setsByText
  exact wpAny_bind (wpAny_askSetting (wpAny_pure q))
theorem sm_new {Q : Value → Shared → Prop} (q : Q (.ref h.objs.size) ⟨h.push (smO [] 0 (!bt w)), G, D, tk, O⟩) : wpAny (model PR w) A (newSet (.type "set")) Q E ⟨h, G, D, tk, O⟩ := by
  unfold newSet
  refine wpAny_bind (sm_ask ?_)
  exact wpAny_newObj_type q
theorem sm_iter {Q : Value → Shared → Prop} (ho : h.get? a = some (smO bs n (!bt w))) (hb : Sm bs)
    (q : Q (.ref h.objs.size) ⟨h.push { cls := .type "set_iterator", data := .fields #[.int 0 0, .int 0 0, .ref a, .int bs.length 0, .int n 0] }, G, D, tk, O⟩) :
    wpAny (model PR w) A (pyIter (.ref a)) Q E ⟨h, G, D, tk, O⟩ := by
  have hT : (⟨h, G, D, tk, O⟩ : Shared).TypeIs (.ref a) "set" := ⟨_, ho, rfl⟩
  refine wpAny_pyIter_slot hT F.slot_set_iter (wpAny_call_entry F.slot_set_iter hT entry_set_iter ?_ (F.args_set_iter_1 _))
  unfold Builtin.«frozenset.__iter__»
  refine wpAny_bind ?_
  unfold Builtin.Frozenset.slot0
  refine wpAny_bind (m := slotArgs "__iter__" 0 _) (wpAny_pure ?_)
  show wpAny _ _ (pure a) _ _ _
  refine wpAny_pure ?_
  refine wpAny_bind ?_
  unfold Builtin.Frozenset.sizeOf
  refine wpAny_bind (wpAny_setEntries_of ho rfl (sm_fits hb) (wpAny_pure ?_))
  unfold setDrawn
  refine wpAny_bind (wpAny_bind (wpAny_setState_of ho rfl (sm_fits hb) ?_))
  dsimp only
  refine wpAny_bind (sm_ask ?_)
  refine wpAny_pure ?_
  show wpAny _ _ (if (!(bt w) && (false && _)) = true then _ else _) _ _ _
  rw [if_neg (by simp)]
  refine wpAny_bind (wpAny_pure ?_)
  refine wpAny_bind (wpAny_setEpoch_of ho rfl (sm_fits hb) ?_)
  refine wpAny_bind (wpAny_newObj_type (wpAny_pure ⟨_, rfl, "set_iterator", _, ⟨_, Heap.get?_push_size _ rfl, rfl⟩, slot_si_next.lookup, ?_⟩))
  simpa [rawInt, smE_size] using q
theorem SIt.typeIs (x : SIt h it a slot i n ep) : (⟨h, G, D, tk, O⟩ : Shared).TypeIs (.ref it) "set_iterator" := let ⟨o, ho, hc, _⟩ := x; ⟨o, ho, hc⟩
theorem SIt.set {v : Nat} {f : Nat} {o : Obj} (ho : h.get? it = some o) (hd : ∃ xs, o.data = .fields xs) : ∃ o', (h.update it (Obj.mapFields (·.setIfInBounds f (rawInt v)))).get? it = some o' ∧ o'.cls = o.cls := by
  obtain ⟨xs, hd⟩ := hd
  exact ⟨_, Heap.get?_update_self _ ho (Obj.isFreed_of_fields (Obj.data_mapFields hd _)), Obj.cls_mapFields ..⟩
theorem sm_next0 {Q : Option (Value × Nat) → Shared → Prop} (ho : h.get? a = some (smO bs n (!bt w))) (hb : Sm bs) (hi : i ≤ bs.length) (hsl : bt w = false → slot = slotAt bs i)
    (q : ∀ slot', (bt w = false → slot' = slotAt bs (i + 1)) → Q (((ordV w a n bs)[i]?).map fun v => (v, slot')) ⟨h, G, D, tk, O⟩) : wpAny (model PR w) A (setNext a slot i n) Q E ⟨h, G, D, tk, O⟩ := by
  unfold setNext
  refine wpAny_bind (wpAny_setState_of ho rfl (sm_fits hb) ?_)
  dsimp only
  refine wpAny_bind (sm_ask ?_)
  cases hbt : bt w with
  | true =>
    rw [if_pos rfl]
    simp only [bne_self_eq_false, Bool.false_eq_true, if_false]
    refine wpAny_bind ?_
    unfold setWalk
    rw [hbt] at ho
    refine wpAny_bind (wpAny_setState_of ho rfl (sm_fits hb) ?_)
    dsimp only
    refine wpAny_bind (sm_ask ?_)
    rw [hbt, if_pos rfl]
    refine wpAny_bind (wpAny_askSetting (wpAny_pure ?_))
    refine wpAny_pure ?_
    have := q slot (fun e => by rw [hbt] at e; cases e)
    unfold ordV ordE at this
    rw [hbt, if_pos rfl] at this
    have e : (w.params.setOrder a n) = ((model PR w).w.params.setOrder a n) := rfl
    rw [← e]
    simpa [List.getElem?_map, Option.map_map, Function.comp_def] using this
  | false =>
    rw [if_neg (by simp)]
    show wpAny _ _ (if (false && _) = true then _ else _) _ _ _
    rw [if_neg (by simp)]
    refine wpAny_bind ?_
    show wpAny _ _ (if (!(!(false : Bool)) && _) = true then _ else _) _ _ _
    rw [if_neg (by simp)]
    refine wpAny_pure ?_
    have e1 := sm_below hb hi (led := !false)
    rw [← hsl hbt] at e1
    rw [e1]
    refine wpAny_pure ?_
    have hlen : (smT bs (!false)).place.size = bs.length := by simp [smT]
    have := q (slotAt bs (i + 1)) (fun _ => rfl)
    unfold ordV ordE at this
    rw [hbt, if_neg (by simp)] at this
    by_cases hlt : i < bs.length
    · have g1 : (smE bs)[i]? = some (((bs[i]).1 : Int), Value.int (bs[i]).1 (bs[i]).2) := by simp [smE, hlt]
      have g2 : (smT bs (!false)).place[i]? = some (bs[i]).1 := by simp [smT, hlt]
      rw [g1, g2]
      dsimp only
      have g3 : slotAt bs (i + 1) = (bs[i]).1 + 1 := by simp [slotAt, hlt]
      rw [g3] at this
      rw [List.getElem?_map, Array.getElem?_toList, g1] at this
      exact this
    · have g1 : (smE bs)[i]? = none := by rw [Array.getElem?_eq_none]; rw [smE_size]; omega
      rw [g1]
      dsimp only
      rw [List.getElem?_map, Array.getElem?_toList, g1] at this
      exact this
theorem sm_nextBody {P : PySem.Fin → Shared → Prop} (hit : SIt h it a slot i bs.length n) (ho : h.get? a = some (smO bs n (!bt w))) (hb : Sm bs) (hi : i ≤ bs.length) (hsl : bt w = false → slot = slotAt bs i)
    (q : ∀ slot', (bt w = false → slot' = slotAt bs (i + 1)) → wpAny (model PR w) A (match ((ordV w a n bs)[i]?).map fun v => (v, slot') with
      | some (x, next) => do
        setField (.ref it) 0 (rawInt next)
        setField (.ref it) 1 (rawInt (i + 1))
        ret x
      | none => do setField (.ref it) 2 .none; raiseNew (← newExc (.type "StopIteration") [])) P E ⟨h, G, D, tk, O⟩) : wpAny (model PR w) A (Builtin.«set_iterator.__next__» ⟨[.ref it], []⟩) P E ⟨h, G, D, tk, O⟩ := by
  obtain ⟨o, hoi, hc, hd⟩ := id hit
  unfold Builtin.«set_iterator.__next__»
  refine wpAny_bind (m := slotArgs "__next__" 0 _) (wpAny_pure ?_)
  refine wpAny_bind (wpAny_fieldsOf hoi hd ?_)
  dsimp only
  refine wpAny_bind (wpAny_setEntries_of ho rfl (sm_fits hb) ?_)
  rw [if_neg (by rw [smE_size]; simp)]
  refine wpAny_bind ?_
  simp only [Int.toNat_natCast]
  refine sm_next0 ho hb hi hsl fun slot' hs' => ?_
  exact q slot' hs'
theorem ordV_len : (ordV w a n bs).length = bs.length := by
  rw [List.length_map, (ordE_perm (w := w) (a := a) (n := n) (bs := bs)).length_eq, Array.length_toList, smE_size]
theorem sm_pyNext {v : Value} {Q : Option Value → Shared → Prop} (hit : SIt h it a slot i bs.length n) (hne : a ≠ it) (ho : h.get? a = some (smO bs n (!bt w))) (hb : Sm bs) (hsl : bt w = false → slot = slotAt bs i) (hv : (ordV w a n bs)[i]? = some v)
    (q : ∀ h' slot', (bt w = false → slot' = slotAt bs (i + 1)) → SIt h' it a slot' (i + 1) bs.length n → Heap.SameBut it h h' → Q (some v) ⟨h', G, D, tk, O⟩) : wpAny (model PR w) A (pyNext (.ref it)) Q E ⟨h, G, D, tk, O⟩ := by
  obtain ⟨o, hoi, hc, hd⟩ := id hit
  have hi : i ≤ bs.length := by
    have := (List.getElem?_eq_some_iff.mp hv).1
    rw [ordV_len] at this; omega
  unfold pyNext
  refine wpAny_bind (wpAny_attempt (wpAny_callSpecial?_slot (name := Str.ofString "__next__") hit.typeIs slot_si_next
    (wpAny_call_entry slot_si_next hit.typeIs entry_si_next ?_ (args_si_next _))))
  refine sm_nextBody hit ho hb hi hsl fun slot' hs' => ?_
  rw [hv]
  dsimp only [Option.map]
  refine wpAny_bind (wpAny_setField hoi hd (by simp) ?_)
  have g1 := Heap.get?_update_self (Obj.mapFields (·.setIfInBounds 0 (rawInt slot'))) hoi (Obj.isFreed_of_fields (Obj.data_mapFields hd _))
  refine wpAny_bind (wpAny_setField g1 (Obj.data_mapFields hd _) (by simp) ?_)
  have hd2 := Obj.data_mapFields hd (·.setIfInBounds 0 (rawInt slot'))
  have g2 := Heap.get?_update_self (Obj.mapFields (·.setIfInBounds 1 (rawInt ((i : Int) + 1)))) g1 (Obj.isFreed_of_fields (Obj.data_mapFields hd2 _))
  refine wpAny_pure ⟨_, rfl, wpAny_pure (q _ slot' hs' ⟨_, g2, ?_, ?_⟩ ((Heap.SameBut.update ..).trans (Heap.SameBut.update ..)))⟩
  · rw [Obj.cls_mapFields, Obj.cls_mapFields]; exact hc
  · rw [Obj.data_mapFields hd2]; simp [rawInt]
theorem sm_pyStop {Q : Option Value → Shared → Prop} (hh : A.handled = none) (hit : SIt h it a slot bs.length bs.length n) (ho : h.get? a = some (smO bs n (!bt w))) (hb : Sm bs) (hsl : bt w = false → slot = slotAt bs bs.length)
    (q : ∀ h', Heap.ExtBut it h h' → Q none ⟨h', G, D, tk, O⟩) : wpAny (model PR w) A (pyNext (.ref it)) Q E ⟨h, G, D, tk, O⟩ := by
  obtain ⟨o, hoi, hc, hd⟩ := id hit
  unfold pyNext
  refine wpAny_bind (wpAny_attempt (wpAny_callSpecial?_slot (name := Str.ofString "__next__") hit.typeIs slot_si_next
    (wpAny_call_entry slot_si_next hit.typeIs entry_si_next ?_ (args_si_next _))))
  refine sm_nextBody hit ho hb (Nat.le_refl _) hsl fun slot' hs' => ?_
  have e : (ordV w a n bs)[bs.length]? = none := by rw [List.getElem?_eq_none]; rw [ordV_len]; exact Nat.le_refl _
  rw [e]
  dsimp only [Option.map]
  refine wpAny_bind (wpAny_setField hoi hd (by simp) ?_)
  refine wpAny_bind ?_
  simp only [newExc, newTuple]
  refine wpAny_bind (wpAny_newObj_type ?_ (by size_fits))
  refine wpAny_bind (m := firstArgMember _ _) (wpAny_of_eq (a := Value.none) (by first | rfl | (simp only [firstArgMember]; rfl)) ?_)
  refine wpAny_newObj_type ?_ (by size_fits)
  simp only [raiseNew]
  refine wpAny_bind (wpAny_handled ?_)
  rw [show A.in1.handled = none from hh]
  refine wpAny_bind (wpAny_pure (wpAny_throw ?_))
  refine wpAny_bind (wpAny_isInstance (T := "StopIteration") (b := true) ⟨_, Heap.get?_push_size _ rfl, rfl⟩ isSubtype_stop ?_)
  exact wpAny_pure (q _ (((Heap.SameBut.update ..).extBut.push _).push _))
end
def nlt : Nm → Nm → Bool
  | [], [] => false
  | [], _ :: _ => true
  | _ :: _, [] => false
  | a :: as, b :: bs => if a = b then nlt as bs else decide (a < b)
theorem nlt_irr : ∀ a : Nm, nlt a a = false
  | [] => rfl
  | a :: as => by unfold nlt; rw [if_pos rfl]; exact nlt_irr as
theorem nlt_tr : ∀ a b c : Nm, nlt a b = true → nlt b c = true → nlt a c = true
  | [], [], _, h, _ => by simp [nlt] at h
  | [], _ :: _, [], _, h => by simp [nlt] at h
  | [], _ :: _, _ :: _, _, _ => rfl
  | _ :: _, [], _, h, _ => by simp [nlt] at h
  | _ :: _, _ :: _, [], _, h => by simp [nlt] at h
  | a :: as, b :: bs, c :: cs, h1, h2 => by
    unfold nlt at h1 h2 ⊢
    by_cases e1 : a = b
    · subst e1
      rw [if_pos rfl] at h1
      by_cases e2 : a = c
      · rw [if_pos e2] at h2 ⊢
        exact nlt_tr as bs cs h1 h2
      · rw [if_neg e2] at h2 ⊢
        exact h2
    · rw [if_neg e1, decide_eq_true_eq] at h1
      by_cases e2 : b = c
      · subst e2
        rw [if_neg e1, decide_eq_true_eq]; exact h1
      · rw [if_neg e2, decide_eq_true_eq] at h2
        rw [if_neg (by omega), decide_eq_true_eq]; omega
theorem nlt_tot : ∀ a b : Nm, a ≠ b → nlt a b = false → nlt b a = true
  | [], [], h, _ => absurd rfl h
  | [], _ :: _, _, h => by simp [nlt] at h
  | _ :: _, [], _, _ => rfl
  | a :: as, b :: bs, h, h1 => by
    unfold nlt at h1 ⊢
    by_cases e : a = b
    · subst e
      rw [if_pos rfl] at h1 ⊢
      exact nlt_tot as bs (fun q => h (by rw [q])) h1
    · rw [if_neg e, decide_eq_false_iff_not] at h1
      rw [if_neg (Ne.symm e), decide_eq_true_eq]
      omega
abbrev Ts := List (Nm × Addr)
abbrev Up (ts : List Nm) : Prop := ts.Pairwise (fun a b => nlt a b = true)
structure TsOk (w : World) (pe : Lg) (ts : Ts) : Prop where
  is : ∀ y ∈ ts, IsNm w pe y.1 y.2
  ne : ∀ y ∈ ts, y.1 ≠ []
  nd : (ts.map (·.1)).Nodup
section
open PySem.W
variable {w : World} {A : Around} {E : Value → Shared → Prop} {h₀ h : Heap} {L : Addr} {m : Str → Option Value} {mu mr pe : Lg}
  {G : Array GenState} {D : Drawn} {tk : Nat} {O : OsState} {d a b : Addr} {n : Nat} {ts : Ts} {k l : Nm}
theorem one_int {f : Bool} {x y : Int} {t u : Tok} {s : Shared} {Q : Bool → Shared → Prop} (q : Q (decide (x < y)) s) : wpAny (model PR w) A (oneLt' f (.int x t) (.int y u)) Q E s := by
  cases f with
  | true => exact oneLt_int q
  | false => exact kat_one _ _ (wpAny_lt_int q)
theorem ItemsAre.inv {k : Nm} {vs : List Value} (h : ItemsAre (intKind PR w) k vs) : vs.length = k.length := h.length.symm
theorem lex_kat {f : Bool} {s : Shared} {Q : Bool → Shared → Prop} : ∀ {k l : Nm} {vs us : List Value} (i : Nat), ItemsAre (intKind PR w) k vs → ItemsAre (intKind PR w) l us → Q (nlt k l) s → KatLex PR w A f (decide (vs.length < us.length)) Q (vs.zip us) i s
  | _, _, _, _, _, .nil, .nil, q => kat_nil q
  | _, _, _, _, _, .nil, .cons h1 h2, q => kat_nil (by simpa [nlt] using q)
  | _, _, _, _, _, .cons h1 h2, .nil, q => kat_nil (by simpa [nlt] using q)
  | a :: as, b :: bs, v :: vs, u :: us, i, .cons h1 h2, .cons h3 h4, q => by
    obtain ⟨t, rfl⟩ := Value.isInt_shape h1
    obtain ⟨t', rfl⟩ := Value.isInt_shape h3
    refine kat_cons (wpAny_eqBool_int ?_)
    unfold nlt at q
    by_cases e : a = b
    · rw [if_pos e] at q
      rw [beq_iff_eq.mpr e]
      refine kat_yes ?_
      have e2 : decide ((Value.int a t :: vs).length < (Value.int b t' :: us).length) = decide (vs.length < us.length) := by simp
      rw [e2]
      exact lex_kat (f := f) (i + 1) h2 h4 q
    · rw [if_neg e] at q
      rw [beq_eq_false_iff_ne.mpr e]
      exact kat_no (one_int q)
theorem names_lt {f : Bool} {s : Shared} {Q : Bool → Shared → Prop} (hp : ∀ p ∈ pe, s.heap.get? p.1 = some p.2) (hk : IsNm w pe k a) (hl : IsNm w pe l b) (q : Q (nlt k l) s) : wpAny (model PR w) A (keyLt' (tuples' f) (.ref a) (.ref b)) Q E s := by
  obtain ⟨vs, n1, m1, i1⟩ := hk
  obtain ⟨us, n2, m2, i2⟩ := hl
  refine kat_lt (hp _ m1) rfl (hp _ m2) rfl ?_
  have := lex_kat (A := A) (f := f) (s := s) (Q := Q) 0 i1 i2 q
  simpa using this
theorem names_first (hp : ∀ p ∈ pe, h.get? p.1 = some p.2) : ∀ {ts : Ts}, (∀ y ∈ ts, IsNm w pe y.1 y.2) → (∀ y ∈ ts, y.1 ≠ []) → ∃ fs, KatTups h (refs ts) fs ∧ fs.length = ts.length ∧ ∀ v ∈ fs, ∃ i t, v = Value.int i t
  | [], _, _ => ⟨[], KatTups.nil, rfl, fun _ h => (nomatch h)⟩
  | (k, a) :: ts, h1, h2 => by
    obtain ⟨fs, x1, x2, x3⟩ := names_first hp (fun y hy => h1 y (.tail _ hy)) (fun y hy => h2 y (.tail _ hy))
    obtain ⟨vs, n, hm, hi⟩ := h1 (k, a) (.head _)
    have hk := h2 (k, a) (.head _)
    dsimp only at hi hk
    cases hi with
    | nil => exact absurd rfl hk
    | @cons i0 _ _ _ e1 e2 =>
      obtain ⟨t, rfl⟩ := Value.isInt_shape e1
      refine ⟨.int i0 t :: fs, KatTups.cons (hp _ hm) rfl rfl (by simp) x1, by simp [x2], fun v hv => ?_⟩
      rcases List.mem_cons.mp hv with rfl | hv
      · exact ⟨_, _, rfl⟩
      · exact x3 v hv
theorem refs_length {ts : Ts} : (refs ts).length = ts.length := by simp [refs]
theorem names_kind {s : Shared} {Q : SortKind → Shared → Prop} (hp : ∀ p ∈ pe, s.heap.get? p.1 = some p.2) (x : TsOk w pe ts) (h2 : 2 ≤ ts.length) (q : Q (tuples' true) s) : wpAny (model PR w) A (keyKind' (refs ts).toArray) Q E s := by
  obtain ⟨fs, f1, f2, f3⟩ := names_first hp x.is x.ne
  refine kat_kind (T := .type "int") f1 (by omega) (fun v hv => ?_) (by decide) q
  obtain ⟨i, t, rfl⟩ := f3 v hv
  exact Looks.of_pure rfl
def tAt (ts : Ts) (i : Nat) : Nm × Addr := ts.getD i ([], 0)
theorem tAt_mem {ts : Ts} {i : Nat} (h : i < ts.length) : tAt ts i ∈ ts := by
  unfold tAt
  rw [List.getD_eq_getElem?_getD, List.getElem?_eq_getElem h]
  exact List.getElem_mem h
theorem refs_at {ts : Ts} {i : Nat} (h : i < ts.length) : (refs ts).getD i Value.none = .ref (tAt ts i).2 := by
  unfold tAt refs
  simp [List.getD_eq_getElem?_getD, h]
theorem names_ord (x : TsOk w pe ts) : SOrd ts.length (fun i j => nlt (tAt ts i).1 (tAt ts j).1) where
  irr i := nlt_irr _
  tr i j k := nlt_tr _ _ _
  tot i j hi hj hne := by
    refine nlt_tot _ _ fun e => hne ?_
    have nd := x.nd
    have e1 : (tAt ts i).1 = (ts.map (·.1))[i]'(by simpa using hi) := by unfold tAt; simp [List.getD_eq_getElem?_getD, hi]
    have e2 : (tAt ts j).1 = (ts.map (·.1))[j]'(by simpa using hj) := by unfold tAt; simp [List.getD_eq_getElem?_getD, hj]
    rw [e1, e2] at e
    exact (List.getElem_inj nd).mp e
def outTs (ts : Ts) (p : Array Nat) : Ts := p.toList.map (tAt ts)
theorem outTs_perm {p : Array Nat} (x : Pm ts.length p) : (outTs ts p).Perm ts := by
  refine (x.pm.map (tAt ts)).trans ?_
  have : (List.range ts.length).map (tAt ts) = ts := by
    apply List.ext_getElem (by simp)
    intro i h1 h2
    simp [tAt, List.getD_eq_getElem?_getD, h2]
  rw [this]
theorem outTs_up {p : Array Nat} (x : Pm ts.length p) (a : Asc (fun i j => nlt (tAt ts i).1 (tAt ts j).1) ts.length p) : Up ((outTs ts p).map (·.1)) := by
  unfold Up outTs
  rw [List.map_map, List.pairwise_map, List.pairwise_iff_getElem]
  intro i j hi hj hij
  have sz := x.sz
  have hj' : j < ts.length := by rw [← sz]; simpa using hj
  have := a i j hij hj'
  have g : ∀ q, (hq : q < p.toList.length) → gp p q = p.toList[q] := fun q hq => by
    have : q < p.size := by simpa using hq
    simp [gp, Array.getD, this]
  rw [g i hi, g j hj] at this
  exact this
theorem outTs_refs {p : Array Nat} (x : Pm ts.length p) : (p.toList.map fun i => (refs ts).getD i Value.none) = refs (outTs ts p) := by
  unfold outTs refs
  rw [List.map_map]
  refine List.map_congr_left fun i hi => ?_
  have : i < ts.length := List.mem_range.mp (x.pm.mem_iff.mp hi)
  exact refs_at this
theorem names_cmp {h : Heap} {κ : SortKind} {f : Bool} (x : TsOk w pe ts) (hp : ∀ p ∈ pe, h.get? p.1 = some p.2) (hκ : κ = tuples' f) : CmpOk ts.length (fun i j => nlt (tAt ts i).1 (tAt ts j).1) (fun s => ∃ tk, s = ⟨h, G, D, tk, O⟩) (kas_ask PR w A κ (refs ts)) := by
  subst hκ
  rintro i j s C hi hj ⟨tk, rfl⟩ k
  unfold kas_ask
  rw [refs_at hi, refs_at hj]
  exact names_lt hp (x.is _ (tAt_mem hi)) (x.is _ (tAt_mem hj)) (k _ ⟨tk, rfl⟩)
theorem TsOk.perm {ts ts' : Ts} (x : TsOk w pe ts) (p : ts'.Perm ts) : TsOk w pe ts' := ⟨fun y hy => x.is y (p.mem_iff.mp hy), fun y hy => x.ne y (p.mem_iff.mp hy), (p.map _).nodup_iff.mpr x.nd⟩
theorem sort_names {P : PySem.Fin → Shared → Prop} (S : SL h₀ L m h ((d, PySem.W.listOf (refs ts).toArray n) :: mu) pe) (x : TsOk w pe ts) (h64 : ts.length < 64)
    (q : ∀ ts' h' n' tk', ts'.Perm ts → Up (ts'.map (·.1)) → SL h₀ L m h' ((d, PySem.W.listOf (refs ts').toArray n') :: mu) pe → P (.done (.ret .none)) ⟨h', G, D, tk', O⟩) :
    wpAny (model PR w) A (Builtin.«list.sort» ⟨[.ref d], []⟩) P E ⟨h, G, D, tk, O⟩ := by
  have z := S.nw (d, PySem.W.listOf (refs ts).toArray n) (.head _)
  have nd := S.nd
  have hnd : ∀ p ∈ mu ++ pe, p.1 ≠ d := fun p hp e => by
    have : ((d, PySem.W.listOf (refs ts).toArray n) :: (mu ++ pe)).map (·.1) |>.Nodup := nd
    rw [List.map_cons, List.nodup_cons] at this
    exact this.1 (e ▸ List.mem_map_of_mem (f := (·.1)) hp)
  have N0 : News h₀ L h (mu ++ pe) := fun p hp => S.nw p (.tail _ hp)
  by_cases h2 : 2 ≤ ts.length
  · refine kat_list_sort (news := mu ++ pe) (vs := refs ts) (s := ⟨h, G, D, tk, O⟩) S.fr N0 z.1 z.2.1 z.2.2 hnd (by rw [refs_length]; exact h2) (by rw [refs_length]; exact h64) fun e1 h' F' N' => ?_
    have hp : ∀ p ∈ pe, h'.get? p.1 = some p.2 := fun p hp => (N' p (.tail _ (List.mem_append_right _ hp))).1
    refine names_kind hp x h2 ?_
    rw [refs_length]
    refine so_sort (names_ord x) (names_cmp (G := G) (D := D) (O := O) (h := h') x hp rfl) h2 ⟨tk, rfl⟩ fun p s' hP hA hI => ?_
    obtain ⟨tk', rfl⟩ := hI
    rw [outTs_refs hP]
    refine KasFin.intro F' N' (.head hnd) fun h3 c F3 N3 => ?_
    exact q (outTs ts p) h3 c tk' (outTs_perm hP) (outTs_up hP hA) ⟨F3, N3, S.nd⟩
  · rw [list_sort_plain]
    have hsz : (refs ts).toArray.size = ts.length := by rw [List.size_toArray, refs_length]
    have ha : d < h.objs.size := Heap.lt_size z.1
    refine wpAny_bind (listItems_at z.1 rfl ?_)
    refine wpAny_bind (listUpdate_at z.1 rfl ?_ (by rw [hsz, sizeLine_eq]; omega) (Nat.zero_le _))
    have r1 : ∀ e1, Rp d (PySem.W.listOf (refs ts).toArray n) (PySem.W.listOf #[] e1) ((d, PySem.W.listOf (refs ts).toArray n) :: mu) ((d, PySem.W.listOf #[] e1) :: mu) := fun _ => .head
    obtain ⟨e1, ho1⟩ : ∃ e1, (h.update d (Obj.mapSeq fun _ => (#[] : Array Value))).get? d = some (PySem.W.listOf #[] e1) := ⟨_, get?_update_seq z.1 fun _ => #[]⟩
    have S1 := S.set (r1 e1) (Heap.SameBut.update ..) ho1
    refine wpAny_bind (seqEpoch_at ho1 rfl ?_)
    refine wpAny_bind (wpAny_newTuple ?_ (by show (refs ts).toArray.toList.length ≤ _; rw [Array.length_toList, hsz, sizeLine_eq]; omega))
    have S2 := (S1.push (seqObj "tuple" (refs ts).toArray 0)).drop1
    refine wpAny_bind (wpAny_newList ?_ (Nat.zero_le _))
    have S3 := (S2.push (seqObj "list" #[] 0)).drop1
    refine wpAny_holding ?_
    dsimp only
    rw [if_pos (by rw [hsz]; omega), if_pos (by rw [hsz]; omega)]
    refine wpAny_bind (wpAny_pure ?_)
    rw [StateT.run_pure]
    refine wpAny_bind (wpAny_pure ?_)
    dsimp only
    have ho3 := S3.get (.head _)
    have hz : ((((refs ts).toArray.zip (refs ts).toArray).map (·.2)) : Array Value) = (refs ts).toArray := by
      apply Array.toList_inj.mp
      rw [Array.toList_map, ksk_zip, List.map_snd_zip (by simp)]
    have hz' : (arrOf (SortSt.mk' general' ((refs ts).toArray.zip (refs ts).toArray) #[] 7 none)).map (·.2) = (refs ts).toArray := hz
    refine wpAny_bind (seqEpoch_at ho3 rfl ?_)
    rw [hz']
    refine wpAny_bind (listUpdate_at ho3 rfl ?_ (Nat.zero_le _) (by rw [hsz, sizeLine_eq]; omega))
    simp only [bne_self_eq_false, Bool.false_eq_true, if_false]
    obtain ⟨e2, ho4⟩ : ∃ e2, ((((h.update d (Obj.mapSeq fun _ => (#[] : Array Value))).push (seqObj "tuple" (refs ts).toArray 0)).push (seqObj "list" #[] 0)).update d (Obj.mapSeq fun _ => (refs ts).toArray)).get? d = some (PySem.W.listOf (refs ts).toArray e2) := ⟨_, get?_update_seq ho3 fun _ => (refs ts).toArray⟩
    have S4 := S3.set (mu' := (d, PySem.W.listOf (refs ts).toArray e2) :: mu) .head (Heap.SameBut.update ..) ho4
    refine wpAny_pure (q ts _ e2 _ (List.Perm.refl _) ?_ S4)
    unfold Up
    match ts, h2 with
    | [], _ => exact List.Pairwise.nil
    | [_], _ => exact List.pairwise_singleton ..
    | _ :: _ :: _, h2 => simp at h2
end
section
open PySem.W
variable {w : World} {A : Around} {E : Value → Shared → Prop} {h₀ h : Heap} {L : Addr} {m : Str → Option Value} {mu mr pe : Lg}
  {G : Array GenState} {D : Drawn} {tk : Nat} {O : OsState} {d a b kS : Addr} {n : Nat} {ts us : Ts} {k l : Nm} {f : Value}
theorem tAt_fst {ts : Ts} {i : Nat} : (tAt ts i).1 = (ts.map (·.1)).getD i [] := by
  unfold tAt
  simp only [List.getD_eq_getElem?_getD, List.getElem?_map]
  cases ts[i]? <;> rfl
def KeyFn (w : World) (A : Around) (G : Array GenState) (D : Drawn) (O : OsState) (mu pe : Lg) (f : Value) (y : Nm × Addr) : Prop :=
  ∀ h tk (Q : Value → Shared → Prop), (∀ p ∈ mu ++ pe, h.get? p.1 = some p.2) → (∀ a tk', IsNm w pe y.1 a → Q (.ref a) ⟨h, G, D, tk', O⟩) → wpAny (model PR w) A (call f [.ref y.2]) Q (fun _ _ => False) ⟨h, G, D, tk, O⟩
theorem keys_run {Fin : List Value → Nat → Shared → Prop} {x : Lg} (hx : ∀ p ∈ x, p.1 ≠ kS) (hm : mu ++ pe ⊆ x) : ∀ {r : Ts} {us : Ts} {e : Nat} {h : Heap} {tk : Nat}, (∀ y ∈ r, KeyFn w A G D O mu pe f y) →
    Fr h₀ L h m → News h₀ L h ((kS, PySem.W.listOf (refs us).toArray e) :: x) →
    (∀ vs' e' h' tk', vs'.map (·.1) = r.map (·.1) → (∀ y ∈ vs', IsNm w pe y.1 y.2) → Fr h₀ L h' m → News h₀ L h' ((kS, PySem.W.listOf (refs (us ++ vs')).toArray e') :: x) → Fin (refs (us ++ vs')) e' ⟨h', G, D, tk', O⟩) →
    KatKeys PR w A h₀ L m kS f Fin (refs r) (refs us) e ⟨h, G, D, tk, O⟩
  | [], us, e, h, tk, hk, F, N, k => by
    have := k [] e h tk rfl (fun _ h => (nomatch h)) F (by simpa using N)
    exact KatKeys.nil (by simpa using this)
  | y :: r, us, e, h, tk, hk, F, N, k => by
    refine KatKeys.cons (hk y (.head _) h tk _ (fun p hp => (N p (.tail _ (hm hp))).1) fun a tk' ha => ?_)
    refine KatBack.intro F N (.head hx) fun h' c F' N' => ?_
    have e1 : refs us ++ [Value.ref a] = refs (us ++ [(y.1, a)]) := by simp [refs]
    rw [e1] at N' ⊢
    refine keys_run hx hm (fun z hz => hk z (.tail _ hz)) F' N' fun vs' e' h2 tk2 q1 q2 F2 N2 => ?_
    have e2 : us ++ [(y.1, a)] ++ vs' = us ++ ((y.1, a) :: vs') := by simp
    rw [e2] at N2 ⊢
    refine k ((y.1, a) :: vs') e' h2 tk2 (by simp [q1]) (fun z hz => ?_) F2 N2
    rcases List.mem_cons.mp hz with rfl | hz
    · exact ha
    · exact q2 z hz
theorem katRev_false {α : Type} (l : List α) : katRev false l = l := rfl
theorem sort_namesK {P : PySem.Fin → Shared → Prop} (S : SL h₀ L m h ((d, PySem.W.listOf (refs ts).toArray n) :: mu) pe) (x : TsOk w pe ts) (h64 : ts.length < 64) (hf : ∀ y ∈ ts, KeyFn w A G D O mu pe f y)
    (q : ∀ ts' h' n' tk', ts'.Perm ts → Up (ts'.map (·.1)) → SL h₀ L m h' ((d, PySem.W.listOf (refs ts').toArray n') :: mu) pe → P (.done (.ret .none)) ⟨h', G, D, tk', O⟩) :
    wpAny (model PR w) A (ksk_tree d f false) P E ⟨h, G, D, tk, O⟩ := by
  have z := S.nw (d, PySem.W.listOf (refs ts).toArray n) (.head _)
  have nd := S.nd
  have hnd : ∀ p ∈ mu ++ pe, p.1 ≠ d := fun p hp e => by
    have : ((d, PySem.W.listOf (refs ts).toArray n) :: (mu ++ pe)).map (·.1) |>.Nodup := nd
    rw [List.map_cons, List.nodup_cons] at this
    exact this.1 (e ▸ List.mem_map_of_mem (f := (·.1)) hp)
  have N0 : News h₀ L h (mu ++ pe) := fun p hp => S.nw p (.tail _ hp)
  by_cases h2 : 2 ≤ ts.length
  · refine kat_keyed (b := false) (news := mu ++ pe) (vs := refs ts) (s := ⟨h, G, D, tk, O⟩) S.fr N0 z.1 z.2.1 z.2.2 hnd (by rw [refs_length]; exact h2) (by rw [refs_length]; exact h64) fun kS e1 h' F' N' l0 l1 => ?_
    have hx : ∀ p ∈ (d, seqObj "list" #[] e1) :: (mu ++ pe), p.1 ≠ kS := fun p hp => by
      rcases List.mem_cons.mp hp with rfl | hp
      · exact Nat.ne_of_lt l0
      · exact Nat.ne_of_lt (l1 p hp)
    refine keys_run (us := []) (x := (d, seqObj "list" #[] e1) :: (mu ++ pe)) hx (fun p hp => .tail _ hp) hf F' N' fun us e' h3 tk3 q1 q2 F3 N3 => ?_
    have hu : TsOk w pe us := ⟨q2, fun y hy => by
      have : y.1 ∈ ts.map (·.1) := q1 ▸ List.mem_map_of_mem (f := (·.1)) hy
      obtain ⟨z, hz, e⟩ := List.mem_map.mp this
      exact e ▸ x.ne z hz, q1 ▸ x.nd⟩
    have lu : us.length = ts.length := by have := congrArg List.length q1; simpa using this
    rw [List.nil_append] at N3 ⊢
    have hp : ∀ p ∈ pe, h3.get? p.1 = some p.2 := fun p hp => (N3 p (.tail _ (.tail _ (List.mem_append_right _ hp)))).1
    refine names_kind hp hu (by omega) ?_
    rw [refs_length, katRev_false, katRev_false]
    have elt : (fun i j => nlt (tAt us i).1 (tAt us j).1) = fun i j => nlt (tAt ts i).1 (tAt ts j).1 := by
      funext i j
      rw [tAt_fst, tAt_fst, tAt_fst, tAt_fst, q1]
    have cm := names_cmp (A := A) (G := G) (D := D) (O := O) (h := h3) hu hp (rfl : tuples' true = tuples' true)
    have od := names_ord hu
    rw [elt, lu] at cm od
    refine so_sort od cm h2 ⟨tk3, rfl⟩ fun p s' hP hA hI => ?_
    obtain ⟨tk', rfl⟩ := hI
    rw [outTs_refs hP]
    refine KatFin.intro F3 N3 (.head hx) fun h4 c F4 N4 => ?_
    refine KasFin.intro F4 (fun p hp => N4 p (.tail _ hp)) (.head hnd) fun h5 c5 F5 N5 => ?_
    exact q (outTs ts p) h5 c5 tk' (outTs_perm hP) (outTs_up hP hA) ⟨F5, N5, S.nd⟩
  · have hsz : (refs ts).toArray.size = ts.length := by rw [List.size_toArray, refs_length]
    unfold ksk_tree
    refine wpAny_bind (listItems_at z.1 rfl ?_)
    refine wpAny_bind (listUpdate_at z.1 rfl ?_ (by rw [hsz, sizeLine_eq]; omega) (Nat.zero_le _))
    have r1 : ∀ e1, Rp d (PySem.W.listOf (refs ts).toArray n) (PySem.W.listOf #[] e1) ((d, PySem.W.listOf (refs ts).toArray n) :: mu) ((d, PySem.W.listOf #[] e1) :: mu) := fun _ => .head
    obtain ⟨e1, ho1⟩ : ∃ e1, (h.update d (Obj.mapSeq fun _ => (#[] : Array Value))).get? d = some (PySem.W.listOf #[] e1) := ⟨_, get?_update_seq z.1 fun _ => #[]⟩
    have S1 := S.set (r1 e1) (Heap.SameBut.update ..) ho1
    refine wpAny_bind (seqEpoch_at ho1 rfl ?_)
    refine wpAny_bind (wpAny_newTuple ?_ (by show (refs ts).toArray.toList.length ≤ _; rw [Array.length_toList, hsz, sizeLine_eq]; omega))
    have S2 := (S1.push (seqObj "tuple" (refs ts).toArray 0)).drop1
    refine wpAny_bind (wpAny_newList ?_ (Nat.zero_le _))
    have S3 := S2.push (PySem.W.listOf #[] 0)
    refine wpAny_holding ?_
    generalize hH : ((h.update d (Obj.mapSeq fun _ => (#[] : Array Value))).push (seqObj "tuple" (refs ts).toArray 0)).objs.size = kS at S3 ⊢
    have S3' := S3
    generalize hH3 : ((h.update d (Obj.mapSeq fun _ => (#[] : Array Value))).push (seqObj "tuple" (refs ts).toArray 0)).push (PySem.W.listOf #[] 0) = H3 at S3 S3' ⊢
    show wpAny (model PR w) A (ksk_rest d f false (refs ts).toArray e1 (.ref kS)) P E ⟨H3, G, D, tk, O⟩
    have nd3 := S3.nd
    have hx : ∀ p ∈ (d, PySem.W.listOf #[] e1) :: (mu ++ pe), p.1 ≠ kS := fun p hp e => by
      have : ((kS, PySem.W.listOf #[] 0) :: ((d, PySem.W.listOf #[] e1) :: (mu ++ pe))).map (·.1) |>.Nodup := nd3
      rw [List.map_cons, List.nodup_cons] at this
      exact this.1 (e ▸ List.mem_map_of_mem (f := (·.1)) hp)
    have kr := keys_run (w := w) (A := A) (f := f) (G := G) (D := D) (O := O) (mu := mu) (pe := pe) (us := []) (e := 0) (h := H3) (tk := tk) (r := ts) (Fin := fun ks e s => ∃ us : Ts, ks = refs us ∧ us.length = ts.length ∧ ∃ h' tk', s = ⟨h', G, D, tk', O⟩ ∧ Fr h₀ L h' m ∧ News h₀ L h' ((kS, PySem.W.listOf (refs us).toArray e) :: (d, PySem.W.listOf #[] e1) :: (mu ++ pe)))
      (x := (d, PySem.W.listOf #[] e1) :: (mu ++ pe)) hx (fun p hp => .tail _ hp) hf S3.fr S3.nw fun us e' h3 tk3 q1 q2 F3 N3 => ⟨us, rfl, by have := congrArg List.length q1; simpa using this, h3, tk3, rfl, F3, N3⟩
    unfold ksk_rest
    refine wpAny_bind (wpAny_rule ?_)
    first
      | rw [List.forIn_toArray]
      | (rw [← Array.forIn_toList]; simp only [List.toList_toArray])
      | rw [← Array.forIn_toList]
    refine wpAny_bind (wpAny_mono (kat_fold (n := (refs ts).length) (by rw [refs_length]; exact h64) (fun x ks e s' C hz hx => ?_) (refs ts) [] 0 ⟨H3, G, D, tk, O⟩ (by simp) (S3.get (.head _)) kr) (fun _ s' hd => ?_) fun _ _ x => x)
    · refine wpAny_bind (wpAny_attempt (wpAny_mono hx (fun k s'' hk => ?_) fun _ _ hF => hF.elim))
      obtain ⟨news', g, F', N', U, c⟩ := hk
      obtain ⟨pre, post, e0, hg, x1, x2⟩ := U.split
      rw [e0] at N'
      have nk := N' (kS, seqObj "list" (List.toArray ks) e) (List.mem_append_right _ (.head _))
      have s1 := Heap.SameBut.update s''.heap kS (Obj.mapSeq (·.push k))
      have ea : (List.toArray ks).push k = List.toArray (ks ++ [k]) := by simp
      obtain ⟨c2, hc2⟩ : ∃ c2, (s''.heap.update kS (Obj.mapSeq (·.push k))).get? kS = some (seqObj "list" (List.toArray (ks ++ [k])) c2) := ⟨_, by rw [← ea]; exact get?_update_seq nk.1 (·.push k)⟩
      try dsimp only
      refine wpAny_bind (listUpdate_at nk.1 rfl ?_ (by rw [List.size_toArray, sizeLine_eq]; omega) (Nat.le_trans (Nat.le_of_eq (Array.size_push ..)) (by rw [List.size_toArray, sizeLine_eq]; omega)))
      exact wpAny_pure ⟨rfl, k, c2, hc2, c _ c2 (kas_fr F' s1 nk.2.1 nk.2.2) (by rw [hg]; exact news_set N' x1 x2 s1 hc2)⟩
    · obtain ⟨ks, e, hk', hl, us, rfl, lu, h3, tk3, rfl, F3, N3⟩ := hd
      try dsimp only
      refine wpAny_bind (listItems_at hk' rfl ?_)
      unfold ksk_end
      try dsimp only
      rw [if_neg (by simp), if_pos (by rw [hsz]; omega), if_pos (by rw [hsz]; omega)]
      refine wpAny_bind (wpAny_pure ?_)
      rw [StateT.run_pure]
      refine wpAny_bind (wpAny_pure ?_)
      try dsimp only
      have hz : ((((refs us).toArray.zip (refs ts).toArray).map (·.2)) : Array Value) = (refs ts).toArray := by
        apply Array.toList_inj.mp
        rw [Array.toList_map, ksk_zip, List.map_snd_zip (by simp [refs_length, lu])]
      have hz' : (arrOf (SortSt.mk' general' (if false = true then ((refs us).toArray.zip (refs ts).toArray).reverse else (refs us).toArray.zip (refs ts).toArray) #[] 7 none)).map (·.2) = (refs ts).toArray := hz
      refine kat_tail (h₀ := h₀) (L := L) (m := m) (b := false) (ks := refs us) (e := e) (out := refs ts) hz' (by rw [refs_length]; exact h64) (by rw [refs_length]; omega) rfl ?_
      refine KatFin.intro F3 N3 (.head hx) fun h4 c F4 N4 => ?_
      refine KasFin.intro F4 (fun p hp => N4 p (.tail _ hp)) (.head hnd) fun h5 c5 F5 N5 => ?_
      refine q ts h5 c5 tk3 (List.Perm.refl _) ?_ ⟨F5, N5, S.nd⟩
      unfold Up
      match ts, h2 with
      | [], _ => exact List.Pairwise.nil
      | [_], _ => exact List.pairwise_singleton ..
      | _ :: _ :: _, h2 => simp at h2
end
theorem own_get_found : typeLookup (.type "dict") "get" = pure (some (.builtin "dict.get")) := by rw [typeLookup_type, builtinLookup_eq_fast]; kernel_rfl
theorem args_md_get' (a b : Value) (c : String) : argsOk "method_descriptor.__get__" ⟨[a, b, .type c], []⟩ := by unfold argsOk; kernel_rfl
theorem md_noset : typeLookup (.type "method_descriptor") "__set__" = pure none := by rw [typeLookup_type, builtinLookup_eq_fast]; kernel_rfl
theorem md_nodel : typeLookup (.type "method_descriptor") "__delete__" = pure none := by rw [typeLookup_type, builtinLookup_eq_fast]; kernel_rfl
section
variable {w : World} {A : Around} {E : Value → Shared → Prop} {h₀ h : Heap} {L : Addr} {m : Str → Option Value} {mu mr pe : Lg}
  {G : Array GenState} {D : Drawn} {tk : Nat} {O : OsState} {d a b : Addr} {n : Nat} {xs : Ents} {k : Nm} {q' : Addr}
theorem md_bindT {id : String} {Q : PySem.Fin → Shared → Prop} {t : Addr} {ox : Obj} (ho : h.get? t = some ox) (hc : Looks (model PR w) h (isSubtype ox.cls (.type "dict")) true) (hid : ".".intercalate (id.cutAt '.').dropLast = "dict") (htold : Manifest.toldItsClass.contains id = false) (q : Q (.done (.ret (.ref h.objs.size))) ⟨h.push (boundO "builtin_function_or_method" id t), G, D, tk, O⟩) :
    wpAny (model PR w) A (Builtin.«method_descriptor.__get__» ⟨[.builtin id, .ref t, .type "dict"], []⟩) Q E ⟨h, G, D, tk, O⟩ := by
  have hc' : Looks (model PR w) h (isSubtype ox.cls (.type (".".intercalate (id.cutAt '.').dropLast))) true := by rw [hid]; exact hc
  have e0 : ∀ a, (Value.ref a == Value.none) = false := fun _ => rfl
  unfold Builtin.«method_descriptor.__get__»
  repeat (first | ((with_reducible show wpAny _ _ (isSubtype _ _) _ _ _); refine Looks.at hc' ?_) | (rw [htold, if_neg (by decide)]) | (simp only [e0, Bool.false_eq_true, if_false]) | lk)
  exact q
theorem ed_getAttr {expr : Bool} {Q : Value → Shared → Prop} (ho : h.get? d = some (eOb w xs n)) (q : Q (.ref h.objs.size) ⟨h.push (boundO "builtin_function_or_method" "dict.get" d), G, D, tk + 1, O⟩) :
    wpAny (model PR w) A (getAttr (.ref d) "get" expr) Q E ⟨h, G, D, tk, O⟩ := by
  have hT : ∀ tk', (⟨h, G, D, tk', O⟩ : Shared).TypeIs (.ref d) "dict" := fun _ => ⟨_, ho, rfl⟩
  have f3 := F.slot_dict_getattribute.lookup
  have f5 := am_dict_getattr_none
  have f6 := own_get_found
  have f7 := slot_md_get.lookup
  have f8 := ty_get
  have f9 : typeLookup (.type "method_descriptor") "__set__" = pure none := md_noset
  have f10 : typeLookup (.type "method_descriptor") "__delete__" = pure none := md_nodel
  unfold getAttr getAttrBy
  refine wpAny_bind (wpAny_mkText (wpAny_holding (wpAny_bind (wpAny_typeOf (hT _) (wpAny_bind (wpAny_of_eq f3 ?_))))))
  show wpAny _ _ (getAttrByItsOwn (.ref d) (.str "get" tk) (.type "dict") (.builtin "dict.__getattribute__") true expr) _ _ _
  unfold getAttrByItsOwn hookBefore
  refine wpAny_bind (wpAny_of_eq (show (if onTheHeap (.type "dict") then typeLookup (.type "dict") "__getattr__" else pure none) = pure none from rfl) ?_)
  refine wpAny_bind (wpAny_attempt (wpAny_holding ?_))
  unfold callGetattribute
  rw [if_neg (by simp [onTheHeap])]
  unfold boundAndCalled
  refine wpAny_bind (wpAny_of_eq (F.slot_dict_getattribute.bind _) ?_)
  refine wpAny_mono (Q := fun v s' => v = .ref h.objs.size ∧ s' = ⟨h.push (boundO "builtin_function_or_method" "dict.get" d), G, D, tk + 1, O⟩) (E := fun _ _ => False)
    (wpAny_call_entry F.slot_dict_getattribute (hT _) am_entry_dict_getattribute ?_ (F.args_dict_getattribute_2 _ _)) (fun v s' hv => ?_) fun _ _ z => z.elim
  · unfold Builtin.«object.__getattribute__»
    repeat (any_goals (first | assumption | exact hT _ | ((with_reducible show wpAny _ _ (call (Value.builtin "method_descriptor.__get__") _) _ _ _); refine wpAny_call_entry slot_md_get (show Shared.TypeIs _ (.builtin "dict.get") "method_descriptor" from ty_get) entry_md_get ?_ (args_md_get' _ _ _)) | ((with_reducible show wpAny _ _ (Builtin.«method_descriptor.__get__» _) _ _ _); refine md_bindT ho (Looks.of_pure (by rw [isSubtype_type]; kernel_rfl)) (by decide +kernel) (by decide +kernel) ?_; refine ⟨_, rfl, ?_⟩) | wp_step))
    exact ⟨_, rfl, rfl, rfl⟩
  · obtain ⟨rfl, rfl⟩ := hv
    exact wpAny_pure q
theorem get_sig : ∃ sig, Manifest.signature? "dict.get" = some sig := Option.isSome_iff_exists.mp (by rw [signature?_of (id := "dict.get") (n := ['t', 'e', 'g']) (o := ['t', 'c', 'i', 'd']) (by kernel_rfl) F.owner_dict]; decide +kernel)
theorem get_sig1 (a b : Value) : (match Manifest.signature? "dict.get" with | some sig => Bind.checkArgs "dict.get" { sig with full := "get" } ⟨[a, b], []⟩ | none => pure ()) = pure () := by
  rw [signature?_of (id := "dict.get") (n := ['t', 'e', 'g']) (o := ['t', 'c', 'i', 'd']) (by kernel_rfl) F.owner_dict]; kernel_rfl
theorem get_sig2 (a b : Value) : (match Manifest.signature? "dict.get" with | some sig => Bind.checkArgs "dict.get" { sig with full := "dict.get" } ⟨[a, b], []⟩ | none => pure ()) = pure () := by
  rw [signature?_of (id := "dict.get") (n := ['t', 'e', 'g']) (o := ['t', 'c', 'i', 'd']) (by kernel_rfl) F.owner_dict]; kernel_rfl
theorem get_kind : builtinKind "dict.get" = some .method := by decide +kernel
theorem bc_get (b : Value) (ho : h.get? d = some (eOb w xs n)) (hT : Looks (model PR w) h (typeOf (.ref d)) (.type "dict")) : Looks (model PR w) h (checkBoundCall "dict.get" ⟨[.ref d, b], []⟩) () := by
  intro A Q E s k q
  obtain ⟨sig, hs⟩ := get_sig
  have e1 := get_sig1 (.ref d) b
  have e2 := get_sig2 (.ref d) b
  simp only [hs] at e1 e2
  unfold checkBoundCall
  rw [hs]
  dsimp only
  rw [get_kind]
  dsimp only
  rw [if_neg (by decide)]
  have hm : Looks (model PR w) h (isInstance (.ref d) (.type "module")) false := hT.andThen (Looks.of_pure (by rw [isSubtype_type]; kernel_rfl))
  have l1 : Bind.lastOf "dict.get" = "get" := by decide +kernel
  have l2 : toString (Bind.lastOf "dict") ++ toString "." ++ toString (Bind.lastOf "dict.get") = "dict.get" := by decide +kernel
  refine wpAny_bind (hm A _ E s k ?_)
  cases hv : Manifest.varargsMethods.contains "dict.get" with
  | true =>
    rw [if_pos (by rfl), l1, e1]
    exact wpAny_pure q
  | false =>
    rw [if_neg (by simp)]
    refine wpAny_bind ?_
    unfold isType
    refine nd_load (k _ _ ho) (nd_pure ?_)
    show wpAny _ _ (if false = true then _ else _) _ _ _
    rw [if_neg (by simp)]
    refine wpAny_bind (hT A _ E s k ?_)
    dsimp only
    rw [l2, e2]
    exact wpAny_pure q
theorem ed_getCall {Q : Value → Shared → Prop} {p : Addr × Value} (hu : A.units + 1 < cLine) (ho : h.get? d = some (eOb w xs n)) (hq : h.get? q' = some (boundO "builtin_function_or_method" "dict.get" d)) (x : EntOk w pe xs) (hp : ∀ p ∈ pe, h.get? p.1 = some p.2) (hk : IsNm w pe k a) (hx : atKey xs k = some p)
    (q : ∀ tk', Q p.2 ⟨h, G, D, tk', O⟩) : wpAny (model PR w) A (call (.ref q') [.ref a]) Q E ⟨h, G, D, tk, O⟩ := by
  refine call_bound hq rfl rfl (bc_get _ ho ((Looks.ld ho).andThen .now)) (by decide +kernel) F.entry_dict_get ?_
  show wpAny _ _ (dictGet d (.ref a) >>= _) _ _ _
  refine wpAny_bind (dget hu hp hk ho rfl x fun tk' => ?_)
  rw [hx]
  exact wpAny_pure ⟨_, rfl, q tk'⟩
end
section
variable {w : World} {A A₀ : Around} {base h₀ h : Heap} {outer : List Env} {env : Env} {L : Addr} {p : Program} {loose : List Str} {mean : ExcName → Option Value} {mg mb m : Str → Option Value} {mu mr pe : Lg}
  {G : Array GenState} {D : Drawn} {tk : Nat} {O : OsState} {R : Result → Shared → Prop} {E : Value → Shared → Prop} {pos : Pos}
theorem callBK0 {f : Value} {first : List Value} {kws : List Keyword} {Q : Value → Shared → Prop} {s : Shared} (hk : ∀ h, Looks (model PR w) h (keeperOf f) .machine) (hall : (backToKw pos (keywordEach kws env)).all (·.1.isSome) = true)
    (q : wpAny (model PR w) A (evalAll ((backToKw pos (keywordEach kws env)).map (·.2))) (fun ks s₂ => wpAny (model PR w) A (call f (first ++ []) (((backToKw pos (keywordEach kws env)).filterMap (·.1)).zip ks)) Q E s₂) E s)
    (hplain : ((backTo pos (starEach [] env)).any (·.1) || (backToKw pos (keywordEach kws env)).any (·.1.isNone)) = false) :
    wpAny (model PR w) A (callWith pos f first (backTo pos (starEach [] env)) (backToKw pos (keywordEach kws env))) Q E s :=
  callWith_of (P := fun _ => True) hplain (fun h _ => ⟨_, .inr (.inl rfl), hk h⟩) (evalArgs_kw2_nil hall (wpAny_mono q (fun _ _ z => ⟨trivial, z⟩) fun _ _ z => z))
theorem callBK {f : Value} {first : List Value} {e : Expr} {rest : List Expr} {kws : List Keyword} {Q : Value → Shared → Prop} {s : Shared} (hk : ∀ h, Looks (model PR w) h (keeperOf f) .machine) (hall : (backToKw pos (keywordEach kws env)).all (·.1.isSome) = true)
    (q : wpAny (model PR w) A (spliced (backTo pos (starEach (e :: rest) env))) (fun vs s₁ => wpAny (model PR w) A (evalAll ((backToKw pos (keywordEach kws env)).map (·.2))) (fun ks s₂ => wpAny (model PR w) A (call f (first ++ vs) (((backToKw pos (keywordEach kws env)).filterMap (·.1)).zip ks)) Q E s₂) E s₁) E s)
    (hplain : ((backTo pos (starEach (e :: rest) env)).any (·.1) || (backToKw pos (keywordEach kws env)).any (·.1.isNone)) = false) (he : starEach (e :: rest) env = (false, eval e env) :: starEach rest env) :
    wpAny (model PR w) A (callWith pos f first (backTo pos (starEach (e :: rest) env)) (backToKw pos (keywordEach kws env))) Q E s :=
  callWith_of (P := fun _ => True) hplain (fun h _ => ⟨_, .inr (.inl rfl), hk h⟩) (evalArgs_kw2 hall (wpAny_mono q (fun _ _ z => wpAny_mono z (fun _ _ y => ⟨trivial, y⟩) fun _ _ y => y) fun _ _ z => z) he)
theorem list_meth {d : Addr} {its : Array Value} {n : Nat} {name : Str} {id : String} {pl : Sem Bool} {Q : Value × List Value → Shared → Prop} (ho : h.get? d = some (PySem.W.listOf its n)) (slot : Slot "list" name id) (hty : typeOf (.builtin id) = pure (.type "method_descriptor"))
    (q : Q (.builtin id, [.ref d]) ⟨h, G, D, tk, O⟩) : wpAny (model PR w) A (getMethod (.ref d) name pl) Q E ⟨h, G, D, tk, O⟩ :=
  getMethod_builtin ⟨_, ho, rfl⟩ PySem.F.plainAttrs_list slot hty (fun a e => by cases e; exact ⟨_, ho, rfl⟩) q
theorem OR.Ok.tsOk {r : OR} (ok : r.Ok w pe) (hne : ∀ y ∈ r.ks, y.1 ≠ []) : TsOk w pe r.ks := ⟨ok.k, hne, (ok.same.nodup_iff).mpr ok.x.nd⟩
theorem OR.kPerm {r : OR} : (r.led w ++ mr).Perm ((r.kl, r.oK) :: ((r.t, r.oT w) :: (r.td, r.oD w) :: (r.kc, r.oC w) :: (r.lens ++ mr))) :=
  ((List.Perm.swap _ _ _).trans ((List.Perm.cons _ (List.Perm.swap _ _ _)).trans (List.Perm.cons _ (.cons _ (List.Perm.swap _ _ _))))).symm.trans (by
    show List.Perm _ _
    exact List.Perm.refl _) |>.symm.symm
theorem oid_sort {r : OR} (C : Fm w A A₀ base outer env h₀ L p loose mean mg mb) (S : SL h₀ L m h (r.led w ++ mr) pe) (ok : r.Ok w pe) (hne : ∀ y ∈ r.ks, y.1 ≠ []) (hz : r.ks.length < 64) (hd : A.depth < 880) (hu : A.units < 8900)
    (post : ∀ ks' n' h' tk', ks'.Perm r.ks → Up (ks'.map (·.1)) → SL h₀ L m h' (({ r with ks := ks', nk := n' } : OR).led w ++ mr) pe → R (.ok (.ret .none)) ⟨h', G, D, tk', O⟩) :
    codeAny (model PR w) A (.call (.ref 142) ⟨[.ref r.t, .ref r.kl], []⟩) R ⟨h, G, D, tk, O⟩ := by
  refine' enter (binds := [("self", .ref r.t), ("keys", .ref r.kl)]) (cl := []) C S ?k6 ?k7 ?k8 ?k9 ?kB ?_ ?c2 ?c3 ?c4 ?c5
  case k6 => k_is
  case k7 => k_is
  case k8 => show Around.depth _ < 1000; first | omega | (simp only [und_depth]; omega)
  case k9 => exact BindsTo.of_eq rfl
  case kB => exact locs rfl
  case c2 => decide
  case c3 => exact rfl
  case c4 => exact rfl
  case c5 => exact rfl
  intro g L' h₁ C' S'
  walk_at "ms"
  refine methodCall_KW ?_
  walk_at "ms"
  refine list_meth (OR.at S').2.2.2 PySem.F.slot_list_sort PySem.F.type_list_sort ?_
  refine callBK0 (mach _) rfl ?_ rfl
  refine kwAll_cons ?_
  walk_at "ms"
  refine od_getC S' (S'.X C') ?_
  refine ed_getAttr (OR.at S').2.2.1 ?_
  refine kwAll_nil ?_
  have S₂ := (S'.perm OR.kPerm).push (boundO "builtin_function_or_method" "dict.get" r.kc)
  have S₃ := S₂.perm (List.Perm.swap _ _ _)
  refine wpAny_call_entry_kw slot_list_sort ⟨_, S₃.get (.head _), rfl⟩ entry_list_sort ?_ (ksk_l1 _ _)
  show wpAny _ _ (Builtin.«list.sort» ⟨[.ref r.kl], [(Str.ofString "key", .ref _)]⟩) _ _ _
  rw [ksk_t1]
  refine sort_namesK S₃ (ok.tsOk hne) hz (fun y hy h tk Q hp q => ?_) fun ks' h' n' tk' p1 p2 S₄ => ?_
  · have hk := ok.k y hy
    have hin : y.1 ∈ r.cs.map (·.1) := ok.cin _ (ok.same.mem_iff.mp (List.mem_map_of_mem (f := (·.1)) hy))
    obtain ⟨pc, hpc⟩ := atKey_some hin
    obtain ⟨a', e', hk'⟩ : ∃ a, pc.2 = .ref a ∧ IsNm w pe y.1 a := by
      unfold atKey at hpc
      obtain ⟨z, hz, e⟩ := Option.map_eq_some_iff.mp hpc
      have hz1 := List.mem_of_find?_eq_some hz
      have hz2 := List.find?_some hz
      obtain ⟨a, e1, e2⟩ := ok.cv z hz1
      refine ⟨a, by rw [← e]; exact e1, ?_⟩
      rw [decide_eq_true_eq] at hz2
      exact hz2 ▸ e2
    refine ed_getCall (by show A.units + 3 + 1 + 1 < 9900; omega) (hp (r.kc, r.oC w) (List.mem_append_left _ (.tail _ (.tail _ (.tail _ (.head _)))))) (hp (_, boundO "builtin_function_or_method" "dict.get" r.kc) (List.mem_append_left _ (.head _))) ok.c (fun z hz => hp z (List.mem_append_right _ hz)) hk hpc fun tk' => ?_
    rw [e']
    exact q a' tk' hk'
  · refine ⟨_, rfl, ?_⟩
    walk_at "ms"
    have S₅ := (S₄.perm (List.Perm.swap _ _ _)).drop1
    have S₆ : SL g L' _ h' (({ r with ks := ks', nk := n' } : OR).led w ++ mr) pe := S₅.perm (OR.kPerm (r := ({ r with ks := ks', nk := n' } : OR))).symm
    refine leave S₆ fun S₇ => ?_
    exact post ks' n' h' tk' p1 p2 S₇
end
section
open PyProof.Rows.LCg
variable {w : World} {A : Around} {E : Value → Shared → Prop} {h₀ h h' : Heap} {L : Addr} {m : Str → Option Value} {mu mu' mr pe : Lg}
  {G : Array GenState} {D : Drawn} {tk : Nat} {O : OsState} {env : Env}
theorem SL.setX {a : Addr} {o o' : Obj} (S : SL h₀ L m h mu pe) (r : Rp a o o' mu mu') (hk : ∀ b ob, b ≠ a → h.get? b = some ob → h'.get? b = some ob) (hg : h'.get? a = some o') : SL h₀ L m h' mu' pe := by
  have hd := S.nw (a, o) (List.mem_append_left _ r.mem)
  obtain ⟨pre, post, e1, e2, n1, n2⟩ := (S.upd r).split
  refine ⟨⟨S.fr.ns.at' fun ob e => hk _ ob (Ne.symm hd.2.1) e, fun b ob e => hk b ob (fun q => ?_) (S.fr.keep b ob e), S.fr.above⟩, ?_, S.nd' r⟩
  · rw [q, hd.2.2] at e; cases e
  · rw [e2]
    have N := S.nw
    rw [e1] at N
    intro p hp
    rcases List.mem_append.mp hp with z | z
    · have q := N p (List.mem_append_left _ z)
      exact ⟨hk _ _ (n1 p z) q.1, q.2⟩
    · rcases List.mem_cons.mp z with rfl | z
      · exact ⟨hg, hd.2⟩
      · have q := N p (List.mem_append_right _ (.tail _ z))
        exact ⟨hk _ _ (n2 p z) q.1, q.2⟩
abbrev CompTests (ifs : List Expr) (cenv : Env) : Sem Bool := forIn ifs true fun c r => if r = true then do let ok ← isTrue c cenv (eval c cenv); pure (ForInStep.yield ok) else pure (ForInStep.yield r)
def LoopR (w : World) (A : Around) (e target : Expr) (ifs : List Expr) (elt : Expr) (addId : String) : Prop :=
  ∀ (env : Env) (it acc : Value) (R : Result → Shared → Prop) (I : Nat → Shared → Prop),
    (∀ n s, I n s → wpAny (model PR w) A (pyNext it) (fun r s₁ => match r with
      | none => R (.ok .next) s₁
      | some v => wpAny (model PR w) A (assign target env v) (fun _ s₂ =>
          wpAny (model PR w) A (CompTests ifs env) (fun ok s₃ =>
            if ok = true then wpAny (model PR w) A (eval elt env) (fun x s₄ =>
              wpAny (model PR w) A (call (.builtin addId) [acc, x]) (fun _ s₅ => ∃ m, m < n ∧ I m s₅) (notedBy (model PR w) A env fun e s' => R (.error e) s') s₄) (notedBy (model PR w) A env fun e s' => R (.error e) s') s₃
            else ∃ m, m < n ∧ I m s₃) (notedBy (model PR w) A env fun e s' => R (.error e) s') s₂) (notedBy (model PR w) A env fun e s' => R (.error e) s') s₁) (notedBy (model PR w) A env fun e s' => R (.error e) s') s) →
    ∀ n s, I n s → codeAny (model PR w) A (.compLoop e 0 it acc env) R s
def StartR (w : World) (A : Around) (e : Expr) : Prop :=
  ∀ (env : Env) (it acc : Value) (R : Result → Shared → Prop) (s : Shared), codeAny (model PR w) A (.compLoop e 0 it acc env) R s →
    wpAny (model PR w) A (pyIter it) (fun it' s' => codeAny (model PR w) A (.compLoop e 0 it' acc env) R s') (notedBy (model PR w) A env fun x s' => R (.error x) s') s →
    codeAny (model PR w) A (.compStart e 0 it acc env) R s
theorem loop_list {elt iter : Expr} {x : Str} {px : Pos} {ifs : List Expr} {scope : Scope} {pos : Pos} : LoopR w A (.ListComp elt [⟨.Name x px, iter, ifs, 0⟩] scope pos) (.Name x px) ifs elt "list.append" :=
  fun env it acc R I turn n s h => codeAny_compLoop_tests I turn n h
theorem start_list {elt iter : Expr} {x : Str} {px : Pos} {ifs : List Expr} {scope : Scope} {pos : Pos} : StartR w A (.ListComp elt [⟨.Name x px, iter, ifs, 0⟩] scope pos) :=
  fun env it acc R s h0 h => codeAny_compStart_list h0 h
theorem compTurn_set (elt target iter : Expr) (scope : Scope) (pos : Pos) (it acc : Value) (env : Env) :
    compTurn (.SetComp elt [⟨target, iter, [], 0⟩] scope pos) 0 it acc env = (standAt iter.pos >>= fun _ => pyNext it >>= fun r => match r with
      | none => pure (.done .next)
      | some v => letOwnedTupleGo target it v >>= fun _ => assign target env v >>= fun _ =>
        (eval elt env >>= fun x => standAt elt.pos >>= fun _ => call (.builtin "set.add") [acc, x] >>= fun _ => pure ()) >>= fun _ =>
          again (.compLoop (.SetComp elt [⟨target, iter, [], 0⟩] scope pos) 0 it acc env)) := by rfl
theorem loop_set {elt iter : Expr} {x : Str} {px : Pos} {scope : Scope} {pos : Pos} : LoopR w A (.SetComp elt [⟨.Name x px, iter, [], 0⟩] scope pos) (.Name x px) [] elt "set.add" := by
  intro env it acc R I turn n s h
  refine codeAny_loop rfl I (fun n s hI => ?_) n h
  show wpAny _ A ((compTurn (.SetComp elt [⟨.Name x px, iter, [], 0⟩] scope pos) 0 it acc env).onRaise (fun x => do noteFrame x env; theTreesLotGoes x)) _ _ s
  refine wpAny_noted ?_
  rw [compTurn_set]
  refine wpAny_bind (wpAny_standAt (wpAny_bind (wpAny_mono (turn n s hI) (fun r s₁ h₁ => ?_) fun _ _ h' => h')))
  cases r with
  | none => exact wpAny_pure h₁
  | some v =>
    refine wpAny_bind (wpAny_of_eq (show letOwnedTupleGo (.Name x px) it v = pure () from rfl) ?_)
    refine wpAny_bind (wpAny_mono h₁ (fun _ s₂ h₂ => ?_) fun _ _ h' => h')
    have h₂' : wpAny (model PR w) A (eval elt env) (fun x s₄ => wpAny (model PR w) A (call (.builtin "set.add") [acc, x]) (fun _ s₅ => ∃ m, m < n ∧ I m s₅) (notedBy (model PR w) A env fun e s' => R (.error e) s') s₄) (notedBy (model PR w) A env fun e s' => R (.error e) s') s₂ := by
      intro Γ q hΓ
      have t : (if true = true then wpAny (model PR w) A (eval elt env) (fun x s₄ => wpAny (model PR w) A (call (.builtin "set.add") [acc, x]) (fun _ s₅ => ∃ m, m < n ∧ I m s₅) (notedBy (model PR w) A env fun e s' => R (.error e) s') s₄) (notedBy (model PR w) A env fun e s' => R (.error e) s') s₂ else ∃ m, m < n ∧ I m s₂) := h₂ Γ q hΓ
      rw [if_pos rfl] at t
      exact t Γ q hΓ
    exact wpAny_bind (wpAny_bind (wpAny_mono h₂' (fun x s₃ h₃ => wpAny_bind (wpAny_standAt (wpAny_bind (wpAny_mono h₃ (fun _ s₄ h₄ => wpAny_pure (wpAny_pure ⟨rfl, h₄⟩)) fun _ _ h' => h')))) fun _ _ h' => h'))
theorem start_set {elt target iter : Expr} {ifs : List Expr} {rest : List Comprehension} {scope : Scope} {pos : Pos} : StartR w A (.SetComp elt (⟨target, iter, ifs, 0⟩ :: rest) scope pos) := by
  intro env it acc R s h0 h
  refine codeAny_of_tree ?_
  show wpAny _ _ ((compStart (.SetComp elt (⟨target, iter, ifs, 0⟩ :: rest) scope pos) 0 it acc env).onRaise (fun x => do noteFrame x env; standAt theWindowsPlace)) _ _ s
  refine wpAny_notedAt ?_
  unfold compStart
  show wpAny _ _ (ask >>= _) _ _ s
  refine wpAny_bind (wpAny_askSetting (wpAny_ite ?_))
  split
  · first
      | exact wpAny_bind (wpAny_pure (wpAny_pure (And.intro rfl h0)))
      | exact wpAny_pure (And.intro rfl h0)
  · first
      | exact wpAny_bind (wpAny_rule (wpAny_bind (wpAny_standAt (wpAny_bind (wpAny_mono h (fun it' s' h' => wpAny_pure (And.intro rfl h')) fun _ _ x => x)))))
      | (refine wpAny_bind (wpAny_rule ?_); show wpAny _ _ (standAt iter.pos >>= _) _ _ s; exact wpAny_bind (wpAny_standAt (wpAny_bind (wpAny_mono h (fun it' s' h' => wpAny_pure (And.intro rfl h')) fun _ _ x => x))))

structure Src (w : World) (A : Around) (I : Addr) (n : Nat) (P : Nat → Value → Prop) (St : Nat → Heap → Prop) (l : Lg) : Prop where
  W : ∃ fp, Walks PR w A I fp [I] n P St
  io : ∀ i h, St i h → ∃ o, h.get? I = some o
  st : ∀ i h h' o, St i h → h.get? I = some o → h'.get? I = some o → (∀ p ∈ l, h'.get? p.1 = some p.2) → St i h'
def Turn (w : World) (A : Around) (h₀ : Heap) (L : Addr) (m : Str → Option Value) (G : Array GenState) (D : Drawn) (O : OsState) (mu pe : Lg) (σ : Type) (oD : σ → Obj) (emit : σ → Value → σ → Prop) (J : Nat → σ → Lg → Prop) (P : Nat → Value → Prop) (n : Nat) (x : Str) (ifs : List Expr) (elt : Expr) (scope : Scope) (cl : List (Str × Addr)) (env : Env) : Prop :=
  ∀ i v y pe' h tk I C Dd oI oC m₂ (E' : Value → Shared → Prop), i < n → P i v → J i y pe' → pe ⊆ pe' → NsObj oC m₂ → m₂ x = some v → SL h₀ L m h ((I, oI) :: (C, oC) :: (Dd, oD y) :: mu) pe' →
    wpAny (model PR w) A (CompTests ifs (compEnvC scope cl C env)) (fun ok s₃ =>
      if ok = true then wpAny (model PR w) A (eval elt (compEnvC scope cl C env)) (fun z s₄ => ∃ h' tk' pe'' y', s₄ = ⟨h', G, D, tk', O⟩ ∧ emit y z y' ∧ J (i + 1) y' pe'' ∧ pe' ⊆ pe'' ∧ SL h₀ L m h' ((I, oI) :: (C, oC) :: (Dd, oD y) :: mu) pe'') E' s₃
      else ∃ h' tk' pe'', s₃ = ⟨h', G, D, tk', O⟩ ∧ J (i + 1) y pe'' ∧ pe' ⊆ pe'' ∧ SL h₀ L m h' ((I, oI) :: (C, oC) :: (Dd, oD y) :: mu) pe'') E' ⟨h, G, D, tk, O⟩
theorem blk {e elt : Expr} {x : Str} {px : Pos} {ifs : List Expr} {scope : Scope} {cl : List (Str × Addr)} {addId : String} {σ : Type} {oD : σ → Obj} {y0 : σ} {emit : σ → Value → σ → Prop} {J : Nat → σ → Lg → Prop} {P : Nat → Value → Prop} {St : Nat → Heap → Prop} {n : Nat} {I : Addr} {oI : Obj} {newAcc : Sem Value} {RR : Value → Addr → Result → Shared → Prop}
    (lr : LoopR w A e (.Name x px) ifs elt addId) (sr : StartR w A e)
    (hnew : ∀ {Q : Value → Shared → Prop} {h : Heap} {tk : Nat} {E : Value → Shared → Prop}, Q (.ref h.objs.size) ⟨h.push (oD y0), G, D, tk, O⟩ → wpAny (model PR w) A newAcc Q E ⟨h, G, D, tk, O⟩) (hfree : ∀ y, (oD y).isFreed = false)
    (hadd : ∀ {i y z y' pe'} {h : Heap} {tk : Nat} {Dd : Addr} {E : Value → Shared → Prop} {Q : Value → Shared → Prop}, i ≤ n → J i y' pe' → emit y z y' → h.get? Dd = some (oD y) → (∀ v h' tk', Heap.SameBut Dd h h' → h'.get? Dd = some (oD y') → Q v ⟨h', G, D, tk', O⟩) → wpAny (model PR w) A (call (.builtin addId) [.ref Dd, z]) Q E ⟨h, G, D, tk, O⟩)
    (src : Src w A I n P St mu) (hst : St 0 h) (S : SL h₀ L m h ((I, oI) :: mu) pe) (hJ : J 0 y0 pe)
    (hcell : ∀ y ∈ scope.names, y.2 ≠ .cell) (hkind : scope.kind = .function) (hx : scope.names.lookup x = some .local)
    (turn : Turn w A h₀ L m G D O mu pe σ oD emit J P n x ifs elt scope cl env)
    (hRR : ∀ Dd C h' tk' m' y pe' oC, J n y pe' → pe ⊆ pe' → SL h₀ L m h' ((C, oC) :: (Dd, oD y) :: mu) pe' → h'.Ns C m' → RR (.ref Dd) C (.ok .next) ⟨h', G, D, tk', O⟩) :
    wpAny (model PR w) A newAcc (fun acc s₃ => wpAny (model PR w) A (newFunctionEnv scope env.globals cl [] env.qual none .none (some env)) (fun cenv s₄ =>
      codeAny (model PR w) A (.compStart e 0 (.ref I) acc { cenv with scope := relabel scope env }) (RR acc cenv.locals) s₄) E s₃) E ⟨h, G, D, tk, O⟩ := by
  obtain ⟨fp, W⟩ := src.W
  refine hnew (wpAny_newFunctionEnv hcell (by intro y hy; simp at hy) (fun h₁ hns₁ hsb₁ => ?_) hkind)
  dsimp only at hns₁ hsb₁ ⊢
  have S1 := S.push (oD y0) (hfree y0)
  generalize hDd : h.objs.size = Dd at S1 ⊢
  generalize hH2 : h.push (oD y0) = H2 at S1 hns₁ hsb₁ ⊢
  generalize hCc : H2.objs.size = C at hns₁ hsb₁ ⊢
  have old : ∀ b o, H2.get? b = some o → h₁.get? b = some o := fun b o e => hsb₁.extBut b o (by have := Heap.lt_size e; rw [← hCc]; exact Nat.ne_of_lt this) (Heap.get?_push_of_some _ e)
  obtain ⟨oC, heC, hoC⟩ := ns_obj hns₁
  have hC₀ : h₀.get? C = none := by
    cases q : h₀.get? C with
    | none => rfl
    | some o => have := Heap.lt_size (S1.fr.keep _ _ q); rw [hCc] at this; exact absurd this (Nat.lt_irrefl _)
  have hCL : C ≠ L := by
    have : L < H2.objs.size := S1.fr.ns.lt
    rw [hCc] at this
    exact Nat.ne_of_gt this
  have S2 : SL h₀ L m h₁ ((C, oC) :: (Dd, oD y0) :: (I, oI) :: mu) pe := S1.of (S1.fr.keeps old) (fun p hp => by
    rcases List.mem_cons.mp hp with rfl | hp
    · exact ⟨heC, hCL, hC₀⟩
    · exact ⟨old _ _ (S1.nw p hp).1, (S1.nw p hp).2⟩) fun p hp => by rw [← hCc]; exact S1.lt p hp
  have p0 : ∀ {oI oC oDd : Obj}, List.Perm ((C, oC) :: (Dd, oDd) :: (I, oI) :: mu) ((I, oI) :: (C, oC) :: (Dd, oDd) :: mu) := fun {_ _ _} => (List.Perm.cons _ (List.Perm.swap _ _ _)).trans (List.Perm.swap _ _ _)
  have S3 := S2.perm p0
  have hst₁ : St 0 h₁ := src.st 0 h h₁ oI hst (S.get (.head _)) (S3.get (.head _)) fun p hp => S3.get (.tail _ (.tail _ (.tail _ hp)))
  have loop : ∀ s₃ : Shared, s₃ = ⟨h₁, G, D, tk + ([] : List (Str × Value)).length, O⟩ →
      codeAny (model PR w) A (.compLoop e 0 (.ref I) (.ref Dd) (compEnvC scope cl C env)) (RR (.ref Dd) C) s₃ := by
    rintro s₃ rfl
    refine lr _ _ _ _ (fun k s' => ∃ h' tk i y m' pe' oI oC, s' = ⟨h', G, D, tk, O⟩ ∧ i ≤ n ∧ k = n + 1 - i ∧ St i h' ∧ NsObj oC m' ∧ pe ⊆ pe' ∧ J i y pe' ∧ SL h₀ L m h' ((I, oI) :: (C, oC) :: (Dd, oD y) :: mu) pe') ?_ (n + 1) _
      ⟨h₁, _, 0, y0, _, pe, oI, oC, rfl, Nat.zero_le _, rfl, hst₁, hoC, fun _ z => z, hJ, S3⟩
    rintro k s' ⟨h', tk, i, y, m', pe', oI, oC, rfl, hi, rfl, hst', hoC', hpe, hJ', S'⟩
    have apart : ∀ {h oI oC pe'}, SL h₀ L m h ((I, oI) :: (C, oC) :: (Dd, oD y) :: mu) pe' → C ≠ I ∧ Dd ≠ I ∧ Dd ≠ C := fun {_ _ _ _} S => by
      have := S.nd
      simp only [List.cons_append, List.map_cons, List.nodup_cons, List.mem_cons, not_or] at this
      exact ⟨fun e => this.1.1 e.symm, fun e => this.1.2.1 e.symm, fun e => this.2.1.1 e.symm⟩
    by_cases hlt : i < n
    · refine W.item i _ _ _ hlt hst' fun v h₂ tk₂ hPv hst₂ hk₂ => ?_
      obtain ⟨oI₂, heI₂⟩ := src.io _ _ hst₂
      have Sa := S'.setX (mu' := (I, oI₂) :: (C, oC) :: (Dd, oD y) :: mu) .head (fun b ob hb e => hk₂ b ob (by simpa using hb) e) heI₂
      refine wpAny_assign_Name (wpAny_storeName_local (lookup_relabel_local hx) (hoC'.ns (Sa.get (.tail _ (.head _)))) (fun h₃ hn₃ hs₃ => ?_) (by simp [compEnvC, relabel, hkind]))
      obtain ⟨oC₃, heC₃, hoC₃⟩ := ns_obj hn₃
      have Sb := Sa.setX (mu' := (I, oI₂) :: (C, oC₃) :: (Dd, oD y) :: mu) (.tail .head) (fun b ob hb e => hs₃.extBut b ob hb e) heC₃
      have hst₃ : St (i + 1) h₃ := src.st _ _ _ oI₂ hst₂ heI₂ (Sb.get (.head _)) fun p hp => Sb.get (.tail _ (.tail _ (.tail _ hp)))
      refine wpAny_mono (turn i v y pe' h₃ _ I C Dd oI₂ oC₃ _ _ hlt hPv hJ' hpe hoC₃ (by simp) Sb) (fun ok s₃ h3 => ?_) fun _ _ e => e
      cases ok with
      | false =>
        rw [if_neg (by simp)] at h3 ⊢
        obtain ⟨h₄, tk₄, pe₄, rfl, hJ₄, hp₄, S₄⟩ := h3
        refine ⟨n + 1 - (i + 1), by omega, h₄, tk₄, i + 1, y, _, pe₄, oI₂, oC₃, rfl, hlt, rfl, ?_, hoC₃, fun p hp => hp₄ (hpe hp), hJ₄, S₄⟩
        exact src.st _ _ _ oI₂ hst₃ (Sb.get (.head _)) (S₄.get (.head _)) fun p hp => S₄.get (.tail _ (.tail _ (.tail _ hp)))
      | true =>
        rw [if_pos rfl] at h3 ⊢
        refine wpAny_mono h3 (fun z s₄ h4 => ?_) fun _ _ e => e
        obtain ⟨h₄, tk₄, pe₄, y', rfl, hem, hJ₄, hp₄, S₄⟩ := h4
        refine hadd hlt hJ₄ hem (S₄.get (.tail _ (.tail _ (.head _)))) fun _ h₅ tk₅ hs₅ hD₅ => ?_
        have S₅ := S₄.setX (mu' := (I, oI₂) :: (C, oC₃) :: (Dd, oD y') :: mu) (.tail (.tail .head)) (fun b ob hb e => hs₅.extBut b ob hb e) hD₅
        refine ⟨n + 1 - (i + 1), by omega, h₅, tk₅, i + 1, y', _, pe₄, oI₂, oC₃, rfl, hlt, rfl, ?_, hoC₃, fun p hp => hp₄ (hpe hp), hJ₄, S₅⟩
        exact src.st _ _ _ oI₂ hst₃ (Sb.get (.head _)) (S₅.get (.head _)) fun p hp => S₅.get (.tail _ (.tail _ (.tail _ hp)))
    · obtain rfl : i = n := Nat.le_antisymm hi (Nat.not_lt.mp hlt)
      refine W.done _ _ _ hst' fun h₂ tk₂ hk₂ => ?_
      have Sc := S'.drop1
      have hn : I ∉ ((C, oC) :: (Dd, oD y) :: (mu ++ pe')).map (·.1) := by
        have := S'.nd
        simp only [List.cons_append, List.map_cons, List.nodup_cons] at this
        exact this.1
      have hI₀ := (S'.nw (I, oI) (.head _)).2
      have Sd : SL h₀ L m h₂ ((C, oC) :: (Dd, oD y) :: mu) pe' := ⟨fr_but Sc.fr hk₂ (Ne.symm hI₀.1) hI₀.2, news_but Sc.nw hk₂ fun p hp e => hn (e ▸ List.mem_map_of_mem (f := (·.1)) hp), Sc.nd⟩
      exact hRR Dd C h₂ tk₂ m' y pe' oC hJ' hpe Sd (hoC'.ns (Sd.get (.head _)))
  exact sr _ _ _ _ _ (loop _ rfl) (W.self 0 _ _ _ hst₁ (loop _ rfl))
end
section
open PyProof.Rows.LCg
variable {w : World} {A A₀ : Around} {base : Heap} {outer : List Env} {E : Value → Shared → Prop} {h₀ h h' : Heap} {L : Addr} {m : Str → Option Value} {mu mu' mr pe : Lg} {p : Program} {loose : List Str} {mean : ExcName → Option Value} {mg mb : Str → Option Value}
  {G : Array GenState} {D : Drawn} {tk : Nat} {O : OsState} {env : Env}
theorem SL.dropX {a : Addr} {o : Obj} (S : SL h₀ L m h ((a, o) :: mu) pe) (hk : ∀ b ob, b ≠ a → h.get? b = some ob → h'.get? b = some ob) : SL h₀ L m h' mu pe := by
  have hn : a ∉ (mu ++ pe).map (·.1) := by
    have := S.nd
    simp only [List.cons_append, List.map_cons, List.nodup_cons] at this
    exact this.1
  have h0 := (S.nw (a, o) (.head _)).2
  have S1 := S.drop1
  have hk' : ∀ b ob, b ∉ [a] → h.get? b = some ob → h'.get? b = some ob := fun b ob hb e => hk b ob (by simpa using hb) e
  exact ⟨fr_but S1.fr hk' (Ne.symm h0.1) h0.2, news_but S1.nw hk' fun p hp e => hn (e ▸ List.mem_map_of_mem (f := (·.1)) hp), S1.nd⟩
abbrev lstEmit : List Value → Value → List Value → Prop := fun y z y' => y' = y ++ [z]
def CompAt (w : World) (A : Around) (h₀ : Heap) (L : Addr) (m : Str → Option Value) (G : Array GenState) (D : Drawn) (O : OsState) (x : Str) (ifs : List Expr) (elt : Expr) (scope : Scope) (cl : List (Str × Addr)) (env : Env) (Q : Value → Shared → Prop) (it : Value) (s : Shared) : Prop :=
  ∃ (I : Addr) (n : Nat) (P : Nat → Value → Prop) (St : Nat → Heap → Prop) (h : Heap) (tk : Nat) (mu pe : Lg) (oI : Obj) (J : Nat → List Value → Lg → Prop),
    it = .ref I ∧ s = ⟨h, G, D, tk, O⟩ ∧ Src w A I n P St mu ∧ St 0 h ∧ SL h₀ L m h ((I, oI) :: mu) pe ∧ J 0 [] pe ∧ n ≤ 1000 ∧
    Turn w A h₀ L m G D O mu pe (List Value) lst lstEmit J P n x ifs elt scope cl env ∧
    ∀ Dd h' tk' y pe', J n y pe' → pe ⊆ pe' → SL h₀ L m h' ((Dd, PySem.W.listOf y.toArray y.length) :: mu) pe' → Q (.ref Dd) ⟨h', G, D, tk', O⟩
theorem comp_list {elt iter : Expr} {x : Str} {px : Pos} {ifs : List Expr} {scope : Scope} {cl : List (Str × Addr)} {pos : Pos} {Q : Value → Shared → Prop} {s : Shared}
    (h : wpAny (model PR w) A (eval iter env) (fun xv s₁ => wpAny (model PR w) A (pyIter xv) (CompAt w A h₀ L m G D O x ifs elt scope cl env Q) E s₁) E s)
    (hclos : closureFor scope env = pure cl) (hcell : ∀ y ∈ scope.names, y.2 ≠ .cell) (hkind : scope.kind = .function)
    (hnames : ∀ y ∈ scope.names, y.2 = .local → scope.names.lookup y.1 = some .local) (hx : scope.names.lookup x = some .local)
    (hs : ∀ x, foldedSetIterable iter env x = pure x) :
    wpAny (model PR w) A (eval (.ListComp elt [⟨.Name x px, iter, ifs, 0⟩] scope pos) env) Q E s := by
  rw [eval_ListComp]
  refine wpAny_comprehension_free (use := none) rfl hs hclos hkind hnames (wpAny_mono h (fun xv s₁ h₁ => wpAny_mono h₁ (fun it s₂ h₂ => ?_) fun _ _ e => e) fun _ _ e => e)
  obtain ⟨I, n, P, St, h, tk, mu, pe, oI, J, rfl, rfl, src, hst, S, hJ, hn, turn, fin⟩ := h₂
  refine blk (oD := lst) (y0 := []) (emit := lstEmit) (J := fun i y pe => J i y pe ∧ y.length ≤ i) loop_list start_list (fun q => wpAny_newObj_type q) (fun _ => rfl) ?_ src hst S ⟨hJ, Nat.le_refl _⟩ hcell hkind hx ?_ ?_
  · intro i y z y' pe' h tk Dd E Q hi hJ' hem hg q
    have hem' : y' = y ++ [z] := hem
    subst hem'
    have hl := hJ'.2
    refine append_at hg (fun h' hs hg' => q _ h' _ hs (hg'.trans (congrArg some (lst_snoc y z)))) ?_
    rw [List.length_append, List.length_singleton] at hl
    rw [List.size_toArray, sizeLine_eq]; omega
  · intro i v y pe' h tk I C Dd oI oC m₂ E' hi hP hJ' hpe hns hm₂ S'
    refine wpAny_mono (turn i v y pe' h tk I C Dd oI oC m₂ E' hi hP hJ'.1 hpe hns hm₂ S') (fun ok s₃ h3 => ?_) fun _ _ e => e
    cases ok with
    | false =>
      rw [if_neg (by simp)] at h3 ⊢
      obtain ⟨h₄, tk₄, pe₄, e, hJ₄, r⟩ := h3
      exact ⟨h₄, tk₄, pe₄, e, ⟨hJ₄, by have := hJ'.2; omega⟩, r⟩
    | true =>
      rw [if_pos rfl] at h3 ⊢
      refine wpAny_mono h3 (fun z s₄ h4 => ?_) fun _ _ e => e
      obtain ⟨h₄, tk₄, pe₄, y', e, hem, hJ₄, r⟩ := h4
      exact ⟨h₄, tk₄, pe₄, y', e, hem, ⟨hJ₄, by rw [show y' = y ++ [z] from hem, List.length_append, List.length_singleton]; have := hJ'.2; omega⟩, r⟩
  · intro Dd C h' tk' m' y pe' oC hJ' hpe S' hns
    exact ⟨m', hns, fun h'' hs'' => fin Dd h'' tk' y pe' hJ'.1 hpe (S'.dropX fun b ob hb e => hs''.extBut b ob hb e)⟩
def CompAtS (w : World) (A : Around) (h₀ : Heap) (L : Addr) (m : Str → Option Value) (G : Array GenState) (D : Drawn) (O : OsState) (x : Str) (elt : Expr) (scope : Scope) (cl : List (Str × Addr)) (env : Env) (Q : Value → Shared → Prop) (it : Value) (s : Shared) : Prop :=
  ∃ (I : Addr) (n : Nat) (P : Nat → Value → Prop) (St : Nat → Heap → Prop) (h : Heap) (tk : Nat) (mu pe : Lg) (oI : Obj) (J : Nat → Sb → Prop),
    it = .ref I ∧ s = ⟨h, G, D, tk, O⟩ ∧ Src w A I n P St mu ∧ St 0 h ∧ SL h₀ L m h ((I, oI) :: mu) pe ∧ J 0 [] ∧
    (∀ i v y h tk I C Dd oI oC oD m₂ (E' : Value → Shared → Prop), i < n → P i v → J i y → NsObj oC m₂ → m₂ x = some v → SL h₀ L m h ((I, oI) :: (C, oC) :: (Dd, oD) :: mu) pe →
      wpAny (model PR w) A (eval elt (compEnvC scope cl C env)) (fun z s₄ => ∃ tk' k t, z = .int (k : Nat) t ∧ (k = 1 ∨ k = 2 ∨ k = 3) ∧ J (i + 1) (smIns y k t) ∧ s₄ = ⟨h, G, D, tk', O⟩) E' ⟨h, G, D, tk, O⟩) ∧
    ∀ Dd h' tk' bs ep, J n bs → Sm bs → SL h₀ L m h' ((Dd, smO bs ep (!bt w)) :: mu) pe → Q (.ref Dd) ⟨h', G, D, tk', O⟩
theorem eval_SetComp (elt : Expr) (gens : List Comprehension) (scope : Scope) (pos : Pos) : eval (.SetComp elt gens scope pos) env =
    comprehension (.SetComp elt gens scope pos) scope env (firstIterPos gens pos) (newSet (.type "set")) (firstAsync gens) (firstIter gens env) := rfl
theorem comp_set {elt iter : Expr} {x : Str} {px : Pos} {scope : Scope} {cl : List (Str × Addr)} {pos : Pos} {Q : Value → Shared → Prop} {s : Shared}
    (h : wpAny (model PR w) A (eval iter env) (fun xv s₁ => wpAny (model PR w) A (pyIter xv) (CompAtS w A h₀ L m G D O x elt scope cl env Q) E s₁) E s)
    (hclos : closureFor scope env = pure cl) (hcell : ∀ y ∈ scope.names, y.2 ≠ .cell) (hkind : scope.kind = .function)
    (hnames : ∀ y ∈ scope.names, y.2 = .local → scope.names.lookup y.1 = some .local) (hx : scope.names.lookup x = some .local)
    (hs : ∀ x, foldedSetIterable iter env x = pure x) :
    wpAny (model PR w) A (eval (.SetComp elt [⟨.Name x px, iter, [], 0⟩] scope pos) env) Q E s := by
  rw [eval_SetComp]
  refine wpAny_comprehension_free (use := none) rfl hs hclos hkind hnames (wpAny_mono h (fun xv s₁ h₁ => wpAny_mono h₁ (fun it s₂ h₂ => ?_) fun _ _ e => e) fun _ _ e => e)
  obtain ⟨I, n, P, St, h, tk, mu, pe, oI, J, rfl, rfl, src, hst, S, hJ, turn, fin⟩ := h₂
  refine blk (σ := Sb × Nat) (oD := fun y => smO y.1 y.2 (!bt w)) (y0 := ([], 0)) (emit := fun y z y' => ∃ (k : Nat) (t : Tok), z = .int k t ∧ (k = 1 ∨ k = 2 ∨ k = 3) ∧ Sm y.1 ∧ y'.1 = smIns y.1 k t ∧ y'.2 = if k ∈ y.1.map (·.1) then y.2 else y.2 + 1) (J := fun i y pe' => J i y.1 ∧ Sm y.1 ∧ pe' = pe) loop_set start_set (fun q => sm_new q) (fun _ => rfl) ?_ src hst S ⟨hJ, by simp [Sm], rfl⟩ hcell hkind hx ?_ ?_
  · rintro i ⟨bs, ep⟩ z ⟨bs', ep'⟩ pe' h tk Dd E Q hi hJ' ⟨k, t, rfl, hk, hb, e1, e2⟩ hg q
    dsimp only at e1 e2 hg hb
    subst e1 e2
    exact sm_add hg hb hk fun h' hs hg' => q _ h' _ hs hg'
  · rintro i v ⟨bs, ep⟩ pe' h tk I C Dd oI oC m₂ E' hi hP ⟨hJ', hb, rfl⟩ hpe hns hm₂ S'
    refine wpAny_tests_nil ?_
    rw [if_pos rfl]
    refine wpAny_mono (turn i v bs h tk I C Dd oI oC _ m₂ E' hi hP hJ' hns hm₂ S') (fun z s₄ h4 => ?_) fun _ _ e => e
    obtain ⟨tk', k, t, rfl, hk, hJ₄, rfl⟩ := h4
    exact ⟨h, tk', _, (smIns bs k t, if k ∈ bs.map (·.1) then ep else ep + 1), rfl, ⟨k, t, rfl, hk, hb, rfl, rfl⟩, ⟨hJ₄, smIns_ok hb hk, rfl⟩, fun _ z => z, S'⟩
  · rintro Dd C h' tk' m' ⟨bs, ep⟩ pe' oC ⟨hJ', hb, rfl⟩ hpe S' hns
    exact ⟨m', hns, fun h'' hs'' => fin Dd h'' tk' bs ep hJ' hb (S'.dropX fun b ob hb e => hs''.extBut b ob hb e)⟩
end
section
open PyProof.Rows.LCg PySem.W
variable {w : World} {A A₀ : Around} {base : Heap} {outer : List Env} {E : Value → Shared → Prop} {h₀ h h' : Heap} {L : Addr} {m : Str → Option Value} {mu mu' mr pe l : Lg} {p : Program} {loose : List Str} {mean : ExcName → Option Value} {mg mb : Str → Option Value}
  {G : Array GenState} {D : Drawn} {tk : Nat} {O : OsState} {env : Env}
abbrev itemAt (its : Array Value) : Nat → Value → Prop := fun i v => its[i]? = some v
theorem it_list {ax : Addr} {its : Array Value} {n : Nat} {Q : Value → Shared → Prop} (hh : A.handled = none) (S : SL h₀ L m h mu pe) (hm : (ax, PySem.W.listOf its n) ∈ mu ++ pe) (hl : (ax, PySem.W.listOf its n) ∈ l)
    (q : ∀ I h' oI St, Src w A I its.size (itemAt its) St l → St 0 h' → SL h₀ L m h' ((I, oI) :: mu) pe → Q (.ref I) ⟨h', G, D, tk, O⟩) : wpAny (model PR w) A (pyIter (.ref ax)) Q E ⟨h, G, D, tk, O⟩ := by
  have ho := (S.nw _ hm).1
  have hL : h.IsList ax its := ⟨_, ho, rfl, n, rfl⟩
  have hlt := Heap.lt_size ho
  refine wpAny_pyIter_list hL ?_
  refine q h.objs.size _ { cls := .type "list_iterator", data := .fields #[.ref ax, .int 0 0] } (fun i h => h.IsListIter _ ax i ∧ h.IsList ax its) ⟨⟨_, Walks.list hh _ ax (Nat.ne_of_lt hlt) its⟩, fun i h st => by obtain ⟨o, e, _⟩ := st.1; exact ⟨o, e⟩, fun i h h' o st e e' k => ⟨?_, ⟨_, k _ hl, rfl, n, rfl⟩⟩⟩ ⟨⟨_, Heap.get?_push_size _ rfl, rfl, rfl⟩, hL.push _⟩ (S.push _)
  obtain ⟨o', q, r⟩ := st.1
  rw [e] at q; cases q; exact ⟨o, e', r⟩
theorem it_dict {d : Addr} {xs : Ents} {n : Nat} {Q : Value → Shared → Prop} (hh : A.handled = none) (S : SL h₀ L m h mu pe) (hm : (d, eOb w xs n) ∈ mu ++ pe) (hl : (d, eOb w xs n) ∈ l) (hs : (d == sysModules) = false)
    (q : ∀ I h' oI St, Src w A I xs.length (fun i v => (kvs xs)[i]? = some v) St l → St 0 h' → SL h₀ L m h' ((I, oI) :: mu) pe → Q (.ref I) ⟨h', G, D, tk, O⟩) : wpAny (model PR w) A (pyIter (.ref d)) Q E ⟨h, G, D, tk, O⟩ := by
  have ho := (S.nw _ hm).1
  have hlt := Heap.lt_size ho
  refine ed_iter ho hs ?_
  refine q h.objs.size _ (kitOb d xs.length n) (fun i h => h.IsKeyIter _ d i xs.length n ∧ h.get? d = some (eOb w xs n)) ⟨⟨_, ed_walks hh _ d (Nat.ne_of_lt hlt) xs n⟩, fun i h st => by obtain ⟨o, e, _⟩ := st.1; exact ⟨o, e⟩, fun i h h' o st e e' k => ⟨?_, k _ hl⟩⟩ ⟨⟨_, Heap.get?_push_size _ rfl, rfl, rfl⟩, Heap.get?_push_of_some _ ho⟩ (S.push _)
  obtain ⟨o', q, r⟩ := st.1
  rw [e] at q; cases q; exact ⟨o, e', r⟩
theorem it_range {r : Addr} {a b : Int} {t u v : Tok} {n : Nat} {Q : Value → Shared → Prop} (hh : A.handled = none) (S : SL h₀ L m h mu pe) (hr : IsRange h r a b 1 t u v) (hsm : Builtin.Range.small a b 1 = true) (hn : Builtin.Range.rangeSize a b 1 = ((n : Nat) : Int))
    (q : ∀ I h' oI St, Src w A I n (fun i v => ∃ t, v = .int (a + (i : Int)) t) St l → St 0 h' → SL h₀ L m h' ((I, oI) :: mu) pe → Q (.ref I) ⟨h', G, D, tk, O⟩) : wpAny (model PR w) A (pyIter (.ref r)) Q E ⟨h, G, D, tk, O⟩ := by
  refine wpAny_pyIter_range hr hsm ?_
  refine q h.objs.size _ { cls := .type "range_iterator", data := .fields #[rawInt a, rawInt (Builtin.Range.rangeSize a b 1), rawInt 1] } (fun i h => IsRangeIter h _ (a + (i : Nat) * 1) ((n : Int) - (i : Nat)) 1) ⟨⟨_, range_walks hh a n⟩, fun i h st => ⟨_, st⟩, fun i h h' o st e e' k => ?_⟩ (by show IsRangeIter _ _ _ _ _; rw [hn]; simpa using Heap.get?_push_size _ rfl) (S.push _)
  have st' : h.get? _ = some _ := st
  show h'.get? _ = some _
  rw [e', ← e]; exact st'
theorem it_tuple {ax : Addr} {vs : List Value} {n : Nat} {Q : Value → Shared → Prop} (hh : A.handled = none) (S : SL h₀ L m h mu pe) (hm : (ax, tupO vs n) ∈ mu ++ pe) (hl : (ax, tupO vs n) ∈ l)
    (q : ∀ I h' oI St, Src w A I vs.toArray.size (itemAt vs.toArray) St l → St 0 h' → SL h₀ L m h' ((I, oI) :: mu) pe → Q (.ref I) ⟨h', G, D, tk, O⟩) : wpAny (model PR w) A (pyIter (.ref ax)) Q E ⟨h, G, D, tk, O⟩ := by
  have ho := (S.nw _ hm).1
  have hL : h.IsTuple ax vs.toArray := ⟨_, ho, rfl, n, rfl⟩
  have hlt := Heap.lt_size ho
  refine wpAny_pyIter_tuple hL ?_
  refine q h.objs.size _ { cls := .type "tuple_iterator", data := .fields #[.ref ax, .int 0 0] } (fun i h => h.IsTupleIter _ ax i ∧ h.IsTuple ax vs.toArray) ⟨⟨_, Walks.tuple hh _ ax (Nat.ne_of_lt hlt) vs.toArray⟩, fun i h st => by obtain ⟨o, e, _⟩ := st.1; exact ⟨o, e⟩, fun i h h' o st e e' k => ⟨?_, ⟨_, k _ hl, rfl, n, rfl⟩⟩⟩ ⟨⟨_, Heap.get?_push_size _ rfl, rfl, rfl⟩, hL.push _⟩ (S.push _)
  obtain ⟨o', q, r⟩ := st.1
  rw [e] at q; cases q; exact ⟨o, e', r⟩
def TurnEnd (h₀ : Heap) (L : Addr) (G : Array GenState) (D : Drawn) (O : OsState) (I : Addr) (oI : Obj) (J : (Str → Option Value) → Lg → Lg → Prop) (Q : Flow → Shared → Prop) (f : Flow) (s' : Shared) : Prop := match f with
  | .next | .cont => ∃ h' tk' m' mu' pe', s' = ⟨h', G, D, tk', O⟩ ∧ J m' mu' pe' ∧ SL h₀ L m' h' ((I, oI) :: mu') pe'
  | .brk => Q .next s'
  | .ret v => Q (.ret v) s'
def ForAt (w : World) (A : Around) (h₀ : Heap) (G : Array GenState) (D : Drawn) (O : OsState) (target : Expr) (body : List Stmt) (env : Env) (Q : Flow → Shared → Prop) (E : Value → Shared → Prop) (it : Value) (s : Shared) : Prop :=
  ∃ (I : Addr) (n : Nat) (P : Nat → Value → Prop) (St : Nat → Heap → Prop) (h : Heap) (tk : Nat) (mu pe l : Lg) (oI : Obj) (m : Str → Option Value) (J : Nat → (Str → Option Value) → Lg → Lg → Prop),
    it = .ref I ∧ s = ⟨h, G, D, tk, O⟩ ∧ Src w A I n P St l ∧ St 0 h ∧ SL h₀ env.locals m h ((I, oI) :: mu) pe ∧ J 0 m mu pe ∧ (∀ i m mu pe, J i m mu pe → ∀ p ∈ l, p ∈ mu ++ pe) ∧
    (∀ i v m mu pe h tk oI, i < n → P i v → J i m mu pe → SL h₀ env.locals m h ((I, oI) :: mu) pe →
      wpAny (model PR w) A (assign target env v) (fun _ s₂ => wpAny (model PR w) A (execs body env) (TurnEnd h₀ env.locals G D O I oI (J (i + 1)) Q) E s₂) E ⟨h, G, D, tk, O⟩) ∧
    ∀ m mu pe h tk, J n m mu pe → SL h₀ env.locals m h mu pe → Q .next ⟨h, G, D, tk, O⟩
theorem for_loop {x : Str} {px pos : Pos} {iter : Expr} {body : List Stmt} {Q : Flow → Shared → Prop} {s : Shared}
    (q : wpAny (model PR w) A (eval iter env) (fun xv s₁ => wpAny (model PR w) A (pyIter xv) (ForAt w A h₀ G D O (.Name x px) body env Q E) E s₁) E s) (hs : ∀ x, foldedSetIterable iter env x = pure x) (hE : PassesOwn (model PR w) A env E) :
    wpAny (model PR w) A (exec (.For (.Name x px) iter body [] pos) env) Q E s := by
  refine wpAny_For (wpAny_mono q (fun xv s₁ h₁ => wpAny_mono h₁ (fun it s₂ h₂ => ?_) fun _ _ e => e) fun _ _ e => e) hs
  obtain ⟨I, n, P, St, h, tk, mu, pe, l, oI, m, J, rfl, rfl, src, hst, S, hJ, hJl, turn, fin⟩ := h₂
  obtain ⟨fp, W⟩ := src.W
  refine codeAny_forLoop_any (fun k s' => ∃ h' tk i m mu pe oI, s' = ⟨h', G, D, tk, O⟩ ∧ i ≤ n ∧ k = n + 1 - i ∧ St i h' ∧ J i m mu pe ∧ SL h₀ env.locals m h' ((I, oI) :: mu) pe) ?_ (n + 1) ⟨h, tk, 0, m, mu, pe, oI, rfl, Nat.zero_le _, rfl, hst, hJ, S⟩
  rintro k s' ⟨h', tk, i, m, mu, pe, oI, rfl, hi, rfl, hst', hJ', S'⟩
  by_cases hlt : i < n
  · refine W.item i _ _ _ hlt hst' fun v h₂ tk₂ hPv hst₂ hk₂ => ?_
    obtain ⟨oI₂, heI₂⟩ := src.io _ _ hst₂
    have Sa := S'.setX (mu' := (I, oI₂) :: mu) .head (fun b ob hb e => hk₂ b ob (by simpa using hb) e) heI₂
    refine wpAny_of_eq (show letOwnedTupleGo (.Name x px) (.ref I) v = pure () from rfl) ?_
    refine wpAny_passesOwn hE ?_
    refine wpAny_mono (turn i v m mu pe h₂ tk₂ oI₂ hlt hPv hJ' Sa) (fun _ s₂ h2 => wpAny_passesOwn hE (wpAny_mono h2 (fun f s₃ h3 => ?_) fun _ _ e => e)) fun _ _ e => e
    have adv : (∃ h' tk' m' mu' pe', s₃ = ⟨h', G, D, tk', O⟩ ∧ J (i + 1) m' mu' pe' ∧ SL h₀ env.locals m' h' ((I, oI₂) :: mu') pe') → ∃ m_1, m_1 < n + 1 - i ∧ ∃ h' tk i m mu pe oI, s₃ = ⟨h', G, D, tk, O⟩ ∧ i ≤ n ∧ m_1 = n + 1 - i ∧ St i h' ∧ J i m mu pe ∧ SL h₀ env.locals m h' ((I, oI) :: mu) pe := by
      rintro ⟨h₄, tk₄, m₄, mu₄, pe₄, rfl, hJ₄, S₄⟩
      refine ⟨n + 1 - (i + 1), by omega, h₄, tk₄, i + 1, m₄, mu₄, pe₄, oI₂, rfl, hlt, rfl, ?_, hJ₄, S₄⟩
      exact src.st _ _ _ oI₂ hst₂ heI₂ (S₄.get (.head _)) fun p hp => (S₄.nw p (.tail _ (hJl _ _ _ _ hJ₄ p hp))).1
    cases f with
    | ret v => exact h3
    | brk => exact h3
    | cont => exact adv h3
    | next => exact adv h3
  · obtain rfl : i = n := Nat.le_antisymm hi (Nat.not_lt.mp hlt)
    refine W.done _ _ _ hst' fun h₂ tk₂ hk₂ => wpAny_execs_nil ?_
    exact fin m mu pe h₂ tk₂ hJ' (S'.dropX fun b ob hb e => hk₂ b ob (by simpa using hb) e)
end
section
open PyProof.Rows.LCg PySem.W
variable {w : World} {A A₀ : Around} {base : Heap} {outer : List Env} {E : Value → Shared → Prop} {h₀ h h' : Heap} {L : Addr} {m : Str → Option Value} {mu mu' mr pe l : Lg}
  {G : Array GenState} {D : Drawn} {tk : Nat} {O : OsState} {env : Env}
theorem SL.keeps (S : SL h₀ L m h mu pe) (k : ∀ b o, h.get? b = some o → h'.get? b = some o) : SL h₀ L m h' mu pe := ⟨S.fr.keeps k, S.nw.grown k, S.nd⟩
theorem collect_src {T : String} {r d : Addr} {n : Nat} {P : Nat → Value → Prop} {OK : Heap → Prop} {Q : List Value → Shared → Prop} (K : KdlSrc PR w T r d n P OK) (hh : A.handled = none) (S : SL h₀ L m h mu pe) (hok : OK h) (hn : n ≤ 1000)
    (q : ∀ vs h' tk', vs.length = n → (∀ j v, vs[j]? = some v → P j v) → SL h₀ L m h' mu pe → Q vs ⟨h', G, D, tk', O⟩) : wpAny (model PR w) A (collect (.ref r)) Q E ⟨h, G, D, tk, O⟩ := by
  unfold collect
  refine wpAny_bind (wpAny_runValue (codeAny_builtin entry_proto_collect' ?_))
  show wpAny _ _ (do again (.builtin "list.__iadd__" ⟨[← newList [], .ref r], []⟩)) _ _ _
  have hlt := K.there _ hok
  refine wpAny_bind (wpAny_newList (wpAny_pure ⟨Code.quiet_builtin _ (by decide +kernel), codeAny_builtin entry_list_iadd' ?_⟩))
  show wpAny _ _ (Builtin.List.listExtendWith (.ref h.objs.size) (.ref r) (.ref h.objs.size)) _ _ ⟨h.push (seqObj "list" #[] 0), G, D, tk, O⟩
  have hS : (h.push (seqObj "list" #[] 0)).get? h.objs.size = some { cls := .type "list", data := .seq #[] 0 } := Heap.get?_push_size _ rfl
  rw [Around.under_plainId (by decide +kernel)]
  have fin : ∀ (r : Result) (s' : Shared), (∃ h' tk' acc' c', r = Except.ok (Flow.ret (Value.ref h.objs.size)) ∧ s' = (⟨h', G, D, tk', O⟩ : Shared) ∧ (∀ b o, b ≠ h.objs.size → (h.push (seqObj "list" #[] 0)).get? b = some o → h'.get? b = some o) ∧ h'.get? h.objs.size = some { cls := .type "list", dict := none, data := .seq acc' c', slots := #[] } ∧ ItemsOf P acc' n) →
      ∃ acc' : Array Value, r = Except.ok (Flow.ret (Value.ref h.objs.size)) ∧ wpAny (model PR w) A (do
        let o ← load h.objs.size
        match o.data with
        | .seq xs _ => pure xs.toList
        | _ => unsupported "internal:collect") Q E s' := by
    rintro r s' ⟨h', tk', acc', c', rfl, rfl, hk, hS', hacc⟩
    refine ⟨acc', rfl, ?_⟩
    refine wpAny_bind (wpAny_load hS' ?_)
    refine wpAny_pure ?_
    exact q acc'.toList h' tk' (by rw [Array.length_toList]; exact hacc.1) (fun j v e => hacc.2 j v (by rw [← Array.getElem?_toList]; exact e)) (S.keeps fun b o e => hk b o (Nat.ne_of_lt (Heap.lt_size e)) (Heap.get?_push_of_some _ e))
  refine wpAny_mono (kdl_extend (R := fun r s' => ∃ h' tk' acc' c', r = Except.ok (Flow.ret (Value.ref h.objs.size)) ∧ s' = (⟨h', G, D, tk', O⟩ : Shared) ∧ (∀ b o, b ≠ h.objs.size → (h.push (seqObj "list" #[] 0)).get? b = some o → h'.get? b = some o) ∧ h'.get? h.objs.size = some { cls := .type "list", dict := none, data := .seq acc' c', slots := #[] } ∧ ItemsOf P acc' n)
    (s := ⟨h.push (seqObj "list" #[] 0), G, D, tk, O⟩) (c₀ := 0) K (by exact hh) (K.keep _ _ hok fun b _ o e => Heap.get?_push_of_some _ e) h.objs.size (Nat.ne_of_gt hlt.1) (Nat.ne_of_gt hlt.2) (.ref h.objs.size) hS (fun h' tk' acc' c' hk hS' hacc => ⟨h', tk', acc', c', rfl, rfl, hk, hS', hacc⟩) (by rw [sizeLine_eq]; omega)) (fun f s' hf => ?_) fun e s' he => ?_
  · cases f with
    | done f =>
      obtain ⟨_, e, hw⟩ := fin _ _ hf
      cases e
      exact hw
    | again c' =>
      refine ⟨hf.1, codeAny_mono hf.2 fun r s'' hr => ?_⟩
      obtain ⟨_, rfl, hw⟩ := fin _ _ hr
      exact hw
  · obtain ⟨_, e, hw⟩ := fin _ _ he
    cases e
theorem sorted_any {v : Value} {vs : List Value} {Q : Value → Shared → Prop}
    (coll : ∀ {Q' : List Value → Shared → Prop}, (∀ h' tk', SL h₀ L m h' mu pe → Q' vs ⟨h', G, D, tk', O⟩) → wpAny (model PR w) A.in1 (collect v) Q' E ⟨h, G, D, tk, O⟩) (hz : vs.length ≤ 1000)
    (sort : ∀ d h' tk', SL h₀ L m h' ((d, PySem.W.listOf vs.toArray 0) :: mu) pe → wpAny (model PR w) A.in1.in1 (Builtin.«list.sort» ⟨[.ref d], []⟩) (fun fin s' => fin = .done (.ret .none) ∧ Q (.ref d) s') E ⟨h', G, D, tk', O⟩) :
    wpAny (model PR w) A (call (.builtin "sorted") [v]) Q E ⟨h, G, D, tk, O⟩ := by
  refine Calls.call_function_entry kind_sorted plain_sorted entry_sorted (args_sorted1 _) ?_
  unfold Builtin.«sorted»
  refine wpAny_bind (m := checkCount "sorted" 1 1 _) (wpAny_pure ?_)
  refine wpAny_bind (coll fun h' tk' S' => ?_)
  refine wpAny_bind (wpAny_newList ?_ (by rw [sizeLine_eq]; omega))
  have S2 := S'.push (PySem.W.listOf vs.toArray 0)
  refine wpAny_bind (wpAny_holding (wpAny_call_entry slot_list_sort ⟨_, S2.get (.head _), rfl⟩ entry_list_sort ?_ (args_list_sort _)))
  refine wpAny_mono (sort h'.objs.size _ _ S2) (fun fin s' hf => ?_) fun _ _ e => e
  obtain ⟨rfl, hq⟩ := hf
  exact ⟨_, rfl, wpAny_pure ⟨_, rfl, hq⟩⟩
theorem sorted_rev {v : Value} {vs : List Value} {Q : Value → Shared → Prop}
    (coll : ∀ {Q' : List Value → Shared → Prop}, (∀ h' tk', SL h₀ L m h' mu pe → Q' vs ⟨h', G, D, tk', O⟩) → wpAny (model PR w) A.in1 (collect v) Q' E ⟨h, G, D, tk, O⟩) (hz : vs.length ≤ 1000)
    (sort : ∀ d h' tk', SL h₀ L m h' ((d, PySem.W.listOf vs.toArray 0) :: mu) pe → wpAny (model PR w) A.in1.in1 (Builtin.«list.sort» ⟨[.ref d], [(Str.ofString "reverse", .bool true)]⟩) (fun fin s' => fin = .done (.ret .none) ∧ Q (.ref d) s') E ⟨h', G, D, tk', O⟩) :
    wpAny (model PR w) A (call (.builtin "sorted") [v] [(Str.ofString "reverse", .bool true)]) Q E ⟨h, G, D, tk, O⟩ := by
  refine call_function_entry_kw kind_sorted plain_sorted entry_sorted (args_sorted_rev _ _) ?_
  unfold Builtin.«sorted»
  refine wpAny_bind (m := checkCount "sorted" 1 1 _) (wpAny_pure ?_)
  refine wpAny_bind (coll fun h' tk' S' => ?_)
  refine wpAny_bind (wpAny_newList ?_ (by rw [sizeLine_eq]; omega))
  have S2 := S'.push (PySem.W.listOf vs.toArray 0)
  refine wpAny_bind (wpAny_holding (wpAny_call_entry_kw slot_list_sort ⟨_, S2.get (.head _), rfl⟩ entry_list_sort ?_ (args_list_sort_rev _ _)))
  refine wpAny_mono (sort h'.objs.size _ _ S2) (fun fin s' hf => ?_) fun _ _ e => e
  obtain ⟨rfl, hq⟩ := hf
  exact ⟨_, rfl, wpAny_pure ⟨_, rfl, hq⟩⟩
theorem coll_list {ax : Addr} {vs : List Value} {n : Nat} {B : Around} (S : SL h₀ L m h mu pe) (hm : (ax, PySem.W.listOf vs.toArray n) ∈ mu ++ pe) (hz : vs.length ≤ 1000) {Q' : List Value → Shared → Prop} (q : ∀ h' tk', SL h₀ L m h' mu pe → Q' vs ⟨h', G, D, tk', O⟩) : wpAny (model PR w) B (collect (.ref ax)) Q' E ⟨h, G, D, tk, O⟩ := by
  have ho := (S.nw _ hm).1
  refine collect_list (vs := vs) ⟨_, ho, rfl, n, rfl⟩ (q _ _ ?_) (by rw [sizeLine_eq]; omega)
  have S1 := S.push (seqObj "list" #[] 0)
  obtain ⟨e, he⟩ : ∃ e, ((h.push (seqObj "list" #[] 0)).update h.objs.size (Obj.mapSeq (· ++ vs.toArray))).get? h.objs.size = some (seqObj "list" (#[] ++ vs.toArray) e) := ⟨_, get?_update_seq (S1.get (.head _)) (· ++ vs.toArray)⟩
  exact (S1.set (mu' := (h.objs.size, seqObj "list" (#[] ++ vs.toArray) e) :: mu) .head (Heap.SameBut.update ..) he).drop1
theorem vals_of {vs us : List Value} (hl : us.length = vs.length) (hv : ∀ (j : Nat) (v : Value), us[j]? = some v → vs[j]? = some v) : us = vs := by
  apply List.ext_getElem? 
  intro j
  by_cases h : j < us.length
  · rw [List.getElem?_eq_getElem h]
    exact (hv j _ (List.getElem?_eq_getElem h)).symm
  · rw [List.getElem?_eq_none (by omega), List.getElem?_eq_none (by omega)]
theorem coll_dict {d : Addr} {xs : Ents} {n : Nat} {B : Around} (hh : B.handled = none) (S : SL h₀ L m h mu pe) (hm : (d, eOb w xs n) ∈ mu ++ pe) (hs : (d == sysModules) = false) (hz : xs.length ≤ 1000) {Q' : List Value → Shared → Prop} (q : ∀ h' tk', SL h₀ L m h' mu pe → Q' (kvs xs) ⟨h', G, D, tk', O⟩) : wpAny (model PR w) B (collect (.ref d)) Q' E ⟨h, G, D, tk, O⟩ := by
  refine collect_src (ed_src (n := n) hs) hh S (S.nw _ hm).1 hz fun vs h' tk' hl hv S' => ?_
  have : vs = kvs xs := vals_of (by simpa [kvs] using hl) hv
  subst this
  exact q h' tk' S'
def dTs (xs : Ents) : Ts := xs.map fun x => (x.1, x.2.1)
theorem kvs_refs {xs : Ents} : kvs xs = refs (dTs xs) := by simp [kvs, refs, dTs]
theorem dTs_keys {xs : Ents} : (dTs xs).map (·.1) = xs.map (·.1) := by simp [dTs]
theorem sorted_list {ax : Addr} {ts : Ts} {n : Nat} {Q : Value → Shared → Prop} (S : SL h₀ L m h mu pe) (hm : (ax, PySem.W.listOf (refs ts).toArray n) ∈ mu ++ pe) (x : TsOk w pe ts) (h64 : ts.length < 64)
    (q : ∀ ts' d h' n' tk', ts'.Perm ts → Up (ts'.map (·.1)) → SL h₀ L m h' ((d, PySem.W.listOf (refs ts').toArray n') :: mu) pe → Q (.ref d) ⟨h', G, D, tk', O⟩) : wpAny (model PR w) A (call (.builtin "sorted") [.ref ax]) Q E ⟨h, G, D, tk, O⟩ := by
  refine sorted_any (vs := refs ts) (fun q => coll_list S hm (by rw [refs_length]; omega) q) (by rw [refs_length]; omega) fun d h' tk' S' => ?_
  exact sort_names S' x h64 fun ts' h2 n2 tk2 p u S2 => ⟨rfl, q ts' d h2 n2 tk2 p u S2⟩
theorem sorted_dict {d : Addr} {xs : Ents} {n : Nat} {Q : Value → Shared → Prop} (hh : A.handled = none) (S : SL h₀ L m h mu pe) (hm : (d, eOb w xs n) ∈ mu ++ pe) (hs : (d == sysModules) = false) (x : EntOk w pe xs) (hne : ∀ y ∈ xs, y.1 ≠ []) (h64 : xs.length < 64)
    (q : ∀ ts' d h' n' tk', ts'.Perm (dTs xs) → Up (ts'.map (·.1)) → SL h₀ L m h' ((d, PySem.W.listOf (refs ts').toArray n') :: mu) pe → Q (.ref d) ⟨h', G, D, tk', O⟩) : wpAny (model PR w) A (call (.builtin "sorted") [.ref d]) Q E ⟨h, G, D, tk, O⟩ := by
  have hl : (dTs xs).length = xs.length := by simp [dTs]
  have hx : TsOk w pe (dTs xs) := ⟨fun y hy => by obtain ⟨z, hz, rfl⟩ := List.mem_map.mp hy; exact x.is z hz, fun y hy => by obtain ⟨z, hz, rfl⟩ := List.mem_map.mp hy; exact hne z hz, by rw [dTs_keys]; exact x.nd⟩
  refine sorted_any (vs := refs (dTs xs)) (fun q => by rw [← kvs_refs] at q; exact coll_dict (by exact hh) S hm hs (by omega) q) (by rw [refs_length]; omega) fun d h' tk' S' => ?_
  exact sort_names S' hx (by rw [hl]; exact h64) fun ts' h2 n2 tk2 p u S2 => ⟨rfl, q ts' d h2 n2 tk2 p u S2⟩
end
theorem len_set_lk : typeLookup (.type "set") "__len__" = pure (some (.builtin "set.__len__")) := F.slot_set_len.lookup
theorem entry_si_iter : entryFor table "set_iterator.__iter__" = some Builtin.«dict_keyiterator.__iter__» :=
  entryFor_alias (id' := "dict_keyiterator.__iter__") (by kernel_rfl) (by decide +kernel) (by decide +kernel) (by kernel_rfl)
theorem args_si_iter (a : Value) : argsOk "set_iterator.__iter__" ⟨[a], []⟩ := by unfold argsOk; kernel_rfl
section
open PyProof.Rows.LCg PySem.W
variable {w : World} {A A₀ : Around} {base : Heap} {outer : List Env} {E : Value → Shared → Prop} {h₀ h h' : Heap} {L : Addr} {m : Str → Option Value} {mu mu' mr pe l : Lg}
  {G : Array GenState} {D : Drawn} {tk : Nat} {O : OsState} {env : Env} {bs : Sb}
theorem sm_hint {r : Addr} {s : Shared} {Q : Bool → Shared → Prop} (hT : s.TypeIs (.ref r) "set") (q : Q false s) : wpAny (model PR w) A (Builtin.List.listLengthHint (.ref r)) Q E s := by
  unfold Builtin.List.listLengthHint
  refine wpAny_bind (wpAny_specialOf hT len_set_lk ?_)
  generalize hid : ("set.__len__" : String) = id0
  wp_delta
  rw [show splitId id0 = some ("set", "__len__") from by subst hid; decide +kernel]
  subst hid
  refine wpAny_bind (wpAny_isInstance (T := "set") (b := true) hT (by rw [isSubtype_type]; kernel_rfl) ?_)
  refine wpAny_ite_split (fun hab => absurd hab (by decide)) (fun _ => ?_)
  refine wpAny_ite_split (fun _ => ?_) (fun hab => absurd (by decide +kernel) hab)
  refine wpAny_bind (wpAny_typeOf hT ?_)
  exact wpAny_pure q
theorem sm_walks (hh : A.handled = none) (I a : Addr) (hne : a ≠ I) (bs : Sb) (n : Nat) (hb : Sm bs) :
    Walks PR w A I [I, a] [I] bs.length (fun i v => (ordV w a n bs)[i]? = some v) (fun i h => (∃ slot, SIt h I a slot i bs.length n ∧ (bt w = false → slot = slotAt bs i)) ∧ h.get? a = some (smO bs n (!bt w))) where
  sub := fun b hb => by simp at hb; simp [hb]
  frame := fun _ _ _ st hk => ⟨let ⟨sl, ⟨o, ho, r⟩, e⟩ := st.1; ⟨sl, ⟨o, hk I (by simp) o ho, r⟩, e⟩, hk a (by simp) _ st.2⟩
  item := fun i s Q E hi st hQ => by
    obtain ⟨⟨sl, hit, hsl⟩, ho⟩ := st
    obtain ⟨v, hv⟩ : ∃ v, (ordV w a n bs)[i]? = some v := ⟨_, List.getElem?_eq_getElem (by rw [ordV_len]; exact hi)⟩
    obtain ⟨hp, G', D', tk', O'⟩ := s
    refine sm_pyNext hit hne ho hb hsl hv fun h' slot' hs' hit' hsb => ?_
    exact hQ v h' tk' hv ⟨⟨slot', hit', hs'⟩, hsb.extBut a _ hne ho⟩ fun b o hb e => hsb.extBut b o (fun h => hb (by simp [h])) e
  done := fun s Q E st hQ => by
    obtain ⟨⟨sl, hit, hsl⟩, ho⟩ := st
    obtain ⟨hp, G', D', tk', O'⟩ := s
    exact sm_pyStop hh hit ho hb hsl fun h' he' => hQ h' tk' fun b o hb e => he' b o (fun h => hb (by simp [h])) e
  self := fun _ s Q E st hQ => by
    obtain ⟨⟨sl, hit, hsl⟩, ho⟩ := st
    have hT : s.TypeIs (.ref I) "set_iterator" := let ⟨o, ho, hc, _⟩ := hit; ⟨o, ho, hc⟩
    refine wpAny_pyIter_slot hT slot_si_iter (wpAny_call_entry slot_si_iter hT entry_si_iter ?_ (args_si_iter _))
    show wpAny _ _ (ret (.ref I)) _ _ s
    exact wpAny_pure ⟨_, rfl, "set_iterator", _, hT, slot_si_next.lookup, hQ⟩
theorem sm_src {a : Addr} {n : Nat} (hb : Sm bs) : KdlSrc PR w "set" a a bs.length (fun i v => (ordV w a n bs)[i]? = some v) (fun h => h.get? a = some (smO bs n (!bt w))) where
  type := fun _ hm => ⟨_, hm, rfl⟩
  there := fun _ hm => ⟨Heap.lt_size hm, Heap.lt_size hm⟩
  keep := fun _ _ hm hk => hk a (.inl rfl) _ hm
  notList := by decide
  notTuple := by decide
  hint := fun _ _ _ _ hm hq => sm_hint ⟨_, hm, rfl⟩ hq
  iter := fun _ s hh hm => ⟨_, _, (fun _ _ hq => by obtain ⟨hp, G', D', tk', O'⟩ := s; exact sm_iter hm hb hq), sm_walks hh _ a (Nat.ne_of_lt (Heap.lt_size hm)) bs n hb, ⟨⟨0, ⟨_, Heap.get?_push_size _ rfl, rfl, rfl⟩, fun _ => rfl⟩, Heap.get?_push_of_some _ hm⟩⟩
theorem coll_set {a : Addr} {n : Nat} {B : Around} (hh : B.handled = none) (S : SL h₀ L m h mu pe) (hm : (a, smO bs n (!bt w)) ∈ mu ++ pe) (hb : Sm bs) {Q' : List Value → Shared → Prop} (q : ∀ h' tk', SL h₀ L m h' mu pe → Q' (ordV w a n bs) ⟨h', G, D, tk', O⟩) : wpAny (model PR w) B (collect (.ref a)) Q' E ⟨h, G, D, tk, O⟩ := by
  refine collect_src (sm_src (n := n) hb) hh S (S.nw _ hm).1 (Nat.le_trans hb.len (by decide)) fun vs h' tk' hl hv S' => ?_
  have : vs = ordV w a n bs := vals_of (by rw [ordV_len]; exact hl) hv
  subst this
  exact q h' tk' S'
theorem intsAre_perm : ∀ {vs us : List Value} {ns : List Int}, vs.Perm us → IntsAre us ns → ∃ ns', IntsAre vs ns' ∧ ns'.Perm ns := by
  intro vs us ns p
  induction p generalizing ns with
  | nil => intro hI; cases hI; exact ⟨[], .nil, .refl _⟩
  | cons x _ ih =>
    intro hI
    cases hI with
    | cons n t hr => obtain ⟨ns', h1, h2⟩ := ih hr; exact ⟨n :: ns', .cons n t h1, h2.cons _⟩
  | swap x y l =>
    intro hI
    cases hI with
    | cons n t hr => cases hr with
      | cons n2 t2 hr2 => exact ⟨_, .cons n2 t2 (.cons n t hr2), .swap _ _ _⟩
  | trans _ _ ih1 ih2 =>
    intro hI
    obtain ⟨n2, h1, h2⟩ := ih2 hI
    obtain ⟨n1, h3, h4⟩ := ih1 h1
    exact ⟨n1, h3, h4.trans h2⟩
abbrev bInts (bs : Sb) : List Int := bs.map fun b => (b.1 : Int)
theorem ordV_ints {a : Addr} {n : Nat} : ∃ ns, IntsAre (ordV w a n bs) ns ∧ ns.Perm (bInts bs) := by
  have hI : IntsAre ((smE bs).toList.map (·.2)) (bInts bs) := by
    unfold smE bInts
    induction bs with
    | nil => exact .nil
    | cons b bs ih => exact .cons _ _ ih
  exact intsAre_perm ((ordE_perm (w := w) (a := a) (n := n) (bs := bs)).map (·.2)) hI
theorem bInts_up (hb : Sm bs) : (bInts bs).Pairwise (· ≤ ·) := by
  rcases hb.cases with rfl | ⟨_, rfl⟩ | ⟨_, rfl⟩ | ⟨_, rfl⟩ | ⟨_, _, rfl⟩ | ⟨_, _, rfl⟩ | ⟨_, _, rfl⟩ | ⟨_, _, _, rfl⟩ <;> simp [bInts]
theorem SL.sortedHeap {d : Addr} {vs : List Value} {out : Array Value} {n : Nat} (S : SL h₀ L m h ((d, PySem.W.listOf vs.toArray n) :: mu) pe) : ∃ n', SL h₀ L m (sortedHeap h d vs out) ((d, PySem.W.listOf out n') :: mu) pe := by
  obtain ⟨e1, ho1⟩ : ∃ e1, (h.update d (Obj.mapSeq fun _ => (#[] : Array Value))).get? d = some (PySem.W.listOf #[] e1) := ⟨_, get?_update_seq (S.get (.head _)) fun _ => #[]⟩
  have S1 := S.set (mu' := (d, PySem.W.listOf #[] e1) :: mu) .head (Heap.SameBut.update ..) ho1
  have S3 := ((S1.push (seqObj "tuple" vs.toArray 0)).drop1.push (seqObj "list" #[] 0)).drop1
  obtain ⟨e2, ho2⟩ : ∃ e2, (((((h.update d (Obj.mapSeq fun _ => (#[] : Array Value))).push (seqObj "tuple" vs.toArray 0)).push (seqObj "list" #[] 0)).update d (Obj.mapSeq fun _ => out)).get? d = some (PySem.W.listOf out e2)) := ⟨_, get?_update_seq (S3.get (.head _)) fun _ => out⟩
  exact ⟨e2, S3.set (mu' := (d, PySem.W.listOf out e2) :: mu) .head (Heap.SameBut.update ..) ho2⟩
theorem sorted_set {a : Addr} {n : Nat} {Q : Value → Shared → Prop} (hh : A.handled = none) (S : SL h₀ L m h mu pe) (hm : (a, smO bs n (!bt w)) ∈ mu ++ pe) (hb : Sm bs)
    (q : ∀ vs d h' n' tk', IntsAre vs (bInts bs) → SL h₀ L m h' ((d, PySem.W.listOf vs.toArray n') :: mu) pe → Q (.ref d) ⟨h', G, D, tk', O⟩) : wpAny (model PR w) A (call (.builtin "sorted") [.ref a]) Q E ⟨h, G, D, tk, O⟩ := by
  have hl := hb.len
  refine sorted_any (vs := ordV w a n bs) (fun q => coll_set (by exact hh) S hm hb q) (by rw [ordV_len]; omega) fun d h' tk' S' => ?_
  obtain ⟨ns, hI, hp⟩ := ordV_ints (w := w) (a := a) (n := n) (bs := bs)
  refine list_sort_tree (s := ⟨h', G, D, tk', O⟩) (n := 0) (S'.get (.head _)) hI (by rw [ordV_len]; omega) fun out ns' hI' hp' hs' => ⟨rfl, ?_⟩
  obtain ⟨n', S2⟩ := S'.sortedHeap (out := out)
  have e : ns' = bInts bs := lks_uniq (hp'.trans hp) hs' (bInts_up hb)
  subst e
  refine q out.toList d _ n' tk' hI' ?_
  rw [Array.toArray_toList]
  exact S2
theorem sorted_setR {a : Addr} {n : Nat} {Q : Value → Shared → Prop} (hh : A.handled = none) (S : SL h₀ L m h mu pe) (hm : (a, smO bs n (!bt w)) ∈ mu ++ pe) (hb : Sm bs)
    (q : ∀ vs d h' n' tk', IntsAre vs (bInts bs).reverse → SL h₀ L m h' ((d, PySem.W.listOf vs.toArray n') :: mu) pe → Q (.ref d) ⟨h', G, D, tk', O⟩) : wpAny (model PR w) A (call (.builtin "sorted") [.ref a] [(Str.ofString "reverse", .bool true)]) Q E ⟨h, G, D, tk, O⟩ := by
  have hl := hb.len
  refine sorted_rev (vs := ordV w a n bs) (fun q => coll_set (by exact hh) S hm hb q) (by rw [ordV_len]; omega) fun d h' tk' S' => ?_
  obtain ⟨ns, hI, hp⟩ := ordV_ints (w := w) (a := a) (n := n) (bs := bs)
  refine list_sort_tree_rev (s := ⟨h', G, D, tk', O⟩) (n := 0) (b := true) (S'.get (.head _)) hI (by rw [ordV_len]; omega) fun out ns' hI' hp' hs' => ⟨rfl, ?_⟩
  obtain ⟨n', S2⟩ := S'.sortedHeap (out := out)
  have hs2 : ns'.reverse.Pairwise (· ≤ ·) := by
    rw [List.pairwise_reverse]
    simpa [Ordered] using hs'
  have e : ns'.reverse = bInts bs := lks_uniq ((List.reverse_perm _).trans (hp'.trans hp)) hs2 (bInts_up hb)
  have e2 : ns' = (bInts bs).reverse := by rw [← e, List.reverse_reverse]
  subst e2
  refine q out.toList d _ n' tk' hI' ?_
  rw [Array.toArray_toList]
  exact S2
end
section
open PyProof.Rows.LCg PySem.W
variable {w : World} {A A₀ : Around} {base h₀ h : Heap} {outer : List Env} {env : Env} {L C : Addr} {p : Program} {loose : List Str} {mean : ExcName → Option Value} {mg mb m : Str → Option Value} {mu mr pe : Lg}
  {G : Array GenState} {D : Drawn} {tk : Nat} {O : OsState} {R : Result → Shared → Prop} {E : Value → Shared → Prop} {pos : Pos} {scope : Scope} {cl : List (Str × Addr)} {x : Str} {v : Value}
theorem cnL {Q : Value → Shared → Prop} {oC : Obj} {m₂ : Str → Option Value} (hC : h.get? C = some oC) (hn : NsObj oC m₂) (hv : m₂ x = some v) (q : Q v ⟨h, G, D, tk, O⟩) (hk : scope.kind = .function) (hx : (compEnvC scope cl C env).kindOf x = some .local) (hb : (x == ("__debug__" : Str)) = false) :
    wpAny (model PR w) A (eval (.Name x pos) (compEnvC scope cl C env)) Q E ⟨h, G, D, tk, O⟩ := wpAny_Name (wpAny_loadName_local (by exact hk) hx (hn.ns hC) hv q) hb
theorem cnB {Q : Value → Shared → Prop} (S : SL h₀ L m h mu pe) (Cm : Fm w A A₀ base outer env h₀ L p loose mean mg mb) (e : nsIn (hd.heap_39 w.params) mainGlobals x = some none) (hv : bootBuiltins x = some v) (hn : x ≠ "__name__") (q : Q v ⟨h, G, D, tk, O⟩)
    (hg : env.globals = mainGlobals) (hbu : env.builtins = builtinsNs) (hk : scope.kind = .function) (hx : (compEnvC scope cl C env).kindOf x = some .globalImplicit) (hb : (x == ("__debug__" : Str)) = false) :
    wpAny (model PR w) A (eval (.Name x pos) (compEnvC scope cl C env)) Q E ⟨h, G, D, tk, O⟩ :=
  Name_function_global (by exact hk) hx (loadGlobal_builtin (env := compEnvC scope cl C env) (by show h.Ns env.globals _; rw [hg]; exact (topRead_of Cm.T).g.keeps S.fr.keep) (mg_none_of Cm.X (topRead_of Cm.T).g e) (by show h.Ns env.builtins _; rw [hbu]; exact (topRead_of Cm.T).b.keeps S.fr.keep) (((topRead_of Cm.T).builtins x hn).trans hv) q) hb
theorem cnC {Q : Value → Shared → Prop} {c : Addr} {o : Obj} (S : SL h₀ L m h mu pe) (hc : cl.lookup x = some c) (hm : (c, o) ∈ mu ++ pe) (hd : o.data = .cell (some v)) (q : Q v ⟨h, G, D, tk, O⟩) (hk : scope.kind = .function) (hx : (compEnvC scope cl C env).kindOf x = some .cell) (hb : (x == ("__debug__" : Str)) = false) :
    wpAny (model PR w) A (eval (.Name x pos) (compEnvC scope cl C env)) Q E ⟨h, G, D, tk, O⟩ := wpAny_Name (wpAny_loadName_cell (by exact hk) hx hc ⟨o, S.nw.get hm, hd⟩ q) hb
theorem cnF {Q : Value → Shared → Prop} {c : Addr} {o : Obj} (S : SL h₀ L m h mu pe) (hc : cl.lookup x = some c) (hm : (c, o) ∈ mu ++ pe) (hd : o.data = .cell (some v)) (q : Q v ⟨h, G, D, tk, O⟩) (hk : scope.kind = .function) (hx : (compEnvC scope cl C env).kindOf x = some .free) (hb : (x == ("__debug__" : Str)) = false) (hn : (x == ("__classdict__" : Str)) = false) :
    wpAny (model PR w) A (eval (.Name x pos) (compEnvC scope cl C env)) Q E ⟨h, G, D, tk, O⟩ := wpAny_Name (wpAny_loadName_free (by exact hk) hx hc ⟨o, S.nw.get hm, hd⟩ q hn) hb
theorem name_len {Q : Value → Shared → Prop} {k : Nm} {a : Addr} (hp : ∀ p ∈ pe, h.get? p.1 = some p.2) (hk : IsNm w pe k a) (hz : k.length ≤ 1000) (q : ∀ t tk', Q (.int (k.length : Nat) t) ⟨h, G, D, tk', O⟩) :
    wpAny (model PR w) A (call (.builtin "len") [.ref a]) Q E ⟨h, G, D, tk, O⟩ := by
  obtain ⟨vs, n, hm, hi⟩ := hk
  have ho := hp _ hm
  have hs : vs.toArray.size = k.length := by rw [List.size_toArray]; exact hi.length.symm
  refine Calls.call_function_entry kind_len plain_len entry_len (args_len1 _) ?_
  unfold Builtin.«len»
  refine wpAny_bind (m := oneArg "len" _) (wpAny_pure ?_)
  have hT : (⟨h, G, D, tk, O⟩ : Shared).TypeIs (.ref a) "tuple" := ⟨_, ho, rfl⟩
  refine wpAny_bind (m := callSpecial? (.ref a) (Str.ofString "__len__")) (wpAny_callSpecial?_slot (name := Str.ofString "__len__") hT PySem.F.slot_tuple_len
    (call_meets PySem.F.slot_tuple_len hT PySem.F.entry_tuple_len (PySem.F.args_tuple_len_1 _) (AutoSeq1.tuple___len___tuple_0 a vs.toArray n) ⟨ho, ?_⟩))
  refine wpAny_bind (wpAny_holding (wpAny_pure ?_))
  refine wpAny_bind (wpAny_letGo ?_)
  rw [hs]
  show wpAny _ _ (if ((k.length : Nat) : Int) < 0 then _ else _) _ _ _
  rw [if_neg (by omega)]
  show wpAny _ _ (if ((k.length : Nat) : Int) ≥ 2 ^ 63 then _ else _) _ _ _
  rw [if_neg (by omega)]
  exact wpAny_bind (wpAny_mkInt (wpAny_pure ⟨_, rfl, q _ _⟩))
def lensD (ks : List Nm) : List Int := ([3, 2, 1] : List Nat).filterMap fun n => if ks.any (fun k => k.length == n) then some (n : Int) else none
theorem lensD_of {bs : Sb} {ks : List Nm} (hb : Sm bs) (h : ∀ x, x ∈ bs.map (·.1) ↔ ∃ k ∈ ks, k.length = x) : (bInts bs).reverse = lensD ks := by
  have e : ∀ n, ks.any (fun k => k.length == n) = decide (n ∈ bs.map (·.1)) := fun n => by
    rw [Bool.eq_iff_iff, List.any_eq_true, decide_eq_true_eq, h n]
    simp
  unfold lensD
  simp only [e]
  rcases hb.cases with rfl | ⟨_, rfl⟩ | ⟨_, rfl⟩ | ⟨_, rfl⟩ | ⟨_, _, rfl⟩ | ⟨_, _, rfl⟩ | ⟨_, _, rfl⟩ | ⟨_, _, _, rfl⟩ <;> simp [bInts]
theorem lensD_perm {ks ks' : List Nm} (h : ks.Perm ks') : lensD ks = lensD ks' := by
  unfold lensD
  have e : ∀ n, ks.any (fun k => k.length == n) = ks'.any (fun k => k.length == n) := fun n => by
    rw [Bool.eq_iff_iff, List.any_eq_true, List.any_eq_true]
    exact ⟨fun ⟨x, hx, q⟩ => ⟨x, h.mem_iff.mp hx, q⟩, fun ⟨x, hx, q⟩ => ⟨x, h.mem_iff.mpr hx, q⟩⟩
  simp only [e]
theorem odF_putL' {t1 t2 t3 : Tok} {kc kl : Addr} {b : Bool} {ln : Option (Tok × Addr)} {tk ls'} {n : Nat} : ∃ tok nd', (putL nL (PyData.keyHash w.params nL) (.str nL tk) (.ref ls') (odF w t1 t2 t3 kc kl b ln), putN nL (odF w t1 t2 t3 kc kl b ln) n) = (odF w t1 t2 t3 kc kl b (some (tok, ls')), nd') := by
  rcases ln with _ | ⟨t4, ls⟩ <;> exact ⟨_, _, rfl⟩
theorem od_setL {r : OR} {ls : Addr} {lv : List Value} {n' : Nat} {t : Addr} {Q : Unit → Shared → Prop} (S : SL h₀ L m h ((ls, PySem.W.listOf lv.toArray n') :: (r.led w ++ mr)) pe) (X : (hd.heap_39 w.params).In h)
    (q : ∀ h' tok nd, SL h₀ L m h' (({ r with ln := some (tok, ls), lv := lv, nl := n', nd := nd } : OR).led w ++ mr) pe → Q () ⟨h', G, D, tk + 2, O⟩) (ht : r.t = t := by rfl) :
    wpAny (model PR w) A (setAttr (.ref t) nL (.ref ls)) Q E ⟨h, G, D, tk, O⟩ := by
  subst ht
  obtain ⟨tok, nd', e⟩ := @odF_putL' w r.t1 r.t2 r.t3 r.kc r.kl r.b r.ln (tk + 1) ls r.nd
  refine odSet S X (OR.inst (S.drop1)) rfl (kt_L w) odF_Ls e (.tail (.tail .head)) odF_len fun h' S' => q h' tok nd' ?_
  have hp : List.Perm ((ls, PySem.W.listOf lv.toArray n') :: (r.t, r.oT w) :: (r.td, dictOf (odF w r.t1 r.t2 r.t3 r.kc r.kl r.b (some (tok, ls))) nd') :: (r.kc, r.oC w) :: (r.kl, r.oK) :: (r.lens ++ mr))
      ((r.t, r.oT w) :: (r.td, dictOf (odF w r.t1 r.t2 r.t3 r.kc r.kl r.b (some (tok, ls))) nd') :: (r.kc, r.oC w) :: (r.kl, r.oK) :: (ls, PySem.W.listOf lv.toArray n') :: (r.lens ++ mr)) :=
    (List.Perm.swap _ _ _).trans (.cons _ ((List.Perm.swap _ _ _).trans (.cons _ ((List.Perm.swap _ _ _).trans (.cons _ (List.Perm.swap _ _ _))))))
  have S1 := SL.perm S' hp
  refine S1.sub ?_
  show List.Sublist (((r.t, _) :: (r.td, _) :: (r.kc, _) :: (r.kl, _) :: (ls, _) :: mr) ++ pe) _
  exact ((((((List.sublist_append_right r.lens mr).cons_cons _).cons_cons _).cons_cons _).cons_cons _).cons_cons _).append (List.Sublist.refl _)
end
section
open PyProof.Rows.LCg PySem.W
variable {w : World} {A A₀ : Around} {base h₀ h : Heap} {outer : List Env} {env : Env} {L C : Addr} {p : Program} {loose : List Str} {mean : ExcName → Option Value} {mg mb m : Str → Option Value} {mu mr pe : Lg}
  {G : Array GenState} {D : Drawn} {tk : Nat} {O : OsState} {R : Result → Shared → Prop} {E : Value → Shared → Prop} {pos : Pos}
theorem Call_KW {env : Env} {func : Expr} {args : List Expr} {kws : List Keyword} {pos : Pos} {Q : Value → Shared → Prop} {s : Shared}
    (q : wpAny (model PR w) A (eval func env) (fun f s₁ => wpAny (model PR w) A (callWith pos f [] (backTo pos (starEach args env)) (backToKw pos (keywordEach kws env))) Q E s₁) E s)
    (he : eval (.Call func args kws pos) env = (do callWith pos (← eval func env) [] (backTo pos (starEach args env)) (backToKw pos (keywordEach kws env))) := by rfl) :
    wpAny (model PR w) A (eval (.Call func args kws pos) env) Q E s := by
  rw [he]; exact wpAny_bind q
def Short (ks : List Nm) : Prop := ∀ k ∈ ks, k.length = 1 ∨ k.length = 2 ∨ k.length = 3
theorem Short.ne {ks : List Nm} (h : Short ks) : ∀ k ∈ ks, k ≠ [] := fun k hk e => by
  have := h k hk
  rw [e] at this
  simp at this
structure OrdRel (r r' : OR) : Prop where
  t : r'.t = r.t
  kc : r'.kc = r.kc
  xs : r'.xs = r.xs
  cs : r'.cs = r.cs
  ks : r'.ks.Perm r.ks
  up : Up (r'.ks.map (·.1))
  b : r'.b = false
  ln : r'.ln.isSome = true
  lv : IntsAre r'.lv (lensD (r'.ks.map (·.1)))
theorem OrdRel.ok {r r' : OR} (x : OrdRel r r') (ok : r.Ok w pe) : r'.Ok w pe :=
  ⟨x.xs ▸ ok.x, x.cs ▸ ok.c, fun y hy => ok.k y (x.ks.mem_iff.mp hy), (x.ks.map _).trans (x.xs ▸ ok.same), by rw [x.xs, x.cs]; exact ok.cin, by rw [x.cs]; exact ok.cv, x.t ▸ ok.st, x.kc ▸ ok.sc⟩
theorem refs_get {ts : Ts} {i : Nat} {v : Value} (h : itemAt (refs ts).toArray i v) : ∃ hi : i < ts.length, v = .ref (ts[i]).2 := by
  have h' : (refs ts)[i]? = some v := by simpa [itemAt] using h
  obtain ⟨hi, e⟩ := List.getElem?_eq_some_iff.mp h'
  have hi' : i < ts.length := by rw [refs_length] at hi; exact hi
  exact ⟨hi', by rw [← e]; simp [refs]⟩
theorem sd_order {r : OR} (C : Fm w A A₀ base outer env h₀ L p loose mean mg mb) (S : SL h₀ L m h (r.led w ++ mr) pe) (ok : r.Ok w pe) (sh : Short (r.ks.map (·.1))) (hz : r.ks.length < 64) (hh : A.handled = none) (hd : A.depth < 870) (hu : A.units < 8800)
    (post : ∀ r' h' tk', OrdRel r r' → r'.Ok w pe → SL h₀ L m h' (r'.led w ++ mr) pe → R (.ok (.ret .none)) ⟨h', G, D, tk', O⟩) :
    codeAny (model PR w) A (.call (.ref 90) ⟨[.ref r.t], []⟩) R ⟨h, G, D, tk, O⟩ := by
  refine' enter (binds := [("self", .ref r.t)]) (cl := []) C S ?k6 ?k7 ?k8 ?k9 ?kB ?_ ?c2 ?c3 ?c4 ?c5
  case k6 => k_is
  case k7 => k_is
  case k8 => show Around.depth _ < 1000; first | omega | (simp only [und_depth]; omega)
  case k9 => exact BindsTo.of_eq rfl
  case kB => exact locs rfl
  case c2 => decide
  case c3 => exact rfl
  case c4 => exact rfl
  case c5 => exact rfl
  intro g L' h₁ C' S'
  walk_at "ms"
  refine odMeth (S'.X C') (OR.inst S') (by k_is) (by k_is) (odF_no rfl rfl rfl rfl) ?_
  refine callK (by k_is) ?_ rfl rfl
  walk_at "ms"
  refine od_getK S' (S'.X C') ?_
  walk_at "ms"
  refine ⟨S'.X C', wpAny_call ?_⟩
  refine oid_sort C' S' ok (fun y hy => sh.ne _ (List.mem_map_of_mem (f := (·.1)) hy)) hz (by show A.depth + 1 < 880; omega) (by show A.units + 3 < 8900; omega) fun ks' n' h₂ tk₂ p1 p2 S₂ => ?_
  obtain ⟨r1, er1⟩ : ∃ r1 : OR, r1 = { r with ks := ks', nk := n' } := ⟨_, rfl⟩
  rw [← er1] at S₂
  have et : r.t = r1.t := by rw [er1]
  have ek : r1.ks = ks' := by rw [er1]
  have ok1 : r1.Ok w pe := by
    subst er1
    exact ⟨ok.x, ok.c, fun y hy => ok.k y (p1.mem_iff.mp hy), (p1.map _).trans ok.same, ok.cin, ok.cv, ok.st, ok.sc⟩
  have sh1 : Short (r1.ks.map (·.1)) := fun k hk => sh k ((p1.map (·.1)).mem_iff.mp (by rw [ek] at hk; exact hk))
  walk_at "ms"
  refine Call_KW ?_
  walk_at "ms"
  refine callBK (mach _) rfl ?_ rfl rfl
  walk_at "m"
  refine' comp_set (cl := []) ?_ ?a ?b ?c ?d ?e ?f
  case a => rfl
  case b => decide
  case c => rfl
  case d => decide
  case e => rfl
  case f => intro x; rfl
  walk_at "ms"
  refine od_getK S₂ (S₂.X C') ?_ et.symm
  have hK : (r1.kl, r1.oK) ∈ (r1.led w ++ mr) := .tail _ (.tail _ (.tail _ (.head _)))
  refine it_list (by exact hh) S₂ (List.mem_append_left _ hK) hK fun I h₃ oI St src hst S₃ => ?_
  refine ⟨I, _, _, St, h₃, _, _, pe, oI, fun i bs => ∀ x, x ∈ bs.map (·.1) ↔ ∃ k ∈ (r1.ks.take i).map (·.1), k.length = x, rfl, rfl, src, hst, S₃, by simp, ?_, ?_⟩
  · intro i v y h tk I' C₁ Dd oI' oC oD m₂ E' hi hP hJ hns hm₂ S₄
    obtain ⟨hi', e'⟩ := refs_get hP
    have hy : r1.ks[i] ∈ r1.ks := List.getElem_mem hi'
    have hk1 : IsNm w pe (r1.ks[i]).1 (r1.ks[i]).2 := ok1.k _ hy
    have hl := sh1 _ (List.mem_map_of_mem (f := (·.1)) hy)
    subst e'
    refine Call_ ?_
    refine' cnB S₄ C' ?e1 ?e2 ?e3 ?_ ?e4 ?e5 ?e6 ?e7 ?e8
    case e1 => k_is
    case e2 => boot_fast
    case e3 => decide
    case e4 => rfl
    case e5 => rfl
    case e6 => rfl
    case e7 => rfl
    case e8 => decide
    refine callB (mach _) ?_ rfl rfl
    refine spliced_more ?_
    refine cnL (S₄.get (.tail _ (.head _))) hns hm₂ ?_ rfl rfl (by decide)
    refine spliced_none ?_
    refine name_len S₄.pes hk1 (by omega) fun t tk' => ?_
    refine ⟨tk', _, t, rfl, hl, ?_, rfl⟩
    intro x
    rw [smIns_keys, hJ x, List.take_succ_eq_append_getElem hi', List.map_append]
    simp only [List.map_cons, List.map_nil, List.mem_append, List.mem_singleton]
    constructor
    · rintro (⟨k, h1, h2⟩ | rfl)
      · exact ⟨k, .inl h1, h2⟩
      · exact ⟨_, .inr rfl, rfl⟩
    · rintro ⟨k, h1 | rfl, h2⟩
      · exact .inl ⟨k, h1, h2⟩
      · exact .inr h2.symm
  · intro Dd h' tk' bs ep hJ hb S₄
    have hn : (refs r1.ks).toArray.size = r1.ks.length := by rw [List.size_toArray, refs_length]
    rw [hn, List.take_length] at hJ
    walk_at "ms"
    refine kwAll_cons ?_
    walk_at "ms"
    refine kwAll_nil ?_
    refine sorted_setR (by exact hh) S₄ (.head _) hb fun vs d h₅ n₅ tk₅ hI S₅ => ?_
    rw [lensD_of hb hJ] at hI
    walk_at "ms"
    have S₆ := S₅.sub (mu' := (d, PySem.W.listOf vs.toArray n₅) :: (r1.led w ++ mr)) (pe' := pe) ((List.sublist_cons_self _ _).cons_cons _)
    refine od_setL S₆ (S₆.X C') (fun h₇ tok nd₇ S₇ => ?_) et.symm
    walk_at "ms"
    refine od_setD (b' := false) S₇ (S₇.X C') (fun h₈ S₈ => ?_) et.symm
    walk_at "ms"
    refine leave S₈ fun S₉ => ?_
    refine post _ h₈ _ ?_ ?_ S₉
    · subst er1
      exact ⟨rfl, rfl, rfl, rfl, p1, p2, rfl, rfl, hI⟩
    · subst er1
      exact ⟨ok1.x, ok1.c, ok1.k, ok1.same, ok1.cin, ok1.cv, ok1.st, ok1.sc⟩
end
section
open PyProof.Rows.LCg PySem.W
variable {w : World} {A A₀ : Around} {base h₀ h : Heap} {outer : List Env} {env : Env} {L C : Addr} {p : Program} {loose : List Str} {mean : ExcName → Option Value} {mg mb m : Str → Option Value} {mu mr pe : Lg}
  {G : Array GenState} {D : Drawn} {tk : Nat} {O : OsState} {R : Result → Shared → Prop} {E : Value → Shared → Prop} {pos : Pos}
def Clean (r : OR) : Prop := r.b = false → OrdRel r r
theorem OrdRel.clean {r r' : OR} (x : OrdRel r r') : Clean r' := fun _ => ⟨rfl, rfl, rfl, rfl, .refl _, x.up, x.b, x.ln, x.lv⟩
theorem PutRel.clean {r r' : OR} {k a v} (x : PutRel r r' k a v) (c : Clean r) : Clean r' := by
  intro hb
  have e := x.b
  rw [hb] at e
  by_cases hin : k ∈ r.xs.map (·.1)
  · rw [if_pos hin] at e
    have o := c e.symm
    have ek := x.ks
    rw [if_pos hin] at ek
    exact ⟨rfl, rfl, rfl, rfl, .refl _, by rw [ek]; exact o.up, hb, by rw [x.ln]; exact o.ln, by rw [x.lv, ek]; exact o.lv⟩
  · rw [if_neg hin] at e; cases e
theorem DelRel.clean {r r' : OR} {k} (x : DelRel r r' k) : Clean r' := fun hb => by rw [x.b] at hb; cases hb
theorem SL.grow {h' : Heap} {o : Obj} (S : SL h₀ L m h mu pe) (k : ∀ b o, h.get? b = some o → h'.get? b = some o) (hg : h'.get? h.objs.size = some o) : SL h₀ L m h' ((h.objs.size, o) :: mu) pe :=
  S.of (S.fr.keeps k) (fun p hp => by
    rcases List.mem_cons.mp hp with rfl | hp
    · refine ⟨hg, Nat.ne_of_gt S.fr.ns.lt, ?_⟩
      cases q : h₀.get? h.objs.size with
      | none => rfl
      | some o => exact absurd (Heap.lt_size (S.fr.keep _ _ q)) (Nat.lt_irrefl _)
    · exact ⟨k _ _ (S.nw p hp).1, (S.nw p hp).2⟩) S.lt
theorem list_copy {ax : Addr} {vs : List Value} {n : Nat} {Q : Value → Shared → Prop} (S : SL h₀ L m h mu pe) (hm : (ax, PySem.W.listOf vs.toArray n) ∈ mu ++ pe) (hz : vs.length ≤ 1000)
    (q : ∀ d n h' tk', SL h₀ L m h' ((d, PySem.W.listOf vs.toArray n) :: mu) pe → Q (.ref d) ⟨h', G, D, tk', O⟩) : wpAny (model PR w) A (call (.type "list") [.ref ax]) Q E ⟨h, G, D, tk, O⟩ := by
  have ho := (S.nw _ hm).1
  exact call_list_seq ax (.inl rfl) ho rfl rfl (fun h' c' k hg => q _ c' h' _ (S.grow k hg)) (by rw [List.size_toArray, sizeLine_eq]; omega)
theorem sd_keys {r : OR} (C : Fm w A A₀ base outer env h₀ L p loose mean mg mb) (S : SL h₀ L m h (r.led w ++ mr) pe) (ok : r.Ok w pe) (cl : Clean r) (sh : Short (r.ks.map (·.1))) (hz : r.ks.length < 64) (hh : A.handled = none) (hd : A.depth < 860) (hu : A.units < 8700)
    (post : ∀ r' d n h' tk', OrdRel r r' → r'.Ok w pe → SL h₀ L m h' ((d, PySem.W.listOf (refs r'.ks).toArray n) :: (r'.led w ++ mr)) pe → R (.ok (.ret (.ref d))) ⟨h', G, D, tk', O⟩) :
    codeAny (model PR w) A (.call (.ref 68) ⟨[.ref r.t], []⟩) R ⟨h, G, D, tk, O⟩ := by
  refine' enter (binds := [("self", .ref r.t)]) (cl := []) C S ?k6 ?k7 ?k8 ?k9 ?kB ?_ ?c2 ?c3 ?c4 ?c5
  case k6 => k_is
  case k7 => k_is
  case k8 => show Around.depth _ < 1000; first | omega | (simp only [und_depth]; omega)
  case k9 => exact BindsTo.of_eq rfl
  case kB => exact locs rfl
  case c2 => decide
  case c3 => exact rfl
  case c4 => exact rfl
  case c5 => exact rfl
  intro g L' h₁ C' S'
  refine mid (P := fun s' => ∃ r1 h' tk', s' = ⟨h', G, D, tk', O⟩ ∧ OrdRel r r1 ∧ r1.Ok w pe ∧ SL g L' (fun y => ([("self", .ref r.t)] : List (Str × Value)).reverse.lookup y) h' (r1.led w ++ mr) pe) ?_ ?_
  · walk_at "ms"
    refine od_getD S' (S'.X C') ?_
    walk_at "m"
    by_cases hb : r.b = false
    · rw [hb, if_neg (by simp)]
      walk_at "ms"
      exact ⟨rfl, r, _, _, rfl, cl hb, ok, S'⟩
    · rw [Bool.not_eq_false] at hb
      rw [hb, if_pos rfl]
      walk_at "ms"
      refine odMeth (S'.X C') (OR.inst S') (by k_is) (by k_is) (odF_no rfl rfl rfl rfl) ?_
      refine callK0 (by k_is) (S'.X C') ?_
      refine wpAny_call ?_
      refine sd_order C' S' ok sh hz (by exact hh) (by show A.depth + 1 < 870; omega) (by show A.units + 3 < 8800; omega) fun r1 h₂ tk₂ x ok1 S₂ => ?_
      walk_at "ms"
      exact ⟨rfl, r1, _, _, rfl, x, ok1, S₂⟩
  · rintro _ ⟨r1, h₂, tk₂, rfl, x, ok1, S₂⟩
    have et := x.t
    walk_at "ms"
    refine callB (machT _) ?_ rfl rfl
    walk_at "ms"
    refine od_getK S₂ (S₂.X C') ?_ et
    walk_at "ms"
    refine list_copy S₂ (.tail _ (.tail _ (.tail _ (.head _)))) (by rw [refs_length, x.ks.length_eq]; omega) fun d n h₃ tk₃ S₃ => ?_
    refine leave S₃ fun S₄ => ?_
    exact post r1 d n h₃ tk₃ x ok1 S₄
end
section
open PyProof.Rows.LCg PySem.W
variable {w : World} {A A₀ : Around} {base h₀ h : Heap} {outer : List Env} {env : Env} {L C : Addr} {p : Program} {loose : List Str} {mean : ExcName → Option Value} {mg mb m : Str → Option Value} {mu mr pe : Lg}
  {G : Array GenState} {D : Drawn} {tk : Nat} {O : OsState} {R : Result → Shared → Prop} {E : Value → Shared → Prop} {pos : Pos}
theorem od_sub {xs : Ents} {t td : Addr} {fs : List DictEntry} {nf ep : Nat} {value slice : Expr} {i : Value} {Q : Value → Shared → Prop} {t' : Addr} (T : OdAt w h pe t td fs nf xs ep) (hs : subscripted slice false (.ref t) i = operate [.ref t, i] (getItem (.ref t) i)) (et : t = t') (q : wpAny (model PR w) A (getItem (.ref t) i) Q E ⟨h, G, D, tk, O⟩) : wpAny (model PR w) A (subscriptTail value slice (.ref t') i) Q E ⟨h, G, D, tk, O⟩ := by
  subst et
  unfold subscriptTail getitemInPython
  refine wpAny_bind (wpAny_bind ((T.inst.type.andThen (looks_findIn (M := model PR w) T.X (kd_getitem w))).at ?_))
  refine wpAny_pure ?_
  rw [hs]
  exact wpAny_bind (wpAny_operating (wpAny_mono q (fun r s₃ h₃ => wpAny_bind (wpAny_letTemporaryGo (wpAny_pure h₃))) fun _ _ x => x))
theorem nmC {cn : Str} {cs : Scope} {a c : Addr} {o : Obj} {ccd v : Value} {cl : List (Str × Addr)} {x : Str} {Q : Value → Shared → Prop} (S : SL h₀ L m h mu pe) (hm : (c, o) ∈ mu ++ pe) (hd : o.data = .cell (some v)) (q : Q v ⟨h, G, D, tk, O⟩) (hc : cl.lookup x = some c) (hk : cs.kind = .function) (hx : (envX cn cs L a ccd cl).kindOf x = some .cell) (hb : (x == ("__debug__" : Str)) = false) :
    wpAny (model PR w) A (eval (.Name x pos) (envX cn cs L a ccd cl)) Q E ⟨h, G, D, tk, O⟩ := nameX_C S.nw hc hm hd q hk hx hb
theorem nmF {cn : Str} {cs : Scope} {a c : Addr} {o : Obj} {ccd v : Value} {cl : List (Str × Addr)} {x : Str} {Q : Value → Shared → Prop} (S : SL h₀ L m h mu pe) (hm : (c, o) ∈ mu ++ pe) (hd : o.data = .cell (some v)) (q : Q v ⟨h, G, D, tk, O⟩) (hc : cl.lookup x = some c) (hk : cs.kind = .function) (hx : (envX cn cs L a ccd cl).kindOf x = some .free) (hb : (x == ("__debug__" : Str)) = false) (hn : (x == ("__classdict__" : Str)) = false) :
    wpAny (model PR w) A (eval (.Name x pos) (envX cn cs L a ccd cl)) Q E ⟨h, G, D, tk, O⟩ := nameX_F S.nw hc hm hd q hk hx hb hn
theorem sd_lens {r : OR} (C : Fm w A A₀ base outer env h₀ L p loose mean mg mb) (S : SL h₀ L m h (r.led w ++ mr) pe) (ok : r.Ok w pe) (cl : Clean r) (sh : Short (r.ks.map (·.1))) (hz : r.ks.length < 64) (hh : A.handled = none) (hd : A.depth < 860) (hu : A.units < 8700)
    (post : ∀ r' tok ls h' tk', OrdRel r r' → r'.ln = some (tok, ls) → r'.Ok w pe → SL h₀ L m h' (r'.led w ++ mr) pe → R (.ok (.ret (.ref ls))) ⟨h', G, D, tk', O⟩) :
    codeAny (model PR w) A (.call (.ref 102) ⟨[.ref r.t], []⟩) R ⟨h, G, D, tk, O⟩ := by
  refine' enter (binds := [("self", .ref r.t)]) (cl := []) C S ?k6 ?k7 ?k8 ?k9 ?kB ?_ ?c2 ?c3 ?c4 ?c5
  case k6 => k_is
  case k7 => k_is
  case k8 => show Around.depth _ < 1000; first | omega | (simp only [und_depth]; omega)
  case k9 => exact BindsTo.of_eq rfl
  case kB => exact locs rfl
  case c2 => decide
  case c3 => exact rfl
  case c4 => exact rfl
  case c5 => exact rfl
  intro g L' h₁ C' S'
  refine mid (P := fun s' => ∃ r1 h' tk', s' = ⟨h', G, D, tk', O⟩ ∧ OrdRel r r1 ∧ r1.Ok w pe ∧ SL g L' (fun y => ([("self", .ref r.t)] : List (Str × Value)).reverse.lookup y) h' (r1.led w ++ mr) pe) ?_ ?_
  · walk_at "ms"
    refine od_getD S' (S'.X C') ?_
    walk_at "m"
    by_cases hb : r.b = false
    · rw [hb, if_neg (by simp)]
      walk_at "ms"
      exact ⟨rfl, r, _, _, rfl, cl hb, ok, S'⟩
    · rw [Bool.not_eq_false] at hb
      rw [hb, if_pos rfl]
      walk_at "ms"
      refine odMeth (S'.X C') (OR.inst S') (by k_is) (by k_is) (odF_no rfl rfl rfl rfl) ?_
      refine callK0 (by k_is) (S'.X C') ?_
      refine wpAny_call ?_
      refine sd_order C' S' ok sh hz (by exact hh) (by show A.depth + 1 < 870; omega) (by show A.units + 3 < 8800; omega) fun r1 h₂ tk₂ x ok1 S₂ => ?_
      walk_at "ms"
      exact ⟨rfl, r1, _, _, rfl, x, ok1, S₂⟩
  · rintro _ ⟨r1, h₂, tk₂, rfl, x, ok1, S₂⟩
    have et := x.t
    have hl := x.ln
    obtain ⟨⟨tok, ls⟩, hl'⟩ := Option.isSome_iff_exists.mp hl
    walk_at "ms"
    refine od_getL S₂ (S₂.X C') hl' ?_ et
    refine leave S₂ fun S₄ => ?_
    exact post r1 tok ls h₂ _ x hl' ok1 S₄
theorem sd_values {r : OR} (C : Fm w A A₀ base outer env h₀ L p loose mean mg mb) (S : SL h₀ L m h (r.led w ++ mr) pe) (ok : r.Ok w pe) (cl : Clean r) (sh : Short (r.ks.map (·.1))) (hz : r.ks.length < 64) (hh : A.handled = none) (hd : A.depth < 860) (hu : A.units < 8700)
    (post : ∀ r' d n vs h' tk', OrdRel r r' → r'.Ok w pe → vs = r'.ks.map (fun y => ((atKey r'.xs y.1).map (·.2)).getD .none) → SL h₀ L m h' ((d, PySem.W.listOf vs.toArray n) :: (r'.led w ++ mr)) pe → R (.ok (.ret (.ref d))) ⟨h', G, D, tk', O⟩) :
    codeAny (model PR w) A (.call (.ref 73) ⟨[.ref r.t], []⟩) R ⟨h, G, D, tk, O⟩ := by
  refine' enterC (binds := [("self", .ref r.t)]) C S ?k6 ?k7 ?k8 ?k9 ?kB ?kD ?_ ?c3 ?c4 ?c5
  case k6 => k_is
  case k7 => k_is
  case k8 => show Around.depth _ < 1000; first | omega | (simp only [und_depth]; omega)
  case k9 => exact BindsTo.of_eq rfl
  case kB => exact rfl
  case kD => decide +kernel
  case c3 => exact rfl
  case c4 => exact rfl
  case c5 => exact rfl
  intro g L' h₁ tk' cells C' hC S0
  have hC2 : CellsAre _ [("self", L' + 1)] cells := hC
  obtain ⟨oS, rfl, hS⟩ := hC2.one
  have hS' : oS.data = .cell (some (.ref r.t)) := hS
  obtain ⟨m', S'⟩ : ∃ m', SL g L' m' h₁ (r.led w ++ ((L' + 1, oS) :: mr)) pe := ⟨_, (S0 (fun p hp => by rw [List.mem_singleton.mp hp]; exact Nat.lt_succ_self _) (by simp)).perm (List.perm_middle (a := (L' + 1, oS)) (l₁ := r.led w) (l₂ := mr)).symm⟩
  have hS1 : ∀ {r1 : OR}, (L' + 1, oS) ∈ (r1.led w ++ ((L' + 1, oS) :: mr)) ++ pe := fun {_} => List.mem_append_left _ (List.mem_append_right _ (.head _))
  refine mid (P := fun s' => ∃ r1 h' tk', s' = ⟨h', G, D, tk', O⟩ ∧ OrdRel r r1 ∧ r1.Ok w pe ∧ SL g L' m' h' (r1.led w ++ ((L' + 1, oS) :: mr)) pe) ?_ ?_
  · walk_at "ms"
    refine nmC S' hS1 hS' ?_ rfl rfl rfl (by decide)
    refine od_getD S' (S'.X C') ?_
    walk_at "m"
    by_cases hb : r.b = false
    · rw [hb, if_neg (by simp)]
      walk_at "ms"
      exact ⟨rfl, r, _, _, rfl, cl hb, ok, S'⟩
    · rw [Bool.not_eq_false] at hb
      rw [hb, if_pos rfl]
      walk_at "ms"
      refine nmC S' hS1 hS' ?_ rfl rfl rfl (by decide)
      refine odMeth (S'.X C') (OR.inst S') (by k_is) (by k_is) (odF_no rfl rfl rfl rfl) ?_
      refine callK0 (by k_is) (S'.X C') ?_
      refine wpAny_call ?_
      refine sd_order C' S' ok sh hz (by exact hh) (by show A.depth + 1 < 870; omega) (by show A.units + 3 < 8800; omega) fun r1 h₂ tk₂ x ok1 S₂ => ?_
      walk_at "ms"
      exact ⟨rfl, r1, _, _, rfl, x, ok1, S₂⟩
  · rintro _ ⟨r1, h₂, tk₂, rfl, x, ok1, S₂⟩
    have et := x.t
    walk_at "ms"
    refine' comp_list (cl := [("self", L' + 1)]) ?_ ?a ?b ?c ?d ?e ?f
    case a => rfl
    case b => decide
    case c => rfl
    case d => decide
    case e => rfl
    case f => intro x; rfl
    walk_at "ms"
    refine nmC S₂ hS1 hS' ?_ rfl rfl rfl (by decide)
    refine od_getK S₂ (S₂.X C') ?_ et
    have hK : (r1.kl, r1.oK) ∈ (r1.led w ++ ((L' + 1, oS) :: mr)) := .tail _ (.tail _ (.tail _ (.head _)))
    refine it_list (by exact hh) S₂ (List.mem_append_left _ hK) hK fun I h₃ oI St src hst S₃ => ?_
    refine ⟨I, _, _, St, h₃, _, _, pe, oI, fun i y pe' => y = (r1.ks.take i).map (fun y => ((atKey r1.xs y.1).map (·.2)).getD .none) ∧ pe' = pe, rfl, rfl, src, hst, S₃, by simp, by rw [List.size_toArray, refs_length, x.ks.length_eq]; omega, ?_, ?_⟩
    · intro i v y pe' h tk I' C₁ Dd oI' oC m₂ E' hi hP hJ hpe hns hm₂ S₄
      obtain ⟨hi', e'⟩ := refs_get hP
      have hy : r1.ks[i] ∈ r1.ks := List.getElem_mem hi'
      have hk1 : IsNm w pe' (r1.ks[i]).1 (r1.ks[i]).2 := (ok1.k _ hy).mono hpe
      have hin : (r1.ks[i]).1 ∈ r1.xs.map (·.1) := ok1.same.mem_iff.mp (List.mem_map_of_mem (f := (·.1)) hy)
      obtain ⟨pr, hpr⟩ := atKey_some hin
      subst e'
      refine wpAny_tests_nil ?_
      rw [if_pos rfl]
      walk_at "ms"
      refine cnC S₄ (c := L' + 1) (o := oS) rfl (List.mem_append_left _ (.tail _ (.tail _ (.tail _ (List.mem_append_right _ (.head _)))))) hS' ?_ rfl rfl (by decide)
      refine cnL (S₄.get (.tail _ (.head _))) hns hm₂ ?_ rfl rfl (by decide)
      have S₅ := S₄.drop1.drop1.drop1
      refine od_sub (OR.odAt S₅ (S₅.X C') (ok1.x.mono hpe) ok1.st) rfl et ?_
      refine od_getItem (by show A.units + 3 + 1 < 9900; omega) (OR.odAt S₅ (S₅.X C') (ok1.x.mono hpe) ok1.st) hk1 hpr fun tk₆ => ?_
      refine ⟨h, tk₆, pe', _, rfl, rfl, ⟨?_, hJ.2⟩, fun _ z => z, S₄⟩
      show y ++ [pr.2] = _
      rw [List.take_succ_eq_append_getElem hi', List.map_append, hJ.1]
      simp [hpr]
    · rintro Dd h' tk' y _ ⟨hJ, rfl⟩ hpe S₄
      rw [show (refs r1.ks).toArray.size = r1.ks.length by rw [List.size_toArray, refs_length], List.take_length] at hJ
      have S₅ : SL g L' m' h' ((Dd, PySem.W.listOf y.toArray y.length) :: (r1.led w ++ mr)) _ := S₄.sub ((((List.Sublist.refl (r1.led w)).append (List.sublist_cons_self _ _)).cons_cons _).append (List.Sublist.refl _))
      refine leave S₅ fun S₆ => ?_
      exact post r1 Dd _ y h' tk' x ok1 hJ S₆
end
section
open PyProof.Rows.LCg PySem.W
variable {w : World} {A A₀ : Around} {base h₀ h : Heap} {outer : List Env} {env : Env} {L C : Addr} {p : Program} {loose : List Str} {mean : ExcName → Option Value} {mg mb m : Str → Option Value} {mu mr pe : Lg}
  {G : Array GenState} {D : Drawn} {tk : Nat} {O : OsState} {R : Result → Shared → Prop} {E : Value → Shared → Prop} {pos : Pos}
abbrev valAt (r : OR) (y : Nm × Addr) : Value := ((atKey r.xs y.1).map (·.2)).getD .none
def PairsAt (pe : Lg) (ks : Ts) (f : Nm × Addr → Value) (vs : List Value) : Prop :=
  vs.length = ks.length ∧ ∀ i (hi : i < ks.length), ∃ a n, vs[i]? = some (.ref a) ∧ (a, tupO [.ref (ks[i]).2, f ks[i]] n) ∈ pe
theorem PairsAt.mono {pe pe' : Lg} {ks : Ts} {f vs} (x : PairsAt pe ks f vs) (h : pe ⊆ pe') : PairsAt pe' ks f vs := ⟨x.1, fun i hi => let ⟨a, n, e, q⟩ := x.2 i hi; ⟨a, n, e, h q⟩⟩
theorem PairsAt.snoc {pe : Lg} {ks : Ts} {f vs} {y : Nm × Addr} {a n v} (x : PairsAt pe ks f vs) (hv : v = f y) : PairsAt ((a, tupO [.ref y.2, v] n) :: pe) (ks ++ [y]) f (vs ++ [.ref a]) := by
  refine ⟨by simp [x.1], fun i hi => ?_⟩
  by_cases h : i < ks.length
  · obtain ⟨a', n', e, q⟩ := x.2 i h
    refine ⟨a', n', by rw [List.getElem?_append_left (by rw [x.1]; exact h)]; exact e, ?_⟩
    rw [List.getElem_append_left h]
    exact .tail _ q
  · have e : i = ks.length := by simp at hi; omega
    subst e
    refine ⟨a, n, ?_, ?_⟩
    · rw [← x.1]; simp
    · subst hv
      simp
theorem sd_items {r : OR} (C : Fm w A A₀ base outer env h₀ L p loose mean mg mb) (S : SL h₀ L m h (r.led w ++ mr) pe) (ok : r.Ok w pe) (cl : Clean r) (sh : Short (r.ks.map (·.1))) (hz : r.ks.length < 64) (hh : A.handled = none) (hd : A.depth < 860) (hu : A.units < 8700)
    (post : ∀ r' d n vs nw h' tk', OrdRel r r' → r'.Ok w (nw ++ pe) → PairsAt (nw ++ pe) r'.ks (valAt r') vs → SL h₀ L m h' ((d, PySem.W.listOf vs.toArray n) :: (r'.led w ++ mr)) (nw ++ pe) → R (.ok (.ret (.ref d))) ⟨h', G, D, tk', O⟩) :
    codeAny (model PR w) A (.call (.ref 78) ⟨[.ref r.t], []⟩) R ⟨h, G, D, tk, O⟩ := by
  refine' enterC (binds := [("self", .ref r.t)]) C S ?k6 ?k7 ?k8 ?k9 ?kB ?kD ?_ ?c3 ?c4 ?c5
  case k6 => k_is
  case k7 => k_is
  case k8 => show Around.depth _ < 1000; first | omega | (simp only [und_depth]; omega)
  case k9 => exact BindsTo.of_eq rfl
  case kB => exact rfl
  case kD => decide +kernel
  case c3 => exact rfl
  case c4 => exact rfl
  case c5 => exact rfl
  intro g L' h₁ tk' cells C' hC S0
  have hC2 : CellsAre _ [("self", L' + 1)] cells := hC
  obtain ⟨oS, rfl, hS⟩ := hC2.one
  have hS' : oS.data = .cell (some (.ref r.t)) := hS
  obtain ⟨m', S'⟩ : ∃ m', SL g L' m' h₁ (r.led w ++ ((L' + 1, oS) :: mr)) pe := ⟨_, (S0 (fun p hp => by rw [List.mem_singleton.mp hp]; exact Nat.lt_succ_self _) (by simp)).perm (List.perm_middle (a := (L' + 1, oS)) (l₁ := r.led w) (l₂ := mr)).symm⟩
  have hS1 : ∀ {r1 : OR}, (L' + 1, oS) ∈ (r1.led w ++ ((L' + 1, oS) :: mr)) ++ pe := fun {_} => List.mem_append_left _ (List.mem_append_right _ (.head _))
  refine mid (P := fun s' => ∃ r1 h' tk', s' = ⟨h', G, D, tk', O⟩ ∧ OrdRel r r1 ∧ r1.Ok w pe ∧ SL g L' m' h' (r1.led w ++ ((L' + 1, oS) :: mr)) pe) ?_ ?_
  · walk_at "ms"
    refine nmC S' hS1 hS' ?_ rfl rfl rfl (by decide)
    refine od_getD S' (S'.X C') ?_
    walk_at "m"
    by_cases hb : r.b = false
    · rw [hb, if_neg (by simp)]
      walk_at "ms"
      exact ⟨rfl, r, _, _, rfl, cl hb, ok, S'⟩
    · rw [Bool.not_eq_false] at hb
      rw [hb, if_pos rfl]
      walk_at "ms"
      refine nmC S' hS1 hS' ?_ rfl rfl rfl (by decide)
      refine odMeth (S'.X C') (OR.inst S') (by k_is) (by k_is) (odF_no rfl rfl rfl rfl) ?_
      refine callK0 (by k_is) (S'.X C') ?_
      refine wpAny_call ?_
      refine sd_order C' S' ok sh hz (by exact hh) (by show A.depth + 1 < 870; omega) (by show A.units + 3 < 8800; omega) fun r1 h₂ tk₂ x ok1 S₂ => ?_
      walk_at "ms"
      exact ⟨rfl, r1, _, _, rfl, x, ok1, S₂⟩
  · rintro _ ⟨r1, h₂, tk₂, rfl, x, ok1, S₂⟩
    have et := x.t
    walk_at "ms"
    refine' comp_list (cl := [("self", L' + 1)]) ?_ ?a ?b ?c ?d ?e ?f
    case a => rfl
    case b => decide
    case c => rfl
    case d => decide
    case e => rfl
    case f => intro x; rfl
    walk_at "ms"
    refine nmC S₂ hS1 hS' ?_ rfl rfl rfl (by decide)
    refine od_getK S₂ (S₂.X C') ?_ et
    have hK : (r1.kl, r1.oK) ∈ (r1.led w ++ ((L' + 1, oS) :: mr)) := .tail _ (.tail _ (.tail _ (.head _)))
    refine it_list (by exact hh) S₂ (List.mem_append_left _ hK) hK fun I h₃ oI St src hst S₃ => ?_
    refine ⟨I, _, _, St, h₃, _, _, pe, oI, fun i y pe' => PairsAt pe' (r1.ks.take i) (valAt r1) y ∧ ∃ nw, pe' = nw ++ pe, rfl, rfl, src, hst, S₃, ⟨⟨rfl, fun i hi => by simp at hi⟩, [], rfl⟩, by rw [List.size_toArray, refs_length, x.ks.length_eq]; omega, ?_, ?_⟩
    · intro i v y pe' h tk I' C₁ Dd oI' oC m₂ E' hi hP hJ hpe hns hm₂ S₄
      obtain ⟨hi', e'⟩ := refs_get hP
      have hy : r1.ks[i] ∈ r1.ks := List.getElem_mem hi'
      have hk1 : IsNm w pe' (r1.ks[i]).1 (r1.ks[i]).2 := (ok1.k _ hy).mono hpe
      have hin : (r1.ks[i]).1 ∈ r1.xs.map (·.1) := ok1.same.mem_iff.mp (List.mem_map_of_mem (f := (·.1)) hy)
      obtain ⟨pr, hpr⟩ := atKey_some hin
      subst e'
      refine wpAny_tests_nil ?_
      rw [if_pos rfl]
      walk_at "ms"
      refine cnL (S₄.get (.tail _ (.head _))) hns hm₂ ?_ rfl rfl (by decide)
      walk_at "ms"
      refine cnC S₄ (c := L' + 1) (o := oS) rfl (List.mem_append_left _ (.tail _ (.tail _ (.tail _ (List.mem_append_right _ (.head _)))))) hS' ?_ rfl rfl (by decide)
      refine cnL (S₄.get (.tail _ (.head _))) hns hm₂ ?_ rfl rfl (by decide)
      have S₅ := S₄.drop1.drop1.drop1
      refine od_sub (OR.odAt S₅ (S₅.X C') (ok1.x.mono hpe) ok1.st) rfl et ?_
      refine od_getItem (by show A.units + 3 + 1 < 9900; omega) (OR.odAt S₅ (S₅.X C') (ok1.x.mono hpe) ok1.st) hk1 hpr fun tk₆ => ?_
      walk_at "ms"
      refine newTupleL (by simp) ?_
      have S₆ := (S₄.push (tupO [.ref (r1.ks[i]).2, pr.2] 0)).toPe
      obtain ⟨hJ1, nw, rfl⟩ := hJ
      refine ⟨_, tk₆, (h.objs.size, tupO [.ref (r1.ks[i]).2, pr.2] 0) :: (nw ++ pe), y ++ [.ref h.objs.size], rfl, rfl, ⟨?_, _ :: nw, rfl⟩, fun _ z => .tail _ z, S₆⟩
      rw [List.take_succ_eq_append_getElem hi']
      exact hJ1.snoc (by simp [valAt, hpr])
    · rintro Dd h' tk' y _ ⟨hJ, nw, rfl⟩ hpe S₄
      rw [show (refs r1.ks).toArray.size = r1.ks.length by rw [List.size_toArray, refs_length], List.take_length] at hJ
      have S₅ : SL g L' m' h' ((Dd, PySem.W.listOf y.toArray y.length) :: (r1.led w ++ mr)) _ := S₄.sub ((((List.Sublist.refl (r1.led w)).append (List.sublist_cons_self _ _)).cons_cons _).append (List.Sublist.refl _))
      refine leave S₅ fun S₆ => ?_
      exact post r1 Dd _ y nw h' tk' x (ok1.mono hpe) hJ S₆
end
section
open PySem.W
variable {w : World} {A : Around} {E : Value → Shared → Prop} {h₀ h : Heap} {L : Addr} {m : Str → Option Value} {mu mr pe : Lg}
  {G : Array GenState} {D : Drawn} {tk : Nat} {O : OsState} {a b : Addr} {k l : Nm}
theorem nlt_cons {a b : Int} {as bs : Nm} : nlt (a :: as) (b :: bs) = if a = b then nlt as bs else decide (a < b) := rfl
def nle (k l : Nm) : Bool := !nlt l k
def ngt (k l : Nm) : Bool := nlt l k
theorem nle_cons {a b : Int} {as bs : Nm} : nle (a :: as) (b :: bs) = if a = b then nle as bs else decide (a ≤ b) := by
  unfold nle
  rw [nlt_cons]
  by_cases e : a = b
  · rw [if_pos e, if_pos e.symm]
  · rw [if_neg e, if_neg (Ne.symm e), ← decide_not, decide_eq_decide]; omega
theorem ngt_cons {a b : Int} {as bs : Nm} : ngt (a :: as) (b :: bs) = if a = b then ngt as bs else decide (b < a) := by
  unfold ngt
  rw [nlt_cons]
  by_cases e : a = b
  · rw [if_pos e, if_pos e.symm]
  · rw [if_neg e, if_neg (Ne.symm e)]
theorem tup_lt_tree {s : Shared} {P : PySem.Fin → Shared → Prop} (hp : ∀ p ∈ pe, s.heap.get? p.1 = some p.2) (hk : IsNm w pe k a) (hl : IsNm w pe l b) (q : P (.done (.ret (.bool (nlt k l)))) s) : wpAny (model PR w) A (Builtin.«tuple.__lt__» ⟨[.ref a, .ref b], []⟩) P E s := by
  obtain ⟨vs, n1, m1, i1⟩ := hk
  obtain ⟨us, n2, m2, i2⟩ := hl
  have ha := hp _ m1
  have hb := hp _ m2
  have hTb : s.TypeIs (.ref b) "tuple" := ⟨_, hb, rfl⟩
  show wpAny _ _ (isInstance (.ref b) (.type "tuple") >>= _) _ _ s
  refine wpAny_bind (wpAny_isInstance hTb isSubtype_tuple_tuple ?_)
  simp only [Bool.not_true, Bool.false_eq_true, if_false]
  refine wpAny_bind (wpAny_tupleItemsOf ha rfl ?_)
  refine wpAny_bind (wpAny_tupleItemsOf hb rfl ?_)
  refine wpAny_bind ?_
  refine wpAny_forIn_list _
    (fun rest r s' => r.1 = none ∧ s' = s ∧ ∃ x y xs ys, rest = List.zip xs ys ∧ ItemsAre (intKind PR w) x xs ∧ ItemsAre (intKind PR w) y ys ∧ nlt x y = nlt k l ∧ (decide (xs.length < ys.length)) = decide (vs.length < us.length))
    _ ?_ ?_ _ _ ⟨rfl, rfl, k, l, vs, us, rfl, i1, i2, rfl, rfl⟩
  · rintro ⟨u, v⟩ rest r s' ⟨hr, rfl, x, y, xs, ys, hz, hx, hy, hn, hlen⟩
    cases hx with
    | nil => simp at hz
    | @cons k1 u' x'' xs'' h1 hx'' =>
      cases hy with
      | nil => simp at hz
      | @cons k2 v' y'' ys'' h2 hy'' =>
        simp only [List.zip_cons_cons, List.cons.injEq, Prod.mk.injEq] at hz
        obtain ⟨⟨rfl, rfl⟩, rfl⟩ := hz
        obtain ⟨t1, rfl⟩ := Value.isInt_shape h1
        obtain ⟨t2, rfl⟩ := Value.isInt_shape h2
        refine wpAny_bind (wpAny_eqBool_int ?_)
        rw [nlt_cons] at hn
        by_cases e : k1 = k2
        · rw [if_pos e] at hn
          rw [beq_iff_eq.mpr e]
          simp only [Bool.not_true, Bool.false_eq_true, if_false]
          exact wpAny_pure ⟨rfl, rfl, x'', y'', xs'', ys'', rfl, hx'', hy'', hn, by rw [← hlen]; simp⟩
        · rw [if_neg e] at hn
          rw [beq_eq_false_iff_ne.mpr e]
          simp only [Bool.not_false, if_true]
          refine wpAny_bind (wpAny_rule (wpAny_bind ?_))
          show wpAny _ _ (compareOp .Lt (.int k1 t1) (.int k2 t2)) _ _ _
          refine wpAny_lt_int ?_
          rw [hn]
          exact wpAny_bind (wpAny_pure (wpAny_pure (wpAny_pure q)))
  · rintro ⟨r1, r2⟩ s' ⟨hr, rfl, x, y, xs, ys, hz, hx, hy, hn, hlen⟩
    simp only at hr
    subst hr
    refine wpAny_pure ?_
    show P (.done (.ret (.bool (decide (vs.toArray.size < us.toArray.size))))) s'
    have e : decide (vs.toArray.size < us.toArray.size) = nlt k l := by
      rw [← hn, List.size_toArray, List.size_toArray, ← hlen]
      cases hx with
      | nil => cases hy with
        | nil => rfl
        | cons _ _ => simp [nlt]
      | cons _ _ => cases hy with
        | nil => simp [nlt]
        | cons _ _ => simp at hz
    rw [e]; exact q
theorem nm_lt {Q : Value → Shared → Prop} (hu : A.units < cLine) (hp : ∀ p ∈ pe, h.get? p.1 = some p.2) (hk : IsNm w pe k a) (hl : IsNm w pe l b) (q : Q (.bool (nlt k l)) ⟨h, G, D, tk, O⟩) : wpAny (model PR w) A (compareOp .Lt (.ref a) (.ref b)) Q E ⟨h, G, D, tk, O⟩ := by
  have tT : ∀ {k a}, IsNm w pe k a → (⟨h, G, D, tk, O⟩ : Shared).TypeIs (.ref a) "tuple" := fun ⟨vs, n, m, _⟩ => ⟨_, hp _ m, rfl⟩
  show wpAny _ _ (richCompare .Lt (.ref a) (.ref b)) _ _ _
  exact wpAny_richCompare_same_room (op := .Lt) (tT hk) (tT hl) F.slot_tuple_lt (wpAny_call_entry F.slot_tuple_lt (tT hk) F.entry_tuple_lt (tup_lt_tree (s := ⟨h, G, D, tk, O⟩) hp hk hl ⟨_, rfl, (fun e => nomatch e), q⟩) (F.args_tuple_lt_2 _ _)) hu
theorem tup_le_tree {s : Shared} {P : PySem.Fin → Shared → Prop} (hp : ∀ p ∈ pe, s.heap.get? p.1 = some p.2) (hk : IsNm w pe k a) (hl : IsNm w pe l b) (q : P (.done (.ret (.bool (nle k l)))) s) : wpAny (model PR w) A (Builtin.«tuple.__le__» ⟨[.ref a, .ref b], []⟩) P E s := by
  obtain ⟨vs, n1, m1, i1⟩ := hk
  obtain ⟨us, n2, m2, i2⟩ := hl
  have ha := hp _ m1
  have hb := hp _ m2
  have hTb : s.TypeIs (.ref b) "tuple" := ⟨_, hb, rfl⟩
  show wpAny _ _ (isInstance (.ref b) (.type "tuple") >>= _) _ _ s
  refine wpAny_bind (wpAny_isInstance hTb isSubtype_tuple_tuple ?_)
  simp only [Bool.not_true, Bool.false_eq_true, if_false]
  refine wpAny_bind (wpAny_tupleItemsOf ha rfl ?_)
  refine wpAny_bind (wpAny_tupleItemsOf hb rfl ?_)
  refine wpAny_bind ?_
  refine wpAny_forIn_list _
    (fun rest r s' => r.1 = none ∧ s' = s ∧ ∃ x y xs ys, rest = List.zip xs ys ∧ ItemsAre (intKind PR w) x xs ∧ ItemsAre (intKind PR w) y ys ∧ nle x y = nle k l ∧ (decide (xs.length ≤ ys.length)) = decide (vs.length ≤ us.length))
    _ ?_ ?_ _ _ ⟨rfl, rfl, k, l, vs, us, rfl, i1, i2, rfl, rfl⟩
  · rintro ⟨u, v⟩ rest r s' ⟨hr, rfl, x, y, xs, ys, hz, hx, hy, hn, hlen⟩
    cases hx with
    | nil => simp at hz
    | @cons k1 u' x'' xs'' h1 hx'' =>
      cases hy with
      | nil => simp at hz
      | @cons k2 v' y'' ys'' h2 hy'' =>
        simp only [List.zip_cons_cons, List.cons.injEq, Prod.mk.injEq] at hz
        obtain ⟨⟨rfl, rfl⟩, rfl⟩ := hz
        obtain ⟨t1, rfl⟩ := Value.isInt_shape h1
        obtain ⟨t2, rfl⟩ := Value.isInt_shape h2
        refine wpAny_bind (wpAny_eqBool_int ?_)
        rw [nle_cons] at hn
        by_cases e : k1 = k2
        · rw [if_pos e] at hn
          rw [beq_iff_eq.mpr e]
          simp only [Bool.not_true, Bool.false_eq_true, if_false]
          exact wpAny_pure ⟨rfl, rfl, x'', y'', xs'', ys'', rfl, hx'', hy'', hn, by rw [← hlen]; simp⟩
        · rw [if_neg e] at hn
          rw [beq_eq_false_iff_ne.mpr e]
          simp only [Bool.not_false, if_true]
          refine wpAny_bind (wpAny_rule (wpAny_bind ?_))
          show wpAny _ _ (compareOp .LtE (.int k1 t1) (.int k2 t2)) _ _ _
          refine PyProof.Rows.le_int ?_
          rw [hn]
          exact wpAny_bind (wpAny_pure (wpAny_pure (wpAny_pure q)))
  · rintro ⟨r1, r2⟩ s' ⟨hr, rfl, x, y, xs, ys, hz, hx, hy, hn, hlen⟩
    simp only at hr
    subst hr
    refine wpAny_pure ?_
    show P (.done (.ret (.bool (decide (vs.toArray.size ≤ us.toArray.size))))) s'
    have e : decide (vs.toArray.size ≤ us.toArray.size) = nle k l := by
      rw [← hn, List.size_toArray, List.size_toArray, ← hlen]
      cases hx with
      | nil => cases hy with
        | nil => rfl
        | cons _ _ => simp [nle, nlt]
      | cons _ _ => cases hy with
        | nil => simp [nle, nlt]
        | cons _ _ => simp at hz
    rw [e]; exact q
theorem nm_le {Q : Value → Shared → Prop} (hu : A.units < cLine) (hp : ∀ p ∈ pe, h.get? p.1 = some p.2) (hk : IsNm w pe k a) (hl : IsNm w pe l b) (q : Q (.bool (nle k l)) ⟨h, G, D, tk, O⟩) : wpAny (model PR w) A (compareOp .LtE (.ref a) (.ref b)) Q E ⟨h, G, D, tk, O⟩ := by
  have tT : ∀ {k a}, IsNm w pe k a → (⟨h, G, D, tk, O⟩ : Shared).TypeIs (.ref a) "tuple" := fun ⟨vs, n, m, _⟩ => ⟨_, hp _ m, rfl⟩
  show wpAny _ _ (richCompare .LtE (.ref a) (.ref b)) _ _ _
  exact wpAny_richCompare_same_room (op := .LtE) (tT hk) (tT hl) F.slot_tuple_le (wpAny_call_entry F.slot_tuple_le (tT hk) F.entry_tuple_le (tup_le_tree (s := ⟨h, G, D, tk, O⟩) hp hk hl ⟨_, rfl, (fun e => nomatch e), q⟩) (F.args_tuple_le_2 _ _)) hu
theorem tup_gt_tree {s : Shared} {P : PySem.Fin → Shared → Prop} (hp : ∀ p ∈ pe, s.heap.get? p.1 = some p.2) (hk : IsNm w pe k a) (hl : IsNm w pe l b) (q : P (.done (.ret (.bool (ngt k l)))) s) : wpAny (model PR w) A (Builtin.«tuple.__gt__» ⟨[.ref a, .ref b], []⟩) P E s := by
  obtain ⟨vs, n1, m1, i1⟩ := hk
  obtain ⟨us, n2, m2, i2⟩ := hl
  have ha := hp _ m1
  have hb := hp _ m2
  have hTb : s.TypeIs (.ref b) "tuple" := ⟨_, hb, rfl⟩
  show wpAny _ _ (isInstance (.ref b) (.type "tuple") >>= _) _ _ s
  refine wpAny_bind (wpAny_isInstance hTb isSubtype_tuple_tuple ?_)
  simp only [Bool.not_true, Bool.false_eq_true, if_false]
  refine wpAny_bind (wpAny_tupleItemsOf ha rfl ?_)
  refine wpAny_bind (wpAny_tupleItemsOf hb rfl ?_)
  refine wpAny_bind ?_
  refine wpAny_forIn_list _
    (fun rest r s' => r.1 = none ∧ s' = s ∧ ∃ x y xs ys, rest = List.zip xs ys ∧ ItemsAre (intKind PR w) x xs ∧ ItemsAre (intKind PR w) y ys ∧ ngt x y = ngt k l ∧ (decide (xs.length > ys.length)) = decide (vs.length > us.length))
    _ ?_ ?_ _ _ ⟨rfl, rfl, k, l, vs, us, rfl, i1, i2, rfl, rfl⟩
  · rintro ⟨u, v⟩ rest r s' ⟨hr, rfl, x, y, xs, ys, hz, hx, hy, hn, hlen⟩
    cases hx with
    | nil => simp at hz
    | @cons k1 u' x'' xs'' h1 hx'' =>
      cases hy with
      | nil => simp at hz
      | @cons k2 v' y'' ys'' h2 hy'' =>
        simp only [List.zip_cons_cons, List.cons.injEq, Prod.mk.injEq] at hz
        obtain ⟨⟨rfl, rfl⟩, rfl⟩ := hz
        obtain ⟨t1, rfl⟩ := Value.isInt_shape h1
        obtain ⟨t2, rfl⟩ := Value.isInt_shape h2
        refine wpAny_bind (wpAny_eqBool_int ?_)
        rw [ngt_cons] at hn
        by_cases e : k1 = k2
        · rw [if_pos e] at hn
          rw [beq_iff_eq.mpr e]
          simp only [Bool.not_true, Bool.false_eq_true, if_false]
          exact wpAny_pure ⟨rfl, rfl, x'', y'', xs'', ys'', rfl, hx'', hy'', hn, by rw [← hlen]; simp⟩
        · rw [if_neg e] at hn
          rw [beq_eq_false_iff_ne.mpr e]
          simp only [Bool.not_false, if_true]
          refine wpAny_bind (wpAny_rule (wpAny_bind ?_))
          show wpAny _ _ (compareOp .Gt (.int k1 t1) (.int k2 t2)) _ _ _
          refine PyProof.Rows.gt_int ?_
          rw [hn]
          exact wpAny_bind (wpAny_pure (wpAny_pure (wpAny_pure q)))
  · rintro ⟨r1, r2⟩ s' ⟨hr, rfl, x, y, xs, ys, hz, hx, hy, hn, hlen⟩
    simp only at hr
    subst hr
    refine wpAny_pure ?_
    show P (.done (.ret (.bool (decide (vs.toArray.size > us.toArray.size))))) s'
    have e : decide (vs.toArray.size > us.toArray.size) = ngt k l := by
      rw [← hn, List.size_toArray, List.size_toArray, ← hlen]
      cases hx with
      | nil => cases hy with
        | nil => rfl
        | cons _ _ => simp [ngt, nlt]
      | cons _ _ => cases hy with
        | nil => simp [ngt, nlt]
        | cons _ _ => simp at hz
    rw [e]; exact q
theorem nm_gt {Q : Value → Shared → Prop} (hu : A.units < cLine) (hp : ∀ p ∈ pe, h.get? p.1 = some p.2) (hk : IsNm w pe k a) (hl : IsNm w pe l b) (q : Q (.bool (ngt k l)) ⟨h, G, D, tk, O⟩) : wpAny (model PR w) A (compareOp .Gt (.ref a) (.ref b)) Q E ⟨h, G, D, tk, O⟩ := by
  have tT : ∀ {k a}, IsNm w pe k a → (⟨h, G, D, tk, O⟩ : Shared).TypeIs (.ref a) "tuple" := fun ⟨vs, n, m, _⟩ => ⟨_, hp _ m, rfl⟩
  show wpAny _ _ (richCompare .Gt (.ref a) (.ref b)) _ _ _
  exact wpAny_richCompare_same_room (op := .Gt) (tT hk) (tT hl) F.slot_tuple_gt (wpAny_call_entry F.slot_tuple_gt (tT hk) F.entry_tuple_gt (tup_gt_tree (s := ⟨h, G, D, tk, O⟩) hp hk hl ⟨_, rfl, (fun e => nomatch e), q⟩) (F.args_tuple_gt_2 _ _)) hu
end
section
open PySem.W
variable {w : World} {A A₀ : Around} {base g G h h₀ : Heap} {outer : List Env} {env : Env} {L e t : Addr} {m : Str → Option Value} {mu pe : Lg} {p : Program} {loose : List Str} {mean : ExcName → Option Value} {mg mb : Str → Option Value}
  {GS : Array GenState} {D : Drawn} {tk : Nat} {O : OsState}
abbrev frs (l : List Env) : List Addr := l.filterMap (·.frame)
theorem frs_mem {b : Addr} (hf : env.frame = some L) (hm : b ∈ frs (env :: outer)) : b = L ∨ b ∈ frs outer := by
  obtain ⟨x, he, hb⟩ := List.mem_filterMap.mp hm
  rcases List.mem_cons.mp he with rfl | he
  · rw [hf] at hb; exact .inl (Option.some.inj hb).symm
  · exact .inr (List.mem_filterMap.mpr ⟨x, he, hb⟩)
def RaisedX (base G : Heap) (l : List Env) (e : Addr) (cls : Value) (news : Lg) (h : Heap) : Prop :=
  ∃ Bh a0, base.StaysIn Bh ∧ (∀ b o, G.get? b = some o → b ∉ frs l → Bh.get? b = some o) ∧ (∀ q ∈ news, Bh.get? q.1 = some q.2 ∧ G.get? q.1 = none ∧ base.get? q.1 = none) ∧ Heap.FlyingW Bh l e cls a0 h
theorem ex_leave {E : Value → Shared → Prop} {Q : Unit → Shared → Prop} {oe : Obj} {vs : Array Value} {a0 : Value} (B : Below A base outer g) (hf : env.frame = some L) (hk : env.scope.kind = .function) (S : SL g L m h ((e, oe) :: mu) pe) (hd : oe.data = .fields vs) (h1 : vs[1]? = some .none) (h0 : vs[0]? = some a0)
    (q : ∀ h', RaisedX base g outer e oe.cls (mu ++ pe) h' → g.UpToSlots h' → Q () ⟨h', GS, D, tk, O⟩) : wpAny (model PR w) (A.deeper env) (leaving env (.ref e)) Q E ⟨h, GS, D, tk, O⟩ := by
  have F := S.fr
  have N := S.nw
  have ze : h.get? e = some oe ∧ e ≠ L ∧ g.get? e = none := S.nw (e, oe) (.head _)
  have hne : ∀ p ∈ mu ++ pe, p.1 ≠ e := fun p hp q => by
    have := S.nd
    simp only [List.cons_append, List.map_cons, List.nodup_cons] at this
    exact this.1 (q ▸ List.mem_map_of_mem (f := (·.1)) hp)
  have K' := pushX B F hf hk
  have st : base.StaysIn (hideAll h (e :: frs (env :: outer))) := fun b o qb => hideAll_get _ (K'.stays b o qb) fun hm => by
    rcases List.mem_cons.mp hm with rfl | hm
    · rw [fresh_of_stays B.stays ze.2.2] at qb; cases qb
    · rw [(K'.frames.mem hm).1] at qb; cases qb
  have sg : ∀ b o, g.get? b = some o → b ∉ frs outer → (hideAll h (e :: frs (env :: outer))).get? b = some o := fun b o qb nm => hideAll_get _ (F.keep b o qb) fun hm => by
    rcases List.mem_cons.mp hm with rfl | hm
    · rw [ze.2.2] at qb; cases qb
    · rcases frs_mem hf hm with z | z
      · rw [z, kts_self F] at qb; cases qb
      · exact nm z
  have hl : ∀ q ∈ mu ++ pe, (hideAll h (e :: frs (env :: outer))).get? q.1 = some q.2 ∧ g.get? q.1 = none ∧ base.get? q.1 = none := fun q hq => by
    have nq := N q (.tail _ hq)
    refine ⟨hideAll_get _ nq.1 fun hm => ?_, nq.2.2, fresh_of_stays B.stays nq.2.2⟩
    rcases List.mem_cons.mp hm with z | hm
    · exact hne q hq z
    · obtain ⟨x, he, hfx⟩ := List.mem_filterMap.mp hm
      rcases List.mem_cons.mp he with rfl | he
      · rw [hf] at hfx; exact nq.2.1 (Option.some.inj hfx).symm
      · obtain ⟨o, ho, _⟩ := (B.frames.mem (List.mem_filterMap.mpr ⟨x, he, hfx⟩)).2
        rw [nq.2.2] at ho; cases ho
  have hen : (hideAll h (e :: frs (env :: outer))).get? e = none := hideAll_none _ (.head _)
  refine wpAny_leaving_firstW (s := ⟨h, GS, D, tk, O⟩) K'.stack (funFrames_hide K'.frames fun x he b hb => .tail _ (List.mem_filterMap.mpr ⟨x, he, hb⟩)) hf ze.1 (fun b o q => of_hideAll _ q) hen hd h1 h0 fun h' hL => ?_
  obtain ⟨k1, ⟨_, _, k2⟩, k3, k4⟩ := hL
  exact q h' ⟨_, a0, st, sg, hl, k1, hen, k2, k3⟩ ((Heap.UpToSlots.of_keeps F.keep).trans k4)
theorem ex_ground {Bh h₅ : Heap} (B : Below A₀ base outer g) (hf : env.frame = some L) (F : Fr g L G m) (hBG : ∀ b o, G.get? b = some o → b ∉ frs (env :: outer) → Bh.get? b = some o) (hBh : Bh.StaysIn h₅) (hsm : G.UpToSlots h₅) :
    ∃ g', KtsTurn (frs outer) g g' ∧ Fr g' L h₅ m ∧ Below A₀ base outer g' := by
  obtain ⟨T, S⟩ := kts_turn_at (h := h₅) (fs := frs outer) (g := g)
    (fun b hb => by obtain ⟨_, o, ho, _⟩ := B.frames.mem hb; exact ⟨o, ho⟩)
    (fun b o e nm => hBh b o (hBG b o (F.keep b o e) (fun hm => by
      rcases frs_mem hf hm with z | z
      · rw [z, kts_self F] at e; cases e
      · exact nm z)))
    (fun b o e hm => by
      obtain ⟨_, o', ho', hd⟩ := B.frames.mem hm
      rw [e] at ho'; cases ho'
      exact hsm b o (F.keep b o e) hd)
  refine ⟨_, T, ⟨hsm.ns F.ns, S, by rw [T.size]; exact F.above⟩, ⟨B.stack, fun b o e => T.other b o (B.stays b o e) (fun hm => by
    rw [(B.frames.mem hm).1] at e; cases e), B.frames.of_keeps fun b o e _ => ?_⟩⟩
  obtain ⟨sl, hs⟩ := T.up e
  exact ⟨_, hs, rfl⟩
theorem ex_fresh {Bh : Heap} {b : Addr} (hf : env.frame = some L) (F : Fr g L G m) (hBG : ∀ b o, G.get? b = some o → b ∉ frs (env :: outer) → Bh.get? b = some o) (hb : Bh.get? b = none) (hnf : ∀ o, g.get? b = some o → b ∈ frs outer → False) : g.get? b = none := by
  cases q : g.get? b with
  | none => rfl
  | some o =>
    by_cases hm : b ∈ frs outer
    · exact (hnf o q hm).elim
    · have := hBG b o (F.keep b o q) (fun hm' => by
        rcases frs_mem hf hm' with z | z
        · rw [z, kts_self F] at q; cases q
        · exact hm z)
      rw [hb] at this; cases this
structure Bt (w : World) (base : Heap) (outer : List Env) (g : Heap) (p : Program) (loose : List Str) (mean : ExcName → Option Value) (mg mb : Str → Option Value) : Prop where
  X : (hd.heap_39 w.params).In base
  T : Top p loose mean mg mb base
  D : KtsDicts (frs outer) g
abbrev Tn (outer : List Env) (g g' : Heap) : Prop := KtsTurn (frs outer) g g'
theorem Bt.turn {g'} (b : Bt w base outer g p loose mean mg mb) (t : Tn outer g g') : Bt w base outer g' p loose mean mg mb := ⟨b.X, b.T, b.D.turn t⟩
theorem Fm.at_ {g' : Heap} (C : Fm w A A₀ base outer env g L p loose mean mg mb) (b : Bt w base outer g p loose mean mg mb) (B' : Below A₀ base outer g') : Fm w A A₀ base outer env g' L p loose mean mg mb := ⟨B', C.hA, C.hf, C.hk, b.X.keeps B'.stays, b.T.keeps B'.stays⟩
abbrev NB (w : World) (A₀ : Around) (env : Env) (e : Addr) (E : Value → Shared → Prop) : Value → Shared → Prop := notedBy (model PR w) ((A₀.deeper env).mark (some (.ref e))) env (cameBackBy (model PR w) (A₀.deeper env) env E)
def Handles (w : World) (A₀ : Around) (env : Env) (L e : Addr) (cls : Value) (p : Program) (loose : List Str) (mean : ExcName → Option Value) (mg mb : Str → Option Value) (hs : List ExceptHandler) (b₀ : Stmt) (suite : List Stmt) (Q : Flow → Shared → Prop) (E : Value → Shared → Prop) : Prop :=
  ∀ (s₂ : Shared) (g₂ : Heap) (m : Str → Option Value), Fr g₂ L s₂.heap m → (hd.heap_39 w.params).In g₂ → Top p loose mean mg mb g₂ → (∃ ob, s₂.heap.get? e = some ob ∧ ob.cls = cls) →
    wpAny (model PR w) ((A₀.deeper env).mark (some (.ref e))) (setFlight (.ref e) none) (fun _ s₃ => wpAny (model PR w) ((A₀.deeper env).mark (some (.ref e))) (execs (b₀ :: suite) env) Q (NB w A₀ env e E) s₃) (NB w A₀ env e E) s₂ →
    wpAny (model PR w) (A₀.deeper env) (handleBy (.ref e) env hs) Q E s₂
theorem handles_key {a : Addr} {cd : Value} {cl : List (Str × Addr)} {cn : Str} {cs : Scope} {np pos : Pos} {rest : List ExceptHandler} {b₀ : Stmt} {suite : List Stmt} {Q : Flow → Shared → Prop} {E : Value → Shared → Prop}
    (ex : nsIn (hd.heap_39 w.params) mainGlobals "KeyError" = some none) (hk : cs.kind = .function) (hx : (envX cn cs L a cd cl).kindOf "KeyError" = some .globalImplicit) :
    Handles w A₀ (envX cn cs L a cd cl) L e (.type "KeyError") p loose mean mg mb (.ExceptHandler (some (.Name "KeyError" np)) none (b₀ :: suite) pos :: rest) b₀ suite Q E := by
  intro s₂ g₂ m F X T ⟨ob, hob, hobc⟩ q
  exact wpAny_handleBy_builtin (X := "KeyError") (T := "KeyError") (b := true) kr_isExc_KeyError kr_notTuple_KeyError (by rw [isSubtype_type]; kernel_rfl) (nameX_B F X (topRead_of T) ex PyProof.Rows.Boot.«KeyError» (by decide) ⟨rfl, ⟨ob, hob, hobc⟩, q⟩ hk hx (by decide))
theorem handles_obj {C a : Addr} {cd : Value} {cl : List (Str × Addr)} {cn x : Str} {cs : Scope} {np pos : Pos} {rest : List ExceptHandler} {b₀ : Stmt} {suite : List Stmt} {Q : Flow → Shared → Prop} {E : Value → Shared → Prop}
    (ex : nsIn (hd.heap_39 w.params) mainGlobals x = some (some (.ref C))) (q : ktsIn (hd.heap_39 w.params) C "BaseException" = true) (hk : cs.kind = .function) (hx : (envX cn cs L a cd cl).kindOf x = some .globalImplicit) (hd' : (x == ("__debug__" : Str)) = false) :
    Handles w A₀ (envX cn cs L a cd cl) L e (.ref C) p loose mean mg mb (.ExceptHandler (some (.Name x np)) none (b₀ :: suite) pos :: rest) b₀ suite Q E := by
  intro s₂ g₂ m F X T ⟨ob, hob, hobc⟩ q'
  obtain ⟨nm, q2, N, bs, bm, hdct, sn, sub, ab, col, dd, k0, k1, k2, k3, k5, newId, hC, hbase, hbT⟩ := kts_cls X q
  have hC₅ := F.keep _ _ hC
  obtain ⟨h2, G2, D2, t2, O2⟩ := s₂
  refine wpAny_handleBy_cons (codeAny_handlers_test (nameX_K F X (topRead_of T) ex ?_ hk hx hd')) (by intro q; cases q)
  exact wpAny_excMatches_sub_self hC₅ hob hobc hbase (codeAny_handlers_suite q')
theorem ex_caught {s' : Shared} {E : Value → Shared → Prop} {Q : Flow → Shared → Prop} {cls : Value} {hs : List ExceptHandler} {b₀ : Stmt} {suite : List Stmt}
    (C : Fm w (A₀.deeper env) A₀ base outer env g L p loose mean mg mb) (b : Bt w base outer g p loose mean mg mb) (F : Fr g L G m) (R : RaisedX base G (env :: outer) e cls (mu ++ pe) s'.heap) (hsm : G.UpToSlots s'.heap) (nd : ((mu ++ pe).map (·.1)).Nodup)
    (hh : Handles w A₀ env L e cls p loose mean mg mb hs b₀ suite Q E)
    (hE : PassesOwnAt (model PR w) ((A₀.deeper env).mark (some (.ref e))) (A₀.deeper env) env E)
    (k : ∀ h' g', Tn outer g g' → SL g' L m h' mu pe → Fm w ((A₀.deeper env).mark (some (.ref e))) A₀ base outer env g' L p loose mean mg mb → Bt w base outer g' p loose mean mg mb →
      wpAny (model PR w) ((A₀.deeper env).mark (some (.ref e))) (execs (b₀ :: suite) env) Q E { s' with heap := h' }) :
    wpAny (model PR w) (A₀.deeper env) (noteFrame (.ref e) env) (fun _ s₂ => wpAny (model PR w) (A₀.deeper env) (setFlight (.ref e) none) (fun _ s₃ => wpAny (model PR w) (A₀.deeper env) (handleBy (.ref e) env hs) Q E s₃) E s₂) E s' := by
  obtain ⟨B, a0, hB, hBG, hl, hfl⟩ := R
  have hL : B.get? L = none := by
    obtain ⟨_, ⟨L', _, hf, hn', _⟩, _⟩ := hfl.2.2.1
    rw [C.hf] at hf
    obtain rfl : L = L' := Option.some.inj hf
    exact hn'
  refine wpAny_looks_onW (Around.frames_deeper C.B.stack) C.hf hfl fun h₄ hheld₄ hsm₄ => ?_
  refine wpAny_landsW hheld₄ fun h₅ hheld hsm₅' => ?_
  have hsm₅ := hsm₄.trans hsm₅'
  obtain ⟨g₅, T₅, F₅, K₅⟩ := ex_ground C.B C.hf F hBG hheld.1 (hsm.trans hsm₅)
  obtain ⟨ob, hob, hobc⟩ := hheld.there
  refine hh _ g₅ m F₅ (b.X.keeps K₅.stays) (b.T.keeps K₅.stays) ⟨ob, hob, hobc⟩ ?_
  refine lands_againW hheld fun h₆ hfl₆ hsm₆ => ?_
  obtain ⟨g₆, T₆, F₆, K₆⟩ := ex_ground C.B C.hf F hBG hfl₆.1 ((hsm.trans hsm₅).trans hsm₆)
  have N₆ : News g₆ L h₆ (mu ++ pe) := fun q hq => ⟨hfl₆.1 _ _ (hl q hq).1, (fun z => by have := (hl q hq).1; rw [z, hL] at this; cases this), T₆.none_ _ (kts_none F.keep (hl q hq).2.1)⟩
  have C₆ := C.at_ b K₆
  refine wpAny_passesOwnAt hE (k h₆ g₆ T₆ ⟨F₆, N₆, nd⟩ ⟨C₆.B, C₆.hA, C₆.hf, C₆.hk, C₆.X, C₆.T⟩ (b.turn T₆))
end
section
open PySem.W
def P2 (f : Obj → Obj) : Prop := ∀ o vs, o.data = .fields vs → ∃ vs', (f o).data = .fields vs' ∧ vs'[2]? = vs[2]?
def K2 {α : Type} : Sem α → Prop
  | .pure _ => True
  | .raise _ => True
  | .unsupported _ => True
  | .finish _ => True
  | .rule _ k => K2 (k ())
  | .at _ k => K2 (k ())
  | .load _ _ k => ∀ o, K2 (k o)
  | .update _ _ f k => P2 f ∧ K2 (k ())
  | .loadIfAlive _ k => ∀ o, K2 (k o)
  | .point _ k => K2 (k ())
  | .register _ _ => True
  | .alloc _ k => ∀ a, K2 (k a)
  | .fresh k => ∀ t, K2 (k t)
  | .ask k => ∀ t, K2 (k t)
  | .choose _ _ k => ∀ t, K2 (k t)
  | .os _ _ k => ∀ t, K2 (k t)
  | .call .. => False
  | .handled _ k => ∀ t, K2 (k t)
  | .genState _ k => ∀ t, K2 (k t)
  | .newGen _ k => ∀ t, K2 (k t)
  | .resume .. => False
  | .yield .. => True
  | .stack k => ∀ t, K2 (k t)
  | .fork .. => True
  | .thread k => ∀ t, K2 (k t)
  | .await .. => True
def F2 (e : Addr) (v : Value) (h : Heap) : Prop := ∃ o vs, h.get? e = some o ∧ o.data = .fields vs ∧ vs[2]? = some v
theorem F2.push {e : Addr} {v : Value} {h : Heap} (x : F2 e v h) (o : Obj) : F2 e v (h.push o) := let ⟨oo, vs, a, b, c⟩ := x; ⟨oo, vs, Heap.get?_push_of_some _ a, b, c⟩
theorem F2.upd {e a : Addr} {v : Value} {h : Heap} {f : Obj → Obj} (x : F2 e v h) (p : P2 f) : F2 e v (h.update a f) := by
  obtain ⟨oo, vs, g, d, c⟩ := x
  by_cases q : a = e
  · subst q
    obtain ⟨vs', d', c'⟩ := p oo vs d
    exact ⟨_, vs', Heap.get?_update_self f g (Obj.isFreed_of_fields d'), d', c'.trans c⟩
  · exact ⟨oo, vs, by rw [Heap.get?_update_other _ _ q]; exact g, d, c⟩
theorem wp_k2 {α : Type} {M : Model} {Γ : Ctx} {e : Addr} {v : Value} {Q : α → Pos → Shared → Prop} {E : Value → Pos → Shared → Prop} (t : Sem α) : ∀ {p : Pos} {s : Shared}, K2 t → F2 e v s.heap → Sem.wp M Γ t Q E p s → Sem.wp M Γ t (fun a p s => Q a p s ∧ F2 e v s.heap) (fun x p s => E x p s ∧ F2 e v s.heap) p s := by
  induction t with
  | pure a => intro p s _ f h; simp only [Sem.wp] at *; exact ⟨h, f⟩
  | raise a => intro p s _ f h; simp only [Sem.wp] at *; exact ⟨h, f⟩
  | load a pt k ih => intro p s c f h; simp only [Sem.wp] at *; exact let ⟨o, g, h⟩ := h; ⟨o, g, ih o (c o) f h⟩
  | update a pt f k ih => intro p s c f2 h; simp only [Sem.wp] at *; exact ⟨h.1, ih () c.2 (f2.upd c.1) h.2⟩
  | alloc o k ih => intro p s c f h; simp only [Sem.wp] at *; exact ih _ (c _) (f.push o) h
  | call => intro p s c; exact c.elim
  | resume => intro p s c; exact c.elim
  | choose src n k ih => intro p s c f h; simp only [Sem.wp] at *; exact ⟨h.1, ih _ (c _) f h.2⟩
  | genState g k ih => intro p s c f h; simp only [Sem.wp] at *; exact let ⟨o, g, h⟩ := h; ⟨o, g, ih _ (c _) f h⟩
  | _ =>
    intro p s c f h
    (simp only [Sem.wp] at h ⊢) <;> first
      | exact h.elim
      | (rename_i ih; exact ih _ c f h)
      | (rename_i ih; exact ih _ (c _) f h)
theorem K2.bind {α β : Type} {f : α → Sem β} (hf : ∀ a, K2 (f a)) : ∀ {t : Sem α}, K2 t → K2 (t.bind f) := by
  intro t
  induction t with
  | pure a => intro _; exact hf a
  | call => intro c; exact c.elim
  | resume => intro c; exact c.elim
  | load a pt k ih => intro c o; exact ih o (c o)
  | loadIfAlive a k ih => intro c o; exact ih o (c o)
  | update _ _ _ k ih => intro c; exact ⟨c.1, ih _ c.2⟩
  | rule _ k ih | «at» _ k ih | point _ k ih => intro c; exact ih _ c
  | alloc _ k ih | fresh k ih | ask k ih | choose _ _ k ih | os _ _ k ih | handled _ k ih | genState _ k ih | newGen _ k ih | stack k ih | thread k ih => intro c o; exact ih _ (c o)
  | _ => intro _; exact True.intro
theorem wpAny_k2 {α : Type} {M : Model} {A : Around} {e : Addr} {v : Value} {Q : α → Shared → Prop} {E : Value → Shared → Prop} {t : Sem α} {s : Shared} (c : K2 t) (f : F2 e v s.heap) (h : wpAny M A t Q E s) : wpAny M A t (fun a s => Q a s ∧ F2 e v s.heap) (fun x s => E x s ∧ F2 e v s.heap) s :=
  fun Γ p hΓ => wp_k2 t c f (h Γ p hΓ)
theorem P2.set {i : Nat} {x : Value} (h : i ≠ 2) : P2 (Obj.mapFields (·.setIfInBounds i x)) := by
  intro o vs d
  exact ⟨_, Obj.data_mapFields d _, by rw [Array.getElem?_setIfInBounds_ne h]⟩
end
section
open PySem.W
theorem K2.fieldsOf {e : Value} : K2 (fieldsOf e) := by
  unfold PySem.fieldsOf
  repeat (any_goals (first | exact True.intro | (refine K2.bind (fun _ => ?_) ?_) | (intro _) | split))
theorem K2.setField {e : Value} {i : Nat} {v : Value} (h : i ≠ 2) : K2 (setField e i v) := by
  unfold PySem.setField PySem.updateField
  repeat (any_goals (first | exact True.intro | exact ⟨P2.set h, True.intro⟩ | (refine K2.bind (fun _ => ?_) ?_) | (intro _) | split))
theorem P2.slots {f : Obj → Array (Option Value)} : P2 fun o => { o with slots := f o } := fun o vs d => ⟨vs, d, rfl⟩
theorem K2.setFlight {e : Value} {f : Option Addr} : K2 (setFlight e f) := by
  unfold PySem.setFlight PySem.field
  repeat (any_goals (first | exact True.intro | exact K2.fieldsOf | exact K2.setField (by decide) | (refine K2.bind (fun _ => ?_) ?_) | (intro _) | split))
theorem K2.keptBack {env : Env} {i : Bool} {o : List Env} : K2 (keptBack env i o) := by
  unfold PySem.keptBack
  repeat (any_goals (first | exact True.intro | (refine K2.bind (fun _ => ?_) ?_) | (intro _) | split))
theorem K2.behind {env : Env} {o : List Env} : K2 (behindIsImport env o) := by
  unfold PySem.behindIsImport
  repeat (any_goals (first | exact True.intro | exact K2.fieldsOf | (refine K2.bind (fun _ => ?_) ?_) | (intro _) | split))
theorem K2.readyFrames : ∀ {l : List Env}, K2 (readyFrames l)
  | [] => True.intro
  | env :: outer => by
    have ih := K2.readyFrames (l := outer)
    unfold PySem.readyFrames
    repeat (any_goals (first | exact True.intro | exact ih | exact K2.keptBack | exact K2.behind | exact ⟨P2.slots, True.intro⟩ | (refine K2.bind (fun _ => ?_) ?_) | (intro _) | split))
theorem K2.frameObject {l : List Env} : K2 (frameObject l) := by
  unfold PySem.frameObject
  repeat (any_goals (first | exact True.intro | exact K2.readyFrames | (refine K2.bind (fun _ => ?_) ?_) | (intro _) | split))
theorem K2.newEntry {a b c d e : Value} {p : List Value} : K2 (EntryCells.newEntry a b c d e p) := by
  unfold EntryCells.newEntry PySem.newFields PySem.newObj
  repeat (any_goals (first | exact True.intro | (refine K2.bind (fun _ => ?_) ?_) | (intro _) | split))
theorem K2.noteFrame {e : Value} {env : Env} : K2 (noteFrame e env) := by
  unfold PySem.noteFrame
  repeat (any_goals (first | exact True.intro | exact K2.setField (by decide) | exact K2.fieldsOf | exact K2.newEntry | exact K2.frameObject | (refine K2.bind (fun _ => ?_) ?_) | (intro _) | split))
end
section
open PySem.W
variable {w : World} {A A₀ : Around} {base g G h h₀ : Heap} {outer : List Env} {env : Env} {L e t : Addr} {m : Str → Option Value} {mu pe : Lg} {p : Program} {loose : List Str} {mean : ExcName → Option Value} {mg mb : Str → Option Value}
  {GS : Array GenState} {D : Drawn} {tk : Nat} {O : OsState}
theorem K2.leaving {env : Env} {e : Value} : K2 (leaving env e) := K2.bind (fun _ => K2.setFlight) K2.noteFrame
theorem ex_leave2 {E : Value → Shared → Prop} {Q : Unit → Shared → Prop} {oe : Obj} {vs : Array Value} {a0 c2 : Value} (B : Below A base outer g) (hf : env.frame = some L) (hk : env.scope.kind = .function) (S : SL g L m h ((e, oe) :: mu) pe) (hd : oe.data = .fields vs) (h1 : vs[1]? = some .none) (h0 : vs[0]? = some a0) (h2 : vs[2]? = some c2)
    (q : ∀ h', RaisedX base g outer e oe.cls (mu ++ pe) h' → g.UpToSlots h' → F2 e c2 h' → Q () ⟨h', GS, D, tk, O⟩) : wpAny (model PR w) (A.deeper env) (leaving env (.ref e)) Q E ⟨h, GS, D, tk, O⟩ := by
  refine wpAny_mono (wpAny_k2 (E := E) K2.leaving (e := e) (v := c2) ⟨oe, vs, S.get (.head _), hd, h2⟩ (ex_leave (Q := fun _ s' => ∃ h', s' = ⟨h', GS, D, tk, O⟩ ∧ RaisedX base g outer e oe.cls (mu ++ pe) h' ∧ g.UpToSlots h') B hf hk S hd h1 h0 fun h' r u => ⟨h', rfl, r, u⟩)) (fun _ s' z => ?_) fun _ _ z => z.1
  obtain ⟨⟨h', rfl, r, u⟩, f⟩ := z
  exact q h' r u f
theorem k2_step {A : Around} {E : Value → Shared → Prop} {t : Sem Unit} {e : Addr} {v : Value} {Q : Unit → Shared → Prop} {P : Heap → Prop} {s : Shared} (c : K2 t) (f : F2 e v s.heap)
    (h : ∀ {Q' : Unit → Shared → Prop}, (∀ h', P h' → Q' () { s with heap := h' }) → wpAny (model PR w) A t Q' E s) (q : ∀ h', P h' → F2 e v h' → Q () { s with heap := h' }) : wpAny (model PR w) A t Q E s := by
  refine wpAny_mono (wpAny_k2 c f (h (Q' := fun _ s' => ∃ h', s' = { s with heap := h' } ∧ P h') fun h' x => ⟨h', rfl, x⟩)) (fun _ s' z => ?_) fun _ _ z => z.1
  obtain ⟨⟨h', rfl, x⟩, f'⟩ := z
  exact q h' x f'
theorem ex_caught2 {s' : Shared} {E : Value → Shared → Prop} {Q : Flow → Shared → Prop} {cls c2 : Value} {hs : List ExceptHandler} {b₀ : Stmt} {suite : List Stmt}
    (C : Fm w (A₀.deeper env) A₀ base outer env g L p loose mean mg mb) (b : Bt w base outer g p loose mean mg mb) (F : Fr g L G m) (R : RaisedX base G (env :: outer) e cls (mu ++ pe) s'.heap) (hsm : G.UpToSlots s'.heap) (f2 : F2 e c2 s'.heap) (nd : ((mu ++ pe).map (·.1)).Nodup)
    (hh : Handles w A₀ env L e cls p loose mean mg mb hs b₀ suite Q E)
    (hE : PassesOwnAt (model PR w) ((A₀.deeper env).mark (some (.ref e))) (A₀.deeper env) env E)
    (k : ∀ h' g' oe vs, oe.data = .fields vs → vs[2]? = some c2 → Tn outer g g' → SL g' L m h' mu ((e, oe) :: pe) → Fm w ((A₀.deeper env).mark (some (.ref e))) A₀ base outer env g' L p loose mean mg mb → Bt w base outer g' p loose mean mg mb →
      wpAny (model PR w) ((A₀.deeper env).mark (some (.ref e))) (execs (b₀ :: suite) env) Q E { s' with heap := h' }) :
    wpAny (model PR w) (A₀.deeper env) (noteFrame (.ref e) env) (fun _ s₂ => wpAny (model PR w) (A₀.deeper env) (setFlight (.ref e) none) (fun _ s₃ => wpAny (model PR w) (A₀.deeper env) (handleBy (.ref e) env hs) Q E s₃) E s₂) E s' := by
  obtain ⟨B, a0, hB, hBG, hl, hfl⟩ := R
  have hL : B.get? L = none := by
    obtain ⟨_, ⟨L', _, hf, hn', _⟩, _⟩ := hfl.2.2.1
    rw [C.hf] at hf
    obtain rfl : L = L' := Option.some.inj hf
    exact hn'
  refine k2_step (P := fun h₄ => Heap.HeldW B (env :: outer) e cls a0 L h₄ ∧ s'.heap.UpToSlots h₄) K2.noteFrame f2 (fun q => wpAny_looks_onW (Around.frames_deeper C.B.stack) C.hf hfl fun h₄ x y => q h₄ ⟨x, y⟩) fun h₄ ⟨hheld₄, hsm₄⟩ f4 => ?_
  refine k2_step (P := fun h₅ => Heap.FlyingW B (env :: outer) e cls a0 h₅ ∧ h₄.UpToSlots h₅) K2.setFlight f4 (fun q => wpAny_landsW hheld₄ fun h₅ x y => q h₅ ⟨x, y⟩) fun h₅ ⟨hheld, hsm₅'⟩ f5 => ?_
  have hsm₅ := hsm₄.trans hsm₅'
  obtain ⟨g₅, T₅, F₅, K₅⟩ := ex_ground C.B C.hf F hBG hheld.1 (hsm.trans hsm₅)
  obtain ⟨ob, hob, hobc⟩ := hheld.there
  refine hh _ g₅ m F₅ (b.X.keeps K₅.stays) (b.T.keeps K₅.stays) ⟨ob, hob, hobc⟩ ?_
  refine k2_step (P := fun h₆ => Heap.FlyingW B (env :: outer) e cls a0 h₆ ∧ h₅.UpToSlots h₆) K2.setFlight f5 (fun q => lands_againW hheld fun h₆ x y => q h₆ ⟨x, y⟩) fun h₆ ⟨hfl₆, hsm₆⟩ f6 => ?_
  obtain ⟨g₆, T₆, F₆, K₆⟩ := ex_ground C.B C.hf F hBG hfl₆.1 ((hsm.trans hsm₅).trans hsm₆)
  have N₆ : News g₆ L h₆ (mu ++ pe) := fun q hq => ⟨hfl₆.1 _ _ (hl q hq).1, (fun z => by have := (hl q hq).1; rw [z, hL] at this; cases this), T₆.none_ _ (kts_none F.keep (hl q hq).2.1)⟩
  have C₆ := C.at_ b K₆
  have ge : g₆.get? e = none := by
    refine T₆.none_ _ (ex_fresh C.hf F hBG hfl₆.2.1 fun o ho hm => ?_)
    obtain ⟨_, o', ho', hd'⟩ := C.B.frames.mem hm
    rw [ho] at ho'; cases ho'
    obtain ⟨sl, hs⟩ := T₆.up ho
    have e1 := F₆.keep _ _ hs
    obtain ⟨oo, vs, g1, d1, _⟩ := f6
    rw [e1] at g1; cases g1
    exact hd' vs d1
  obtain ⟨oe, vs, g1, d1, v2⟩ := f6
  have hne : ∀ q ∈ mu ++ pe, q.1 ≠ e := fun q hq z => by
    have := (hl q hq).1
    rw [z, hfl₆.2.1] at this; cases this
  have heL : e ≠ L := fun z => by
    obtain ⟨oL, es, ep, hLg, hLd, _⟩ := F₆.ns
    rw [z, hLg] at g1; cases g1
    rw [d1] at hLd; cases hLd
  refine wpAny_passesOwnAt hE (k h₆ g₆ oe vs d1 v2 T₆ ⟨F₆, fun q hq => ?_, ?_⟩ ⟨C₆.B, C₆.hA, C₆.hf, C₆.hk, C₆.X, C₆.T⟩ (b.turn T₆))
  · rcases List.mem_append.mp hq with z | z
    · exact N₆ q (List.mem_append_left _ z)
    · rcases List.mem_cons.mp z with rfl | z
      · exact ⟨g1, heL, ge⟩
      · exact N₆ q (List.mem_append_right _ z)
  · refine ((List.Perm.map _ (List.perm_middle (a := (e, oe)) (l₁ := mu) (l₂ := pe))).nodup_iff).mpr ?_
    rw [List.map_cons, List.nodup_cons]
    refine ⟨fun z => ?_, nd⟩
    obtain ⟨q, hq, e'⟩ := List.mem_map.mp z
    exact hne q hq e'
end
section
open PySem.W
variable {w : World} {A A₀ : Around} {base h₀ h g : Heap} {outer : List Env} {env : Env} {L : Addr} {p : Program} {loose : List Str} {mean : ExcName → Option Value} {mg mb m : Str → Option Value} {mu pe : Lg}
  {G : Array GenState} {D : Drawn} {tk : Nat} {O : OsState} {R : Result → Shared → Prop} {name qual : Str} {params : Arguments} {body : List Stmt} {scope : Scope} {cl : List (Str × Addr)} {dV kV doc pm cdv ct oc : Value} {an od : Option Addr} {osl : Array (Option Value)} {f : Addr} {args : Args} {binds : List (Str × Value)}
def LeaveT (w : World) (A A₀ : Around) (base : Heap) (outer : List Env) (env : Env) (h₀ : Heap) (L : Addr) (m : Str → Option Value) (g : Heap) (p : Program) (loose : List Str) (mean : ExcName → Option Value) (mg mb : Str → Option Value) (R : Result → Shared → Prop) (v : Value) (s' : Shared) : Prop :=
  ∃ g' L' m' mu' pe', Tn (env :: outer) g g' ∧ SL g' L' m' s'.heap mu' pe' ∧ ∀ h₀', Tn outer h₀ h₀' → Fm w A A₀ base outer env h₀' L p loose mean mg mb → Bt w base outer h₀' p loose mean mg mb → SL h₀' L m s'.heap mu' pe' → R (.ok (.ret v)) s'
theorem turn_ground (G : Array GenState) (D : Drawn) (tk : Nat) (O : OsState) (C : Fm w A A₀ base outer env h₀ L p loose mean mg mb) (b : Bt w base outer h₀ p loose mean mg mb) (S : SL h₀ L m h mu pe) :
    let gg := hideAll h ((mu ++ pe).map (·.1))
    Fr h₀ L gg m ∧ Below A base (env :: outer) gg ∧ h₀.StaysIn gg ∧ Bt w base (env :: outer) gg p loose mean mg mb ∧
    ∀ {v : Value} {s' : Shared}, LeaveT w A A₀ base outer env h₀ L m gg p loose mean mg mb R v s' → R (.ok (.ret v)) s' := by
  obtain ⟨FG, BG, st, _⟩ := groundX (R := R) C.B (s := ⟨h, G, D, tk, O⟩) S.fr S.nw C.hA C.hf C.hk
  refine ⟨FG, BG, st, ⟨b.X, b.T, fun a ha => ?_⟩, ?_⟩
  · rcases frs_mem C.hf ha with rfl | ha
    · obtain ⟨oL, es, ep, hL, hLd, _⟩ := FG.ns
      exact ⟨oL, es, ep, hL, hLd⟩
    · obtain ⟨o, es, n, ho, hd⟩ := b.D a ha
      exact ⟨o, es, n, st a o ho, hd⟩
  · rintro v s' ⟨g', L', m', mu', pe', T', S', k⟩
    obtain ⟨oL, es, ep, hLg, hLd, hLk, hLf⟩ := FG.ns
    have nL₀ : h₀.get? L = none := kts_self S.fr
    obtain ⟨sl, hs⟩ := T'.up hLg
    obtain ⟨T₁, S₁⟩ := kts_turn_at (h := s'.heap) (fs := frs outer) (g := h₀)
      (fun a ha => by obtain ⟨_, o, ho', _⟩ := C.B.frames.mem ha; exact ⟨o, ho'⟩)
      (fun a o e nmem => S'.fr.keep a o (T'.other a o (st a o e) (fun q => by
        rcases frs_mem C.hf q with z | z
        · rw [z, nL₀] at e; cases e
        · exact nmem z)))
      (fun a o e hm => by
        obtain ⟨sl', hs'⟩ := T'.up (st a o e)
        exact ⟨sl', S'.fr.keep _ _ hs'⟩)
    have B₃ : Below A₀ base outer (ktsHeap s'.heap (frs outer) h₀) := ⟨C.B.stack, fun a o e => T₁.other a o (C.B.stays a o e) (fun hm => by
      rw [(C.B.frames.mem hm).1] at e; cases e), C.B.frames.of_keeps fun a o e _ => by
      obtain ⟨sl', hs'⟩ := T₁.up e
      exact ⟨_, hs', rfl⟩⟩
    refine k _ T₁ (C.at_ b B₃) (b.turn T₁) ⟨⟨⟨_, es, ep, S'.fr.keep _ _ hs, hLd, hLk, hLf⟩, S₁, by rw [T₁.size]; exact S.fr.above⟩, fun q hq => ⟨(S'.nw q hq).1, fun z => ?_, ?_⟩, S'.nd⟩
    · have := (S'.nw q hq).2.2; rw [z, hs] at this; cases this
    · refine T₁.none_ _ ?_
      cases z : h₀.get? q.1 with
      | none => rfl
      | some o =>
        obtain ⟨sl', hs'⟩ := T'.up (st _ _ z)
        have := (S'.nw q hq).2.2
        rw [hs'] at this; cases this
abbrev RetT (w : World) (A A₀ : Around) (base : Heap) (outer : List Env) (env : Env) (h₀ : Heap) (L : Addr) (m : Str → Option Value) (g : Heap) (p : Program) (loose : List Str) (mean : ExcName → Option Value) (mg mb : Str → Option Value) (R : Result → Shared → Prop) : Flow → Shared → Prop :=
  fun fl s' => LeaveT w A A₀ base outer env h₀ L m g p loose mean mg mb R (match fl with | .ret v => v | _ => .none) s'
theorem enterT (C : Fm w A A₀ base outer env h₀ L p loose mean mg mb) (b : Bt w base outer h₀ p loose mean mg mb) (S : SL h₀ L m h mu pe)
    (ho : h.get? f = some ⟨oc, od, .func (fnX name qual params body scope cl dV kV doc pm an cdv ct), osl⟩) (hcd : codeIn (hd.heap_39 w.params) cdv qual = true) (hroom : A.depth < recursionLimit)
    (hbind : BindsTo ⟨h, G, D, tk, O⟩ (fnX name qual params body scope cl dV kV doc pm an cdv ct) args binds) (hloc : ∀ y ∈ binds, scope.names.lookup y.1 = some .local)
    (k : ∀ g L' h₁, Fm w (A.deeper (envX qual scope L' f cdv cl)) A base (env :: outer) (envX qual scope L' f cdv cl) g L' p loose mean mg mb → Bt w base (env :: outer) g p loose mean mg mb → Fr h₀ L g m → SL g L' (fun y => binds.reverse.lookup y) h₁ mu pe →
      wpAny (model PR w) (A.deeper (envX qual scope L' f cdv cl)) (execs body (envX qual scope L' f cdv cl)) (RetT w A A₀ base outer env h₀ L m g p loose mean mg mb R) (Err w A (envX qual scope L' f cdv cl) R) ⟨h₁, G, D, tk + binds.length, O⟩)
    (hcell : ∀ x ∈ scope.names, x.2 ≠ .cell) (hco : scope.isCoroutine = false) (hgen : scope.isGenerator = false) (hk : scope.kind = .function) :
    codeAny (model PR w) A (.call (.ref f) args) R ⟨h, G, D, tk, O⟩ := by
  obtain ⟨FG, BG, st, b', lv⟩ := turn_ground (R := R) G D tk O C b S
  refine codeAny_call_def (s := ⟨h, G, D, tk, O⟩) (fd := fnX name qual params body scope cl dV kV doc pm an cdv ct) (body := body) (binds := binds) hroom ho rfl (C.T.nolimit.keeps S.fr.keep) (codeRec_of (C.X.keeps S.fr.keep) hcd) rfl hbind hcell hloc (fun h₁ hns hk₁ => ?_) hco hgen hk
  exact wpAny_mono (k _ h.objs.size h₁ ⟨BG, by rw [Around.deeper, C.hA]; rfl, rfl, hk, C.X.keeps st, C.T.keeps st⟩ b' FG ⟨⟨hns, fun b o e => hk₁ b o (of_hideAll _ e), Nat.le_of_eq (hideAll_size _ _)⟩,
    (fun p hp => ⟨hk₁ _ _ (S.nw p hp).1, Nat.ne_of_lt (Heap.lt_size (S.nw p hp).1), hideAll_none _ (List.mem_map_of_mem hp)⟩), S.nd⟩) (fun fl s' hl => lv hl) fun _ _ y => y
theorem enterTC (C : Fm w A A₀ base outer env h₀ L p loose mean mg mb) (b : Bt w base outer h₀ p loose mean mg mb) (S : SL h₀ L m h mu pe)
    (ho : h.get? f = some ⟨oc, od, .func (fnX name qual params body scope [] dV kV doc pm an cdv ct), osl⟩) (hcd : codeIn (hd.heap_39 w.params) cdv qual = true) (hroom : A.depth < recursionLimit)
    (hbind : BindsTo ⟨h, G, D, tk, O⟩ (fnX name qual params body scope [] dV kV doc pm an cdv ct) args binds)
    (hkind : (binds.all fun y => scope.names.lookup y.1 == some .local || scope.names.lookup y.1 == some .cell) = true) (hnd : ((cellsFrom 0 scope.names []).map (·.1)).Nodup)
    (k : ∀ g L' h₁ tk' cells, Fm w (A.deeper (envOfC qual scope L' f cdv)) A base (env :: outer) (envOfC qual scope L' f cdv) g L' p loose mean mg mb → Bt w base (env :: outer) g p loose mean mg mb → Fr h₀ L g m →
      CellsAre (bindC (envOfC qual scope L' f cdv).kindOf binds fun _ => none) (cellsFrom (L' + 1) scope.names []) cells → ((∀ p ∈ cells, L' < p.1) → (cells.map (·.1)).Nodup → SL g L' (bindL (envOfC qual scope L' f cdv).kindOf binds fun _ => none) h₁ (cells ++ mu) pe) →
      wpAny (model PR w) (A.deeper (envOfC qual scope L' f cdv)) (execs body (envOfC qual scope L' f cdv)) (RetT w A A₀ base outer env h₀ L m g p loose mean mg mb R) (Err w A (envOfC qual scope L' f cdv) R) ⟨h₁, G, D, tk', O⟩)
    (hco : scope.isCoroutine = false) (hgen : scope.isGenerator = false) (hk : scope.kind = .function) :
    codeAny (model PR w) A (.call (.ref f) args) R ⟨h, G, D, tk, O⟩ := by
  obtain ⟨FG, BG, st, b', lv⟩ := turn_ground (R := R) G D tk O C b S
  refine codeAny_call_function (s := ⟨h, G, D, tk, O⟩) hroom ho rfl hco hgen rfl (codeRec_of (C.X.keeps S.fr.keep) hcd) (hbind _ _ _ _ ?_)
  refine wpAny_newFunctionEnv_cells hk (kindsX hkind _) fun env' he s' x => ?_
  subst he
  refine ⟨((C.T.nolimit.keeps S.fr.keep)).keeps x.toInCall.keep, codeAny_func ?_⟩
  obtain ⟨h₁, tk₁, rfl, _⟩ := x.done
  have hk₁ := x.toInCall.keep
  obtain ⟨cells, NC, Y⟩ := Cl.news (h₀ := h) (Nat.le_refl _) fun n c hm => ⟨x.cell n c (lookup_of_mem_nodup (cellsFrom_names scope.names 0 (h.objs.size + 1) [] [] rfl ▸ hnd) hm), x.above n c hm⟩
  refine wpAny_mono (k _ h.objs.size h₁ tk₁ cells ⟨BG, by rw [Around.deeper, C.hA]; rfl, rfl, hk, C.X.keeps st, C.T.keeps st⟩ b' FG Y fun lc nc => ⟨⟨x.toInCall.ns, fun b o e => hk₁ b o (of_hideAll _ e), Nat.le_of_eq (hideAll_size _ _)⟩, (fun p hp => ?_), nd_cells S.nd (fun q hq => S.lt q hq) lc nc⟩) (fun fl s' hl => lv hl) fun _ _ y => y
  rw [List.append_assoc] at hp
  rcases List.mem_append.mp hp with hp | hp
  · refine ⟨(NC p hp).1, (NC p hp).2.1, ?_⟩
    cases q : (hideAll h ((mu ++ pe).map (·.1))).get? p.1 with
    | none => rfl
    | some o => have := of_hideAll _ q; rw [(NC p hp).2.2] at this; cases this
  · exact ⟨hk₁ _ _ (S.nw p hp).1, Nat.ne_of_lt (Heap.lt_size (S.nw p hp).1), hideAll_none _ (List.mem_map_of_mem hp)⟩
end
structure KxFacts (cls own newId initId : String) : Prop where
  ends : newId.endsWith ".__new__" = true
  owner : newId.dropRight 8 = own
  entry : entryFor table newId = some Builtin.«BaseException.__new__»
  sub : isSubtype (.type cls) (.type cls) = pure true
  subOwn : isSubtype (.type cls) (.type own) = pure true
  notAttr : isSubtype (.type cls) (.type "AttributeError") = pure false
  notName : isSubtype (.type cls) (.type "NameError") = pure false
  made : Bind.madeHere "BaseException.__new__" (.type cls) = pure ()
  notType : (Value.type cls == Value.type "type") = false
  canMake : ((Manifest.find? cls).bind fun x => List.findSome? (fun t => (Manifest.find? t).bind fun b =>
    if b.noNew = true then some true else if (b.attrs.any fun x => x.fst == "__new__") = true then some false else none) x.mro).getD false = false
  noVector : ∀ args, checkTypeCall cls args = pure ()
  mro : ∃ m, mroOf (.type cls) = pure m ∧ m.isEmpty = false
  madeBy : Bind.madeBy (.type cls) = pure (some newId)
  quiet : newId.startsWith "lifetime." = false
  newOk : ∀ rest, checkBuiltinCall newId ⟨.type cls :: rest, []⟩ = pure ()
  init : Slot cls "__init__" initId
  initEntry : entryFor table initId = some Builtin.«BaseException.__init__»
  initSplit : splitId initId = some (cls, "__init__")
  initKind : builtinKind initId = some .slot
  initRow : Manifest.signature? initId = some ⟨.positional, "*", cls, .self, [⟨"args", .varPos, false⟩]⟩
  noStar : (cls != "*") = true
theorem kx_facts : KxFacts "KeyError" "LookupError" "LookupError.__new__" "KeyError.__init__" where
  ends := by decide +kernel
  owner := by decide +kernel
  entry := entryFor_alias (id' := "BaseException.__new__") (by rw [fastTable_eq_tree]; kernel_rfl) (by first | rfl | decide +kernel) (by decide +kernel) (by rw [fastTable_eq_tree]; kernel_rfl)
  sub := by rw [isSubtype_type]; kernel_rfl
  subOwn := by rw [isSubtype_type]; kernel_rfl
  notAttr := by rw [isSubtype_type]; kernel_rfl
  notName := by rw [isSubtype_type]; kernel_rfl
  made := by kernel_rfl
  notType := by decide +kernel
  canMake := by kernel_rfl
  noVector := fun args => by kernel_rfl
  mro := ⟨[.type "KeyError", .type "LookupError", .type "Exception", .type "BaseException", .type "object"], by rw [mroOf_type]; kernel_rfl, rfl⟩
  madeBy := by kernel_rfl
  quiet := by decide +kernel
  newOk := fun rest => by kernel_rfl
  init := .of (owner := "KeyError") (n := "__init__") (by rw [typeLookup_type, builtinLookup_eq_fast]; kernel_rfl) (by decide +kernel) (by decide +kernel) (by decide +kernel)
    (by first | exact .inl (by decide +kernel) | exact .inr (by decide +kernel)) (by rw [isSubtype_type]; kernel_rfl)
  initEntry := entryFor_alias (id' := "BaseException.__init__") (by rw [fastTable_eq_tree]; kernel_rfl) (by first | rfl | decide +kernel) (by decide +kernel) (by rw [fastTable_eq_tree]; kernel_rfl)
  initSplit := by kernel_rfl
  initKind := by kernel_rfl
  initRow := by kernel_rfl
  noStar := by decide +kernel
theorem kx_raise : ExcRaiseFacts "KeyError" where
  isExc := by rw [isSubtype_type]; kernel_rfl
  plainMeta := by kernel_rfl
section
open PySem.W
variable {w : World} {A : Around} {E : Value → Shared → Prop} {cls own newId initId : String}
theorem kx_check (F : KxFacts cls own newId initId) {M : Model} {self : Value} {rest : List Value} {Q : Unit → Shared → Prop}
    {hp : Heap} {g : Array GenState} {d : Drawn} {tk : Nat} {os : OsState} (hT : Shared.TypeIs ⟨hp, g, d, tk, os⟩ self cls) (h : Q () ⟨hp, g, d, tk, os⟩) :
    wpAny M A (checkBuiltinCall initId ⟨self :: rest, []⟩) Q E ⟨hp, g, d, tk, os⟩ := by
  have hsub := F.sub
  have hshort := F.noStar
  simp only [checkBuiltinCall, F.initKind, F.initSplit, F.initRow]
  wp_walk
  refine wpAny_onRaise ?_
  rw [show ∀ (a b : String) (n : Nat), Bind.check ⟨.positional, "*", cls, .self, [⟨"args", .varPos, false⟩]⟩ a b n (List.map (fun x => x.fst) ({ pos := self :: rest } : Args).kw) = pure () from
    fun a b n => check_star_args _ _ _ _ _ _]
  exact wpAny_pure h
theorem kx_new (F : KxFacts cls own newId initId) {R : Result → Shared → Prop} {rest : List Value} {hp : Heap} {g : Array GenState} {d : Drawn} {tk : Nat} {os : OsState}
    (h : R (.ok (.ret (.ref (hp.objs.size + 1)))) ⟨(hp.push { cls := .type "tuple", data := .seq rest.toArray }).push
      { cls := .type cls, data := .fields #[.ref hp.objs.size, .none, .none, .none, .bool false, .none] }, g, d, tk, os⟩)
    (hrest : rest.length ≤ sizeLine := by size_fits) :
    codeAny (model PR w) A (.builtin newId ⟨.type cls :: rest, []⟩) R ⟨hp, g, d, tk, os⟩ := by
  have hends := F.ends
  have howner := F.owner
  have hentry := F.entry
  have hsub := F.subOwn
  have hna := F.notAttr
  have hnn := F.notName
  have hmade := F.made
  refine codeAny_builtinAt hentry ?_
  unfold Builtin.«BaseException.__new__»
  refine _root_.PySem.wpAt_bind ?_
  show _root_.PySem.wpAt _ _ _ (stack >>= _) _ _ _
  refine _root_.PySem.wpAt_bind (_root_.PySem.wpAt_stack fun p below => _root_.PySem.wpAt_of_wpAny ?_)
  wp_walk
  refine _root_.PySem.wpAt_of_wpAny ?_
  rw [howner]
  wp_walk
  show R _ _
  rw [Heap.size_push]
  exact h
theorem kx_type (F : KxFacts cls own newId initId) {rest : List Value} {Q : Fin → Shared → Prop}
    {hp : Heap} {g : Array GenState} {d : Drawn} {tk : Nat} {os : OsState}
    (h : ∀ h' e, Heap.MadeExc hp h' e cls rest → Q (.done (.ret (.ref e))) ⟨h', g, d, tk, os⟩) (hrest : rest.length ≤ sizeLine := by size_fits) :
    wpAny (model PR w) A (Builtin.«type.__call__» ⟨.type cls :: rest, []⟩) Q E ⟨hp, g, d, tk, os⟩ := by
  have hnt := F.notType
  have hcan := F.canMake
  have hchk := F.noVector ⟨rest, []⟩
  obtain ⟨m, hmro, hne⟩ := F.mro
  have hmade := F.madeBy
  wp_walk
  refine codeAny_call_builtin_code (Code.quiet_builtin _ F.quiet) (wpAny_of_eq (F.newOk rest) ?_)
  refine kx_new F ?_ hrest
  show wpAny _ _ _ _ _ _
  have hget : ((hp.push { cls := .type "tuple", data := .seq rest.toArray }).push
      { cls := .type cls, data := .fields #[.ref hp.objs.size, .none, .none, .none, .bool false, .none] }).get? (hp.objs.size + 1) = some
      { cls := .type cls, data := .fields #[.ref hp.objs.size, .none, .none, .none, .bool false, .none] } := by heap_get
  refine wpAny_bind (wpAny_isInstance ⟨_, hget, rfl⟩ F.sub ?_)
  wp_step
  refine wpAny_bind (wpAny_holding (wpAny_callSpecial?_slot ⟨_, hget, rfl⟩ F.init (wpAny_call (codeAny_call_builtin F.init.plain F.initEntry (kx_check F ⟨_, hget, rfl⟩ ?_)))))
  wp_walk
  refine h _ _ ⟨fun b o hb => ?_, Heap.get?_none_of_le (Nat.le_succ _), hp.objs.size + 2, ?_, Heap.get?_none_of_le (by omega), ?_⟩
  · rw [Heap.get?_update_other _ _ (Nat.ne_of_gt (Nat.lt_succ_of_lt (Heap.lt_size hb)))]
    exact Heap.get?_push_of_some _ (Heap.get?_push_of_some _ (Heap.get?_push_of_some _ hb))
  · rw [Heap.get?_update_self _ (Heap.get?_push_of_some _ hget) rfl]
    simp only [Heap.size_push]
    rfl
  · rw [Heap.get?_update_other _ _ (show hp.objs.size + 1 ≠ hp.objs.size + 2 by omega)]
    exact Heap.get?_push_at (by simp only [Heap.size_push]) rfl
theorem kx_call0 (F : KxFacts cls own newId initId) {rest : List Value} {Q : Value → Shared → Prop}
    {hp : Heap} {g : Array GenState} {d : Drawn} {tk : Nat} {os : OsState}
    (h : ∀ h' e, Heap.MadeExc hp h' e cls rest → Q (.ref e) ⟨h', g, d, tk, os⟩) (hrest : rest.length ≤ sizeLine := by size_fits) :
    wpAny (model PR w) A (call (.type cls) rest) Q E ⟨hp, g, d, tk, os⟩ := by
  refine wpAny_call (codeAny_of_tree ?_)
  show wpAny _ _ (again (.builtin "type.__call__" ⟨.type cls :: rest, []⟩)) _ _ _
  exact wpAny_pure ⟨Code.quiet_builtin _ (by decide +kernel), codeAny_builtin PySem.entry_typeCall (kx_type F (fun h' e hm => h h' e hm) hrest)⟩
abbrev excO (cls : Value) (t : Addr) : Obj := { cls := cls, data := .fields #[.ref t, .none, .none, .none, .bool false, .none] }
variable {h₀ h : Heap} {L : Addr} {m : Str → Option Value} {mu pe : Lg} {G : Array GenState} {D : Drawn} {tk : Nat} {O : OsState}
theorem SL.made {h' : Heap} {e : Addr} {args : List Value} (S : SL h₀ L m h mu pe) (x : Heap.MadeExc h h' e cls args) : ∃ t, SL h₀ L m h' ((e, excO (.type cls) t) :: mu) pe := by
  obtain ⟨k, n, t, g, _, _⟩ := x
  have S' := S.keeps k
  have hn : ∀ p ∈ mu ++ pe, p.1 ≠ e := fun p hp q => by
    have z := S.nw.get hp
    rw [q, n] at z
    cases z
  refine ⟨t, S'.fr, ?_, ?_⟩
  · intro p hp
    rcases List.mem_cons.mp hp with rfl | hp
    · refine ⟨g, ?_, ?_⟩
      · rintro rfl
        obtain ⟨_, o, ep, ho, _⟩ := S.fr.ns
        exact absurd (ho.symm.trans n) (by simp)
      · exact S.fr.noneBack n
    · exact S'.nw p hp
  · show (((e, excO (.type cls) t) :: (mu ++ pe)).map (·.1)).Nodup
    rw [List.map_cons, List.nodup_cons]
    exact ⟨fun q => by obtain ⟨p, hp, e'⟩ := List.mem_map.mp q; exact hn p hp e', S.nd⟩
theorem kx_call {rest : List Value} {Q : Value → Shared → Prop} (S : SL h₀ L m h mu pe) (hrest : rest.length ≤ 1000)
    (q : ∀ e t h', SL h₀ L m h' ((e, excO (.type "KeyError") t) :: mu) pe → Q (.ref e) ⟨h', G, D, tk, O⟩) : wpAny (model PR w) A (call (.type "KeyError") rest) Q E ⟨h, G, D, tk, O⟩ := by
  refine kx_call0 kx_facts (fun h' e x => ?_) (by rw [sizeLine_eq]; omega)
  obtain ⟨t, S'⟩ := S.made x
  exact q e t h' S'
end
section
open PyProof.Rows.LCg PySem.W
variable {w : World} {A A₀ : Around} {base h₀ h : Heap} {outer : List Env} {env : Env} {L C : Addr} {p : Program} {loose : List Str} {mean : ExcName → Option Value} {mg mb m : Str → Option Value} {mu mr pe : Lg}
  {G : Array GenState} {D : Drawn} {tk : Nat} {O : OsState} {R : Result → Shared → Prop} {E : Value → Shared → Prop} {pos : Pos}
  {name qual : Str} {params : Arguments} {body : List Stmt} {scope : Scope} {dV kV doc pm cdv ct oc : Value} {an od : Option Addr} {osl : Array (Option Value)} {f : Addr} {args : Args} {binds : List (Str × Value)}
theorem enterCF (C : Fm w A A₀ base outer env h₀ L p loose mean mg mb) (S : SL h₀ L m h mu pe)
    (ho : (hd.heap_39 w.params).lookup f = some ⟨oc, od, .func (fnX name qual params body scope [] dV kV doc pm an cdv ct), osl⟩) (hcd : codeIn (hd.heap_39 w.params) cdv qual = true) (hroom : A.depth < recursionLimit)
    (hbind : BindsTo ⟨h, G, D, tk, O⟩ (fnX name qual params body scope [] dV kV doc pm an cdv ct) args binds)
    (hkind : (binds.all fun y => scope.names.lookup y.1 == some .local || scope.names.lookup y.1 == some .cell) = true) (hnd : ((cellsFrom 0 scope.names []).map (·.1)).Nodup)
    (k : ∀ g L' h₁ tk' cells, Fm w (A.deeper (envOfC qual scope L' f cdv)) A base (env :: outer) (envOfC qual scope L' f cdv) g L' p loose mean mg mb → Fr h₀ L g m →
      CellsAre (bindC (envOfC qual scope L' f cdv).kindOf binds fun _ => none) (cellsFrom (L' + 1) scope.names []) cells → ((∀ p ∈ cells, L' < p.1) → (cells.map (·.1)).Nodup → SL g L' (bindL (envOfC qual scope L' f cdv).kindOf binds fun _ => none) h₁ (cells ++ mu) pe) →
      wpAny (model PR w) (A.deeper (envOfC qual scope L' f cdv)) (execs body (envOfC qual scope L' f cdv)) (Ret R h₀ L m g) (Err w A (envOfC qual scope L' f cdv) R) ⟨h₁, G, D, tk', O⟩)
    (hco : scope.isCoroutine = false) (hgen : scope.isGenerator = false) (hk : scope.kind = .function) :
    codeAny (model PR w) A (.call (.ref f) args) R ⟨h, G, D, tk, O⟩ :=
  callX_cells C.B S.fr S.nw C.T.nolimit C.hA C.hf C.hk ((C.X.keeps S.fr.keep) _ _ ho) rfl (codeRec_of (C.X.keeps S.fr.keep) hcd) hroom hbind (kindsX hkind) hnd
    (fun g L' h₁ tk' cells FG F' N' Y B' st l => k g L' h₁ tk' cells ⟨B', by rw [Around.deeper, C.hA]; rfl, rfl, hk, C.X.keeps st, C.T.keeps st⟩ FG Y fun lc nc => ⟨F', by rw [List.append_assoc]; exact N', nd_cells S.nd l lc nc⟩) hco hgen hk
theorem enterF {cl : List (Str × Addr)} (C : Fm w A A₀ base outer env h₀ L p loose mean mg mb) (S : SL h₀ L m h mu pe)
    (ho : (hd.heap_39 w.params).lookup f = some ⟨oc, od, .func (fnX name qual params body scope cl dV kV doc pm an cdv ct), osl⟩) (hcd : codeIn (hd.heap_39 w.params) cdv qual = true) (hroom : A.depth < recursionLimit)
    (hbind : BindsTo ⟨h, G, D, tk, O⟩ (fnX name qual params body scope cl dV kV doc pm an cdv ct) args binds) (hloc : ∀ y ∈ binds, scope.names.lookup y.1 = some .local)
    (k : ∀ g L' h₁, Fm w (A.deeper (envX qual scope L' f cdv cl)) A base (env :: outer) (envX qual scope L' f cdv cl) g L' p loose mean mg mb → Fr h₀ L g m → SL g L' (fun y => binds.reverse.lookup y) h₁ mu pe →
      wpAny (model PR w) (A.deeper (envX qual scope L' f cdv cl)) (execs body (envX qual scope L' f cdv cl)) (Ret R h₀ L m g) (Err w A (envX qual scope L' f cdv cl) R) ⟨h₁, G, D, tk + binds.length, O⟩)
    (hcell : ∀ x ∈ scope.names, x.2 ≠ .cell) (hco : scope.isCoroutine = false) (hgen : scope.isGenerator = false) (hk : scope.kind = .function) :
    codeAny (model PR w) A (.call (.ref f) args) R ⟨h, G, D, tk, O⟩ :=
  callX_plain C.B S.fr S.nw C.T.nolimit C.hA C.hf C.hk ((C.X.keeps S.fr.keep) _ _ ho) rfl (codeRec_of (C.X.keeps S.fr.keep) hcd) hroom hbind hloc
    (fun g L' h₁ FG F' N' B' st _ => k g L' h₁ ⟨B', by rw [Around.deeper, C.hA]; rfl, rfl, hk, C.X.keeps st, C.T.keeps st⟩ FG ⟨F', N', S.nd⟩) hcell hco hgen hk
theorem raise_key {env : Env} {np cpos pos : Pos} {arg : Expr} {Q : Flow → Shared → Prop} {s : Shared} (hh : A.handled = none)
    (h : wpAny (model PR w) A (eval (.Name "KeyError" np) env) (fun f s₁ => f = .type "KeyError" ∧ wpAny (model PR w) A (spliced (backTo cpos (starEach [arg] env)))
      (fun vs s₂ => ∃ h₂ tk₂, s₂ = ⟨h₂, G, D, tk₂, O⟩ ∧ vs.length ≤ 1000 ∧ SL h₀ L m h₂ mu pe ∧ ∀ e t h', SL h₀ L m h' ((e, excO (.type "KeyError") t) :: mu) pe → E (.ref e) ⟨h', G, D, tk₂, O⟩) E s₁) E s)
    (hp : (backTo cpos (starEach [] env)).any (·.1) = false) (he : starEach [arg] env = (false, eval arg env) :: starEach [] env) :
    wpAny (model PR w) A (exec (.Raise (some (.Call (.Name "KeyError" np) [arg] [] cpos)) none pos) env) Q E s := by
  refine wpAny_Raise_made kx_raise hh (Call_ (wpAny_mono h (fun f s₁ h₁ => ?_) fun _ _ x => x))
  obtain ⟨rfl, h₁⟩ := h₁
  refine callB (machT _) (wpAny_mono h₁ (fun vs s₂ h₂ => ?_) fun _ _ x => x) he hp
  obtain ⟨h₂, tk₂, rfl, hl, S₂, q⟩ := h₂
  refine kx_call S₂ hl fun e t h' S₃ => ?_
  exact ⟨e, t, rfl, S₃.get (.head _), q e t h' S₃⟩
def nxt (ks : Ts) (k : Nm) : Option (Nm × Addr) := ks[(ks.filter fun y => nle y.1 k).length]?
theorem sd_next {r : OR} {k : Nm} {a : Addr} (C : Fm w A A₀ base outer env h₀ L p loose mean mg mb) (S : SL h₀ L m h (r.led w ++ mr) pe) (ok : r.Ok w pe) (cl : Clean r) (sh : Short (r.ks.map (·.1))) (hz : r.ks.length < 64) (hk : IsNm w pe k a) (hh : A.handled = none) (hd : A.depth < 860) (hu : A.units < 8700)
    (post : ∀ r' y h' tk', OrdRel r r' → r'.Ok w pe → nxt r'.ks k = some y → SL h₀ L m h' (r'.led w ++ mr) pe → R (.ok (.ret (.ref y.2))) ⟨h', G, D, tk', O⟩)
    (err : ∀ r' GG e h' tk', OrdRel r r' → r'.Ok w pe → nxt r'.ks k = none → Fr h₀ L GG m → RaisedX base GG (env :: outer) e (.type "KeyError") ((r'.led w ++ mr) ++ pe) h' → GG.UpToSlots h' → F2 e .none h' → (((r'.led w ++ mr) ++ pe).map (·.1)).Nodup → R (.error (.ref e)) ⟨h', G, D, tk', O⟩) :
    codeAny (model PR w) A (.call (.ref 95) ⟨[.ref r.t, .ref a], []⟩) R ⟨h, G, D, tk, O⟩ := by
  refine' enterCF (binds := [("self", .ref r.t), ("key", .ref a)]) C S ?k6 ?k7 ?k8 ?k9 ?kB ?kD ?_ ?c3 ?c4 ?c5
  case k6 => k_is
  case k7 => k_is
  case k8 => show Around.depth _ < 1000; first | omega | (simp only [und_depth]; omega)
  case k9 => exact BindsTo.of_eq rfl
  case kB => exact rfl
  case kD => decide +kernel
  case c3 => exact rfl
  case c4 => exact rfl
  case c5 => exact rfl
  intro g L' h₁ tk' cells C' FG hC S0
  have hC2 : CellsAre _ [("key", L' + 1)] cells := hC
  obtain ⟨oS, rfl, hS⟩ := hC2.one
  have hS' : oS.data = .cell (some (.ref a)) := hS
  obtain ⟨m', em', S'⟩ : ∃ m', m' = (bindL _ _ _ : Str → Option Value) ∧ SL g L' m' h₁ (r.led w ++ ((L' + 1, oS) :: mr)) pe := ⟨_, rfl, (S0 (fun p hp => by rw [List.mem_singleton.mp hp]; exact Nat.lt_succ_self _) (by simp)).perm (List.perm_middle (a := (L' + 1, oS)) (l₁ := r.led w) (l₂ := mr)).symm⟩
  have hms : m' "self" = some (.ref r.t) := by rw [em']; rfl
  have hS1 : ∀ {r1 : OR}, (L' + 1, oS) ∈ (r1.led w ++ ((L' + 1, oS) :: mr)) ++ pe := fun {_} => List.mem_append_left _ (List.mem_append_right _ (.head _))
  refine mid (P := fun s' => ∃ r1 h' tk', s' = ⟨h', G, D, tk', O⟩ ∧ OrdRel r r1 ∧ r1.Ok w pe ∧ SL g L' m' h' (r1.led w ++ ((L' + 1, oS) :: mr)) pe) ?_ ?_
  · walk_at "ms"
    refine nmL S' hms ?_ rfl rfl (by decide)
    refine od_getD S' (S'.X C') ?_
    walk_at "m"
    by_cases hb : r.b = false
    · rw [hb, if_neg (by simp)]
      walk_at "ms"
      exact ⟨rfl, r, _, _, rfl, cl hb, ok, S'⟩
    · rw [Bool.not_eq_false] at hb
      rw [hb, if_pos rfl]
      walk_at "ms"
      refine nmL S' hms ?_ rfl rfl (by decide)
      refine odMeth (S'.X C') (OR.inst S') (by k_is) (by k_is) (odF_no rfl rfl rfl rfl) ?_
      refine callK0 (by k_is) (S'.X C') ?_
      refine wpAny_call ?_
      refine sd_order C' S' ok sh hz (by exact hh) (by show A.depth + 1 < 870; omega) (by show A.units + 3 < 8800; omega) fun r1 h₂ tk₂ x ok1 S₂ => ?_
      walk_at "ms"
      exact ⟨rfl, r1, _, _, rfl, x, ok1, S₂⟩
  · rintro _ ⟨r1, h₂, tk₂, rfl, x, ok1, S₂⟩
    have et := x.t
    walk_at "ms"
    refine nmL S₂ hms ?_ rfl rfl (by decide)
    refine od_getK S₂ (S₂.X C') ?_ et
    refine stL S₂ (fun h₃ S₃ => ?_) rfl rfl
    have hK : (r1.kl, r1.oK) ∈ (r1.led w ++ ((L' + 1, oS) :: mr)) := .tail _ (.tail _ (.tail _ (.head _)))
    obtain ⟨m3, em3, S₄⟩ : ∃ m3, m3 = (fun y => if y = ("keys" : Str) then some (Value.ref r1.kl) else m' y) ∧ SL g L' m3 h₃ (r1.led w ++ ((L' + 1, oS) :: mr)) pe := ⟨_, rfl, S₃⟩
    have hmk : m3 "keys" = some (.ref r1.kl) := by rw [em3]; rfl
    walk_at "ms"
    refine callB (mach _) ?_ rfl rfl
    refine spliced_more ?_
    refine' comp_list (h₀ := g) (L := L') (m := m3) (G := G) (D := D) (O := O) (cl := [("key", L' + 1)]) ?_ ?a ?b ?c ?d ?e ?f
    case a => rfl
    case b => decide
    case c => rfl
    case d => decide
    case e => rfl
    case f => intro x; rfl
    refine' nmL S₄ ?v ?_ ?a ?b ?c
    case a => exact rfl
    case b => exact rfl
    case c => decide
    case v => exact hmk
    refine it_list (by exact hh) S₄ (List.mem_append_left _ hK) hK fun I h₅ oI St src hst S₅ => ?_
    refine ⟨I, _, _, St, h₅, _, _, pe, oI, fun i y pe' => y = refs ((r1.ks.take i).filter fun y => nle y.1 k) ∧ pe' = pe, rfl, rfl, src, hst, S₅, ⟨by simp [refs], rfl⟩, by rw [List.size_toArray, refs_length, x.ks.length_eq]; omega, ?_, ?_⟩
    · intro i v y pe' h tk I' C₁ Dd oI' oC m₂ E' hi hP hJ hpe hns hm₂ S₆
      obtain ⟨hi', e'⟩ := refs_get hP
      obtain ⟨hJ, rfl⟩ := hJ
      have hy : r1.ks[i] ∈ r1.ks := List.getElem_mem hi'
      have hk1 : IsNm w pe' (r1.ks[i]).1 (r1.ks[i]).2 := ok1.k _ hy
      subst e'
      refine wpAny_tests_one ?_
      walk_at "ms"
      refine cnL (S₆.get (.tail _ (.head _))) hns hm₂ ?_ rfl rfl (by decide)
      refine cnC S₆ (c := L' + 1) (o := oS) rfl (List.mem_append_left _ (.tail _ (.tail _ (.tail _ (List.mem_append_right _ (.head _)))))) hS' ?_ rfl rfl (by decide)
      refine nm_le (by show A.units + 3 < 9900; omega) S₆.pes hk1 hk ?_
      walk_at "m"
      have hT : r1.ks.take (i + 1) = r1.ks.take i ++ [r1.ks[i]] := List.take_succ_eq_append_getElem hi'
      cases hn : nle (r1.ks[i]).1 k with
      | true =>
        rw [if_pos rfl]
        refine cnL (S₆.get (.tail _ (.head _))) hns hm₂ ?_ rfl rfl (by decide)
        refine ⟨h, _, pe', y ++ [.ref (r1.ks[i]).2], rfl, rfl, ⟨?_, rfl⟩, fun _ z => z, S₆⟩
        rw [hT, List.filter_append, hJ]
        simp [refs, hn]
      | false =>
        rw [if_neg (by simp)]
        refine ⟨h, _, pe', rfl, ⟨?_, rfl⟩, fun _ z => z, S₆⟩
        rw [hT, List.filter_append, hJ]
        simp [refs, hn]
    · rintro Dd h' tk' y pe' ⟨hJ, hpe'⟩ hpe S₆
      rw [hpe'] at S₆
      rw [show (refs r1.ks).toArray.size = r1.ks.length by rw [List.size_toArray, refs_length], List.take_length] at hJ
      refine spliced_none ?_
      have hlen : y.length = (r1.ks.filter fun y => nle y.1 k).length := by rw [hJ, refs_length]
      have hle : (r1.ks.filter fun y => nle y.1 k).length ≤ r1.ks.length := List.length_filter_le ..
      have hkl := x.ks.length_eq
      have hmem : (Dd, PySem.W.listOf y.toArray y.length) ∈ ((Dd, PySem.W.listOf y.toArray y.length) :: (r1.led w ++ ((L' + 1, oS) :: mr))) ++ pe := .head _
      refine len_list (items := y.toArray) ⟨_, S₆.get (.head _), rfl, _, rfl⟩ (by rw [List.size_toArray]; omega) ?_
      refine stL S₆.drop1 (fun h₇ S₇ => ?_) rfl rfl
      obtain ⟨m7, em7, S₈⟩ : ∃ m7, m7 = (fun x => if x = ("nextIdx" : Str) then some (Value.int (y.toArray.size : Nat) (tk' + 1)) else m3 x) ∧ SL g L' m7 h₇ (r1.led w ++ ((L' + 1, oS) :: mr)) pe := ⟨_, rfl, S₇⟩
      have hmk7 : m7 "keys" = some (.ref r1.kl) := by rw [em7]; exact hmk
      have hmn7 : m7 "nextIdx" = some (.int (y.toArray.size : Nat) (tk' + 1)) := by rw [em7]; rfl
      walk_at "ms"
      refine nmL S₈ hmn7 ?_ rfl rfl (by decide)
      walk_at "ms"
      refine callB (mach _) ?_ rfl rfl
      refine spliced_more ?_
      refine nmL S₈ hmk7 ?_ rfl rfl (by decide)
      refine spliced_none ?_
      have hK8 := S₈.get hK
      have hsz : (refs r1.ks).toArray.size = r1.ks.length := by rw [List.size_toArray, refs_length]
      have hsy : y.toArray.size = (r1.ks.filter fun y => nle y.1 k).length := by rw [List.size_toArray, hlen]
      have hKl : (⟨h₇, G, D, tk' + 1 + 1 + 1, O⟩ : Shared).heap.IsList r1.kl (refs r1.ks).toArray := ⟨_, hK8, rfl, _, rfl⟩
      refine len_list hKl (by rw [hsz]; omega) ?_
      refine wpAny_lt_int ?_
      walk_at "m"
      rw [hsz, hsy]
      by_cases hi : (r1.ks.filter fun y => nle y.1 k).length < r1.ks.length
      · rw [decide_eq_true (by exact_mod_cast hi), if_pos rfl]
        walk_at "ms"
        refine nmL S₈ hmk7 ?_ rfl rfl (by decide)
        refine nmL S₈ hmn7 ?_ rfl rfl (by decide)
        rw [hsy]
        refine item_list hKl (by omega) (by omega) (x := .ref (r1.ks[(r1.ks.filter fun y => nle y.1 k).length]).2) (by simp [refs]; exact ⟨_, List.getElem?_eq_getElem hi⟩) ?_
        refine leave (S₈.sub (mu' := r1.led w ++ mr) ((((List.Sublist.refl _).append (List.sublist_cons_self _ _))).append (List.Sublist.refl _))) fun S₉ => ?_
        exact post r1 _ h₇ _ x ok1 (List.getElem?_eq_getElem hi) S₉
      · rw [decide_eq_false (by exact_mod_cast hi), if_neg (by simp)]
        walk_at "ms"
        refine raise_key (h₀ := g) (L := L') (m := m7) (mu := r1.led w ++ mr) (pe := pe) (G := G) (D := D) (O := O) (by exact hh) ?_ rfl rfl
        walk_at "ms"
        refine ⟨rfl, ?_⟩
        refine spliced_more ?_
        refine nmC S₈ hS1 hS' ?_ rfl rfl rfl (by decide)
        refine spliced_none ?_
        refine ⟨h₇, _, rfl, by simp, S₈.sub (mu' := r1.led w ++ mr) ((((List.Sublist.refl _).append (List.sublist_cons_self _ _))).append (List.Sublist.refl _)), fun e t h₉ S₉ => ?_⟩
        refine ex_leave2 C'.B rfl rfl S₉ rfl rfl rfl rfl fun h' RX up f2 => ?_
        refine err r1 g e h' _ x ok1 (List.getElem?_eq_none (by omega)) FG RX up f2 ?_
        have := S₉.nd
        rw [List.cons_append, List.map_cons, List.nodup_cons] at this
        exact this.2
end
section
open PyProof.Rows.LCg PySem.W
variable {w : World} {A A₀ : Around} {base h₀ h : Heap} {outer : List Env} {env : Env} {L C : Addr} {p : Program} {loose : List Str} {mean : ExcName → Option Value} {mg mb m : Str → Option Value} {mu mr pe : Lg}
  {G : Array GenState} {D : Drawn} {tk : Nat} {O : OsState} {R : Result → Shared → Prop} {E : Value → Shared → Prop} {pos : Pos}
theorem mk_qual {K : Frag} {C : Addr} {cd : ClassData} {od0 : Value} {dd0 osl0} {q : Str} (ho : K.lookup C = some ⟨od0, dd0, .cls cd, osl0⟩) (hm : cd.qualname = q) : ∃ cd, clsIn K C = some cd ∧ cd.qualname = q :=
  ⟨cd, by unfold clsIn; rw [ho], hm⟩
theorem kg_qual (w : World) : ∃ cd, clsIn (hd.heap_39 w.params) 145 = some cd ∧ cd.qualname = "OidOrderedDict" := by
  refine' mk_qual ?h ?r
  case h => k_is
  case r => rfl
theorem kt_type (w : World) : typeIn (hd.heap_39 w.params) (.ref 145) = some (.type "type") := by k_is
theorem kt_nomod (w : World) : subIn (hd.heap_39 w.params) (.ref 145) (.type "module") = some false := by k_is
theorem clr_sig : ∃ sig, Manifest.signature? "dict.clear" = some sig := Option.isSome_iff_exists.mp (by rw [signature?_of (id := "dict.clear") (n := ['r', 'a', 'e', 'l', 'c']) (o := ['t', 'c', 'i', 'd']) (by kernel_rfl) F.owner_dict]; decide +kernel)
theorem clr_sig1 (a : Value) : (match Manifest.signature? "dict.clear" with | some sig => Bind.checkArgs "dict.clear" { sig with full := "clear" } ⟨[a], []⟩ | none => pure ()) = pure () := by
  rw [signature?_of (id := "dict.clear") (n := ['r', 'a', 'e', 'l', 'c']) (o := ['t', 'c', 'i', 'd']) (by kernel_rfl) F.owner_dict]; kernel_rfl
theorem clr_sig2 (a : Value) : (match Manifest.signature? "dict.clear" with | some sig => Bind.checkArgs "dict.clear" { sig with full := "OidOrderedDict.clear" } ⟨[a], []⟩ | none => pure ()) = pure () := by
  rw [signature?_of (id := "dict.clear") (n := ['r', 'a', 'e', 'l', 'c']) (o := ['t', 'c', 'i', 'd']) (by kernel_rfl) F.owner_dict]; kernel_rfl
theorem clr_kind : builtinKind "dict.clear" = some .method := by decide +kernel
theorem bc_clear {t : Addr} {od : Option Addr} {xs : Ents} {n : Nat} (X : (hd.heap_39 w.params).In h) (ho : h.get? t = some (dOb w (.ref 145) od xs n)) (M : Model) : Looks M h (checkBoundCall "dict.clear" ⟨[.ref t], []⟩) () := by
  intro A Q E s k q
  obtain ⟨sig, hs⟩ := clr_sig
  have e1 := clr_sig1 (.ref t)
  have e2 := clr_sig2 (.ref t)
  simp only [hs] at e1 e2
  obtain ⟨cd, hcd, hq⟩ := kg_qual w
  have hT : Looks M h (typeOf (.ref t)) (.ref 145) := (Looks.ld ho).andThen .now
  unfold checkBoundCall
  rw [hs]
  dsimp only
  rw [clr_kind]
  dsimp only
  rw [if_neg (by decide)]
  have hm : Looks M h (isInstance (.ref t) (.type "module")) false := hT.andThen (looks_subIn X (kt_nomod w))
  have l1 : Bind.lastOf "dict.clear" = "clear" := by decide +kernel
  have l2 : toString cd.qualname.toString ++ toString "." ++ toString (Bind.lastOf "dict.clear") = "OidOrderedDict.clear" := by rw [hq]; decide +kernel
  refine wpAny_bind (hm A _ E s k ?_)
  cases hv : Manifest.varargsMethods.contains "dict.clear" with
  | true =>
    rw [if_pos (by rfl), l1, e1]
    exact wpAny_pure q
  | false =>
    rw [if_neg (by simp)]
    refine wpAny_bind ?_
    unfold isType
    refine nd_load (k _ _ ho) (nd_pure ?_)
    show wpAny _ _ (if false = true then _ else _) _ _ _
    rw [if_neg (by simp)]
    refine wpAny_bind (hT A _ E s k ?_)
    dsimp only
    refine wpAny_bind (looks_clsIn X hcd A _ E s k ?_)
    refine wpAny_bind (looks_typeIn X (kt_type w) A _ E s k ?_)
    rw [if_pos (by rfl), l2, e2]
    exact wpAny_pure q
theorem od_clearBody {t td : Addr} {fs : List DictEntry} {nf ep : Nat} {xs : Ents} {Q : PySem.Fin → Shared → Prop} (T : OdAt w h pe t td fs nf xs ep) (hz : xs.length ≤ 1000)
    (q : ∀ n' h', Heap.SameBut t h h' → h'.get? t = some (dOb w (.ref 145) (some td) [] n') → Q (.done (.ret .none)) ⟨h', G, D, tk, O⟩) :
    wpAny (model PR w) A (Builtin.«dict.clear» ⟨[.ref t], []⟩) Q E ⟨h, G, D, tk, O⟩ := by
  have ho := T.o
  have hes : ((xs.map (entryOfKey (TKd w))).toArray).size ≤ sizeLine := by rw [sizeLine_eq, List.size_toArray, List.length_map]; omega
  unfold Builtin.«dict.clear» Builtin.Dict.noArgs
  refine wpAny_bind (wpAny_bind (od_notOrdered T rfl ?_))
  show wpAny _ _ (pure t) _ _ _
  refine wpAny_pure ?_
  refine wpAny_bind (wpAny_dictEntries ho rfl ?_)
  refine wpAny_bind ?_
  unfold bearsInstanceDictMark
  refine wpAny_bind (wpAny_load ho (wpAny_pure ?_))
  refine wpAny_bind (wpAny_updateDictKeys (hz := hes) ho rfl ?_)
  have hg : (h.update t (Obj.mapDictKeys fun _ => #[])).get? t = some (dOb w (.ref 145) (some td) [] (ep + 1)) := Heap.get?_update_self _ ho rfl
  split
  · exact wpAny_bind (wpAny_letGo (wpAny_pure (q _ _ (Heap.SameBut.update ..) hg)))
  · exact wpAny_bind (wpAny_pure (wpAny_pure (q _ _ (Heap.SameBut.update ..) hg)))
structure ClrRel (r r' : OR) : Prop where
  t : r'.t = r.t
  xs : r'.xs = []
  ks : r'.ks = []
  cs : r'.cs = r.cs
  b : r'.b = true
theorem sd_clear {r : OR} (C : Fm w A A₀ base outer env h₀ L p loose mean mg mb) (S : SL h₀ L m h (r.led w ++ mr) pe) (ok : r.Ok w pe) (hz : r.xs.length < 1000) (hd : A.depth < 900) (hu : A.units < 9000)
    (post : ∀ r' h' tk', ClrRel r r' → r'.Ok w pe → SL h₀ L m h' (r'.led w ++ mr) pe → R (.ok (.ret .none)) ⟨h', G, D, tk', O⟩) :
    codeAny (model PR w) A (.call (.ref 61) ⟨[.ref r.t], []⟩) R ⟨h, G, D, tk, O⟩ := by
  refine' enterS (binds := [("self", .ref r.t)]) C S ?k6 ?k7 ?k8 ?k9 ?kB ?_ ?c2 ?c3 ?c4 ?c5
  case k6 => k_is
  case k7 => k_is
  case k8 => show Around.depth _ < 1000; first | omega | (simp only [und_depth]; omega)
  case k9 => exact BindsTo.of_eq rfl
  case kB => exact locs rfl
  case c2 => decide
  case c3 => exact rfl
  case c4 => exact rfl
  case c5 => exact rfl
  intro g L' h₁ C' S'
  refine ks_wpAt_execs_cons ?_
  refine ks_wpAt_Expr_any (ks_wpAt_MethodCall ?_)
  refine' sup_node C' S' ?hf ?hp ?hv (OR.inst S') ?hc ?hvs ?hat ?hks ?hkc ?hka ?_
  case hf => k_is
  case hp => exact rfl
  case hv => exact rfl
  case hc => k_is
  case hvs => exact rfl
  case hat => decide
  case hks => exact rfl
  case hkc => exact rfl
  case hka => exact rfl
  intro so h₃ S₃
  refine sup_meth (S₃.X C') (OR.inst (S₃.drop1)) (S₃.get (.head _)) (clk _ (S₃.X C')) own_clear (by decide) ty_clear slot_md_get entry_md_get (args_md_get _ _ _) (fun q => md_bind (OR.at S₃.drop1).1 (looks_subIn (S₃.X C') (kd_dict w)) (by decide +kernel) (by decide +kernel) q) ?_
  have S₄ := S₃.push (boundO "builtin_function_or_method" "dict.clear" r.t)
  refine callBd0 (T := "builtin_function_or_method") (id := "dict.clear") (t := r.t) (by decide) (by decide) (S₄.get (.head _)) ?_
  refine call_bound (S₄.get (.head _)) rfl rfl (bc_clear (S₄.X C') (OR.at S₄.drop1.drop1).1 (model PR w)) F.slot_dict_clear.plain F.entry_dict_clear ?_
  refine od_clearBody (OR.odAt (r := r) (S₄.drop1.drop1) (S₄.X C') ok.x ok.st) (by omega) fun n₅ h₅ hs hg => ⟨_, rfl, ?_⟩
  have S₅ := (S₄.set (.tail (.tail (OR.rT (xs := []) (n := n₅)))) hs hg).drop1.drop1
  obtain ⟨r1, er1⟩ : ∃ r1 : OR, r1 = { r with xs := [], nt := n₅ } := ⟨_, rfl⟩
  rw [← er1] at S₅
  have et : r.t = r1.t := by rw [er1]
  have ex : r1.xs = [] := by rw [er1]
  have ec : r1.cs = r.cs := by rw [er1]
  refine wpAt_of_wpAny ?_
  walk_at "ms"
  refine newListL (by decide) ?_
  have S₆ := S₅.push (PySem.W.listOf #[] 0)
  walk_at "ms"
  refine od_setK S₆ (S₆.X C') (fun h₇ S₇ => ?_) et.symm
  obtain ⟨r2, er2⟩ : ∃ r2 : OR, r2 = { r1 with kl := h₅.objs.size, nk := 0, ks := [] } := ⟨_, rfl⟩
  rw [← er2] at S₇
  have et2 : r1.t = r2.t := by rw [er2]
  walk_at "ms"
  refine od_setD (b' := true) S₇ (S₇.X C') (fun h₈ S₈ => ?_) (et2.symm.trans et.symm)
  walk_at "ms"
  refine leave S₈ fun S₉ => ?_
  refine post _ h₈ _ ?_ ?_ S₉
  · subst er2 er1
    exact ⟨rfl, rfl, rfl, rfl, rfl⟩
  · subst er2 er1
    exact ⟨EntOk.nil, ok.c, fun _ h => (nomatch h), .refl _, fun _ h => (nomatch h), ok.cv, ok.st, ok.sc⟩
end
section
open PyProof.Rows.LCg PySem.W
variable {w : World} {A A₀ : Around} {base h₀ h : Heap} {outer : List Env} {env : Env} {L C : Addr} {p : Program} {loose : List Str} {mean : ExcName → Option Value} {mg mb m : Str → Option Value} {mu mu' mr pe : Lg}
  {G : Array GenState} {D : Drawn} {tk : Nat} {O : OsState} {R : Result → Shared → Prop} {E : Value → Shared → Prop} {pos : Pos} {x : Addr} {ox : Obj} {es es' : List DictEntry} {n n' : Nat} {name : Str} {v : Value}
theorem InstAt.pl {dx : Addr} (h1 : h.get? x = some (instObj C dx)) (h2 : h.get? dx = some (dictOf es n)) : PySem.W.InstAt h x (instObj C dx) C (some (dictOf es n)) := ⟨h1, rfl, rfl, h2⟩
theorem plSet {dx : Addr} {Q : Unit → Shared → Prop} (Cm : Fm w A A₀ base outer env h₀ L p loose mean mg mb) (S : SL h₀ L m h mu pe) (I : PySem.W.InstAt h x ox C (some (dictOf es n))) (hox : ox.dict = some dx)
    (hs : findIn (hd.heap_39 w.params) (.ref C) "__setattr__" = some (some (.builtin "object.__setattr__"))) (hp : plainOver (hd.heap_39 w.params) C = true) (ht : takerIn (hd.heap_39 w.params) C name = some none) (hh : hasDictIn (hd.heap_39 w.params) C = true)
    (hl : (getL name es).isSome = true) (e : (putL name (PyData.keyHash w.params name) (.str name (tk + 1)) v es, putN name es n) = (es', n')) (r : Rp dx (dictOf es n) (dictOf es' n') mu mu') (hz : es'.length ≤ 1000)
    (q : ∀ h', SL h₀ L m h' mu' pe → Q () ⟨h', G, D, tk + 2, O⟩) : wpAny (model PR w) A (setAttr (.ref x) name v) Q E ⟨h, G, D, tk, O⟩ := by
  obtain ⟨pre, post, e1, e2, a, b⟩ := (S.upd r).split
  have N := S.nw
  rw [e1] at N
  obtain ⟨f1, f2⟩ := Prod.mk.inj e
  exact set_plain (S.X Cm) I hs (osa_dict (s := ⟨h, G, D, tk + 1, O⟩) S.fr N (S.X Cm) I hox hp ht hh (by rw [lookIn_dict]; exact hl) a b (by rw [putName_dict, f1, f2]) rfl hz fun h' F' N' => q h' ⟨F', by rw [e2]; exact N', S.nd' r⟩)
theorem plGet {expr : Bool} {Q : Value → Shared → Prop} {attr : Option Value} (Cm : Fm w A A₀ base outer env h₀ L p loose mean mg mb) (S : SL h₀ L m h mu pe) (I : PySem.W.InstAt h x ox C (some (dictOf es n))) (hg : plainGet (hd.heap_39 w.params) C name = true) (hh : hasDictIn (hd.heap_39 w.params) C = true)
    (ha : findIn (hd.heap_39 w.params) (.ref C) name = some attr) (hn : noGet (hd.heap_39 w.params) attr = true) (hl : getL name es = some (some v)) (q : Q v ⟨h, G, D, tk + 1, O⟩) (hv : handedIn v = true) :
    wpAny (model PR w) A (getAttr (.ref x) name expr) Q E ⟨h, G, D, tk, O⟩ := get_own (s := ⟨h, G, D, tk, O⟩) S.fr Cm.X I hg hh ha hn hl hv q
theorem plCls {expr : Bool} {Q : Value → Shared → Prop} {a : Value} (Cm : Fm w A A₀ base outer env h₀ L p loose mean mg mb) (S : SL h₀ L m h mu pe) (I : PySem.W.InstAt h x ox C (some (dictOf es n))) (hg : plainGet (hd.heap_39 w.params) C name = true) (hh : hasDictIn (hd.heap_39 w.params) C = true)
    (ha : findIn (hd.heap_39 w.params) (.ref C) name = some (some a)) (hn : specialIn (hd.heap_39 w.params) a "__get__" = some none) (hv : handedIn a = true) (hc : copiedNames.contains name = false) (hl : getL name es = some none) (q : Q a ⟨h, G, D, tk + 1, O⟩) :
    wpAny (model PR w) A (getAttr (.ref x) name expr) Q E ⟨h, G, D, tk, O⟩ := get_cls (s := ⟨h, G, D, tk, O⟩) S.fr Cm.X I hg hh ha hn hv hc hl q
theorem plMeth {pl : Sem Bool} {Q : Value × List Value → Shared → Prop} {f : Addr} (Cm : Fm w A A₀ base outer env h₀ L p loose mean mg mb) (S : SL h₀ L m h mu pe) (I : PySem.W.InstAt h x ox C (some (dictOf es n))) (hg : plainGet (hd.heap_39 w.params) C name = true)
    (hf : findIn (hd.heap_39 w.params) (.ref C) name = some (some (.ref f))) (ht : isFn (hd.heap_39 w.params) (.ref f) = true) (hl : getL name es = some none) (q : Q (.ref f, [.ref x]) ⟨h, G, D, tk, O⟩) : wpAny (model PR w) A (getMethod (.ref x) name pl) Q E ⟨h, G, D, tk, O⟩ :=
  method_inst (s := ⟨h, G, D, tk, O⟩) S.fr Cm.X I hg hf ht hl q
abbrev nodeD (w : World) (t : Tok) (na : Addr) (n : Nat) : Obj := dictOf [ent1 w "name" t (.ref na)] n
def IsNode (w : World) (pe : Lg) (k : Nm) (x : Addr) : Prop := ∃ dx t na n, (x, instObj 316 dx) ∈ pe ∧ (dx, nodeD w t na n) ∈ pe ∧ IsNm w pe k na
theorem IsNode.mono {pe' : Lg} {k : Nm} (x' : IsNode w pe k x) (h : pe ⊆ pe') : IsNode w pe' k x := let ⟨dx, t, na, n, a, b, c⟩ := x'; ⟨dx, t, na, n, h a, h b, c.mono h⟩
theorem node_init {dx na : Addr} (Cm : Fm w A A₀ base outer env h₀ L p loose mean mg mb) (S : SL h₀ L m h ((x, instObj 316 dx) :: (dx, dictOf [] 0) :: mr) pe) (hd' : A.depth < 990)
    (post : ∀ t n h' tk', SL h₀ L m h' ((x, instObj 316 dx) :: (dx, nodeD w t na n) :: mr) pe → R (.ok (.ret .none)) ⟨h', G, D, tk', O⟩) :
    codeAny (model PR w) A (.call (.ref 285) ⟨[.ref x, .ref na], []⟩) R ⟨h, G, D, tk, O⟩ := by
  refine' enter (binds := [("self", .ref x), ("name", .ref na)]) (cl := []) Cm S ?k6 ?k7 ?k8 ?k9 ?kB ?_ ?c2 ?c3 ?c4 ?c5
  case k6 => k_is
  case k7 => k_is
  case k8 => show Around.depth _ < 1000; first | omega | (simp only [und_depth]; omega)
  case k9 => exact BindsTo.of_eq rfl
  case kB => exact locs rfl
  case c2 => decide
  case c3 => exact rfl
  case c4 => exact rfl
  case c5 => exact rfl
  intro g L' h₁ C' S'
  walk_at "ms"
  refine' plSet (x := x) (es' := [ent1 w "name" _ (.ref na)]) (n' := 1) C' S' (InstAt.pl (S'.get (.head _)) (S'.get (.tail _ (.head _)))) rfl ?a ?b ?c ?d ?e ?f ?g ?h fun h₃ S₃ => ?_
  case a => k_is
  case b => k_is
  case c => k_is
  case d => k_is
  case e => rfl
  case f => exact rfl
  case g => exact .tail .head
  case h => simp
  walk_at "ms"
  refine leave S₃ fun S₄ => ?_
  exact post _ _ h₃ _ S₄
theorem node_make {na : Addr} {k : Nm} {Q : Value → Shared → Prop} (Cm : Fm w A A₀ base outer env h₀ L p loose mean mg mb) (S : SL h₀ L m h mr pe) (hd' : A.depth < 980) (hk : IsNm w pe k na)
    (post : ∀ x pe' h' tk', pe ⊆ pe' → IsNode w pe' k x → SL h₀ L m h' mr pe' → Q (.ref x) ⟨h', G, D, tk', O⟩) :
    wpAny (model PR w) A (call (.ref 316) [.ref na]) Q E ⟨h, G, D, tk, O⟩ := by
  have X := S.X Cm
  refine wpAny_call ?_
  refine' make_core (makes_of X ?a) (looks_findIn X ?b) (fun self => bind_fn X self ?c) (.inl ?d) ?_
  case a => k_is
  case b => k_is
  case c => k_is
  case d => rfl
  have S₁ := S.push emptyDict
  have S₂ := S₁.push (instObj 316 h.objs.size)
  have e : (h.push emptyDict).objs.size = h.objs.size + 1 := Heap.size_push ..
  rw [e] at S₂
  refine node_init (Cm.under (c := 316) (rest := [.ref na]) (kw := [])) S₂ (by rw [und_depth]; omega) fun t n h' tk' S₃ => ?_
  refine ⟨rfl, post _ _ h' tk' ?_ ?_ S₃.toPe.toPe⟩
  · exact fun _ z => .tail _ (.tail _ z)
  · exact ⟨h.objs.size, t, na, n, .tail _ (.head _), .head _, hk.mono fun _ z => .tail _ (.tail _ z)⟩
theorem node_getName {k : Nm} (Cm : Fm w A A₀ base outer env h₀ L p loose mean mg mb) (S : SL h₀ L m h mu pe) (hd' : A.depth < 990) (hx : IsNode w pe k x)
    (post : ∀ na h' tk', IsNm w pe k na → SL h₀ L m h' mu pe → R (.ok (.ret (.ref na))) ⟨h', G, D, tk', O⟩) :
    codeAny (model PR w) A (.call (.ref 299) ⟨[.ref x], []⟩) R ⟨h, G, D, tk, O⟩ := by
  obtain ⟨dx, t, na, n, m1, m2, hk⟩ := hx
  refine' enter (binds := [("self", .ref x)]) (cl := []) Cm S ?k6 ?k7 ?k8 ?k9 ?kB ?_ ?c2 ?c3 ?c4 ?c5
  case k6 => k_is
  case k7 => k_is
  case k8 => show Around.depth _ < 1000; first | omega | (simp only [und_depth]; omega)
  case k9 => exact BindsTo.of_eq rfl
  case kB => exact locs rfl
  case c2 => decide
  case c3 => exact rfl
  case c4 => exact rfl
  case c5 => exact rfl
  intro g L' h₁ C' S'
  walk_at "ms"
  refine' plGet (x := x) C' S' (InstAt.pl (S'.getp m1) (S'.getp m2)) ?a ?b ?c ?d ?e ?_ ?f
  case a => k_is
  case b => k_is
  case c => k_is
  case d => k_is
  case e => rfl
  case f => rfl
  refine leave S' fun S₄ => ?_
  exact post na _ _ hk S₄
end
section
open PySem.W
variable {w : World} {A A₀ : Around} {base h₀ h g : Heap} {outer : List Env} {env : Env} {L : Addr} {p : Program} {loose : List Str} {mean : ExcName → Option Value} {mg mb m : Str → Option Value} {mu pe : Lg}
  {G : Array GenState} {D : Drawn} {tk : Nat} {O : OsState} {R : Result → Shared → Prop} {name qual : Str} {params : Arguments} {body : List Stmt} {scope : Scope} {cl : List (Str × Addr)} {dV kV doc pm cdv ct oc : Value} {an od : Option Addr} {osl : Array (Option Value)} {f : Addr} {args : Args} {binds : List (Str × Value)} {o : Obj}
def BindsN (h : Heap) (G : Array GenState) (D : Drawn) (tk : Nat) (O : OsState) (fd : FuncData) (args : Args) (binds : List (Str × Value)) (o : Obj) : Prop :=
  ∀ (M : Model) (A : Around) (E : Value → Shared → Prop) (Q : List (Str × Value) → Shared → Prop), Q binds ⟨h.push o, G, D, tk, O⟩ → wpAny M A (bindArgs fd args) Q E ⟨h, G, D, tk, O⟩
theorem enterN (C : Fm w A A₀ base outer env h₀ L p loose mean mg mb) (S : SL h₀ L m h mu pe) (hfree : o.isFreed = false)
    (ho : h.get? f = some ⟨oc, od, .func (fnX name qual params body scope cl dV kV doc pm an cdv ct), osl⟩) (hcd : codeIn (hd.heap_39 w.params) cdv qual = true) (hroom : A.depth < recursionLimit)
    (hbind : BindsN h G D tk O (fnX name qual params body scope cl dV kV doc pm an cdv ct) args binds o) (hloc : ∀ y ∈ binds, scope.names.lookup y.1 = some .local)
    (k : ∀ g L' h₁ tk', Fm w (A.deeper (envX qual scope L' f cdv cl)) A base (env :: outer) (envX qual scope L' f cdv cl) g L' p loose mean mg mb → Fr h₀ L g m → SL g L' (fun y => binds.reverse.lookup y) h₁ ((h.objs.size, o) :: mu) pe →
      wpAny (model PR w) (A.deeper (envX qual scope L' f cdv cl)) (execs body (envX qual scope L' f cdv cl)) (Ret R h₀ L m g) (Err w A (envX qual scope L' f cdv cl) R) ⟨h₁, G, D, tk', O⟩)
    (hcell : ∀ x ∈ scope.names, x.2 ≠ .cell) (hco : scope.isCoroutine = false) (hgen : scope.isGenerator = false) (hk : scope.kind = .function) :
    codeAny (model PR w) A (.call (.ref f) args) R ⟨h, G, D, tk, O⟩ := by
  have S' := S.push o hfree
  obtain ⟨FG, BG, st, lv⟩ := groundX (R := R) C.B (s := ⟨h.push o, G, D, tk, O⟩) S'.fr S'.nw C.hA C.hf C.hk
  refine codeAny_call_function (s := ⟨h, G, D, tk, O⟩) hroom ho rfl hco hgen rfl (codeRec_of (C.X.keeps S.fr.keep) hcd) (hbind _ _ _ _ ?_)
  refine wpAny_newFunctionEnv hcell hloc (fun h₁ hns hsb => ⟨((C.T.nolimit).keeps S'.fr.keep).fresh _ hsb, ?_⟩) hk
  refine codeAny_func ?_
  have hk₁ : ∀ b o', (h.push o).get? b = some o' → h₁.get? b = some o' := fun b o' e => hsb.extBut b o' (Nat.ne_of_lt (Heap.lt_size e)) (Heap.get?_push_of_some _ e)
  exact wpAny_mono (k _ (h.push o).objs.size h₁ _ ⟨BG, by rw [Around.deeper, C.hA]; rfl, rfl, hk, C.X.keeps st, C.T.keeps st⟩ FG ⟨⟨hns, fun b o' e => hk₁ b o' (of_hideAll _ e), Nat.le_of_eq (hideAll_size _ _)⟩,
    (fun p hp => ⟨hk₁ _ _ (S'.nw p hp).1, Nat.ne_of_lt (Heap.lt_size (S'.nw p hp).1), hideAll_none _ (List.mem_map_of_mem hp)⟩), S'.nd⟩) (fun fl s' hl => lv _ _ hl) fun _ _ y => y
theorem enterTN (C : Fm w A A₀ base outer env h₀ L p loose mean mg mb) (b : Bt w base outer h₀ p loose mean mg mb) (S : SL h₀ L m h mu pe) (hfree : o.isFreed = false)
    (ho : h.get? f = some ⟨oc, od, .func (fnX name qual params body scope cl dV kV doc pm an cdv ct), osl⟩) (hcd : codeIn (hd.heap_39 w.params) cdv qual = true) (hroom : A.depth < recursionLimit)
    (hbind : BindsN h G D tk O (fnX name qual params body scope cl dV kV doc pm an cdv ct) args binds o) (hloc : ∀ y ∈ binds, scope.names.lookup y.1 = some .local)
    (k : ∀ g L' h₁ tk', Fm w (A.deeper (envX qual scope L' f cdv cl)) A base (env :: outer) (envX qual scope L' f cdv cl) g L' p loose mean mg mb → Bt w base (env :: outer) g p loose mean mg mb → Fr h₀ L g m → SL g L' (fun y => binds.reverse.lookup y) h₁ ((h.objs.size, o) :: mu) pe →
      wpAny (model PR w) (A.deeper (envX qual scope L' f cdv cl)) (execs body (envX qual scope L' f cdv cl)) (RetT w A A₀ base outer env h₀ L m g p loose mean mg mb R) (Err w A (envX qual scope L' f cdv cl) R) ⟨h₁, G, D, tk', O⟩)
    (hcell : ∀ x ∈ scope.names, x.2 ≠ .cell) (hco : scope.isCoroutine = false) (hgen : scope.isGenerator = false) (hk : scope.kind = .function) :
    codeAny (model PR w) A (.call (.ref f) args) R ⟨h, G, D, tk, O⟩ := by
  have S' := S.push o hfree
  obtain ⟨FG, BG, st, b', lv⟩ := turn_ground (R := R) G D tk O C b S'
  refine codeAny_call_function (s := ⟨h, G, D, tk, O⟩) hroom ho rfl hco hgen rfl (codeRec_of (C.X.keeps S.fr.keep) hcd) (hbind _ _ _ _ ?_)
  refine wpAny_newFunctionEnv hcell hloc (fun h₁ hns hsb => ⟨((C.T.nolimit).keeps S'.fr.keep).fresh _ hsb, ?_⟩) hk
  refine codeAny_func ?_
  have hk₁ : ∀ b o', (h.push o).get? b = some o' → h₁.get? b = some o' := fun b o' e => hsb.extBut b o' (Nat.ne_of_lt (Heap.lt_size e)) (Heap.get?_push_of_some _ e)
  exact wpAny_mono (k _ (h.push o).objs.size h₁ _ ⟨BG, by rw [Around.deeper, C.hA]; rfl, rfl, hk, C.X.keeps st, C.T.keeps st⟩ b' FG ⟨⟨hns, fun b o' e => hk₁ b o' (of_hideAll _ e), Nat.le_of_eq (hideAll_size _ _)⟩,
    (fun p hp => ⟨hk₁ _ _ (S'.nw p hp).1, Nat.ne_of_lt (Heap.lt_size (S'.nw p hp).1), hideAll_none _ (List.mem_map_of_mem hp)⟩), S'.nd⟩) (fun fl s' hl => lv hl) fun _ _ y => y
end
section
open PyProof.Rows.LCg PySem.W
variable {w : World} {A A₀ : Around} {base h₀ h : Heap} {outer : List Env} {env : Env} {L C : Addr} {p : Program} {loose : List Str} {mean : ExcName → Option Value} {mg mb m : Str → Option Value} {mu mu' mr pe : Lg}
  {G : Array GenState} {D : Drawn} {tk : Nat} {O : OsState} {R : Result → Shared → Prop} {E : Value → Shared → Prop} {pos : Pos} {x : Addr} {ox : Obj} {es es' : List DictEntry} {n n' : Nat} {name : Str} {v : Value}
theorem clsMethC {f : Addr} {pl : Sem Bool} {Q : Value × List Value → Shared → Prop} (X : (hd.heap_39 w.params).In h) (hg : specialIn (hd.heap_39 w.params) (.ref C) "__getattribute__" = some (some (.builtin "type.__getattribute__"))) (hr : readsIn (hd.heap_39 w.params) C (.type "type") = true)
    (e : findCls (hd.heap_39 w.params) (.ref C) (.type "type") name = some (.val (.ref f))) (q : Q (.ref f, []) ⟨h, G, D, tk + 1, O⟩) : wpAny (model PR w) A (getMethod (.ref C) name pl) Q E ⟨h, G, D, tk, O⟩ :=
  method_cls X hg (cls_value X hr e rfl q)
def treeF (w : World) (t1 t2 t3 : Tok) (na rt : Addr) (bv : Option (Tok × Int × Tok)) : List DictEntry := match bv with
  | none => [ent1 w "name" t1 (.ref na), ent1 w "syntax" t2 .none, ent1 w "_vars" t3 (.ref rt)]
  | some (t4, i, t5) => [ent1 w "name" t1 (.ref na), ent1 w "syntax" t2 .none, ent1 w "_vars" t3 (.ref rt), ent1 w "branchVersionId" t4 (.int i t5)]
theorem tn_init {dx na : Addr} (Cm : Fm w A A₀ base outer env h₀ L p loose mean mg mb) (S : SL h₀ L m h ((x, instObj 544 dx) :: (dx, dictOf [] 0) :: mr) pe) (hd' : A.depth < 990)
    (post : ∀ t n h' tk', SL h₀ L m h' ((x, instObj 544 dx) :: (dx, nodeD w t na n) :: mr) pe → R (.ok (.ret .none)) ⟨h', G, D, tk', O⟩) :
    codeAny (model PR w) A (.call (.ref 285) ⟨[.ref x, .ref na], []⟩) R ⟨h, G, D, tk, O⟩ := by
  refine' enter (binds := [("self", .ref x), ("name", .ref na)]) (cl := []) Cm S ?k6 ?k7 ?k8 ?k9 ?kB ?_ ?c2 ?c3 ?c4 ?c5
  case k6 => k_is
  case k7 => k_is
  case k8 => show Around.depth _ < 1000; first | omega | (simp only [und_depth]; omega)
  case k9 => exact BindsTo.of_eq rfl
  case kB => exact locs rfl
  case c2 => decide
  case c3 => exact rfl
  case c4 => exact rfl
  case c5 => exact rfl
  intro g L' h₁ C' S'
  walk_at "ms"
  refine' plSet (x := x) (es' := [ent1 w "name" _ (.ref na)]) (n' := 1) C' S' (InstAt.pl (S'.get (.head _)) (S'.get (.tail _ (.head _)))) rfl ?a ?b ?c ?d ?e ?f ?g ?h fun h₃ S₃ => ?_
  case a => k_is
  case b => k_is
  case c => k_is
  case d => k_is
  case e => rfl
  case f => exact rfl
  case g => exact .tail .head
  case h => simp
  walk_at "ms"
  refine leave S₃ fun S₄ => ?_
  exact post _ _ h₃ _ S₄
theorem to_init {dx na : Addr} (Cm : Fm w A A₀ base outer env h₀ L p loose mean mg mb) (S : SL h₀ L m h ((x, instObj 544 dx) :: (dx, dictOf [] 0) :: mr) pe) (hd' : A.depth < 980)
    (post : ∀ t1 t2 n h' tk', SL h₀ L m h' ((x, instObj 544 dx) :: (dx, dictOf [ent1 w "name" t1 (.ref na), ent1 w "syntax" t2 .none] n) :: mr) pe → R (.ok (.ret .none)) ⟨h', G, D, tk', O⟩) :
    codeAny (model PR w) A (.call (.ref 335) ⟨[.ref x, .ref na, .none], []⟩) R ⟨h, G, D, tk, O⟩ := by
  refine' enter (binds := [("self", .ref x), ("name", .ref na), ("syntax", .none)]) (cl := []) Cm S ?k6 ?k7 ?k8 ?k9 ?kB ?_ ?c2 ?c3 ?c4 ?c5
  case k6 => k_is
  case k7 => k_is
  case k8 => show Around.depth _ < 1000; first | omega | (simp only [und_depth]; omega)
  case k9 => (refine' binds_K (S.X Cm) ?d ?ho ?hs ?h1 ?h2; (case d => exact rfl); (case ho => k_is); (case hs => exact rfl); (case h1 => exact rfl); (case h2 => exact rfl))
  case kB => exact locs rfl
  case c2 => decide
  case c3 => exact rfl
  case c4 => exact rfl
  case c5 => exact rfl
  intro g L' h₁ C' S'
  walk_at "ms"
  refine' clsMethC (S'.X C') ?a1 ?a2 ?a3 ?_
  case a1 => k_is
  case a2 => k_is
  case a3 => k_is
  refine callK (by k_is) ?_ rfl rfl
  walk_at "ms"
  refine ⟨S'.X C', wpAny_call ?_⟩
  refine tn_init C' S' (by show A.depth + 1 < 990; omega) fun t n h₂ tk₂ S₂ => ?_
  walk_at "ms"
  refine' plSet (x := x) (es' := [ent1 w "name" t (.ref na), ent1 w "syntax" _ .none]) (n' := n + 1) C' S₂ (InstAt.pl (S₂.get (.head _)) (S₂.get (.tail _ (.head _)))) rfl ?a ?b ?c ?d ?e ?f ?g ?h fun h₃ S₃ => ?_
  case a => k_is
  case b => k_is
  case c => k_is
  case d => k_is
  case e => rfl
  case f => exact rfl
  case g => exact .tail .head
  case h => simp
  walk_at "ms"
  refine leave S₃ fun S₄ => ?_
  exact post _ _ _ h₃ _ S₄
structure TR where
  t : Addr
  td : Addr
  n : Nat
  t1 : Tok
  t2 : Tok
  t3 : Tok
  na : Addr
  bv : Option (Tok × Int × Tok)
  r : OR
abbrev TR.dO (w : World) (T : TR) : Obj := dictOf (treeF w T.t1 T.t2 T.t3 T.na T.r.t T.bv) T.n
abbrev TR.led (w : World) (T : TR) : Lg := (T.t, instObj 544 T.td) :: (T.td, T.dO w) :: T.r.led w
theorem tr_init {dx na : Addr} (Cm : Fm w A A₀ base outer env h₀ L p loose mean mg mb) (S : SL h₀ L m h ((x, instObj 544 dx) :: (dx, dictOf [] 0) :: mr) pe) (hd' : A.depth < 850) (hu : A.units < 8700)
    (post : ∀ (T : TR) h' tk', T.t = x → T.na = na → T.bv = none → T.r.xs = [] → T.r.ks = [] → T.r.cs = [] → T.r.b = true → T.r.Ok w pe → SL h₀ L m h' (T.led w ++ mr) pe → R (.ok (.ret .none)) ⟨h', G, D, tk', O⟩) :
    codeAny (model PR w) A (.call (.ref 432) ⟨[.ref x, .ref na], []⟩) R ⟨h, G, D, tk, O⟩ := by
  refine' enter (binds := [("self", .ref x), ("name", .ref na), ("syntax", .none)]) (cl := []) Cm S ?k6 ?k7 ?k8 ?k9 ?kB ?_ ?c2 ?c3 ?c4 ?c5
  case k6 => k_is
  case k7 => k_is
  case k8 => show Around.depth _ < 1000; first | omega | (simp only [und_depth]; omega)
  case k9 => (refine' binds_K (S.X Cm) ?d ?ho ?hs ?h1 ?h2; (case d => exact rfl); (case ho => k_is); (case hs => exact rfl); (case h1 => exact rfl); (case h2 => exact rfl))
  case kB => exact locs rfl
  case c2 => decide
  case c3 => exact rfl
  case c4 => exact rfl
  case c5 => exact rfl
  intro g L' h₁ C' S'
  walk_at "ms"
  refine' clsMethC (S'.X C') ?a1 ?a2 ?a3 ?_
  case a1 => k_is
  case a2 => k_is
  case a3 => k_is
  refine callK (by k_is) ?_ rfl rfl
  walk_at "ms"
  refine ⟨S'.X C', wpAny_call ?_⟩
  refine to_init C' S' (by show A.depth + 1 < 980; omega) fun t1 t2 n h₂ tk₂ S₂ => ?_
  walk_at "ms"
  refine callK0 (by k_is) (S₂.X C') ?_
  refine od_create C' S₂ (by show A.depth + 1 < 860; omega) (by show A.units + 3 < 8800; omega) fun r h₃ tk₃ e1 e2 e3 e4 ok S₃ => ?_
  have S₄ : SL g L' _ h₃ ((x, instObj 544 dx) :: (dx, dictOf [ent1 w "name" t1 (.ref na), ent1 w "syntax" t2 .none] n) :: (r.led w ++ mr)) pe := S₃.perm (by
    refine (List.perm_append_comm_assoc (r.led w) [(x, instObj 544 dx), (dx, dictOf [ent1 w "name" t1 (.ref na), ent1 w "syntax" t2 .none] n)] mr).trans ?_
    exact .refl _)
  walk_at "ms"
  refine' plSet (x := x) (es' := [ent1 w "name" t1 (.ref na), ent1 w "syntax" t2 .none, ent1 w "_vars" _ (.ref r.t)]) (n' := n + 1) C' S₄ (InstAt.pl (S₄.get (.head _)) (S₄.get (.tail _ (.head _)))) rfl ?a ?b ?c ?d ?e ?f ?g ?h fun h₅ S₅ => ?_
  case a => k_is
  case b => k_is
  case c => k_is
  case d => k_is
  case e => rfl
  case f => exact rfl
  case g => exact .tail .head
  case h => simp
  walk_at "ms"
  refine leave S₅ fun S₆ => ?_
  exact post { t := x, td := dx, n := n + 1, t1 := t1, t2 := t2, t3 := _, na := na, bv := none, r := r } h₅ _ rfl rfl rfl e1 e2 e3 e4 ok S₆
theorem tr_make {na : Addr} {Q : Value → Shared → Prop} (Cm : Fm w A A₀ base outer env h₀ L p loose mean mg mb) (S : SL h₀ L m h mr pe) (hd' : A.depth < 840) (hu : A.units < 8600)
    (post : ∀ (T : TR) h' tk', T.na = na → T.bv = none → T.r.xs = [] → T.r.ks = [] → T.r.cs = [] → T.r.b = true → T.r.Ok w pe → SL h₀ L m h' (T.led w ++ mr) pe → Q (.ref T.t) ⟨h', G, D, tk', O⟩) :
    wpAny (model PR w) A (call (.ref 544) [.ref na]) Q E ⟨h, G, D, tk, O⟩ := by
  have X := S.X Cm
  refine wpAny_call ?_
  refine' make_core (makes_of X ?a) (looks_findIn X ?b) (fun self => bind_fn X self ?c) (.inl ?d) ?_
  case a => k_is
  case b => k_is
  case c => k_is
  case d => rfl
  have S₁ := S.push emptyDict
  have S₂ := S₁.push (instObj 544 h.objs.size)
  have e : (h.push emptyDict).objs.size = h.objs.size + 1 := Heap.size_push ..
  rw [e] at S₂
  refine tr_init (Cm.under (c := 544) (rest := [.ref na]) (kw := [])) S₂ (by rw [und_depth]; omega) (Nat.lt_of_le_of_lt und_units (by omega)) fun T h' tk' e0 e1 e2 e3 e4 e5 e6 ok S₃ => ?_
  rw [← e0]
  exact ⟨rfl, post T h' tk' e1 e2 e3 e4 e5 e6 ok S₃⟩
end
section
open PySem.W
variable {w : World} {A : Around} {E : Value → Shared → Prop} {h₀ h : Heap} {L : Addr} {m : Str → Option Value} {mu mr pe : Lg}
  {G : Array GenState} {D : Drawn} {tk : Nat} {O : OsState} {a : Addr} {k : Nm}
def Sml (k : Nm) : Prop := k.length ≤ 4 ∧ ∀ x ∈ k, x.natAbs < 10 ^ 4
theorem Sml.log {x : Int} (h : x.natAbs < 10 ^ 4) : x.natAbs.log2 < 1920 := by
  by_cases z : x.natAbs = 0
  · rw [z]; decide
  · exact Nat.lt_trans ((Nat.log2_lt z).mpr (Nat.lt_trans h (by decide : 10 ^ 4 < 2 ^ 14))) (by decide)
theorem name_texts {vs : List Value} (hi : ItemsAre (intKind PR w) k vs) (hs : ∀ x ∈ k, x.natAbs < 10 ^ 4) : ∃ ts : List Str, ReprAllK PR w [] h 0 vs ts ∧ ts.length = k.length ∧ ∀ t ∈ ts, t.length ≤ 5 := by
  induction hi with
  | nil => exact ⟨[], .nil, rfl, by simp⟩
  | @cons x v xs vs' h1 h2 ih =>
    obtain ⟨ts, r, l, b⟩ := ih fun y hy => hs y (.tail _ hy)
    obtain ⟨t, rfl⟩ := Value.isInt_shape h1
    have hx := hs x (.head _)
    refine ⟨Str.ofString (toString x) :: ts, .cons (ReprK.of_is (ReprIs.int t (Sml.log hx)) _ _ _) r, by simp [l], ?_⟩
    intro y hy
    rcases List.mem_cons.mp hy with rfl | hy
    · rw [PySem.ofString_length]
      exact int_text_length_le10 (k := 4) (by decide) hx
    · exact b y hy
theorem name_txt (hs : Sml k) {vs : List Value} (hi : ItemsAre (intKind PR w) k vs) : ∃ ts : List Str, ReprAllK PR w [] h 0 vs ts ∧ (tupleText ts).length ≤ 40 := by
  obtain ⟨ts, r, l, b⟩ := name_texts (h := h) hi hs.2
  refine ⟨ts, r, ?_⟩
  have h1 := tupleText_len_le ts
  have h2 : (ts.map (·.length)).sum ≤ 5 * ts.length := by
    clear r l h1
    induction ts with
    | nil => simp
    | cons t ts ih => simp only [List.map_cons, List.sum_cons, List.length_cons]; have := b t (.head _); have := ih fun y hy => b y (.tail _ hy); omega
  have h3 := hs.1
  omega
theorem name_reprCall {Q : Value → Shared → Prop} (hg : A.guards = some []) (hu : A.units + 1 < cLine) (S : SL h₀ L m h mu pe) (hk : IsNm w pe k a) (hs : Sml k)
    (q : ∀ y u h' tk', y.length ≤ 40 → SL h₀ L m h' mu pe → Q (.str y u) ⟨h', G, D, tk', O⟩) : wpAny (model PR w) A (call (.builtin "tuple.__repr__") [.ref a]) Q E ⟨h, G, D, tk, O⟩ := by
  obtain ⟨vs, n1, m1, i1⟩ := hk
  obtain ⟨ts, r, hl⟩ := name_txt (h := h) hs i1
  exact call_tuple_reprK (h₀ := h) (S.getp m1) rfl rfl (List.not_mem_nil) r hg (fun b _ => Clear.nil b) (by omega) (fun _ _ e => e) (fun h' u tk' kp => q _ _ _ _ hl (S.keeps kp)) (by rw [sizeLine_eq]; omega)
theorem name_repr {Q : Value → Shared → Prop} (hg : A.guards = some []) (hu : A.units + 1 < cLine) (S : SL h₀ L m h mu pe) (hk : IsNm w pe k a) (hs : Sml k)
    (q : ∀ y u h' tk', y.length ≤ 40 → SL h₀ L m h' mu pe → Q (.str y u) ⟨h', G, D, tk', O⟩) : wpAny (model PR w) A (pyReprObj (.ref a)) Q E ⟨h, G, D, tk, O⟩ := by
  obtain ⟨vs, n1, m1, i1⟩ := hk
  obtain ⟨ts, r, hl⟩ := name_txt (h := h) hs i1
  exact wpAny_pyReprObj_tupleK (h₀ := h) (S.getp m1) rfl rfl (List.not_mem_nil) r hg (fun b _ => Clear.nil b) (by omega) (fun _ _ e => e) (fun h' u tk' kp => q _ _ _ _ hl (S.keeps kp)) (by rw [sizeLine_eq]; omega)
theorem name_str {Q : Value → Shared → Prop} (hg : A.guards = some []) (hu : A.units + 3 < cLine) (S : SL h₀ L m h mu pe) (hk : IsNm w pe k a) (hs : Sml k)
    (q : ∀ y u h' tk', y.length ≤ 40 → SL h₀ L m h' mu pe → Q (.str y u) ⟨h', G, D, tk', O⟩) : wpAny (model PR w) A (pyStrObj (.ref a)) Q E ⟨h, G, D, tk, O⟩ := by
  have hT : (⟨h, G, D, tk, O⟩ : Shared).TypeIs (.ref a) "tuple" := by obtain ⟨vs, n1, m1, i1⟩ := hk; exact ⟨_, S.getp m1, rfl⟩
  unfold pyStrObj
  refine wpAny_bind (m := cRoomFor _ _) (wpAny_cRoomFor (by omega) ?_)
  refine wpAny_bind (m := callSpecial? (.ref a) (Str.ofString "__str__")) (wpAny_callSpecial?_slot (name := Str.ofString "__str__") hT F.slot_tuple_str ?_)
  refine wpAny_call (codeAny_call_builtin PySem.F.slot_object_str.plain PySem.F.entry_object_str (check_slot (i := "object.__str__") (owner := "object") (n := "__str__") (by decide +kernel) (by decide +kernel) ?_ (PySem.F.args_object_str_1 _) ?_))
  · obtain ⟨vs, n1, m1, i1⟩ := hk
    exact (show Looks (model PR w) h (typeOf (.ref a)) (.type "tuple") from (Looks.ld (S.getp m1)).andThen .now).andThen (Looks.of_pure (by rw [isSubtype_type]; kernel_rfl))
  unfold Builtin.«object.__str__»
  refine wpAny_bind (m := slotArgs "__str__" 0 _) (wpAny_pure ?_)
  refine wpAny_bind (m := cRoomFor _ _) (wpAny_cRoomFor (by show A.units + 1 < _; omega) ?_)
  refine wpAny_bind (m := callSpecialIfBound? (.ref a) (Str.ofString "__repr__")) (wpAny_callSpecialIfBound?_slotG (name := Str.ofString "__repr__") hT F.slot_tuple_repr (name_reprCall hg (by show A.units + 1 + 1 < _; omega) S hk hs fun y u h' tk' hl S' => ?_))
  refine wpAny_pure ?_
  exact wpAny_bind (wpAny_isInstance (T := "str") (b := true) rfl isSubtype_str_str (wpAny_pure (q y u h' tk' hl S')))
theorem name_field {Q : Value → Shared → Prop} (hg : A.guards = some []) (hu : A.units + 5 < cLine) (S : SL h₀ L m h mu pe) (hk : IsNm w pe k a) (hs : Sml k)
    (q : ∀ y u h' tk', y.length ≤ 40 → SL h₀ L m h' mu pe → Q (.str y u) ⟨h', G, D, tk', O⟩) : wpAny (model PR w) A (formatField (.ref a) Str.empty) Q E ⟨h, G, D, tk, O⟩ := by
  have hT : ∀ tk, (⟨h, G, D, tk, O⟩ : Shared).TypeIs (.ref a) "tuple" := fun tk => by obtain ⟨vs, n1, m1, i1⟩ := hk; exact ⟨_, S.getp m1, rfl⟩
  have hL : Looks (model PR w) h (isInstance (.ref a) (.type "object")) true := by
    obtain ⟨vs, n1, m1, i1⟩ := hk
    exact (show Looks (model PR w) h (typeOf (.ref a)) (.type "tuple") from (Looks.ld (S.getp m1)).andThen .now).andThen (Looks.of_pure (by rw [isSubtype_type]; kernel_rfl))
  show wpAny (model PR w) A (holding [.ref a] (pyFormat (.ref a) Str.empty)) Q E _
  refine wpAny_holding ?_
  unfold pyFormat
  refine wpAny_bind (wpAny_mkStr ?_ (by decide))
  refine wpAny_bind (m := callSpecial? (.ref a) (Str.ofString "__format__") [.str Str.empty tk]) (wpAny_callSpecial?_slot (name := Str.ofString "__format__") (hT _) F.slot_tuple_format ?_)
  refine wpAny_call (codeAny_call_builtin PySem.F.slot_object_format.plain PySem.F.entry_object_format (kfo_check (i := "object.__format__") (owner := "object") (n := "__format__") (by decide +kernel) (by decide +kernel) hL (PySem.F.args_object_format_2 _ _) ?_))
  show wpAny _ _ (do let _shown ← PySem.typeNameOf (Value.str Str.empty tk); (do ret (← pyStrObj (Value.ref a)))) _ _ _
  refine wpAny_bind (PySem.wpAny_typeNameOf (T := "str") (typeIs_str _ _ _) (by decide) fun _ => ?_)
  refine wpAny_bind (name_str hg (by show A.units + 1 + 3 < _; omega) S hk hs fun y u h' tk' hl S' => ?_)
  refine wpAny_pure ?_
  exact wpAny_bind (wpAny_isInstance (T := "str") (b := true) (typeIs_str _ _ _) isSubtype_str_str (wpAny_pure (q y u h' tk' hl S')))
end
section
open PyProof.Rows.LCg PySem.W
variable {w : World} {A A₀ : Around} {base h₀ h : Heap} {outer : List Env} {env : Env} {L C : Addr} {p : Program} {loose : List Str} {mean : ExcName → Option Value} {mg mb m : Str → Option Value} {mu mu' mr pe : Lg}
  {G : Array GenState} {D : Drawn} {tk : Nat} {O : OsState} {R : Result → Shared → Prop} {E : Value → Shared → Prop} {pos : Pos} {x : Addr} {ox : Obj} {es es' : List DictEntry} {n n' : Nat} {name : Str} {v : Value}
theorem kc_find (w : World) : findIn (hd.heap_39 w.params) (.ref 544) "__class__" = some (some (.builtin "object.__class__")) := by k_is
theorem kc_get (w : World) : specialIn (hd.heap_39 w.params) (.builtin "object.__class__") "__get__" = some (some (.builtin "getset_descriptor.__get__")) := by k_is
theorem kc_takes (w : World) : takesIn (hd.heap_39 w.params) (.builtin "object.__class__") = some true := by k_is
theorem kc_mro (w : World) : mroIn (hd.heap_39 w.params) 544 (.type "object") = some true := by k_is
theorem kc_pg (w : World) : plainGet (hd.heap_39 w.params) 544 "__class__" = true := by k_is
theorem kc_dict (w : World) : hasDictIn (hd.heap_39 w.params) 544 = true := by k_is
theorem cls_of {expr : Bool} {od : Obj} {Q : Value → Shared → Prop} (X : (hd.heap_39 w.params).In h) (I : PySem.W.InstAt h x ox 544 (some od)) (q : Q (.ref 544) ⟨h, G, D, tk + 1, O⟩) : wpAny (model PR w) A (getAttr (.ref x) "__class__" expr) Q E ⟨h, G, D, tk, O⟩ := by
  have hf : findObj (hd.heap_39 w.params) 544 (some od) "__class__" = some (.bind (.builtin "getset_descriptor.__get__") (.builtin "object.__class__")) := findObj_data (by obtain ⟨cd, hc, _⟩ := any_some (kc_dict w); rw [hc]; rfl) (kc_find w) (kc_get w) (kc_takes w)
  exact get_bind X I (plainGet_of (kc_pg w)).1 hf (plainGet_of (kc_pg w)).2 (wpAny_call (class_get (s := ⟨h, G, D, tk + 1, O⟩) (ox := ox) (od := some od) X I (kc_mro w) (handed_on rfl q)))
theorem kn_name (w : World) : findCls (hd.heap_39 w.params) (.ref 544) (.type "type") "__name__" = some (.get (.builtin "getset_descriptor.__get__") (.builtin "type.__name__") (.ref 544) (.type "type")) := by k_is
theorem kn_reads (w : World) : readsIn (hd.heap_39 w.params) 544 (.type "type") = true := by k_is
theorem kn_at {K : Frag} {C : Addr} {oc : Value} {od : Option Addr} {d : Data} {sl : Array (Option Value)} {v : Value} (ho : K.lookup C = some ⟨oc, od, d, sl⟩) (hs : (sl[2]?).join = some v) (hc : oc = .type "type") : ∃ ob, K.lookup C = some ob ∧ (ob.slots[2]?).join = some v ∧ ob.cls = .type "type" := ⟨_, ho, hs, hc⟩
theorem kn_slot (w : World) : ∃ ob, (hd.heap_39 w.params).lookup 544 = some ob ∧ (ob.slots[2]?).join = some (.str "MibTree" 689) ∧ ob.cls = .type "type" := by
  refine' kn_at ?h ?s ?c
  case h => k_is
  case s => rfl
  case c => rfl
open Builtin Builtin.ObjectAttr Builtin.Getset_descriptor in
theorem name_of {expr : Bool} {Q : Value → Shared → Prop} (X : (hd.heap_39 w.params).In h) (q : Q (.str "MibTree" 689) ⟨h, G, D, tk + 1, O⟩) : wpAny (model PR w) A (getAttr (.ref 544) "__name__" expr) Q E ⟨h, G, D, tk, O⟩ := by
  obtain ⟨ob, ho, hs, hc⟩ := kn_slot w
  have hob := X _ _ ho
  refine cls_bind X (kn_reads w) (kn_name w) (wpAny_call ?_)
  have L0 : Looks (model PR w) h (typeOf (.ref 544)) (.type "type") := hc ▸ (Looks.ld hob).andThen .now
  have L1 : Looks (model PR w) h (isSubtype (.type "type") (.type "type")) true := Looks.of_pure (by rw [isSubtype_type]; kernel_rfl)
  refine codeAny_call_builtin KF.slot_gs.plain KF.entry_gs (KF.slot_gs.check _ _ _ _ _ _ _ _ ktyn_type (KF.args_gs _ _ _) ?_)
  unfold Builtin.«getset_descriptor.__get__» descrGet
  rw [show descrGetArgs ⟨[.builtin "type.__name__", .ref 544, .type "type"], []⟩ = pure (.builtin "type.__name__", some (.ref 544), given (.type "type")) from by kernel_rfl]
  refine wpAny_bind (wpAny_pure ?_)
  unfold descrGetter descrCheckInstance descrNameAndClass isInstance
  simp only [ktyn_owner]
  repeat lk
  refine ⟨Code.quiet_builtin _ (by decide +kernel), codeAny_builtin ktyn_entry ?_⟩
  unfold Builtin.«type.__name__»
  dsimp only
  unfold keptObject PySem.slotAt
  dsimp only
  refine wpAny_bind (nd_load hob (nd_pure ?_))
  rw [hs]
  refine wpAny_bind (wpAny_pure (wpAny_pure ?_))
  exact handed_on rfl q
def TrAt (w : World) (h : Heap) (pe : Lg) (T : TR) (k : Nm) : Prop := PySem.W.InstAt h T.t (instObj 544 T.td) 544 (some (T.dO w)) ∧ IsNm w pe k T.na ∧ Sml k
theorem TR.inst {T : TR} (S : SL h₀ L m h (T.led w ++ mr) pe) : PySem.W.InstAt h T.t (instObj 544 T.td) 544 (some (T.dO w)) := InstAt.pl (S.get (.head _)) (S.get (.tail _ (.head _)))
theorem treeF_name {t1 t2 t3 : Tok} {na rt : Addr} {bv} : getL "name" (treeF w t1 t2 t3 na rt bv) = some (some (.ref na)) := by rcases bv with _ | ⟨a, b, c⟩ <;> rfl
theorem treeF_syn {t1 t2 t3 : Tok} {na rt : Addr} {bv} : getL "syntax" (treeF w t1 t2 t3 na rt bv) = some (some .none) := by rcases bv with _ | ⟨a, b, c⟩ <;> rfl
theorem treeF_vars {t1 t2 t3 : Tok} {na rt : Addr} {bv} : getL "_vars" (treeF w t1 t2 t3 na rt bv) = some (some (.ref rt)) := by rcases bv with _ | ⟨a, b, c⟩ <;> rfl
theorem tr_name {expr : Bool} {T : TR} {Q : Value → Shared → Prop} (Cm : Fm w A A₀ base outer env h₀ L p loose mean mg mb) (S : SL h₀ L m h (T.led w ++ mr) pe) (q : Q (.ref T.na) ⟨h, G, D, tk + 1, O⟩) : wpAny (model PR w) A (getAttr (.ref T.t) "name" expr) Q E ⟨h, G, D, tk, O⟩ := by
  refine' plGet Cm S (TR.inst S) ?a ?b ?c ?d ?e q ?f
  case a => k_is
  case b => k_is
  case c => k_is
  case d => k_is
  case e => exact treeF_name
  case f => rfl
theorem tr_syn {expr : Bool} {T : TR} {Q : Value → Shared → Prop} (Cm : Fm w A A₀ base outer env h₀ L p loose mean mg mb) (S : SL h₀ L m h (T.led w ++ mr) pe) (q : Q .none ⟨h, G, D, tk + 1, O⟩) : wpAny (model PR w) A (getAttr (.ref T.t) "syntax" expr) Q E ⟨h, G, D, tk, O⟩ := by
  refine' plGet Cm S (TR.inst S) ?a ?b ?c ?d ?e q ?f
  case a => k_is
  case b => k_is
  case c => k_is
  case d => k_is
  case e => exact treeF_syn
  case f => rfl
theorem tr_vars {expr : Bool} {T : TR} {Q : Value → Shared → Prop} (Cm : Fm w A A₀ base outer env h₀ L p loose mean mg mb) (S : SL h₀ L m h (T.led w ++ mr) pe) (q : Q (.ref T.r.t) ⟨h, G, D, tk + 1, O⟩) : wpAny (model PR w) A (getAttr (.ref T.t) "_vars" expr) Q E ⟨h, G, D, tk, O⟩ := by
  refine' plGet Cm S (TR.inst S) ?a ?b ?c ?d ?e q ?f
  case a => k_is
  case b => k_is
  case c => k_is
  case d => k_is
  case e => exact treeF_vars
  case f => rfl
theorem len_e : Str.empty.length = 0 := rfl
theorem len_1 : (Str.ofString "MibTree").length = 7 := by decide +kernel
theorem len_2 : (Str.ofString "(").length = 1 := by decide +kernel
theorem len_3 : (Str.ofString ", ").length = 2 := by decide +kernel
theorem len_4 : (Str.ofString "None").length = 4 := by decide +kernel
theorem len_5 : (Str.ofString ")").length = 1 := by decide +kernel
theorem fv_repr {env : Env} {value : Expr} {pos : Pos} {Q : Value → Shared → Prop} {s : Shared}
    (q : wpAny (model PR w) A (eval value env) (fun v s₁ => wpAny (model PR w) A (pyReprObj v) (fun r s₂ => ∃ y t, r = .str y t ∧ y.length ≤ 1000 ∧ ∀ t' tk, Q (.str y t') { s₂ with toks := tk }) E s₁) E s) : wpAny (model PR w) A (eval (.FormattedValue value 114 none pos) env) Q E s := by
  refine wpAny_FormattedValue_repr (wpAny_mono q (fun v s₁ h₁ => wpAny_mono h₁ (fun r s₂ h₂ => ?_) fun _ _ e => e) fun _ _ e => e)
  obtain ⟨y, t, rfl, hl, q⟩ := h₂
  exact formatField_str q (by rw [sizeLine_eq]; omega)
theorem tree_repr {T : TR} {k : Nm} (Cm : Fm w A A₀ base outer env h₀ L p loose mean mg mb) (S : SL h₀ L m h (T.led w ++ mr) pe) (hk : IsNm w pe k T.na) (hs : Sml k) (hg : A.guards = some []) (hd : A.depth < 950) (hu : A.units < 9000)
    (post : ∀ y u h' tk', y.length ≤ 100 → SL h₀ L m h' (T.led w ++ mr) pe → R (.ok (.ret (.str y u))) ⟨h', G, D, tk', O⟩) :
    codeAny (model PR w) A (.call (.ref 384) ⟨[.ref T.t], []⟩) R ⟨h, G, D, tk, O⟩ := by
  refine' enter (binds := [("self", .ref T.t)]) (cl := []) Cm S ?k6 ?k7 ?k8 ?k9 ?kB ?_ ?c2 ?c3 ?c4 ?c5
  case k6 => k_is
  case k7 => k_is
  case k8 => show Around.depth _ < 1000; first | omega | (simp only [und_depth]; omega)
  case k9 => exact BindsTo.of_eq rfl
  case kB => exact locs rfl
  case c2 => decide
  case c3 => exact rfl
  case c4 => exact rfl
  case c5 => exact rfl
  intro g L' h₁ C' S'
  walk_at "ms"
  refine JoinedStr_many (joinParts_cons ?_)
  refine FormattedValue_plain ?_
  walk_at "ms"
  refine cls_of (S'.X C') (TR.inst S') ?_
  refine name_of (S'.X C') ?_
  refine formatField_str (fun t' tk₁ => ?_) (by decide)
  refine ⟨by decide +kernel, joinParts_cons ?_⟩
  walk_at "ms"
  refine ⟨by decide +kernel, joinParts_cons (fv_repr ?_)⟩
  walk_at "ms"
  refine tr_name C' S' ?_
  refine name_repr hg (by show A.units + 3 + 1 < 9900; omega) S' hk hs fun y1 u1 h₂ tk₂ hl1 S₂ => ?_
  refine ⟨y1, u1, rfl, by omega, fun t2 tk₃ => ⟨?_, joinParts_cons ?_⟩⟩
  · simp only [strLen_append, len_e, len_1, len_2, len_3, len_4, len_5, sizeLine_eq] ; omega
  walk_at "ms"
  refine ⟨?_, joinParts_cons (fv_repr ?_)⟩
  · simp only [strLen_append, len_e, len_1, len_2, len_3, len_4, len_5, sizeLine_eq] ; omega
  walk_at "ms"
  refine tr_syn C' S₂ ?_
  refine pyReprObj_none ?_
  refine ⟨_, _, rfl, by decide, fun t3 tk₄ => ⟨?_, joinParts_cons ?_⟩⟩
  · simp only [strLen_append, len_e, len_1, len_2, len_3, len_4, len_5, sizeLine_eq] ; omega
  walk_at "ms"
  refine ⟨?_, joinParts_nil ?_ ?_⟩
  · simp only [strLen_append, len_e, len_1, len_2, len_3, len_4, len_5, sizeLine_eq] ; omega
  · refine leave S₂ fun S₄ => ?_
    refine post _ _ h₂ _ ?_ S₄
    simp only [strLen_append, len_e, len_1, len_2, len_3, len_4, len_5, sizeLine_eq] ; omega
  · simp only [strLen_append, len_e, len_1, len_2, len_3, len_4, len_5, sizeLine_eq] ; omega
end
section
open PyProof.Rows.LCg PySem.W
variable {w : World} {A A₀ : Around} {base h₀ h : Heap} {outer : List Env} {env : Env} {L C : Addr} {p : Program} {loose : List Str} {mean : ExcName → Option Value} {mg mb m : Str → Option Value} {mu mu' mr pe : Lg}
  {G : Array GenState} {D : Drawn} {tk : Nat} {O : OsState} {R : Result → Shared → Prop} {E : Value → Shared → Prop} {pos : Pos} {x : Addr} {ox : Obj} {es es' : List DictEntry} {n n' : Nat} {name : Str} {v : Value}
theorem Fm.in1 (Cm : Fm w A A₀ base outer env h₀ L p loose mean mg mb) : Fm w A.in1 A₀ base outer env h₀ L p loose mean mg mb := ⟨Cm.B, Cm.hA, Cm.hf, Cm.hk, Cm.X, Cm.T⟩
theorem tr_field {T : TR} {k : Nm} {Q : Value → Shared → Prop} (Cm : Fm w A A₀ base outer env h₀ L p loose mean mg mb) (S : SL h₀ L m h (T.led w ++ mr) pe) (hk : IsNm w pe k T.na) (hs : Sml k) (hg : A.guards = some []) (hd : A.depth < 950) (hu : A.units < 8900)
    (q : ∀ y u h' tk', y.length ≤ 100 → SL h₀ L m h' (T.led w ++ mr) pe → Q (.str y u) ⟨h', G, D, tk', O⟩) : wpAny (model PR w) A (formatField (.ref T.t) Str.empty) Q E ⟨h, G, D, tk, O⟩ := by
  refine' kfo_fieldR (s := ⟨h, G, D, tk, O⟩) ?u ?v (S.X Cm) (TR.inst S) ?g ?m ?s ?r ?f ?_
  case u => show A.units + 1 < 9900; omega
  case v => show A.units + 1 + 1 < 9900; omega
  case s => k_is
  case r => k_is
  case f => k_is
  case g => k_is
  case m => k_is
  refine wpAny_call (tree_repr Cm.in1.in1 S hk hs hg hd (by show A.units + 1 + 1 < 9000; omega) fun y u h' tk' hl S' => ?_)
  exact q y u h' tk' hl S'
theorem SL.madeOf {h' : Heap} {e : Addr} {cls : Value} {args : List Value} (S : SL h₀ L m h mu pe) (x : Heap.MadeExcOf h h' e cls args) : ∃ t, SL h₀ L m h' ((e, excO cls t) :: mu) pe := by
  obtain ⟨k, n, t, g, _, _⟩ := x
  have S' := S.keeps k
  have hn : ∀ p ∈ mu ++ pe, p.1 ≠ e := fun p hp q => by
    have z := S.nw.get hp
    rw [q, n] at z
    cases z
  refine ⟨t, S'.fr, ?_, ?_⟩
  · intro p hp
    rcases List.mem_cons.mp hp with rfl | hp
    · refine ⟨g, ?_, ?_⟩
      · rintro rfl
        obtain ⟨_, o, ep, ho, _⟩ := S.fr.ns
        exact absurd (ho.symm.trans n) (by simp)
      · exact S.fr.noneBack n
    · exact S'.nw p hp
  · show (((e, excO cls t) :: (mu ++ pe)).map (·.1)).Nodup
    rw [List.map_cons, List.nodup_cons]
    exact ⟨fun q => by obtain ⟨p, hp, e'⟩ := List.mem_map.mp q; exact hn p hp e', S.nd⟩
theorem raise_own {cx : Str} {env' : Env} {B newId initId : String} {bm : List Value} {np cpos pos : Pos} {arg : Expr} {Q : Flow → Shared → Prop} {s : Shared} (Ow : OwnCls cx C bm newId mg h₀) (FB : ExcBaseFacts B newId initId bm) (hh : A.handled = none)
    (h : wpAny (model PR w) A (eval (.Name cx np) env') (fun f s₁ => f = .ref C ∧ wpAny (model PR w) A (spliced (backTo cpos (starEach [arg] env')))
      (fun vs s₂ => ∃ h₂ tk₂, s₂ = ⟨h₂, G, D, tk₂, O⟩ ∧ vs.length ≤ 1000 ∧ SL h₀ L m h₂ mu pe ∧ ∀ e t h', SL h₀ L m h' ((e, excO (.ref C) t) :: mu) pe → E (.ref e) ⟨h', G, D, tk₂, O⟩) E s₁) E s)
    (hp : (backTo cpos (starEach [] env')).any (·.1) = false) (he : starEach [arg] env' = (false, eval arg env') :: starEach [] env') :
    wpAny (model PR w) A (exec (.Raise (some (.Call (.Name cx np) [arg] [] cpos)) none pos) env') Q E s := by
  obtain ⟨tl, N, nm, q, bs, hdct, sn, sub, ab, col, dd, k0, k1, k2, k3, k5, mN, hC, hN, hni, T⟩ := Ow.obj
  refine wpAny_Raise_call_subT (C := C) (nm := nm) (q := q) (N := N) (bs := bs) (bm := tl) (hdct := hdct) (sn := sn) (sub := sub) (ab := ab) (col := col) (dd := dd) (k0 := k0) (k1 := k1) (k2 := k2) (k3 := k3) (k5 := k5)
    FB (mN := mN) (T.hasType FB.hasBase) hh (by rw [he]; show (false || (backTo cpos (starEach [] env')).any (·.1)) = false; rw [hp]; rfl) hni (wpAny_mono h (fun f s₁ h₁ => ⟨h₁.1, ?_⟩) fun _ _ e => e)
  obtain ⟨rfl, h₁⟩ := h₁
  rw [he] at h₁ ⊢
  refine Calls.evalArgs_plain (wpAny_mono h₁ (fun vs s₂ h₂ => ?_) fun _ _ y => y)
  obtain ⟨h₂, tk₂, rfl, hl, S₂, q'⟩ := h₂
  refine ⟨rfl, by show vs.length ≤ sizeLine; rw [sizeLine_eq]; omega, S₂.fr.keep _ _ hC, hN.keeps S₂.fr.keep, T.keeps S₂.fr.keep, fun h' e hm => ?_⟩
  obtain ⟨t, S₃⟩ := S₂.madeOf hm
  exact q' e t h' S₃
end
section
open PyProof.Rows.LCg PySem.W
variable {w : World} {A A₀ : Around} {base h₀ h : Heap} {outer : List Env} {env : Env} {L C : Addr} {p : Program} {loose : List Str} {mean : ExcName → Option Value} {mg mb m : Str → Option Value} {mu mu' mr pe : Lg}
  {G : Array GenState} {D : Drawn} {tk : Nat} {O : OsState} {R : Result → Shared → Prop} {E : Value → Shared → Prop} {pos : Pos}
def TR.cnt (T : TR) : Int := match T.bv with | none => 0 | some (_, i, _) => i
theorem tr_bvGet {expr : Bool} {T : TR} {Q : Value → Shared → Prop} (Cm : Fm w A A₀ base outer env h₀ L p loose mean mg mb) (S : SL h₀ L m h (T.led w ++ mr) pe) (q : ∀ u, Q (.int T.cnt u) ⟨h, G, D, tk + 1, O⟩) : wpAny (model PR w) A (getAttr (.ref T.t) "branchVersionId" expr) Q E ⟨h, G, D, tk, O⟩ := by
  obtain ⟨t, td, n, t1, t2, t3, na, bv, r⟩ := T
  rcases bv with _ | ⟨t4, i, t5⟩
  · refine' plCls (a := .int 0 701) Cm S (TR.inst S) ?a ?b ?c ?d ?e ?f ?g (q 701)
    case a => k_is
    case b => k_is
    case c => k_is
    case d => k_is
    case e => rfl
    case f => decide
    case g => rfl
  · refine' plGet Cm S (TR.inst S) ?a ?b ?c ?d ?e (q t5) ?f
    case a => k_is
    case b => k_is
    case c => k_is
    case d => k_is
    case e => rfl
    case f => rfl
theorem tr_bvSet {T : TR} {j : Int} {u : Tok} {Q : Unit → Shared → Prop} (Cm : Fm w A A₀ base outer env h₀ L p loose mean mg mb) (S : SL h₀ L m h (T.led w ++ mr) pe)
    (q : ∀ (T' : TR) h', T'.t = T.t → T'.na = T.na → T'.r = T.r → T'.cnt = j → SL h₀ L m h' (T'.led w ++ mr) pe → Q () ⟨h', G, D, tk + 2, O⟩) : wpAny (model PR w) A (setAttr (.ref T.t) "branchVersionId" (.int j u)) Q E ⟨h, G, D, tk, O⟩ := by
  obtain ⟨t, td, n, t1, t2, t3, na, bv, r⟩ := T
  rcases bv with _ | ⟨t4, i, t5⟩
  · refine' plSet (x := t) (dx := td) (es' := treeF w t1 t2 t3 na r.t (some (tk + 1, j, u))) (n' := n + 1) Cm S (TR.inst S) rfl ?a ?b ?c ?d ?e ?f ?g ?h fun h₃ S₃ => q { t := t, td := td, n := n + 1, t1 := t1, t2 := t2, t3 := t3, na := na, bv := some (tk + 1, j, u), r := r } h₃ rfl rfl rfl rfl S₃
    case a => k_is
    case b => k_is
    case c => k_is
    case d => k_is
    case e => rfl
    case f => exact rfl
    case g => exact .tail .head
    case h => simp [treeF]
  · refine' plSet (x := t) (dx := td) (es' := treeF w t1 t2 t3 na r.t (some (t4, j, u))) (n' := n) Cm S (TR.inst S) rfl ?a ?b ?c ?d ?e ?f ?g ?h fun h₃ S₃ => q { t := t, td := td, n := n, t1 := t1, t2 := t2, t3 := t3, na := na, bv := some (t4, j, u), r := r } h₃ rfl rfl rfl rfl S₃
    case a => k_is
    case b => k_is
    case c => k_is
    case d => k_is
    case e => rfl
    case f => exact rfl
    case g => exact .tail .head
    case h => simp [treeF]
end
section
open PyProof.Rows.LCg PySem.W
variable {w : World} {A A₀ : Around} {base h₀ h : Heap} {outer : List Env} {env : Env} {L C : Addr} {p : Program} {loose : List Str} {mean : ExcName → Option Value} {mg mb m : Str → Option Value} {mu mu' mr pe : Lg}
  {G : Array GenState} {D : Drawn} {tk : Nat} {O : OsState} {R : Result → Shared → Prop} {E : Value → Shared → Prop} {pos : Pos}
theorem BindsN.tup {fd : FuncData} {args : Args} {vs : List Value} {front : List (Str × Value)} {nm : Str} (e : bindArgs fd args = newTuple vs >>= fun v => pure (front ++ [(nm, v)])) (hz : vs.length ≤ 1000) :
    BindsN h G D tk O fd args (front ++ [(nm, .ref h.objs.size)]) (tupO vs 0) := by
  intro M A E Q q
  rw [e]
  refine wpAny_bind (wpAny_newObj_type (wpAny_pure q) ?_)
  show vs.toArray.size ≤ sizeLine
  rw [List.size_toArray, sizeLine_eq]; omega
theorem node_nm {expr : Bool} {k : Nm} {x : Addr} {Q : Value → Shared → Prop} (Cm : Fm w A A₀ base outer env h₀ L p loose mean mg mb) (S : SL h₀ L m h mu pe) (hx : IsNode w pe k x) (q : ∀ na, IsNm w pe k na → Q (.ref na) ⟨h, G, D, tk + 1, O⟩) : wpAny (model PR w) A (getAttr (.ref x) "name" expr) Q E ⟨h, G, D, tk, O⟩ := by
  obtain ⟨dx, t, na, n, m1, m2, hk⟩ := hx
  refine' plGet Cm S (InstAt.pl (S.getp m1) (S.getp m2)) ?a ?b ?c ?d ?e (q na hk) ?f
  case a => k_is
  case b => k_is
  case c => k_is
  case d => k_is
  case e => rfl
  case f => rfl
inductive Puts : OR → List (Nm × Addr) → OR → Prop
  | nil {r} : Puts r [] r
  | snoc {r l r1 r2 k x a} : Puts r l r1 → k ∉ r1.xs.map (·.1) → PutRel r1 r2 k a (.ref x) → Puts r (l ++ [(k, x)]) r2
theorem Puts.t {r r' : OR} {l} (h : Puts r l r') : r'.t = r.t := by
  induction h with
  | nil => rfl
  | snoc _ _ x ih => rw [x.t, ih]
theorem Puts.clean {r r' : OR} {l} (h : Puts r l r') (c : Clean r) : Clean r' := by
  induction h with
  | nil => exact c
  | snoc _ _ x ih => exact x.clean ih
theorem Puts.len {r r' : OR} {l} (h : Puts r l r') : r'.xs.length = r.xs.length + l.length ∧ r'.cs.length ≤ r.cs.length + l.length := by
  induction h with
  | nil => exact ⟨rfl, Nat.le_refl _⟩
  | @snoc l r1 r2 k x a _ hk pr ih =>
    have e1 : r2.xs.length = r1.xs.length + 1 := by
      have := congrArg List.length (storedH_keys (xs := r1.xs) (k := k) (a := a) (v := .ref x))
      rw [← pr.xs, atKey_isSome] at this
      simp only [decide_eq_true_eq, if_neg hk, List.length_map, List.length_append, List.length_singleton] at this
      exact this
    have e2 : r2.cs.length ≤ r1.cs.length + 1 := by
      rw [pr.cs]
      split
      · omega
      · simp
    rw [List.length_append, List.length_singleton]
    omega
theorem len_6 : (Str.ofString "MIB subtree ").length = 12 := by decide +kernel
theorem len_7 : (Str.ofString " already registered at ").length = 23 := by decide +kernel
theorem tr_register {T : TR} {l : List (Nm × Addr)} {kt : Nm} (Cm : Fm w A A₀ base outer env h₀ L p loose mean mg mb) (S : SL h₀ L m h (T.led w ++ mr) pe) (ok : T.r.Ok w pe) (hl : l.length = 1 ∨ l.length = 2) (hn : ∀ y ∈ l, IsNode w pe y.1 y.2 ∧ Sml y.1)
    (hkt : IsNm w pe kt T.na) (hst : Sml kt) (hz : T.r.xs.length < 900) (hzc : T.r.cs.length < 900) (hh : A.handled = none) (hg : A.guards = some []) (hd : A.depth < 840) (hu : A.units < 8500)
    (post : ∀ (T' : TR) pe' h' tk', pe ⊆ pe' → T'.t = T.t → T'.na = T.na → T'.cnt = T.cnt + 1 → Puts T.r l T'.r → T'.r.Ok w pe' → SL h₀ L m h' (T'.led w ++ mr) pe' → R (.ok (.ret .none)) ⟨h', G, D, tk', O⟩)
    (err : ∀ (T' : TR) pe' i k x GG e h' tk', pe ⊆ pe' → T'.t = T.t → T'.na = T.na → T'.cnt = T.cnt + 1 → l[i]? = some (k, x) → Puts T.r (l.take i) T'.r → k ∈ T'.r.xs.map (·.1) → T'.r.Ok w pe' → Fr h₀ L GG m → RaisedX base GG (env :: outer) e (.ref 183) ((T'.led w ++ mr) ++ pe') h' → GG.UpToSlots h' →
      (((T'.led w ++ mr) ++ pe').map (·.1)).Nodup → R (.error (.ref e)) ⟨h', G, D, tk', O⟩) :
    codeAny (model PR w) A (.call (.ref 439) ⟨.ref T.t :: refs l, []⟩) R ⟨h, G, D, tk, O⟩ := by
  refine' enterN (binds := [("self", Value.ref T.t), ("subTrees", Value.ref h.objs.size)]) (cl := []) (o := tupO (refs l) 0) Cm S rfl ((S.X Cm) _ _ ?k6) ?k7 ?k8 ?k9 ?kB ?_ ?c2 ?c3 ?c4 ?c5
  case k6 => k_is
  case k7 => k_is
  case k8 => show A.depth < 1000; omega
  case k9 =>
    rcases l with _ | ⟨a, _ | ⟨b, _ | ⟨c, l⟩⟩⟩
    · simp at hl
    · refine' BindsN.tup (front := [("self", Value.ref T.t)]) (nm := "subTrees") (vs := refs [a]) ?e ?z
      case e => exact rfl
      case z => show 1 ≤ 1000; decide
    · refine' BindsN.tup (front := [("self", Value.ref T.t)]) (nm := "subTrees") (vs := refs [a, b]) ?e2 ?z2
      case e2 => exact rfl
      case z2 => show 2 ≤ 1000; decide
    · simp at hl
  case kB => exact locs rfl
  case c2 => decide
  case c3 => exact rfl
  case c4 => exact rfl
  case c5 => exact rfl
  intro g L' h₁ tk₁ C' FG S0
  have S' := S0.toPe
  obtain ⟨pe1, epe1⟩ : ∃ pe1, pe1 = (h.objs.size, tupO (refs l) 0) :: pe := ⟨_, rfl⟩
  rw [← epe1] at S'
  have hpe1 : pe ⊆ pe1 := by rw [epe1]; exact fun _ z => .tail _ z
  walk_at "ms"
  refine wpAny_AugAssign_AttributeAny ?_
  walk_at "ms"
  refine tr_bvGet C' S' fun u => ?_
  walk_at "ms"
  refine PyProof.Rows.iadd_int ?_
  refine tr_bvSet C' S' fun T1 h₂ e1 e2 e3 e4 S₂ => ?_
  obtain ⟨m1, em1, S₃⟩ : ∃ m1 : Str → Option Value, m1 = (fun y => List.lookup y ([("self", Value.ref T.t), ("subTrees", Value.ref h.objs.size)] : List (Str × Value)).reverse) ∧ SL g L' m1 h₂ (T1.led w ++ mr) pe1 := ⟨_, rfl, S₂⟩
  have hm1 : m1 "subTrees" = some (.ref h.objs.size) := by rw [em1]; rfl
  have hms : m1 "self" = some (.ref T.t) := by rw [em1]; rfl
  have htup : (h.objs.size, tupO (refs l) 0) ∈ (T1.led w ++ mr) ++ pe1 := List.mem_append_right _ (by rw [epe1]; exact .head _)
  walk_at "m"
  refine for_loop (h₀ := g) (G := G) (D := D) (O := O) ?_ (fun _ => rfl) ?hE
  case hE => passes_own
  refine' nmL S₃ ?v ?_ ?a ?b ?c
  case a => exact rfl
  case b => exact rfl
  case c => decide
  case v => exact hm1
  refine it_tuple (l := [(h.objs.size, tupO (refs l) 0)]) (by exact hh) S₃ htup (.head _) fun I h₄ oI St src hst0 S₄ => ?_
  refine ⟨I, _, _, St, h₄, _, _, pe1, _, oI, m1, fun i m' mu' pe' => pe' = pe1 ∧ m' "self" = some (.ref T.t) ∧ ∃ T2 : TR, mu' = T2.led w ++ mr ∧ T2.t = T.t ∧ T2.na = T.na ∧ T2.cnt = T.cnt + 1 ∧ Puts T.r (l.take i) T2.r ∧ T2.r.Ok w pe1, rfl, rfl, src, hst0, S₄, ?_, ?_, ?_, ?_⟩
  · exact ⟨rfl, hms, T1, rfl, e1, e2, e4, by rw [e3]; exact .nil, by rw [e3]; exact ok.mono hpe1⟩
  · rintro i m' mu' pe' ⟨rfl, _, T2, rfl, _⟩ p hp
    rw [List.mem_singleton.mp hp]
    exact List.mem_append_right _ (by rw [epe1]; exact .head _)
  · rintro i v m' mu' pe' h tk oI' hi hP ⟨rfl, hms', T2, rfl, f1, f2, f3, f4, ok2⟩ S₅'
    obtain ⟨hi', e'⟩ := refs_get hP
    subst e'
    obtain ⟨hnode, hsm⟩ := hn _ (List.getElem_mem hi')
    have hnode1 : IsNode w pe' (l[i]).1 (l[i]).2 := hnode.mono hpe1
    have hlt2 : (l.take i).length ≤ 2 := by rw [List.length_take]; rcases hl with q | q <;> omega
    have hlen := f4.len
    have S₅ : SL g L' m' h ((I, oI') :: (T2.led w ++ mr)) pe' := S₅'
    refine wpAny_assign_Name (stL S₅ (fun h₆ S₆' => ?_) rfl rfl)
    obtain ⟨m6, em6, S₆⟩ : ∃ m6, m6 = (fun y => if y = ("subTree" : Str) then some (Value.ref (l[i]).2) else m' y) ∧ SL g L' m6 h₆ ((I, oI') :: (T2.led w ++ mr)) pe' := ⟨_, rfl, S₆'⟩
    have h6s : m6 "self" = some (.ref T.t) := by rw [em6]; exact hms'
    have h6t : m6 "subTree" = some (.ref (l[i]).2) := by rw [em6]; rfl
    have S₇ := S₆.drop1
    walk_at "ms"
    refine nmL S₇ h6t ?_ rfl rfl (by decide)
    refine node_nm C' S₇ hnode1 fun na hna => ?_
    walk_at "ms"
    have h6s' : m6 "self" = some (.ref T2.t) := by rw [h6s, f1]
    have hle : T2.r.xs.length < 903 := by omega
    have hlc : T2.r.cs.length < 903 := by omega
    refine nmL S₇ h6s' ?_ rfl rfl (by decide)
    refine tr_vars C' S₇ ?_
    have od : ∀ {h m mr'} (_ : SL g L' m h (T2.led w ++ mr') pe'), OdAt w h pe' T2.r.t T2.r.td _ _ T2.r.xs T2.r.nt := fun S => OR.odAt S.drop1.drop1 (S.X C') ok2.x ok2.st
    refine od_in (by show A.units + 3 + 1 < 9900; omega) (od S₇) hna fun tk₇ => ?_
    walk_at "m"
    by_cases hin : (l[i]).1 ∈ T2.r.xs.map (·.1)
    · rw [decide_eq_true hin, if_pos rfl]
      walk_at "m"
      refine' raise_own (h₀ := g) (L := L') (m := m6) (mu := T2.led w ++ mr) (pe := pe') (G := G) (D := D) (O := O) (C := 183) (bm := [.type "Exception", .type "BaseException", .type "object"]) (own_of_in C'.X (topRead_of C'.T) ?x1 ?x2) PySem.F.excBase_Exception (by exact hh) ?_ ?x3 ?x4
      case x1 => k_is
      case x2 => k_exc
      case x3 => rfl
      case x4 => rfl
      walk_at "nm"
      refine ⟨rfl, ?_⟩
      refine spliced_more ?_
      refine JoinedStr_many (joinParts_cons ?_)
      walk_at "ms"
      refine ⟨by decide +kernel, joinParts_cons (FormattedValue_plain ?_)⟩
      walk_at "ms"
      refine nmL S₇ h6t ?_ rfl rfl (by decide)
      refine node_nm C' S₇ hnode1 fun na2 hna2 => ?_
      refine name_field hg (by show A.units + 3 + 5 < 9900; omega) S₇ hna2 hsm fun y1 u1 h₈ tk₈ hl1 S₈ => ?_
      refine ⟨?_, joinParts_cons ?_⟩
      · simp only [strLen_append, len_e, len_6, len_7, sizeLine_eq] ; omega
      walk_at "ms"
      refine ⟨?_, joinParts_cons (FormattedValue_plain ?_)⟩
      · simp only [strLen_append, len_e, len_6, len_7, sizeLine_eq] ; omega
      walk_at "ms"
      refine nmL S₈ h6s' ?_ rfl rfl (by decide)
      refine tr_field C' S₈ (by rw [f2]; exact hkt.mono hpe1) hst hg (by show A.depth + 1 < 950; omega) (by show A.units + 3 < 8900; omega) fun y2 u2 h₉ tk₉ hl2 S₉ => ?_
      refine ⟨?_, joinParts_nil ?_ ?_⟩
      · simp only [strLen_append, len_e, len_6, len_7, sizeLine_eq] ; omega
      · refine spliced_none ?_
        refine ⟨h₉, _, rfl, by simp, S₉, fun e t h' Se => ?_⟩
        refine ex_leave C'.B rfl rfl Se rfl rfl rfl fun h'' RX up => ?_
        refine err T2 pe' i (l[i]).1 (l[i]).2 g e h'' _ hpe1 f1 f2 f3 (by rw [List.getElem?_eq_getElem hi']) f4 hin ok2 FG RX up ?_
        have := Se.nd
        rw [List.cons_append, List.map_cons, List.nodup_cons] at this
        exact this.2
      · simp only [strLen_append, len_e, len_6, len_7, sizeLine_eq] ; omega
    · rw [decide_eq_false hin, if_neg (by simp)]
      walk_at "ms"
      refine nmL S₇ h6t ?_ rfl rfl (by decide)
      walk_at "ms"
      refine nmL S₇ h6s' ?_ rfl rfl (by decide)
      refine tr_vars C' S₇ ?_
      walk_at "ms"
      refine nmL S₇ h6t ?_ rfl rfl (by decide)
      refine node_nm C' S₇ hnode1 fun na3 hna3 => ?_
      refine od_setItem (od S₇) (wpAny_call ?_)
      have S₈ : SL g L' m6 h₆ (T2.r.led w ++ ((I, oI') :: (T2.t, instObj 544 T2.td) :: (T2.td, T2.dO w) :: mr)) pe' := S₆.perm (by
        exact List.perm_append_comm_assoc [(I, oI'), (T2.t, instObj 544 T2.td), (T2.td, T2.dO w)] (T2.r.led w) mr)
      refine oid_setitem C' S₈ ok2 hna3 (by omega) (by omega) (by show A.depth + 1 < 880; omega) (by show A.units + 3 < 8900; omega) fun r3 h₉ tk₉ pr ok3 S₉ => ?_
      refine wpAny_execs_nil ?_
      obtain ⟨T3, eT3⟩ : ∃ T3 : TR, T3 = { T2 with r := r3 } := ⟨_, rfl⟩
      have S₁₀ : SL g L' m6 h₉ ((I, oI') :: (T3.led w ++ mr)) pe' := by
        refine S₉.perm ?_
        subst eT3
        show List.Perm _ ((I, oI') :: ((T2.t, instObj 544 T2.td) :: (T2.td, dictOf (treeF w T2.t1 T2.t2 T2.t3 T2.na r3.t T2.bv) T2.n) :: r3.led w ++ mr))
        rw [pr.t]
        exact (List.perm_append_comm_assoc [(I, oI'), (T2.t, instObj 544 T2.td), (T2.td, T2.dO w)] (r3.led w) mr).symm
      refine ⟨h₉, tk₉, m6, _, pe', rfl, ⟨rfl, h6s, T3, rfl, ?_, ?_, ?_, ?_, ?_⟩, S₁₀⟩
      · rw [eT3]; exact f1
      · rw [eT3]; exact f2
      · rw [eT3]; exact f3
      · rw [eT3, List.take_succ_eq_append_getElem hi']
        exact .snoc f4 hin pr
      · rw [eT3]; exact ok3
  · rintro m' mu' pe' h tk ⟨rfl, hms', T2, rfl, f1, f2, f3, f4, ok2⟩ S₅'
    have S₅ : SL g L' m' h (T2.led w ++ mr) pe' := S₅'
    refine wpAny_execs_nil ?_
    refine leave S₅ fun S₆ => ?_
    refine post T2 pe' h tk hpe1 f1 f2 f3 ?_ ok2 S₆
    rw [show (refs l).toArray.size = l.length by rw [List.size_toArray, refs_length], List.take_length] at f4
    exact f4
end
section
open PyProof.Rows.LCg PySem.W
variable {w : World} {A A₀ : Around} {base h₀ h : Heap} {outer : List Env} {env : Env} {L C : Addr} {p : Program} {loose : List Str} {mean : ExcName → Option Value} {mg mb m : Str → Option Value} {mu mu' mr pe : Lg}
  {G : Array GenState} {D : Drawn} {tk : Nat} {O : OsState} {R : Result → Shared → Prop} {E : Value → Shared → Prop} {pos : Pos}
inductive Dels : OR → List (Nm × Addr) → OR → Prop
  | nil {r} : Dels r [] r
  | snoc {r l r1 r2 k a} : Dels r l r1 → k ∈ r1.xs.map (·.1) → DelRel r1 r2 k → Dels r (l ++ [(k, a)]) r2
theorem Dels.t {r r' : OR} {l} (h : Dels r l r') : r'.t = r.t := by
  induction h with
  | nil => rfl
  | snoc _ _ x ih => rw [x.t, ih]
theorem Dels.clean {r r' : OR} {l} (h : Dels r l r') (c : Clean r) : Clean r' := by
  induction h with
  | nil => exact c
  | snoc _ _ x ih => exact x.clean
theorem cutH_len {xs : Ents} {k : Nm} : (cutH xs k).length ≤ xs.length := by unfold cutH; exact List.length_filter_le ..
theorem Dels.len {r r' : OR} {l} (h : Dels r l r') : r'.xs.length ≤ r.xs.length ∧ r'.cs.length ≤ r.cs.length := by
  induction h with
  | nil => exact ⟨Nat.le_refl _, Nat.le_refl _⟩
  | @snoc l r1 r2 k a _ hk x ih =>
    have h1 := cutH_len (xs := r1.xs) (k := k)
    have h2 := cutH_len (xs := r1.cs) (k := k)
    rw [x.xs, x.cs]
    omega
theorem len_8 : (Str.ofString " not registered at ").length = 19 := by decide +kernel
theorem tr_unregister {T : TR} {l : List (Nm × Addr)} {kt : Nm} (Cm : Fm w A A₀ base outer env h₀ L p loose mean mg mb) (S : SL h₀ L m h (T.led w ++ mr) pe) (ok : T.r.Ok w pe) (hl : l.length = 1 ∨ l.length = 2) (hn : ∀ y ∈ l, IsNm w pe y.1 y.2 ∧ Sml y.1)
    (hkt : IsNm w pe kt T.na) (hst : Sml kt) (hz : T.r.xs.length < 900) (hzc : T.r.cs.length < 900) (hh : A.handled = none) (hg : A.guards = some []) (hd : A.depth < 840) (hu : A.units < 8500)
    (post : ∀ (T' : TR) pe' h' tk', pe ⊆ pe' → T'.t = T.t → T'.na = T.na → T'.cnt = T.cnt + 1 → Dels T.r l T'.r → T'.r.Ok w pe' → SL h₀ L m h' (T'.led w ++ mr) pe' → R (.ok (.ret .none)) ⟨h', G, D, tk', O⟩)
    (err : ∀ (T' : TR) pe' i k x GG e h' tk', pe ⊆ pe' → T'.t = T.t → T'.na = T.na → T'.cnt = T.cnt + 1 → l[i]? = some (k, x) → Dels T.r (l.take i) T'.r → k ∉ T'.r.xs.map (·.1) → T'.r.Ok w pe' → Fr h₀ L GG m → RaisedX base GG (env :: outer) e (.ref 183) ((T'.led w ++ mr) ++ pe') h' → GG.UpToSlots h' →
      (((T'.led w ++ mr) ++ pe').map (·.1)).Nodup → R (.error (.ref e)) ⟨h', G, D, tk', O⟩) :
    codeAny (model PR w) A (.call (.ref 446) ⟨.ref T.t :: refs l, []⟩) R ⟨h, G, D, tk, O⟩ := by
  refine' enterN (binds := [("self", Value.ref T.t), ("names", Value.ref h.objs.size)]) (cl := []) (o := tupO (refs l) 0) Cm S rfl ((S.X Cm) _ _ ?k6) ?k7 ?k8 ?k9 ?kB ?_ ?c2 ?c3 ?c4 ?c5
  case k6 => k_is
  case k7 => k_is
  case k8 => show A.depth < 1000; omega
  case k9 =>
    rcases l with _ | ⟨a, _ | ⟨b, _ | ⟨c, l⟩⟩⟩
    · simp at hl
    · refine' BindsN.tup (front := [("self", Value.ref T.t)]) (nm := "names") (vs := refs [a]) ?e ?z
      case e => exact rfl
      case z => show 1 ≤ 1000; decide
    · refine' BindsN.tup (front := [("self", Value.ref T.t)]) (nm := "names") (vs := refs [a, b]) ?e2 ?z2
      case e2 => exact rfl
      case z2 => show 2 ≤ 1000; decide
    · simp at hl
  case kB => exact locs rfl
  case c2 => decide
  case c3 => exact rfl
  case c4 => exact rfl
  case c5 => exact rfl
  intro g L' h₁ tk₁ C' FG S0
  have S' := S0.toPe
  obtain ⟨pe1, epe1⟩ : ∃ pe1, pe1 = (h.objs.size, tupO (refs l) 0) :: pe := ⟨_, rfl⟩
  rw [← epe1] at S'
  have hpe1 : pe ⊆ pe1 := by rw [epe1]; exact fun _ z => .tail _ z
  walk_at "ms"
  refine wpAny_AugAssign_AttributeAny ?_
  walk_at "ms"
  refine tr_bvGet C' S' fun u => ?_
  walk_at "ms"
  refine PyProof.Rows.iadd_int ?_
  refine tr_bvSet C' S' fun T1 h₂ e1 e2 e3 e4 S₂ => ?_
  obtain ⟨m1, em1, S₃⟩ : ∃ m1 : Str → Option Value, m1 = (fun y => List.lookup y ([("self", Value.ref T.t), ("names", Value.ref h.objs.size)] : List (Str × Value)).reverse) ∧ SL g L' m1 h₂ (T1.led w ++ mr) pe1 := ⟨_, rfl, S₂⟩
  have hm1 : m1 "names" = some (.ref h.objs.size) := by rw [em1]; rfl
  have hms : m1 "self" = some (.ref T.t) := by rw [em1]; rfl
  have htup : (h.objs.size, tupO (refs l) 0) ∈ (T1.led w ++ mr) ++ pe1 := List.mem_append_right _ (by rw [epe1]; exact .head _)
  walk_at "m"
  refine for_loop (h₀ := g) (G := G) (D := D) (O := O) ?_ (fun _ => rfl) ?hE
  case hE => passes_own
  refine' nmL S₃ ?v ?_ ?a ?b ?c
  case a => exact rfl
  case b => exact rfl
  case c => decide
  case v => exact hm1
  refine it_tuple (l := [(h.objs.size, tupO (refs l) 0)]) (by exact hh) S₃ htup (.head _) fun I h₄ oI St src hst0 S₄ => ?_
  refine ⟨I, _, _, St, h₄, _, _, pe1, _, oI, m1, fun i m' mu' pe' => pe' = pe1 ∧ m' "self" = some (.ref T.t) ∧ ∃ T2 : TR, mu' = T2.led w ++ mr ∧ T2.t = T.t ∧ T2.na = T.na ∧ T2.cnt = T.cnt + 1 ∧ Dels T.r (l.take i) T2.r ∧ T2.r.Ok w pe1, rfl, rfl, src, hst0, S₄, ?_, ?_, ?_, ?_⟩
  · exact ⟨rfl, hms, T1, rfl, e1, e2, e4, by rw [e3]; exact .nil, by rw [e3]; exact ok.mono hpe1⟩
  · rintro i m' mu' pe' ⟨rfl, _, T2, rfl, _⟩ p hp
    rw [List.mem_singleton.mp hp]
    exact List.mem_append_right _ (by rw [epe1]; exact .head _)
  · rintro i v m' mu' pe' h tk oI' hi hP ⟨rfl, hms', T2, rfl, f1, f2, f3, f4, ok2⟩ S₅'
    obtain ⟨hi', e'⟩ := refs_get hP
    subst e'
    obtain ⟨hnode, hsm⟩ := hn _ (List.getElem_mem hi')
    have hnode1 : IsNm w pe' (l[i]).1 (l[i]).2 := hnode.mono hpe1
    have hlt2 : (l.take i).length ≤ 2 := by rw [List.length_take]; rcases hl with q | q <;> omega
    have hlen := f4.len
    have S₅ : SL g L' m' h ((I, oI') :: (T2.led w ++ mr)) pe' := S₅'
    refine wpAny_assign_Name (stL S₅ (fun h₆ S₆' => ?_) rfl rfl)
    obtain ⟨m6, em6, S₆⟩ : ∃ m6, m6 = (fun y => if y = ("name" : Str) then some (Value.ref (l[i]).2) else m' y) ∧ SL g L' m6 h₆ ((I, oI') :: (T2.led w ++ mr)) pe' := ⟨_, rfl, S₆'⟩
    have h6s : m6 "self" = some (.ref T.t) := by rw [em6]; exact hms'
    have h6t : m6 "name" = some (.ref (l[i]).2) := by rw [em6]; rfl
    have S₇ := S₆.drop1
    walk_at "ms"
    refine nmL S₇ h6t ?_ rfl rfl (by decide)
    walk_at "ms"
    have h6s' : m6 "self" = some (.ref T2.t) := by rw [h6s, f1]
    have hle : T2.r.xs.length < 900 := by omega
    have hlc : T2.r.cs.length < 900 := by omega
    refine nmL S₇ h6s' ?_ rfl rfl (by decide)
    refine tr_vars C' S₇ ?_
    have od : ∀ {h m mr'} (_ : SL g L' m h (T2.led w ++ mr') pe'), OdAt w h pe' T2.r.t T2.r.td _ _ T2.r.xs T2.r.nt := fun S => OR.odAt S.drop1.drop1 (S.X C') ok2.x ok2.st
    refine od_notIn (by show A.units + 3 + 1 < 9900; omega) (od S₇) hnode1 fun tk₇ => ?_
    walk_at "m"
    by_cases hin : (l[i]).1 ∈ T2.r.xs.map (·.1)
    · rw [if_neg (by simp [hin])]
      walk_at "m"
      walk_at "m"
      walk_at "del"
      walk_at "ms"
      refine nmL S₇ h6s' ?_ rfl rfl (by decide)
      refine tr_vars C' S₇ ?_
      walk_at "ms"
      refine nmL S₇ h6t ?_ rfl rfl (by decide)
      refine od_delItem (od S₇) (wpAny_call ?_)
      have S₈ : SL g L' m6 h₆ (T2.r.led w ++ ((I, oI') :: (T2.t, instObj 544 T2.td) :: (T2.td, T2.dO w) :: mr)) pe' := S₆.perm (by
        exact List.perm_append_comm_assoc [(I, oI'), (T2.t, instObj 544 T2.td), (T2.td, T2.dO w)] (T2.r.led w) mr)
      refine oid_delitem C' S₈ ok2 hnode1 hin (by omega) (by omega) (by show A.depth + 1 < 880; omega) (by show A.units + 3 < 8900; omega) fun r3 h₉ tk₉ pr ok3 S₉ => ?_
      refine wpAny_deleteEach_nil ?_
      walk_at "m"
      obtain ⟨T3, eT3⟩ : ∃ T3 : TR, T3 = { T2 with r := r3 } := ⟨_, rfl⟩
      have S₁₀ : SL g L' m6 h₉ ((I, oI') :: (T3.led w ++ mr)) pe' := by
        refine S₉.perm ?_
        subst eT3
        show List.Perm _ ((I, oI') :: ((T2.t, instObj 544 T2.td) :: (T2.td, dictOf (treeF w T2.t1 T2.t2 T2.t3 T2.na r3.t T2.bv) T2.n) :: r3.led w ++ mr))
        rw [pr.t]
        exact (List.perm_append_comm_assoc [(I, oI'), (T2.t, instObj 544 T2.td), (T2.td, T2.dO w)] (r3.led w) mr).symm
      refine ⟨h₉, tk₉, m6, _, pe', rfl, ⟨rfl, h6s, T3, rfl, ?_, ?_, ?_, ?_, ?_⟩, S₁₀⟩
      · rw [eT3]; exact f1
      · rw [eT3]; exact f2
      · rw [eT3]; exact f3
      · rw [eT3, List.take_succ_eq_append_getElem hi']
        exact .snoc f4 hin pr
      · rw [eT3]; exact ok3
    · rw [if_pos (by simp [hin])]
      walk_at "m"
      refine' raise_own (h₀ := g) (L := L') (m := m6) (mu := T2.led w ++ mr) (pe := pe') (G := G) (D := D) (O := O) (C := 183) (bm := [.type "Exception", .type "BaseException", .type "object"]) (own_of_in C'.X (topRead_of C'.T) ?x1 ?x2) PySem.F.excBase_Exception (by exact hh) ?_ ?x3 ?x4
      case x1 => k_is
      case x2 => k_exc
      case x3 => rfl
      case x4 => rfl
      walk_at "nm"
      refine ⟨rfl, ?_⟩
      refine spliced_more ?_
      refine JoinedStr_many (joinParts_cons ?_)
      walk_at "ms"
      refine ⟨by decide +kernel, joinParts_cons (FormattedValue_plain ?_)⟩
      walk_at "ms"
      refine nmL S₇ h6t ?_ rfl rfl (by decide)
      refine name_field hg (by show A.units + 3 + 5 < 9900; omega) S₇ hnode1 hsm fun y1 u1 h₈ tk₈ hl1 S₈ => ?_
      refine ⟨?_, joinParts_cons ?_⟩
      · simp only [strLen_append, len_e, len_6, len_8, sizeLine_eq] ; omega
      walk_at "ms"
      refine ⟨?_, joinParts_cons (FormattedValue_plain ?_)⟩
      · simp only [strLen_append, len_e, len_6, len_8, sizeLine_eq] ; omega
      walk_at "ms"
      refine nmL S₈ h6s' ?_ rfl rfl (by decide)
      refine tr_field C' S₈ (by rw [f2]; exact hkt.mono hpe1) hst hg (by show A.depth + 1 < 950; omega) (by show A.units + 3 < 8900; omega) fun y2 u2 h₉ tk₉ hl2 S₉ => ?_
      refine ⟨?_, joinParts_nil ?_ ?_⟩
      · simp only [strLen_append, len_e, len_6, len_8, sizeLine_eq] ; omega
      · refine spliced_none ?_
        refine ⟨h₉, _, rfl, by simp, S₉, fun e t h' Se => ?_⟩
        refine ex_leave C'.B rfl rfl Se rfl rfl rfl fun h'' RX up => ?_
        refine err T2 pe' i (l[i]).1 (l[i]).2 g e h'' _ hpe1 f1 f2 f3 (by rw [List.getElem?_eq_getElem hi']) f4 hin ok2 FG RX up ?_
        have := Se.nd
        rw [List.cons_append, List.map_cons, List.nodup_cons] at this
        exact this.2
      · simp only [strLen_append, len_e, len_6, len_8, sizeLine_eq] ; omega
  · rintro m' mu' pe' h tk ⟨rfl, hms', T2, rfl, f1, f2, f3, f4, ok2⟩ S₅'
    have S₅ : SL g L' m' h (T2.led w ++ mr) pe' := S₅'
    refine wpAny_execs_nil ?_
    refine leave S₅ fun S₆ => ?_
    refine post T2 pe' h tk hpe1 f1 f2 f3 ?_ ok2 S₆
    rw [show (refs l).toArray.size = l.length by rw [List.size_toArray, refs_length], List.take_length] at f4
    exact f4
end
section
open PySem.W
variable {w : World} {A : Around} {E : Value → Shared → Prop} {h : Heap} {g : Array GenState} {d : Drawn} {t : Nat} {os : OsState} {R : Result → Shared → Prop}
variable {nm q : Str} {C N : Addr} {bs bm bmB : List Value} {hdct : Bool} {sn : List Str} {sub : List Value} {ab : Bool} {col : Option Bool} {dd : Option Addr} {k0 k1 k2 k3 k5 : Option Value} {B newId initId : String} {rest : List Value} {kw : List (Str × Value)}
theorem exk_check {M : Model} {Q : Unit → Shared → Prop} (F : ExcBaseFacts B newId initId bmB) (hB : bm.contains (.type B) = true) (hC : h.get? C = some (excClassObj nm q C N bs bm hdct sn sub ab col dd k0 k1 k2 k3 k5 newId))
    (hq : Q () ⟨h, g, d, t, os⟩) : wpAny M A (checkBuiltinCall newId ⟨.ref C :: rest, kw⟩) Q E ⟨h, g, d, t, os⟩ := by
  have hcont : (Value.ref C :: bm).contains (.type B) = true := by rw [List.contains_cons, hB, Bool.or_true]
  have hstar := F.noStar
  simp only [checkBuiltinCall, F.newKind, F.newSplit, F.newRow]
  repeat (first | refine wpAny_loadPart_at hC ?_ | (refine wpAny_isSubtype_exc hC ?_; rw [hcont]) | refine wpAny_staticBase_exc hC ?_ | refine wpAny_madeBy_exc hC ?_ | simp only [bne_self_eq_false, Bool.false_eq_true, if_false] | wp_step)
  exact hq
theorem exk_new (F : ExcBaseFacts B newId initId bmB) (hB : bm.contains (.type B) = true) (hA : bm.contains (.type "AttributeError") = false) (hN : bm.contains (.type "NameError") = false) (hC : h.get? C = some (excClassObj nm q C N bs bm hdct sn sub ab col dd k0 k1 k2 k3 k5 newId))
    (hq : R (.ok (.ret (.ref (h.objs.size + 1)))) ⟨(h.push { cls := .type "tuple", data := .seq rest.toArray }).push
      { cls := .ref C, data := .fields #[.ref h.objs.size, .none, .none, .none, .bool false, .none] }, g, d, t, os⟩) (hrest : rest.length ≤ sizeLine := by size_fits) :
    codeAny (model PR w) A (.builtin newId ⟨.ref C :: rest, kw⟩) R ⟨h, g, d, t, os⟩ := by
  have hends := F.ends
  have hcB : (Value.ref C :: bm).contains (.type B) = true := by rw [List.contains_cons, hB, Bool.or_true]
  have hcA : (Value.ref C :: bm).contains (.type "AttributeError") = false := by rw [List.contains_cons, hA]; rfl
  have hcN : (Value.ref C :: bm).contains (.type "NameError") = false := by rw [List.contains_cons, hN]; rfl
  refine codeAny_builtinAt F.entry ?_
  unfold Builtin.«BaseException.__new__»
  refine _root_.PySem.wpAt_bind ?_
  show _root_.PySem.wpAt _ _ _ (stack >>= _) _ _ _
  refine _root_.PySem.wpAt_bind (_root_.PySem.wpAt_stack fun p below => _root_.PySem.wpAt_of_wpAny ?_)
  wp_walk
  refine _root_.PySem.wpAt_of_wpAny ?_
  rw [F.owner]
  repeat (first | with_reducible refine wpAny_madeHere_exc F.canon hC ?_ | with_reducible refine wpAny_loadPart_at hC ?_ | (with_reducible refine wpAny_isSubtype_exc hC ?_; first | rw [hcB] | rw [hcA] | rw [hcN]) | wp_step)
  show R _ _
  rw [Heap.size_push]
  exact hq
theorem exk_core {init : Value} (F : ExcBaseFacts B newId initId bmB) (hB : bm.contains (.type B) = true) (hA : bm.contains (.type "AttributeError") = false) (hN : bm.contains (.type "NameError") = false) (hC : h.get? C = some (excClassObj nm q C N bs bm hdct sn sub ab col dd k0 k1 k2 k3 k5 newId))
    (call : Looks (model PR w) h (specialOf (.ref C) "__call__") (some (.builtin "type.__call__"))) (typ : Looks (model PR w) h (isInstance (.ref C) (.type "type")) true)
    (self : Looks (model PR w) h (isSubtype (.ref C) (.ref C)) true) (hi : Looks (model PR w) h (typeLookup (.ref C) "__init__") (some init)) (hb : ∀ self, Looks (model PR w) h (bindSpecial init self) (init, [self]))
    (hrest : rest.length ≤ sizeLine)
    (hq : codeAny (model PR w) (A.under (.builtin "type.__call__" ⟨.ref C :: rest, kw⟩)) (.call init ⟨.ref (h.objs.size + 1) :: rest, kw⟩) (InitBack (h.objs.size + 1) R)
      ⟨(h.push { cls := .type "tuple", data := .seq rest.toArray }).push { cls := .ref C, data := .fields #[.ref h.objs.size, .none, .none, .none, .bool false, .none] }, g, d, t, os⟩) :
    codeAny (model PR w) A (.call (.ref C) ⟨rest, kw⟩) R ⟨h, g, d, t, os⟩ := by
  refine codeAny_of_tree ?_
  show wpAny _ _ (callAny (.ref C) _) _ _ _
  refine nd_load hC ?_
  show wpAny _ _ (callAny.viaDunder (.ref C) _) _ _ _
  unfold callAny.viaDunder
  refine wpAny_bind (call.at ?_)
  dsimp only
  rw [tc_bind]
  refine wpAny_bind (wpAny_pure (wpAny_bind (wpAny_pure ?_)))
  refine wpAny_pure (a := PySem.Fin.again (.call (.builtin "type.__call__") ⟨.ref C :: rest, kw⟩)) (And.intro rfl ?_)
  refine codeAny_call_builtin_at (Code.quiet_builtin _ (by decide +kernel)) PySem.entry_typeCall (check_slot tc_kind tc_split typ (tc_args _ _ _) ?_)
  unfold Builtin.«type.__call__»
  have made : Looks (model PR w) h (Bind.madeBy (.ref C)) (some newId) := by
    intro A' Q' E' s' k q'
    obtain ⟨hh, g', d', t', os'⟩ := s'
    exact wpAny_madeBy_exc (k _ _ hC) q'
  have hm : Looks (model PR w) h (mroOf (.ref C)) (.ref C :: bm) := ((Looks.ld (part := none) hC).andThen .now).andThen .now
  repeat (first | with_reducible refine wpAny_call ?_ | lk)
  refine codeAny_call_builtin_code (Code.quiet_builtin _ F.quiet) (exk_check F hB hC ?_)
  refine exk_new F hB hA hN hC ?_ hrest
  have k : ∀ b o, h.get? b = some o → ((h.push { cls := .type "tuple", data := .seq rest.toArray }).push { cls := .ref C, data := .fields #[.ref h.objs.size, .none, .none, .none, .bool false, .none] }).get? b = some o := fun b o e => Heap.get?_push_of_some _ (Heap.get?_push_of_some _ e)
  have hx : ((h.push { cls := .type "tuple", data := .seq rest.toArray }).push { cls := .ref C, data := .fields #[.ref h.objs.size, .none, .none, .none, .bool false, .none] }).get? (h.objs.size + 1) = some { cls := .ref C, data := .fields #[.ref h.objs.size, .none, .none, .none, .bool false, .none] } := by heap_get
  have t1 : Looks (model PR w) ((h.push { cls := .type "tuple", data := .seq rest.toArray }).push { cls := .ref C, data := .fields #[.ref h.objs.size, .none, .none, .none, .bool false, .none] }) (typeOf (.ref (h.objs.size + 1))) (.ref C) := (Looks.ld hx).andThen .now
  have s1 := self.keeps k
  have i1 := hi.keeps k
  have b1 := (hb (.ref (h.objs.size + 1))).keeps k
  show wpAny _ _ _ _ _ _
  unfold isInstance callSpecial? specialOf
  repeat (first | with_reducible refine wpAny_call ?_ | lk)
  refine codeAny_mono hq fun r s' z => ?_
  rcases r with e | (v | _ | _ | _) <;> first | exact z | exact z.elim | skip
  obtain ⟨rfl, z⟩ := z
  exact wpAny_pure (wpAny_pure z)
end
theorem entry_unchain : entryFor table "proto.unchain" = some Builtin.«proto.unchain» := entryFor_of_fast (by kernel_rfl)
section
open PySem.W
variable {w : World} {A : Around} {E : Value → Shared → Prop} {h h₀ : Heap} {L : Addr} {m : Str → Option Value} {mu pe : Lg} {G : Array GenState} {D : Drawn} {tk : Nat} {O : OsState} {env : Env} {e eh t C : Addr} {cls c2 : Value} {dd : Option Addr}
abbrev excD (cls c2 : Value) (t : Addr) (dd : Option Addr) : Obj := { cls := cls, dict := dd, data := .fields #[.ref t, .none, c2, .none, .bool false, .none] }
theorem raiseStmt_obj {x : Sem Value} {Q : Flow → Shared → Prop} {s : Shared} (q : ktsIn (hd.heap_39 w.params) C "BaseException" = true)
    (hx : wpAny (model PR w) A x (fun v s₁ => ∃ e t dd, v = .ref e ∧ (hd.heap_39 w.params).In s₁.heap ∧ s₁.heap.get? e = some (excD (.ref C) .none t dd) ∧ wpAny (model PR w) A (raiseNew (.ref e) : Sem Flow) Q E s₁) E s) :
    wpAny (model PR w) A (raiseStmt env (some x) none) Q E s := by
  unfold raiseStmt
  refine wpAny_bind (wpAny_mono hx (fun v s₁ h₁ => ?_) fun _ _ x => x)
  obtain ⟨e, t, dd, rfl, X, he, hE⟩ := h₁
  obtain ⟨nm, q2, N, bs, bm, hdct, sn, sub, ab, col, dd', k0, k1, k2, k3, k5, newId, hC, hbase, hbT⟩ := kts_cls X q
  obtain ⟨hp, g, d, tk, os⟩ := s₁
  have hcB : (Value.ref C :: bm).contains (.type "BaseException") = true := by rw [List.contains_cons, hbase, Bool.or_true]
  repeat (first | with_reducible refine wpAny_loadPart_at he ?_ | with_reducible refine wpAny_loadPart_at hC ?_ | (with_reducible refine wpAny_isSubtype_exc hC ?_; rw [hcB]) | wp_step)
  exact hE
theorem exec_raise_obj {x : Expr} {pos : Pos} {Q : Flow → Shared → Prop} {s : Shared} (q : ktsIn (hd.heap_39 w.params) C "BaseException" = true)
    (hx : wpAny (model PR w) A (eval x env) (fun v s₁ => ∃ e t dd, v = .ref e ∧ (hd.heap_39 w.params).In s₁.heap ∧ s₁.heap.get? e = some (excD (.ref C) .none t dd) ∧ wpAny (model PR w) A (raiseNew (.ref e) : Sem Flow) Q E s₁) E s) :
    wpAny (model PR w) A (exec (.Raise (some x) none pos) env) Q E s := by
  rw [arm_exec_Raise]
  first
    | exact wpAny_bind (wpAny_standAt (raiseStmt_obj q (wpAny_bind (wpAny_mono hx (fun v s₁ h₁ => wpAny_bind (wpAny_standAt (wpAny_pure h₁))) fun _ _ x => x))))
    | (simp only [evalOpt, Option.map]; exact wpAny_bind (wpAny_standAt (raiseStmt_obj q (wpAny_bind (wpAny_mono hx (fun v s₁ h₁ => wpAny_bind (wpAny_standAt (wpAny_pure h₁))) fun _ _ x => x)))))
    | (show wpAny _ A (do standAt pos; raiseStmt env (some (do let v ← eval x env; standAt pos; pure v)) none) Q E s; exact wpAny_bind (wpAny_standAt (raiseStmt_obj q (wpAny_bind (wpAny_mono hx (fun v s₁ h₁ => wpAny_bind (wpAny_standAt (wpAny_pure h₁))) fun _ _ x => x)))))
theorem mapF2 : Obj.mapFields (·.setIfInBounds 2 (.ref eh)) (excD cls .none t dd) = excD cls (.ref eh) t dd := rfl
theorem raiseNew_in {α : Type} {oh : Obj} {vs : Array Value} {Q : α → Shared → Prop} (ha : A.handled = some (.ref eh)) (ne : eh ≠ e) (hoh : h.get? eh = some oh) (hd : oh.data = .fields vs) (h2 : vs[2]? = some .none)
    (S : SL h₀ L m h ((e, excD cls .none t dd) :: mu) pe) (q : ∀ h', SL h₀ L m h' ((e, excD cls (.ref eh) t dd) :: mu) pe → E (.ref e) ⟨h', G, D, tk, O⟩) :
    wpAny (model PR w) A (raiseNew (.ref e) : Sem α) Q E ⟨h, G, D, tk, O⟩ := by
  unfold raiseNew
  refine wpAny_bind (wpAny_handled ?_)
  rw [ha]
  dsimp only
  have hne : (Value.ref eh != Value.ref e) = true := by
    rw [bne_iff_ne]
    intro q
    cases q
    exact ne rfl
  rw [if_pos hne]
  refine wpAny_bind (wpAny_holding (wpAny_runValue (codeAny_builtin entry_unchain ?_)))
  unfold Builtin.«proto.unchain»
  dsimp only
  refine wpAny_bind (wpAny_field (s := ⟨h, G, D, tk, O⟩) hoh hd h2 ?_)
  refine wpAny_pure ?_
  have he := S.get (.head _)
  refine wpAny_bind (wpAny_bind (wpAny_load he ?_))
  dsimp only
  rw [if_pos (by simp)]
  refine wpAny_update he (wpAny_throw ?_)
  exact q _ (SL.update (Obj.mapFields (·.setIfInBounds 2 (.ref eh))) S .head)
end
section
open PyProof.Rows.LCg PySem.W
variable {w : World} {A A₀ : Around} {base h₀ h g : Heap} {outer : List Env} {env : Env} {L e t : Addr} {p : Program} {loose : List Str} {mean : ExcName → Option Value} {mg mb m : Str → Option Value} {mu mu' pe : Lg}
  {G : Array GenState} {D : Drawn} {tk : Nat} {O : OsState} {R : Result → Shared → Prop} {name qual : Str} {params : Arguments} {body : List Stmt} {scope : Scope} {cl : List (Str × Addr)} {dV kV doc pm cdv ct oc : Value} {an od : Option Addr} {osl : Array (Option Value)} {f : Addr} {args : Args} {binds : List (Str × Value)} {o : Obj} {v c2 : Value}
theorem enterH (C : Fm w A A₀ base outer env h₀ L p loose mean mg mb) (S : SL h₀ L m h mu pe)
    (ho : h.get? f = some ⟨oc, od, .func (fnX name qual params body scope cl dV kV doc pm an cdv ct), osl⟩) (hcd : codeIn (hd.heap_39 w.params) cdv qual = true) (hroom : A.depth < recursionLimit)
    (hbind : ∀ (A : Around) (E : Value → Shared → Prop) (Q : List (Str × Value) → Shared → Prop), (∀ h' tk', SL h₀ L m h' mu' pe → Q binds ⟨h', G, D, tk', O⟩) → wpAny (model PR w) A (bindArgs (fnX name qual params body scope cl dV kV doc pm an cdv ct) args) Q E ⟨h, G, D, tk, O⟩) (hloc : ∀ y ∈ binds, scope.names.lookup y.1 = some .local)
    (k : ∀ g L' h₁ tk', Fm w (A.deeper (envX qual scope L' f cdv cl)) A base (env :: outer) (envX qual scope L' f cdv cl) g L' p loose mean mg mb → Fr h₀ L g m → SL g L' (fun y => binds.reverse.lookup y) h₁ mu' pe →
      wpAny (model PR w) (A.deeper (envX qual scope L' f cdv cl)) (execs body (envX qual scope L' f cdv cl)) (Ret R h₀ L m g) (Err w A (envX qual scope L' f cdv cl) R) ⟨h₁, G, D, tk', O⟩)
    (hcell : ∀ x ∈ scope.names, x.2 ≠ .cell) (hco : scope.isCoroutine = false) (hgen : scope.isGenerator = false) (hk : scope.kind = .function) :
    codeAny (model PR w) A (.call (.ref f) args) R ⟨h, G, D, tk, O⟩ := by
  refine codeAny_call_function (s := ⟨h, G, D, tk, O⟩) hroom ho rfl hco hgen rfl (codeRec_of (C.X.keeps S.fr.keep) hcd) (hbind _ _ _ fun h₂ tk₂ S' => ?_)
  obtain ⟨FG, BG, st, lv⟩ := groundX (R := R) C.B (s := ⟨h₂, G, D, tk₂, O⟩) S'.fr S'.nw C.hA C.hf C.hk
  refine wpAny_newFunctionEnv hcell hloc (fun h₁ hns hsb => ⟨((C.T.nolimit).keeps S'.fr.keep).fresh _ hsb, ?_⟩) hk
  refine codeAny_func ?_
  have hk₁ : ∀ b o', h₂.get? b = some o' → h₁.get? b = some o' := fun b o' e => hsb.extBut b o' (Nat.ne_of_lt (Heap.lt_size e)) (Heap.get?_push_of_some _ e)
  exact wpAny_mono (k _ h₂.objs.size h₁ _ ⟨BG, by rw [Around.deeper, C.hA]; rfl, rfl, hk, C.X.keeps st, C.T.keeps st⟩ FG ⟨⟨hns, fun b o' e => hk₁ b o' (of_hideAll _ e), Nat.le_of_eq (hideAll_size _ _)⟩,
    (fun p hp => ⟨hk₁ _ _ (S'.nw p hp).1, Nat.ne_of_lt (Heap.lt_size (S'.nw p hp).1), hideAll_none _ (List.mem_map_of_mem hp)⟩), S'.nd⟩) (fun fl s' hl => lv _ _ hl) fun _ _ y => y
theorem binds_kw {fd : FuncData} {front ex : List (Str × Value)} {nm : Str} (S : SL h₀ L m h mu pe) (hn : kwDistinct ex = true)
    (eq : bindArgs fd args = alloc { cls := .type "dict", data := .dict #[] } >>= fun d => (forIn ex PUnit.unit (fun x _ => (nsSet d x.1 x.2 >>= fun _ => pure (ForInStep.yield PUnit.unit))) >>= fun _ => pure (front ++ [(nm, .ref d)])))
    (A : Around) (E : Value → Shared → Prop) (Q : List (Str × Value) → Shared → Prop) (q : ∀ h' tk', SL h₀ L m h' ((h.objs.size, dictOf (kwEs w.params tk ex) ex.length) :: mu) pe → Q (front ++ [(nm, .ref h.objs.size)]) ⟨h', G, D, tk', O⟩) :
    wpAny (model PR w) A (bindArgs fd args) Q E ⟨h, G, D, tk, O⟩ := by
  rw [eq]
  have S₁ := S.push (dictOf [] 0)
  refine wpAny_bind (wpAny_alloc' ?_)
  have hne : ∀ p ∈ mu ++ pe, p.1 ≠ h.objs.size := fun p hp => Nat.ne_of_lt (S.lt p hp)
  refine wpAny_bind (kp_fill ex ⟨h.push (dictOf [] 0), G, D, tk, O⟩ [] 0 S₁.fr S₁.nw hne (fun _ he => nomatch he) (fun _ he => nomatch he) (kwDistinct_nodup hn) fun h'' F'' N'' => wpAny_pure ?_)
  refine q h'' _ ⟨F'', ?_, ?_⟩
  · have e1 : (0 : Nat) + ex.length = ex.length := Nat.zero_add _
    rw [e1] at N''
    exact N''
  · exact S₁.nd
theorem kq_dict (w : World) : hasDictIn (hd.heap_39 w.params) 269 = true := by k_is
theorem kq_mro (w : World) : ∃ cd, clsIn (hd.heap_39 w.params) 269 = some cd ∧ cd.mro = [.ref 269, .ref 257, .ref 245, .ref 183, .ref 157, .ref 170, .type "Exception", .type "BaseException", .type "object"] := by
  refine' mk_mro ?h ?r
  case h => k_is
  case r => rfl
theorem kq_isobj (w : World) : subIn (hd.heap_39 w.params) (.ref 269) (.type "object") = some true := by k_is
theorem kq_sa (w : World) : findIn (hd.heap_39 w.params) (.ref 269) "__setattr__" = some (some (.builtin "object.__setattr__")) := by k_is
theorem kq_t (w : World) : takerIn (hd.heap_39 w.params) 269 "_MibOperationError__outArgs" = some none := by k_is
theorem refuse_exc (self : Value) : refuseLoop self "__setattr__" [.type "Exception", .type "BaseException", .type "object"] = pure () := by kernel_rfl
open Builtin Builtin.ObjectAttr in
theorem exStore {name : Str} {tn : Tok} (S : SL h₀ L m h ((e, excD (.ref 269) c2 t none) :: mu) pe) (X : (hd.heap_39 w.params).In h) (ht : takerIn (hd.heap_39 w.params) 269 name = some none)
    (q : ∀ h' dx, SL h₀ L m h' ((e, excD (.ref 269) c2 t (some dx)) :: mu) pe → R (.ok (.ret .none)) ⟨h', G, D, tk + 1, O⟩) : codeAny (model PR w) A (.call (.builtin "object.__setattr__") ⟨[.ref e, .str name tn, v], []⟩) R ⟨h, G, D, tk, O⟩ := by
  obtain ⟨cd, hc, hmro⟩ := kq_mro w
  obtain ⟨cd', hc', hd'⟩ := any_some (kq_dict w)
  obtain rfl : cd = cd' := Option.some.inj (hc.symm.trans hc')
  have SF := PySem.F.store_object
  have hx := S.get (.head _)
  have I : PySem.W.InstAt h e (excD (.ref 269) c2 t none) 269 none := ⟨hx, rfl, rfl, trivial⟩
  refine codeAny_call_builtin SF.slot.plain SF.entry (@check_slot (model PR w) _ _ _ "object.__setattr__" "object" "__setattr__" (.ref e) [.str name tn, v] [] _ SF.kind SF.split (I.type.andThen (looks_subIn X (kq_isobj w))) (SF.args (.ref e) (.str name tn) v) ?_)
  obtain ⟨attr, ha, hr⟩ := Option.bind_eq_some_iff.mp ht
  have hm : Looks (model PR w) h (mroOf (.ref 269)) cd.mro := (looks_clsIn X hc).andThen .now
  have L3 : Looks (model PR w) h (storeTaker? attr) none := by
    cases attr with
    | none => cases hr; exact .now
    | some a =>
      obtain ⟨b, hb, hbb⟩ := Option.map_eq_some_iff.mp hr
      refine (looks_takesIn X hb).andThen ?_
      cases b
      · exact .now
      · cases hbb
  rw [osa_eq, refuse_eq]
  refine wpAny_bind (wpAny_bind (I.type.at (wpAny_bind (hm.at ?_))))
  rw [hmro, refuseLoop_ref, refuseLoop_ref, refuseLoop_ref, refuseLoop_ref, refuseLoop_ref, refuseLoop_ref, refuse_exc]
  refine wpAny_pure (wpAny_bind (I.type.at (wpAny_bind ((looks_findIn X ha).at (wpAny_bind (L3.at ?_))))))
  dsimp only
  refine wpAny_bind (wpAny_pure (wpAny_bind (wpAny_bind (wpAny_loadPart hx (wpAny_bind ((looks_clsIn X hc).at ?_))))))
  rw [hd']
  have S₁ := S.push (dictOf [] 0)
  have S₂ := SL.update (mu' := (h.objs.size, dictOf [] 0) :: (e, excD (.ref 269) c2 t (some h.objs.size)) :: mu) (fun o => { o with dict := some h.objs.size }) S₁ (.tail .head)
  show wpAny _ _ (alloc { cls := .type "dict", data := .dict #[] } >>= fun d => update e (fun o => { o with dict := some d }) >>= fun _ => dictMade (.ref 269) e d) _ _ _
  refine wpAny_bind (wpAny_alloc' (wpAny_bind (wpAny_update' (S₁.get (.tail _ (.head _))) (wpAny_pure ?_))))
  have hD := S₂.get (.head _)
  show wpAny _ _ (storeInDict h.objs.size (.str name tn) name v) _ _ _
  unfold storeInDict newKeyGuard
  refine wpAny_bind (wpAny_pure (wpAny_bind ?_))
  unfold nsSet
  refine wpAny_bind (wpAny_bind (wpAny_askSetting (wpAny_pure (wpAny_bind (wpAny_mkText (wpAny_bind (wpAny_loadPart hD ?_)))))))
  dsimp only
  have c : aRefKeyMayBeTheName name ([] : List DictEntry).toArray = false := by
    rw [aRefKeyMayBeTheName_at]; simp
  rw [c]
  refine wpAny_updatePart hD ?_
  have e1 : Obj.putName name (PyData.keyHash w.params name) (.str name tk) v (dictOf [] 0) = dictOf [⟨PyData.keyHash w.params name, .str name tk, v⟩] 1 := by
    rw [putName_dict]; rfl
  have S₃ := SL.update (Obj.putName name (PyData.keyHash w.params name) (.str name tk) v) S₂ (by rw [e1]; exact .head) (by rw [e1]; rfl)
  have hD' := S₃.get (.head _)
  refine wpAny_bind (wpAny_lookBehind hD' (pastItsLine_dict (show 1 ≤ sizeLine + 1 by rw [sizeLine_eq]; decide)) ?_)
  exact wpAny_pure (q _ _ S₃.drop1)
theorem exSet {name : Str} {Q : Unit → Shared → Prop} {E : Value → Shared → Prop} (S : SL h₀ L m h ((e, excD (.ref 269) c2 t none) :: mu) pe) (X : (hd.heap_39 w.params).In h) (ht : takerIn (hd.heap_39 w.params) 269 name = some none)
    (q : ∀ h' dx, SL h₀ L m h' ((e, excD (.ref 269) c2 t (some dx)) :: mu) pe → Q () ⟨h', G, D, tk + 2, O⟩) : wpAny (model PR w) A (setAttr (.ref e) name v) Q E ⟨h, G, D, tk, O⟩ :=
  set_plain (s := ⟨h, G, D, tk, O⟩) (od := none) X ⟨S.get (.head _), rfl, rfl, trivial⟩ (kq_sa w) (exStore S X ht q)
theorem oe_init {v1 v2 : Value} (Cm : Fm w A A₀ base outer env h₀ L p loose mean mg mb) (S : SL h₀ L m h ((e, excD (.ref 269) .none t none) :: mu) pe) (hd' : A.depth < 990)
    (post : ∀ dx h' tk', SL h₀ L m h' ((e, excD (.ref 269) .none t (some dx)) :: mu) pe → R (.ok (.ret .none)) ⟨h', G, D, tk', O⟩) :
    codeAny (model PR w) A (.call (.ref 199) ⟨[.ref e], [("name", v1), ("idx", v2)]⟩) R ⟨h, G, D, tk, O⟩ := by
  refine' enterH (binds := [(("self" : Str), Value.ref e)] ++ [(("kwargs" : Str), Value.ref h.objs.size)]) (cl := []) (mu' := (h.objs.size, dictOf (kwEs w.params tk [("name", v1), ("idx", v2)]) 2) :: (e, excD (.ref 269) .none t none) :: mu) Cm S ((S.X Cm) _ _ ?k6) ?k7 ?k8 ?k9 ?kB ?_ ?c2 ?c3 ?c4 ?c5
  case k6 => k_is
  case k7 => k_is
  case k8 => show A.depth < 1000; omega
  case k9 =>
    refine' binds_kw (ex := [("name", v1), ("idx", v2)]) S ?z ?e
    case z => exact rfl
    case e => exact rfl
  case kB => exact locs rfl
  case c2 => decide
  case c3 => exact rfl
  case c4 => exact rfl
  case c5 => exact rfl
  intro g L' h₁ tk₁ C' FG S0
  have S1 := S0.drop1
  walk_at "ms"
  refine exSet S1 (S1.X C') (kq_t w) fun h₂ dx S₂ => ?_
  walk_at "ms"
  refine leave S₂ fun S₃ => ?_
  exact post dx h₂ _ S₃
end
section
open PyProof.Rows.LCg PySem.W
variable {w : World} {A A₀ : Around} {base h₀ h g : Heap} {outer : List Env} {env : Env} {L e t : Addr} {p : Program} {loose : List Str} {mean : ExcName → Option Value} {mg mb m : Str → Option Value} {mu mu' pe : Lg}
  {G : Array GenState} {D : Drawn} {tk : Nat} {O : OsState} {R : Result → Shared → Prop}
theorem mk_exc {K : Frag} {nm q : Str} {C N : Addr} {bs bm : List Value} {hdct : Bool} {sn : List Str} {sub : List Value} {ab : Bool} {col : Option Bool} {dd : Option Addr} {k0 k1 k2 k3 k5 : Option Value} {newId : String}
    (ho : K.lookup C = some (excClassObj nm q C N bs bm hdct sn sub ab col dd k0 k1 k2 k3 k5 newId)) : ∃ nm q N bs hdct sn sub ab col dd k0 k1 k2 k3 k5, K.lookup C = some (excClassObj nm q C N bs bm hdct sn sub ab col dd k0 k1 k2 k3 k5 newId) :=
  ⟨nm, q, N, bs, hdct, sn, sub, ab, col, dd, k0, k1, k2, k3, k5, ho⟩
theorem kx_269 (w : World) : ∃ nm q N bs hdct sn sub ab col dd k0 k1 k2 k3 k5, (hd.heap_39 w.params).lookup 269 = some (excClassObj nm q 269 N bs [.ref 257, .ref 245, .ref 183, .ref 157, .ref 170, .type "Exception", .type "BaseException", .type "object"] hdct sn sub ab col dd k0 k1 k2 k3 k5 "Exception.__new__") := by
  refine' mk_exc ?h
  case h => k_is
theorem kx_cl (w : World) : specialIn (hd.heap_39 w.params) (.ref 269) "__call__" = some (some (.builtin "type.__call__")) := by k_is
theorem kx_typ (w : World) : instIn (hd.heap_39 w.params) (.ref 269) (.type "type") = some true := by k_is
theorem kx_self (w : World) : mroIn (hd.heap_39 w.params) 269 (.ref 269) = some true := by k_is
theorem kx_init (w : World) : findIn (hd.heap_39 w.params) (.ref 269) "__init__" = some (some (.ref 199)) := by k_is
theorem kx_fn (w : World) : typeIn (hd.heap_39 w.params) (.ref 199) = some (.type "function") := by k_is
theorem kx_base (w : World) : ktsIn (hd.heap_39 w.params) 269 "BaseException" = true := by
  obtain ⟨nm, q, N, bs, hdct, sn, sub, ab, col, dd, k0, k1, k2, k3, k5, hC⟩ := kx_269 w
  unfold ktsIn
  rw [hC]
  rfl
theorem noobj_call {v1 v2 : Value} (Cm : Fm w A A₀ base outer env h₀ L p loose mean mg mb) (S : SL h₀ L m h mu pe) (hd' : A.depth < 980)
    (post : ∀ e t dx h' tk', SL h₀ L m h' ((e, excD (.ref 269) .none t (some dx)) :: mu) pe → R (.ok (.ret (.ref e))) ⟨h', G, D, tk', O⟩) :
    codeAny (model PR w) A (.call (.ref 269) ⟨[], [("name", v1), ("idx", v2)]⟩) R ⟨h, G, D, tk, O⟩ := by
  have X := S.X Cm
  obtain ⟨nm, q, N, bs, hdct, sn, sub, ab, col, dd, k0, k1, k2, k3, k5, hC⟩ := kx_269 w
  refine exk_core (rest := []) PySem.F.excBase_Exception (by decide) (by decide) (by decide) (X _ _ hC) (looks_specialIn X (kx_cl w)) (looks_instIn X (kx_typ w)) (looks_mroIn X (kx_self w)) (looks_findIn X (kx_init w)) (fun self => bind_fn X self (kx_fn w)) (by simp) ?_
  have S₁ := S.push (tupO [] 0)
  have S₂ := S₁.push (excD (.ref 269) .none h.objs.size none)
  have e : (h.push (tupO [] 0)).objs.size = h.objs.size + 1 := Heap.size_push ..
  rw [e] at S₂
  have S₃ := S₂.sub (mu' := (h.objs.size + 1, excD (.ref 269) .none h.objs.size none) :: mu) (pe' := pe) (((List.sublist_cons_self (h.objs.size, tupO [] 0) mu).cons_cons _).append (.refl _))
  refine oe_init (Cm.under (c := 269) (rest := []) (kw := [("name", v1), ("idx", v2)])) S₃ (by rw [und_depth]; omega) fun dx h' tk' S₄ => ?_
  exact ⟨rfl, post _ _ dx h' tk' S₄⟩
end
section
open PyProof.Rows.LCg PySem.W
variable {w : World} {A : Around} {E : Value → Shared → Prop} {h₀ h : Heap} {L : Addr} {m : Str → Option Value} {mu pe : Lg} {G : Array GenState} {D : Drawn} {tk : Nat} {O : OsState}
def upTo (v : Int) (n : Nat) : Nat := (if v < 0 then max (v + n) 0 else min v n).toNat
theorem upTo_le (v : Int) (n : Nat) : upTo v n ≤ n := by unfold upTo; split <;> omega
theorem upTo_nat (j n : Nat) : upTo j n = min j n := by unfold upTo; split <;> omega
theorem upTo_last (n : Nat) : upTo (-1) n = n - 1 := by unfold upTo; split <;> omega
theorem adjust_upTo (v : Int) (n : Nat) : Builtin.Slice.sliceAdjust none (some v) 1 (n : Int) = (0, (upTo v n : Int)) := by
  unfold Builtin.Slice.sliceAdjust upTo
  have h1 : ¬ ((1 : Int) < 0) := by omega
  simp only [h1, if_false]
  congr 1
  split <;> omega
theorem places_upTo (j : Nat) : Builtin.Slice.slicePlaces 0 (j : Int) 1 = j := by
  unfold Builtin.Slice.slicePlaces
  have h1 : (1 : Int) > 0 := by omega
  simp only [h1, if_true, Int.ediv_one]
  split <;> omega
theorem sliceApplied_upTo {s : Shared} {sl : Addr} {n : Nat} {v : Int} {u : Tok} {Q : Int × Int × Nat → Shared → Prop} (hs : s.heap.IsSliceOf sl .none (.int v u) .none) (q : Q (0, 1, upTo v n) s) :
    wpAny (model PR w) A (Builtin.Slice.sliceApplied (.ref sl) (pure (n : Int))) Q E s := by
  obtain ⟨os, hos, hcs, hds⟩ := id hs
  unfold Builtin.Slice.sliceApplied Builtin.Slice.sliceFields
  refine wpAny_bind (wpAny_bind (wpAny_field hos hds (x := .none) rfl (wpAny_bind (wpAny_field hos hds (x := .int v u) rfl (wpAny_bind (wpAny_field hos hds (x := .none) rfl (wpAny_pure ?_)))))))
  refine wpAny_bind (slicePart_none ?_)
  show wpAny _ _ (if ((1 : Int) == 0) = true then _ else _) _ _ s
  rw [if_neg (by decide)]
  refine wpAny_bind (slicePart_none (wpAny_bind (slicePart_int (wpAny_bind (wpAny_pure ?_)))))
  show wpAny _ _ (match Builtin.Slice.sliceAdjust none (some v) 1 (n : Int) with | (lo, hi) => pure (lo, (1 : Int), Builtin.Slice.slicePlaces lo hi 1)) _ _ s
  rw [adjust_upTo]
  show wpAny _ _ (pure ((0 : Int), (1 : Int), Builtin.Slice.slicePlaces (0 : Int) (upTo v n : Int) 1)) _ _ s
  rw [places_upTo]
  exact wpAny_pure q
theorem pick_upTo (xs : Array Value) (j : Nat) : ((List.range j).filterMap fun (k : Nat) => xs[((0 : Int) + (k : Int) * 1).toNat]?).toArray = (xs.toList.take j).toArray := by
  have e : (fun (k : Nat) => xs[((0 : Int) + (k : Int) * 1).toNat]?) = fun k => xs[0 + k]? := by
    funext k
    have : ((0 : Int) + (k : Int) * 1).toNat = 0 + k := by omega
    rw [this]
  rw [e]
  have := pick_run xs 0 j
  rw [List.filterMap_map] at this
  have e2 : ((fun x => xs[x]?) ∘ fun x => 0 + x) = fun k => xs[0 + k]? := rfl
  rw [e2] at this
  rw [this, List.drop_zero]
theorem getItem_tuple_upTo {s : Shared} {t sl : Addr} {items : Array Value} {v : Int} {u : Tok} {Q : Value → Shared → Prop} (ht : IsTup s.heap t items) (hs : s.heap.IsSliceOf sl .none (.int v u) .none)
    (h1 : upTo v items.size = items.size → Q (.ref t) s)
    (h2 : Q (.ref s.heap.objs.size) { s with heap := s.heap.push { cls := .type "tuple", data := .seq (items.toList.take (upTo v items.size)).toArray } })
    (hsz : items.size ≤ sizeLine) : wpAny (model PR w) A (getItem (.ref t) (.ref sl)) Q E s := by
  have htake : sizeOk (.seq (items.toList.take (upTo v items.size)).toArray) := by
    show (items.toList.take (upTo v items.size)).toArray.size ≤ sizeLine
    rw [List.size_toArray, List.length_take, Array.length_toList]
    omega
  obtain ⟨os, hos, hcs, hds⟩ := id hs
  have hTs : s.TypeIs (.ref sl) "slice" := ⟨os, hos, hcs⟩
  unfold getItem
  try with_reducible refine wpAny_holding ?_
  refine wpAny_bind (wpAny_sequenceKey ht.typeIs (by decide) ?_)
  refine wpAny_bind (wpAny_callSpecial?_slot (name := Str.ofString "__getitem__") ht.typeIs slot_tuple_getitem
    (wpAny_call_entry slot_tuple_getitem ht.typeIs entry_tuple_getitem ?_ (args_tuple_getitem _ _)))
  show wpAny _ _ (Builtin.Tuple.tupleItemsOf (.ref t) >>= _) _ _ s
  refine wpAny_bind (tupleItemsOf_ ht ?_)
  refine wpAny_bind (wpAny_typeOf hTs ?_)
  rw [if_pos (by decide)]
  refine wpAny_bind (sliceApplied_upTo hs ?_)
  show wpAny _ _ (if ((0 : Int) == 0 && (1 : Int) == 1 && (upTo v items.size) == items.size) = true then _ else _) _ _ s
  by_cases hc : upTo v items.size = items.size
  · rw [if_pos (by simp [hc])]
    unfold Builtin.Tuple.tupleIsExact
    refine wpAny_bind (wpAny_bind (wpAny_typeOf ht.typeIs (wpAny_pure ?_)))
    rw [if_pos (by decide)]
    exact wpAny_bind (wpAny_rule (wpAny_pure ⟨_, rfl, wpAny_pure (h1 hc)⟩))
  · rw [if_neg (by simp [hc]), pick_upTo]
    exact wpAny_bind (m := Builtin.Tuple.tupleExact _) (wpAny_newObj_type (wpAny_pure ⟨_, rfl, wpAny_pure h2⟩) htake)
theorem itemsTake {k : Nm} {vs : List Value} (h : ItemsAre (intKind PR w) k vs) : ∀ j : Nat, ItemsAre (intKind PR w) (k.take j) (vs.take j) := by
  induction h with
  | nil => intro j; cases j <;> exact .nil
  | cons a b ih => intro j; cases j with
    | zero => exact .nil
    | succ j => exact .cons a (ih j)
theorem nm_upTo {value slice : Expr} {k : Nm} {a : Addr} {v : Int} {u : Tok} {Q : Value → Shared → Prop} (S : SL h₀ L m h mu pe) (hk : IsNm w pe k a) (hz : k.length ≤ 1000)
    (q : ∀ b pe' h', pe ⊆ pe' → IsNm w pe' (k.take (upTo v k.length)) b → SL h₀ L m h' mu pe' → Q (.ref b) ⟨h', G, D, tk, O⟩)
    (hs : subscripted slice false (.ref a) (.ref h.objs.size) = operate [.ref h.objs.size, .ref a] (getItem (.ref a) (.ref h.objs.size)) := by with_unfolding_all rfl) :
    wpAny (model PR w) A (subscriptTail value slice (.ref a) (.ref h.objs.size)) Q E ⟨h.push { cls := .type "slice", data := .fields #[.none, .int v u, .none] }, G, D, tk, O⟩ := by
  obtain ⟨vs, n, hm, hi⟩ := hk
  have S₁ := S.push { cls := .type "slice", data := .fields #[.none, .int v u, .none] }
  have ht : IsTup (h.push { cls := .type "slice", data := .fields #[.none, .int v u, .none] }) a vs.toArray := ⟨_, S₁.getp hm, rfl, n, rfl⟩
  have hl : vs.toArray.size = k.length := by rw [List.size_toArray, hi.length]
  refine tail_any (s := ⟨h.push { cls := .type "slice", data := .fields #[.none, .int v u, .none] }, G, D, tk, O⟩) ht.typeIs slot_tuple_getitem.lookup
    (getItem_tuple_upTo ht (Heap.IsSliceOf.new ..) (fun e => ?_) ?_ (by rw [hl, sizeLine_eq]; omega)) hs
  · rw [hl] at e
    refine q a pe _ (fun _ z => z) ?_ S₁.drop1
    rw [e, List.take_length]
    exact ⟨vs, n, hm, hi⟩
  · have S₂ := (S₁.push (tupO (vs.take (upTo v k.length)) 0)).toPe
    rw [hl]
    refine q _ _ _ (fun _ z => .tail _ z) ⟨_, 0, .head _, itemsTake hi _⟩ (S₂.drop1)
theorem item_listA {s : Shared} {value slice : Expr} {l : Addr} {items : Array Value} {k : Int} {u : Tok} {x : Value} {Q : Value → Shared → Prop} (hl : s.heap.IsList l items)
    (h0 : 0 ≤ k) (hfit : k < 2 ^ 63) (hx : items[k.toNat]? = some x) (q : Q x s)
    (hs : subscripted slice false (.ref l) (.int k u) = operate [.ref l, .int k u] (getItem (.ref l) (.int k u)) := by with_unfolding_all rfl) :
    wpAny (model PR w) A (subscriptTail value slice (.ref l) (.int k u)) Q E s := tail_any hl.typeIs slot_list_getitem.lookup (wpAny_getItem_list hl h0 hfit hx q) hs
end
section
open PyProof.Rows.LCg PySem.W
variable {w : World} {A A₀ : Around} {base h₀ h : Heap} {outer : List Env} {env : Env} {L d : Addr} {p : Program} {loose : List Str} {mean : ExcName → Option Value} {mg mb m : Str → Option Value} {mu mr pe : Lg}
  {G : Array GenState} {D : Drawn} {tk : Nat} {O : OsState} {R : Result → Shared → Prop} {E : Value → Shared → Prop} {pos : Pos} {n : Nat} {x : Str} {t : Tok}
theorem callKK0 {f : Value} {first : List Value} {kws : List Keyword} {Q : Value → Shared → Prop} {s : Shared} (hk : keepIn (hd.heap_39 w.params) f = true) (hall : (backToKw pos (keywordEach kws env)).all (·.1.isSome) = true)
    (q : wpAny (model PR w) A (evalAll ((backToKw pos (keywordEach kws env)).map (·.2))) (fun ks s₂ => (hd.heap_39 w.params).In s₂.heap ∧ wpAny (model PR w) A (call f (first ++ []) (((backToKw pos (keywordEach kws env)).filterMap (·.1)).zip ks)) Q E s₂) E s)
    (hplain : ((backTo pos (starEach [] env)).any (·.1) || (backToKw pos (keywordEach kws env)).any (·.1.isNone)) = false) :
    wpAny (model PR w) A (callWith pos f first (backTo pos (starEach [] env)) (backToKw pos (keywordEach kws env))) Q E s :=
  callWith_of (P := (hd.heap_39 w.params).In) hplain (keeps_K hk) (evalArgs_kw2_nil hall q)
theorem dict_meth {name : Str} {id : String} {pl : Sem Bool} {Q : Value × List Value → Shared → Prop} {xs : Ents} (ho : h.get? d = some (eOb w xs n)) (slot : Slot "dict" name id) (hty : typeOf (.builtin id) = pure (.type "method_descriptor"))
    (q : Q (.builtin id, [.ref d]) ⟨h, G, D, tk, O⟩) : wpAny (model PR w) A (getMethod (.ref d) name pl) Q E ⟨h, G, D, tk, O⟩ :=
  getMethod_builtin ⟨_, ho, rfl⟩ PySem.F.plainAttrs_dict slot hty (fun a e => by cases e; exact ⟨_, ho, rfl⟩) q
theorem ctx_get {Q : Value → Shared → Prop} (ho : h.get? d = some (eOb w [] n)) (hs : (d == sysModules) = false) (q : Q .none ⟨h, G, D, tk + 1, O⟩) :
    wpAny (model PR w) A (call (.builtin "dict.get") [.ref d, .str x t]) Q E ⟨h, G, D, tk, O⟩ := by
  refine call_meth' (i := "dict.get") (owner := "dict") (n := "get") (by decide +kernel) (by decide +kernel) (by decide +kernel) PySem.F.entry_dict_get (Looks.andThen (a := .type "dict") ((Looks.ld ho).andThen .now) (Looks.of_pure (by rw [isSubtype_type]; kernel_rfl))) (PySem.F.args_dict_get_2 _ _) ?_
  show wpAny _ _ (dictGet d (.str x t) >>= _) _ _ _
  refine wpAny_bind (wpAny_dictGet_of (knd := strKind PR w) (k := x) (f := fun _ => none) (strKind_is _ _ _ _) ⟨_, #[], n, ho, ⟨rfl, rfl, rfl⟩, rfl, ?_, ?_⟩ ?_)
  · exact fun e he => absurd he (by simp)
  · intro y; rfl
  · show wpAny _ _ (Builtin.Dict.missed d (.str x t) >>= _) _ _ _
    exact wpAny_bind (wpAny_missed_other hs (wpAny_pure ⟨.none, rfl, q⟩))
end
section
open PyProof.Rows.LCg PySem.W
variable {w : World} {A A₀ : Around} {base h₀ h : Heap} {outer : List Env} {L d a : Addr} {p : Program} {loose : List Str} {mean : ExcName → Option Value} {mg mb m : Str → Option Value} {mu mr pe : Lg}
  {G : Array GenState} {D : Drawn} {tk : Nat} {O : OsState} {E : Value → Shared → Prop} {n : Nat} {cn : Str} {cs : Scope} {ccd vn : Value} {cl : List (Str × Addr)} {kk : Nat}
  {p0 p1 p2 p3 p4 p5 p6 p7 p8 : Pos}
theorem noobj_eval {ck} {Q : Value → Shared → Prop} (Cm : Fm w A A₀ base outer (envX cn cs L a ccd cl) h₀ L p loose mean mg mb) (S : SL h₀ L m h mu pe) (hd' : A.depth < 970) (hn : m "name" = some vn) (hc : m "context" = some (.ref d)) (hm : (d, eOb w [] n) ∈ mu ++ pe) (hs : (d == sysModules) = false)
    (hk : cs.kind = .function) (k1 : (envX cn cs L a ccd cl).kindOf "NoSuchObjectError" = some .globalImplicit) (k2 : (envX cn cs L a ccd cl).kindOf "name" = some .local) (k3 : (envX cn cs L a ccd cl).kindOf "context" = some .local)
    (he : ∃ pl : Sem Bool, eval (.Call (.Attribute (.Name "context" p3) "get" p4) [.Constant (.str "idx") ck p5] [] p6) (envX cn cs L a ccd cl) = (do
      let ov ← eval (.Name "context" p3) (envX cn cs L a ccd cl)
      standAt p4.atName
      let (f, first) ← holding [ov] (getMethod ov "get" pl)
      callWith p6 f first (backTo p6 (starEach [.Constant (.str "idx") ck p5] (envX cn cs L a ccd cl))) []))
    (q : ∀ e t dx h' tk', SL h₀ L m h' ((e, excD (.ref 269) .none t (some dx)) :: mu) pe → Q (.ref e) ⟨h', G, D, tk', O⟩) :
    wpAny (model PR w) A (eval (.Call (.Name "NoSuchObjectError" p0) [] [⟨some "name", .Name "name" p1, p2⟩, ⟨some "idx", .Call (.Attribute (.Name "context" p3) "get" p4) [.Constant (.str "idx") ck p5] [] p6, p7⟩] p8) (envX cn cs L a ccd cl)) Q E ⟨h, G, D, tk, O⟩ := by
  refine Call_KW ?_
  refine' nmK S Cm ?e ?_ k1 ?c
  case e => k_is
  case c => decide
  refine callKK0 (by k_is) rfl ?_ rfl
  refine kwAll_cons ?_
  refine nmL S hn ?_ hk k2 (by decide)
  refine kwAll_cons ?_
  obtain ⟨pl, he⟩ := he
  refine MethodCall_ (pl := pl) ?_ he
  refine nmL S hc ?_ hk k3 (by decide)
  have ho := (S.nw _ hm).1
  refine dict_meth ho PySem.F.slot_dict_get PySem.F.type_dict_get ?_
  refine callB (mach _) ?_ rfl rfl
  refine spliced_more ?_
  refine cStr ?_
  refine spliced_none ?_
  refine ctx_get ho hs ?_
  refine kwAll_nil ?_
  refine ⟨S.X Cm, wpAny_call ?_⟩
  refine noobj_call Cm S (by omega) fun e t dx h' tk' S' => ?_
  exact q e t dx h' tk' S'
end
section
open PyProof.Rows.LCg PySem.W
variable {w : World} {A A₀ : Around} {base h₀ h : Heap} {outer : List Env} {env : Env} {L C : Addr} {p : Program} {loose : List Str} {mean : ExcName → Option Value} {mg mb m : Str → Option Value} {mu mu' mr pe : Lg}
  {G : Array GenState} {D : Drawn} {tk : Nat} {O : OsState} {R : Result → Shared → Prop} {E : Value → Shared → Prop} {pos : Pos}
structure TrRel (T T' : TR) : Prop where
  t : T'.t = T.t
  na : T'.na = T.na
  cnt : T'.cnt = T.cnt
  r : OrdRel T.r T'.r
abbrev TR.hds (w : World) (T : TR) : Lg := [(T.t, instObj 544 T.td), (T.td, T.dO w)]
theorem TR.toR {T : TR} (S : SL h₀ L m h (T.led w ++ mr) pe) : SL h₀ L m h (T.r.led w ++ (T.hds w ++ mr)) pe := S.perm (List.perm_append_comm_assoc (T.hds w) (T.r.led w) mr)
theorem TR.ofR {T : TR} {r' : OR} (et : r'.t = T.r.t) (S : SL h₀ L m h (r'.led w ++ (T.hds w ++ mr)) pe) : SL h₀ L m h ((({ T with r := r' } : TR)).led w ++ mr) pe := by
  refine S.perm ?_
  show List.Perm _ (((T.t, instObj 544 T.td) :: (T.td, dictOf (treeF w T.t1 T.t2 T.t3 T.na r'.t T.bv) T.n) :: r'.led w) ++ mr)
  rw [et]
  exact (List.perm_append_comm_assoc (T.hds w) (r'.led w) mr).symm
theorem BindsN.kw0 {fd : FuncData} {args : Args} {front : List (Str × Value)} {nm : Str} (e : bindArgs fd args = alloc { cls := .type "dict", data := .dict #[] } >>= fun d => pure (front ++ [(nm, .ref d)])) :
    BindsN h G D tk O fd args (front ++ [(nm, .ref h.objs.size)]) (eOb w [] 0) := by
  intro M A E Q q
  rw [e]
  exact wpAny_bind (wpAny_alloc' (wpAny_pure q))
def brn (ks : List Nm) (k : Nm) : Option Nm := ((lensD ks).map fun n => k.take (upTo n k.length)).find? fun b => decide (b ∈ ks)
theorem brn_some {ks : List Nm} {k b : Nm} {i : Nat} {n : Int} (hi : (lensD ks)[i]? = some n) (hb : b = k.take (upTo n k.length)) (hin : b ∈ ks) (hno : ∀ n ∈ (lensD ks).take i, k.take (upTo n k.length) ∉ ks) : brn ks k = some b := by
  subst hb
  unfold brn
  obtain ⟨h1, h2⟩ := List.getElem?_eq_some_iff.mp hi
  have e : lensD ks = (lensD ks).take i ++ n :: (lensD ks).drop (i + 1) := by
    conv => lhs; rw [← List.take_append_drop i (lensD ks), List.drop_eq_getElem_cons h1, h2]
  rw [e, List.map_append, List.find?_append, List.find?_eq_none.mpr, Option.none_or, List.map_cons, List.find?_cons, decide_eq_true hin]
  intro x hx
  obtain ⟨n', hn', rfl⟩ := List.mem_map.mp hx
  simpa using hno n' hn'
theorem brn_none {ks : List Nm} {k : Nm} (hno : ∀ n ∈ lensD ks, k.take (upTo n k.length) ∉ ks) : brn ks k = none := by
  unfold brn
  rw [List.find?_eq_none]
  intro x hx
  obtain ⟨n', hn', rfl⟩ := List.mem_map.mp hx
  simpa using hno n' hn'
theorem intsAre_get {vs : List Value} {ns : List Int} (hi : IntsAre vs ns) {i : Nat} {v : Value} (h : vs[i]? = some v) : ∃ n t, ns[i]? = some n ∧ v = .int n t := by
  induction hi generalizing i with
  | nil => simp at h
  | cons n t _ ih =>
    cases i with
    | zero => simp at h; exact ⟨n, t, rfl, h.symm⟩
    | succ i => simpa using ih (by simpa using h)
theorem tr_branch {T : TR} {k : Nm} {a : Addr} (Cm : Fm w A A₀ base outer env h₀ L p loose mean mg mb) (S : SL h₀ L m h (T.led w ++ mr) pe) (ok : T.r.Ok w pe) (cl : Clean T.r) (sh : Short (T.r.ks.map (·.1))) (hz : T.r.ks.length < 64) (hk : IsNm w pe k a) (hkl : k.length ≤ 1000) (hh : A.handled = none) (hd : A.depth < 840) (hu : A.units < 8500)
    (post : ∀ T' b q pe' h' tk', pe ⊆ pe' → TrRel T T' → brn (T.r.xs.map (·.1)) k = some b → atKey T.r.xs b = some q → T'.r.Ok w pe' → SL h₀ L m h' (T'.led w ++ mr) pe' → R (.ok (.ret q.2)) ⟨h', G, D, tk', O⟩)
    (err : ∀ T' pe' GG e h' tk', pe ⊆ pe' → TrRel T T' → brn (T.r.xs.map (·.1)) k = none → T'.r.Ok w pe' → Fr h₀ L GG m → RaisedX base GG (env :: outer) e (.ref 269) ((T'.led w ++ mr) ++ pe') h' → GG.UpToSlots h' → (((T'.led w ++ mr) ++ pe').map (·.1)).Nodup → R (.error (.ref e)) ⟨h', G, D, tk', O⟩) :
    codeAny (model PR w) A (.call (.ref 453) ⟨[.ref T.t, .ref a], []⟩) R ⟨h, G, D, tk, O⟩ := by
  refine' enterN (binds := [(("self" : Str), Value.ref T.t), (("name" : Str), Value.ref a)] ++ [(("context" : Str), Value.ref h.objs.size)]) (cl := []) (o := eOb w [] 0) Cm S rfl ((S.X Cm) _ _ ?k6) ?k7 ?k8 ?k9 ?kB ?_ ?c2 ?c3 ?c4 ?c5
  case k6 => k_is
  case k7 => k_is
  case k8 => show A.depth < 1000; omega
  case k9 =>
    refine' BindsN.kw0 ?e
    case e => exact rfl
  case kB => exact locs rfl
  case c2 => decide
  case c3 => exact rfl
  case c4 => exact rfl
  case c5 => exact rfl
  intro g L' h₁ tk₁ C' FG S0
  have hdS : (h.objs.size == sysModules) = false := notSys (S.X Cm) (Nat.le_refl _)
  obtain ⟨dc, edc⟩ : ∃ dc, dc = h.objs.size := ⟨_, rfl⟩
  rw [← edc] at S0 hdS
  have S' := S0.toPe
  obtain ⟨pe1, epe1⟩ : ∃ pe1, pe1 = (dc, eOb w [] 0) :: pe := ⟨_, rfl⟩
  rw [← epe1] at S'
  have hpe1 : pe ⊆ pe1 := by rw [epe1]; exact fun _ z => .tail _ z
  have hctx : (dc, eOb w [] 0) ∈ pe1 := by rw [epe1]; exact .head _
  obtain ⟨m1, em1, S₃⟩ : ∃ m1 : Str → Option Value, m1 = (fun y => List.lookup y ([(("self" : Str), Value.ref T.t), (("name" : Str), Value.ref a)] ++ [(("context" : Str), Value.ref dc)] : List (Str × Value)).reverse) ∧ SL g L' m1 h₁ (T.led w ++ mr) pe1 := ⟨_, rfl, S'⟩
  have hms : m1 "self" = some (.ref T.t) := by rw [em1]; rfl
  have hmn : m1 "name" = some (.ref a) := by rw [em1]; rfl
  have hmc : m1 "context" = some (.ref dc) := by rw [em1]; rfl
  walk_at "m"
  refine for_loop (h₀ := g) (G := G) (D := D) (O := O) ?_ (fun _ => rfl) ?hE
  case hE => passes_own
  walk_at "ms"
  refine nmL S₃ hms ?_ rfl rfl (by decide)
  refine tr_vars C' S₃ ?_
  have S₄ := TR.toR S₃
  refine odMeth (S₄.X C') (OR.inst S₄) (by k_is) (by k_is) (odF_no rfl rfl rfl rfl) ?_
  refine callK0 (by k_is) (S₄.X C') ?_
  refine wpAny_call ?_
  refine sd_lens C' S₄ (ok.mono hpe1) cl sh hz (by exact hh) (by show A.depth + 1 < 860; omega) (by show A.units + 3 < 8700; omega) fun r1 tok ls h₅ tk₅ x hln ok1 S₅ => ?_
  obtain ⟨T1, eT1⟩ : ∃ T1 : TR, T1 = { T with r := r1 } := ⟨_, rfl⟩
  have S₆ : SL g L' m1 h₅ (T1.led w ++ mr) pe1 := by rw [eT1]; exact TR.ofR x.t S₅
  have rel : TrRel T T1 := by subst eT1; exact ⟨rfl, rfl, rfl, x⟩
  have er : T1.r = r1 := by rw [eT1]
  have hls : (ls, PySem.W.listOf r1.lv.toArray r1.nl) ∈ T1.led w ++ mr := by
    refine List.mem_append_left _ (.tail _ (.tail _ (.tail _ (.tail _ (.tail _ (.tail _ ?_))))))
    rw [er]
    unfold OR.lens
    rw [hln]
    exact .head _
  have hxs : T1.r.xs = T.r.xs := by rw [er]; exact x.xs
  have okT : T1.r.Ok w pe1 := by rw [er]; exact ok1
  have hlv : IntsAre r1.lv (lensD (T.r.xs.map (·.1))) := by
    have := x.lv
    rwa [lensD_perm ((x.ks.map _).trans ok.same)] at this
  refine it_list (l := [(ls, PySem.W.listOf r1.lv.toArray r1.nl)]) (by exact hh) S₆ (List.mem_append_left _ hls) (.head _) fun I h₇ oI St src hst0 S₇ => ?_
  refine ⟨I, _, _, St, h₇, _, _, pe1, _, oI, m1, fun i m' mu' pe' => pe1 ⊆ pe' ∧ mu' = T1.led w ++ mr ∧ m' "self" = some (.ref T.t) ∧ m' "name" = some (.ref a) ∧ m' "context" = some (.ref dc) ∧ ∀ n ∈ (lensD (T.r.xs.map (·.1))).take i, k.take (upTo n k.length) ∉ T.r.xs.map (·.1), rfl, rfl, src, hst0, S₇, ?_, ?_, ?_, ?_⟩
  · exact ⟨fun _ z => z, rfl, hms, hmn, hmc, fun n hn => by simp at hn⟩
  · rintro i m' mu' pe' ⟨_, rfl, _⟩ q hq
    rw [List.mem_singleton.mp hq]
    exact List.mem_append_left _ hls
  · rintro i v m' mu' pe' h tk oI' hi hP ⟨hsub, rfl, hms', hmn', hmc', hno⟩ S₈'
    obtain ⟨n, tn, hn, rfl⟩ := intsAre_get hlv (by simpa [itemAt] using hP)
    have S₈ : SL g L' m' h ((I, oI') :: (T1.led w ++ mr)) pe' := S₈'
    refine wpAny_assign_Name (stL S₈ (fun h₉ S₉' => ?_) rfl rfl)
    obtain ⟨m9, em9, S₉⟩ : ∃ m9, m9 = (fun y => if y = ("keyLen" : Str) then some (Value.int n tn) else m' y) ∧ SL g L' m9 h₉ ((I, oI') :: (T1.led w ++ mr)) pe' := ⟨_, rfl, S₉'⟩
    have h9s : m9 "self" = some (.ref T.t) := by rw [em9]; exact hms'
    have h9n : m9 "name" = some (.ref a) := by rw [em9]; exact hmn'
    have h9c : m9 "context" = some (.ref dc) := by rw [em9]; exact hmc'
    have h9k : m9 "keyLen" = some (.int n tn) := by rw [em9]; rfl
    walk_at "ms"
    refine nmL S₉ h9n ?_ rfl rfl (by decide)
    refine wpAny_Slice ?_
    refine evalPart_none_step ?_
    refine evalPart_some_step ?_
    refine nmL S₉ h9k ?_ rfl rfl (by decide)
    refine evalPart_none_step ?_
    have hk' : IsNm w pe' k a := hk.mono fun _ z => hsub (hpe1 z)
    refine nm_upTo S₉ hk' hkl fun b pe2 h₁₀ hsub2 hb S₁₀ => ?_
    refine stL S₁₀ (fun h₁₁ S₁₁' => ?_) rfl rfl
    obtain ⟨m11, em11, S₁₁⟩ : ∃ m11, m11 = (fun y => if y = ("subName" : Str) then some (Value.ref b) else m9 y) ∧ SL g L' m11 h₁₁ ((I, oI') :: (T1.led w ++ mr)) pe2 := ⟨_, rfl, S₁₁'⟩
    have h11s' : m11 "self" = some (.ref T.t) := by rw [em11]; exact h9s
    have h11s : m11 "self" = some (.ref T1.t) := by rw [h11s', rel.t]
    have h11n : m11 "name" = some (.ref a) := by rw [em11]; exact h9n
    have h11c : m11 "context" = some (.ref dc) := by rw [em11]; exact h9c
    have h11b : m11 "subName" = some (.ref b) := by rw [em11]; rfl
    have ok2 : T1.r.Ok w pe2 := okT.mono fun _ z => hsub2 (hsub z)
    have S₁₂ := S₁₁.drop1
    have od : OdAt w h₁₁ pe2 T1.r.t T1.r.td _ _ T1.r.xs T1.r.nt := OR.odAt S₁₂.drop1.drop1 (S₁₂.X C') ok2.x ok2.st
    walk_at "ms"
    refine nmL S₁₁ h11b ?_ rfl rfl (by decide)
    walk_at "ms"
    refine nmL S₁₁ h11s ?_ rfl rfl (by decide)
    refine tr_vars C' S₁₂ ?_
    refine od_in (by show A.units + 3 + 1 < 9900; omega) od hb fun tk₁₂ => ?_
    walk_at "m"
    by_cases hin : k.take (upTo n k.length) ∈ T1.r.xs.map (·.1)
    · rw [decide_eq_true hin, if_pos rfl]
      walk_at "ms"
      refine nmL S₁₁ h11s ?_ rfl rfl (by decide)
      refine tr_vars C' S₁₂ ?_
      refine nmL S₁₁ h11b ?_ rfl rfl (by decide)
      have hat : ∃ q, atKey T1.r.xs (k.take (upTo n k.length)) = some q := by
        rw [← Option.isSome_iff_exists, atKey_isSome]
        exact decide_eq_true hin
      obtain ⟨q, hq⟩ := hat
      refine od_sub od rfl rfl (od_getItem (by show A.units + 3 + 1 < 9900; omega) od hb hq fun tk₁₃ => ?_)
      refine leave S₁₂ fun S₁₃ => ?_
      rw [hxs] at hq hin
      exact post T1 _ q pe2 _ _ (fun _ z => hsub2 (hsub (hpe1 z))) rel (brn_some hn rfl hin hno) hq ok2 S₁₃
    · rw [decide_eq_false hin, if_neg (by simp)]
      walk_at "ms"
      rw [hxs] at hin
      refine ⟨_, _, m11, _, pe2, rfl, ⟨fun _ z => hsub2 (hsub z), rfl, h11s', h11n, h11c, fun n' hn' => ?_⟩, S₁₁⟩
      rw [List.take_add_one, hn] at hn'
      rcases List.mem_append.mp hn' with z | z
      · exact hno n' z
      · have z' : n' = n := by simpa using z
        rw [z']; exact hin
  · rintro m' mu' pe' h tk ⟨hsub, rfl, hms', hmn', hmc', hno⟩ S₈'
    have S₈ : SL g L' m' h (T1.led w ++ mr) pe' := S₈'
    have hno' : ∀ n ∈ lensD (T.r.xs.map (·.1)), k.take (upTo n k.length) ∉ T.r.xs.map (·.1) := fun n hn => hno n (by
      have e : r1.lv.toArray.size = (lensD (T.r.xs.map (·.1))).length := by rw [List.size_toArray, hlv.length]
      rw [e, List.take_length]; exact hn)
    have ok2 : T1.r.Ok w pe' := okT.mono hsub
    walk_at "m"
    refine exec_raise_obj (kx_base w) ?_
    refine noobj_eval C' S₈ (by show A.depth + 1 < 970; omega) hmn' hmc' (List.mem_append_right _ (hsub hctx)) hdS rfl rfl rfl rfl ⟨_, rfl⟩ fun e t dx h₉ tk₉ S₉ => ?_
    refine ⟨e, t, some dx, rfl, S₉.X C', S₉.get (.head _), ?_⟩
    refine wpAny_raiseNew_none (by exact hh) ?_
    refine ex_leave C'.B rfl rfl S₉ rfl rfl rfl fun h'' RX up => ?_
    refine err T1 pe' g e h'' _ (fun _ z => hsub (hpe1 z)) rel (brn_none hno') ok2 FG RX up ?_
    have := S₉.nd
    rw [List.cons_append, List.map_cons, List.nodup_cons] at this
    exact this.2
end
section
open PyProof.Rows.LCg PySem.W
variable {w : World} {A A₀ : Around} {base h₀ h : Heap} {outer : List Env} {env : Env} {L C : Addr} {p : Program} {loose : List Str} {mean : ExcName → Option Value} {mg mb m : Str → Option Value} {mu mu' mr pe : Lg}
  {G : Array GenState} {D : Drawn} {tk : Nat} {O : OsState} {R : Result → Shared → Prop} {E : Value → Shared → Prop} {pos : Pos}
theorem turn_err {g g' : Heap} (C : Fm w A A₀ base outer env h₀ L p loose mean mg mb) (b : Bt w base outer h₀ p loose mean mg mb) (FG : Fr h₀ L g m) (T' : Tn (env :: outer) g g') :
    ∃ h₀', Tn outer h₀ h₀' ∧ Fm w A A₀ base outer env h₀' L p loose mean mg mb ∧ Bt w base outer h₀' p loose mean mg mb ∧ Fr h₀' L g' m := by
  obtain ⟨oL, es, ep, hLg, hLd, hLk, hLf⟩ := FG.ns
  have nL₀ : h₀.get? L = none := kts_self FG
  obtain ⟨sl, hs⟩ := T'.up hLg
  obtain ⟨T₁, S₁⟩ := kts_turn_at (h := g') (fs := frs outer) (g := h₀)
    (fun a ha => by obtain ⟨_, o, ho', _⟩ := C.B.frames.mem ha; exact ⟨o, ho'⟩)
    (fun a o e nmem => T'.other a o (FG.keep a o e) (fun q => by
      rcases frs_mem C.hf q with z | z
      · rw [z, nL₀] at e; cases e
      · exact nmem z))
    (fun a o e hm => T'.up (FG.keep a o e))
  have B₃ : Below A₀ base outer (ktsHeap g' (frs outer) h₀) := ⟨C.B.stack, fun a o e => T₁.other a o (C.B.stays a o e) (fun hm => by
    rw [(C.B.frames.mem hm).1] at e; cases e), C.B.frames.of_keeps fun a o e _ => by
    obtain ⟨sl', hs'⟩ := T₁.up e
    exact ⟨_, hs', rfl⟩⟩
  exact ⟨_, T₁, C.at_ b B₃, b.turn T₁, ⟨_, es, ep, hs, hLd, hLk, hLf⟩, S₁, by rw [T₁.size]; exact FG.above⟩
theorem BindsN.kw0' {fd : FuncData} {args : Args} {front : List (Str × Value)} {nm : Str} (e : bindArgs fd args = alloc { cls := .type "dict", data := .dict #[] } >>= fun d => pure (front ++ [(nm, .ref d)])) :
    BindsN h G D tk O fd args (front ++ [(nm, .ref h.objs.size)]) (eOb w [] 0) := BindsN.kw0 e
theorem nxt_first {ks : Ts} {kf : Nm × Addr} {rest : Ts} {k : Nm} (e : ks = kf :: rest) (up : Up (ks.map (·.1))) (hlt : nlt k kf.1 = true) : nxt ks k = some kf := by
  have hno : (ks.filter fun y => nle y.1 k) = [] := by
    rw [List.filter_eq_nil_iff]
    intro y hy
    rw [e] at hy up
    rw [List.map_cons, Up, List.pairwise_cons] at up
    have : nlt k y.1 = true := by
      rcases List.mem_cons.mp hy with rfl | hy
      · exact hlt
      · exact nlt_tr _ _ _ hlt (up.1 _ (List.mem_map_of_mem hy))
    simp [nle, this]
  unfold nxt
  rw [hno, e]
  rfl
theorem nxt_nil {k : Nm} : nxt [] k = none := rfl
theorem OrdRel.trans {r r1 r2 : OR} (x : OrdRel r r1) (y : OrdRel r1 r2) : OrdRel r r2 := ⟨y.t.trans x.t, y.kc.trans x.kc, y.xs.trans x.xs, y.cs.trans x.cs, y.ks.trans x.ks, y.up, y.b, y.ln, y.lv⟩
theorem tr_next {T : TR} {k : Nm} {a : Addr} (Cm : Fm w A A₀ base outer env h₀ L p loose mean mg mb) (bt : Bt w base outer h₀ p loose mean mg mb) (S : SL h₀ L m h (T.led w ++ mr) pe) (ok : T.r.Ok w pe) (cl : Clean T.r) (sh : Short (T.r.ks.map (·.1))) (hz : T.r.ks.length < 64) (hk : IsNm w pe k a) (hh : A.handled = none) (hd : A.depth < 840) (hu : A.units < 8500)
    (post : ∀ h₀' T' y q pe' h' tk', Tn outer h₀ h₀' → Fm w A A₀ base outer env h₀' L p loose mean mg mb → Bt w base outer h₀' p loose mean mg mb → pe ⊆ pe' → TrRel T T' → nxt T'.r.ks k = some y → atKey T.r.xs y.1 = some q → T'.r.Ok w pe' → SL h₀' L m h' (T'.led w ++ mr) pe' → R (.ok (.ret q.2)) ⟨h', G, D, tk', O⟩)
    (err : ∀ h₀' T' pe' GG e h' tk', Tn outer h₀ h₀' → Fm w A A₀ base outer env h₀' L p loose mean mg mb → Bt w base outer h₀' p loose mean mg mb → pe ⊆ pe' → TrRel T T' → nxt T'.r.ks k = none → T'.r.Ok w pe' → Fr h₀' L GG m → RaisedX base GG (env :: outer) e (.ref 269) ((T'.led w ++ mr) ++ pe') h' → GG.UpToSlots h' →
      (((T'.led w ++ mr) ++ pe').map (·.1)).Nodup → R (.error (.ref e)) ⟨h', G, D, tk', O⟩) :
    codeAny (model PR w) A (.call (.ref 460) ⟨[.ref T.t, .ref a], []⟩) R ⟨h, G, D, tk, O⟩ := by
  refine' enterTN (binds := [(("self" : Str), Value.ref T.t), (("name" : Str), Value.ref a)] ++ [(("context" : Str), Value.ref h.objs.size)]) (cl := []) (o := eOb w [] 0) Cm bt S rfl ((S.X Cm) _ _ ?k6) ?k7 ?k8 ?k9 ?kB ?_ ?c2 ?c3 ?c4 ?c5
  case k6 => k_is
  case k7 => k_is
  case k8 => show A.depth < 1000; omega
  case k9 =>
    refine' BindsN.kw0' ?e
    case e => exact rfl
  case kB => exact locs rfl
  case c2 => decide
  case c3 => exact rfl
  case c4 => exact rfl
  case c5 => exact rfl
  intro g L' h₁ tk₁ C' b' FG S0
  have hdS : (h.objs.size == sysModules) = false := notSys (S.X Cm) (Nat.le_refl _)
  obtain ⟨dc, edc⟩ : ∃ dc, dc = h.objs.size := ⟨_, rfl⟩
  rw [← edc] at S0 hdS
  have S' := S0.toPe
  obtain ⟨pe1, epe1⟩ : ∃ pe1, pe1 = (dc, eOb w [] 0) :: pe := ⟨_, rfl⟩
  rw [← epe1] at S'
  have hpe1 : pe ⊆ pe1 := by rw [epe1]; exact fun _ z => .tail _ z
  have hctx : (dc, eOb w [] 0) ∈ pe1 := by rw [epe1]; exact .head _
  obtain ⟨m1, em1, S₃⟩ : ∃ m1 : Str → Option Value, m1 = (fun y => List.lookup y ([(("self" : Str), Value.ref T.t), (("name" : Str), Value.ref a)] ++ [(("context" : Str), Value.ref dc)] : List (Str × Value)).reverse) ∧ SL g L' m1 h₁ (T.led w ++ mr) pe1 := ⟨_, rfl, S'⟩
  have hms : m1 "self" = some (.ref T.t) := by rw [em1]; rfl
  have hmn : m1 "name" = some (.ref a) := by rw [em1]; rfl
  have hmc : m1 "context" = some (.ref dc) := by rw [em1]; rfl
  have okp := ok.mono hpe1
  have hlen := okp.same.length_eq
  rw [List.length_map, List.length_map] at hlen
  refine mid (P := fun s' => ∃ T1 h' tk' m' f, s' = ⟨h', G, D, tk', O⟩ ∧ T1.r.Ok w pe1 ∧ Clean T1.r ∧ T1.t = T.t ∧ T1.r.xs = T.r.xs ∧ T1.r.ks.Perm T.r.ks ∧ SL g L' m' h' (T1.led w ++ mr) pe1 ∧ m' "self" = some (.ref T1.t) ∧ m' "name" = some (.ref a) ∧ m' "context" = some (.ref dc) ∧ m' "first" = some (.ref f) ∧
    ((T1 = T ∧ T.r.xs = []) ∨ (T.r.xs ≠ [] ∧ TrRel T T1 ∧ ∃ kf rest, T1.r.ks = (kf, f) :: rest))) ?_ ?_
  · walk_at "ms"
    refine nmL S₃ hms ?_ rfl rfl (by decide)
    refine tr_vars C' S₃ ?_
    have od : OdAt w h₁ pe1 T.r.t T.r.td _ _ T.r.xs T.r.nt := OR.odAt S₃.drop1.drop1 (S₃.X C') okp.x okp.st
    refine od_truthy od (by omega) ?_
    by_cases hx : T.r.xs = []
    · have : T.r.xs.isEmpty = true := by rw [hx]; rfl
      rw [this, if_neg (by simp)]
      walk_at "ms"
      refine newTupleL (by simp) ?_
      have S₄ := (S₃.push (tupO [] 0)).drop1
      refine stL S₄ (fun h₅ S₅ => ?_) rfl rfl
      walk_at "ms"
      exact ⟨rfl, T, h₅, _, _, _, rfl, okp, cl, rfl, rfl, .refl _, S₅, hms, hmn, hmc, rfl, .inl ⟨rfl, hx⟩⟩
    · have : T.r.xs.isEmpty = false := by
        cases q : T.r.xs with
        | nil => exact absurd q hx
        | cons _ _ => rfl
      rw [this, if_pos (by rfl)]
      walk_at "ms"
      refine callB (machT _) ?_ rfl rfl
      refine spliced_more ?_
      walk_at "ms"
      refine nmL S₃ hms ?_ rfl rfl (by decide)
      refine tr_vars C' S₃ ?_
      have S₄ := TR.toR S₃
      refine odMeth (S₄.X C') (OR.inst S₄) (by k_is) (by k_is) (odF_no rfl rfl rfl rfl) ?_
      refine callK0 (by k_is) (S₄.X C') ?_
      refine wpAny_call ?_
      refine sd_keys C' S₄ okp cl sh hz (by exact hh) (by show A.depth + 1 < 860; omega) (by show A.units + 3 < 8700; omega) fun r1 d1 n1 h₅ tk₅ x ok1 S₅ => ?_
      have hl1 : r1.ks.length = T.r.ks.length := x.ks.length_eq
      refine spliced_none ?_
      refine list_copy S₅ (.head _) (by rw [refs_length]; omega) fun d2 n2 h₆ tk₆ S₆ => ?_
      walk_at "ms"
      have hne : r1.ks ≠ [] := fun q => hx (by
        have e := hl1
        rw [q, List.length_nil] at e
        exact List.length_eq_zero_iff.mp (by omega))
      obtain ⟨⟨kf, f⟩, rest, ek⟩ : ∃ y rest, r1.ks = y :: rest := by
        cases q : r1.ks with
        | nil => exact absurd q hne
        | cons y r => exact ⟨y, r, rfl⟩
      refine item_listA (items := (refs r1.ks).toArray) ⟨_, S₆.get (.head _), rfl, _, rfl⟩ (by decide) (by decide) (x := .ref f) (by rw [ek]; rfl) ?_
      obtain ⟨T1, eT1⟩ : ∃ T1 : TR, T1 = { T with r := r1 } := ⟨_, rfl⟩
      have S₇ : SL g L' m1 h₆ (T1.led w ++ mr) pe1 := by rw [eT1]; exact TR.ofR x.t S₆.drop1.drop1
      refine stL S₇ (fun h₈ S₈ => ?_) rfl rfl
      walk_at "ms"
      have rel : TrRel T T1 := by subst eT1; exact ⟨rfl, rfl, rfl, x⟩
      have er : T1.r = r1 := by rw [eT1]
      exact ⟨rfl, T1, h₈, _, _, f, rfl, by rw [er]; exact ok1, by rw [er]; exact x.clean, rel.t, by rw [er]; exact x.xs, by rw [er]; exact x.ks, S₈, by rw [rel.t]; exact hms, hmn, hmc, rfl, .inr ⟨hx, rel, kf, rest, by rw [er]; exact ek⟩⟩
  · rintro _ ⟨T1, h₂, tk₂, m2, f, rfl, ok1, cl1, e1t, e1x, e1k, S₂, h2s, h2n, h2c, h2f, hor⟩
    have od : OdAt w h₂ pe1 T1.r.t T1.r.td _ _ T1.r.xs T1.r.nt := OR.odAt S₂.drop1.drop1 (S₂.X C') ok1.x ok1.st
    have hk1 : IsNm w pe1 k a := hk.mono hpe1
    have hl1 : T1.r.ks.length = T.r.ks.length := e1k.length_eq
    refine wpAny_execs_cons ?_
    refine wpAny_If (wpAny_mono (Q := fun c s' => ∃ tk', s' = ⟨h₂, G, D, tk', O⟩ ∧ (c = true → ∃ kf rest, T1.r.ks = (kf, f) :: rest ∧ TrRel T T1 ∧ nlt k kf = true)) ?_ (fun c s' hc => ?_) (fun _ _ z => z))
    · refine isTrue_and ?_
      walk_at "ms"
      refine nmL S₂ h2s ?_ rfl rfl (by decide)
      refine tr_vars C' S₂ ?_
      refine od_truthy od (by rw [e1x]; omega) ?_
      rcases hor with ⟨_, hx⟩ | ⟨hx, rel, kf, rest, ek⟩
      · have : T1.r.xs.isEmpty = true := by rw [e1x, hx]; rfl
        rw [this, if_neg (by simp)]
        exact ⟨_, rfl, fun z => by cases z⟩
      · have : T1.r.xs.isEmpty = false := by
          rw [e1x]
          cases q : T.r.xs with
          | nil => exact absurd q hx
          | cons _ _ => rfl
        rw [this, if_pos (by rfl)]
        refine isTrue_and ?_
        walk_at "ms"
        refine nmL S₂ h2n ?_ rfl rfl (by decide)
        refine nmL S₂ h2f ?_ rfl rfl (by decide)
        have hkf : IsNm w pe1 kf f := ok1.k (kf, f) (by rw [ek]; exact .head _)
        refine nm_lt (by show A.units + 3 < 9900; omega) S₂.pes hk1 hkf ?_
        walk_at "m"
        cases hlt : nlt k kf with
        | true =>
          rw [if_pos rfl]
          refine isTrue_and_nil ?_
          exact ⟨_, rfl, fun _ => ⟨kf, rest, ek, rel, hlt⟩⟩
        | false =>
          rw [if_neg (by simp)]
          exact ⟨_, rfl, fun z => by cases z⟩
    · obtain ⟨tk₃, rfl, hc⟩ := hc
      cases c with
      | true =>
        rw [if_pos rfl]
        obtain ⟨kf, rest, ek, rel, hlt⟩ := hc rfl
        have hin : (kf, f) ∈ T1.r.ks := by rw [ek]; exact .head _
        have hkf : IsNm w pe1 kf f := ok1.k (kf, f) hin
        walk_at "ms"
        refine nmL S₂ h2s ?_ rfl rfl (by decide)
        refine tr_vars C' S₂ ?_
        refine nmL S₂ h2f ?_ rfl rfl (by decide)
        have hat : ∃ q, atKey T1.r.xs kf = some q := by
          rw [← Option.isSome_iff_exists, atKey_isSome]
          exact decide_eq_true (ok1.same.mem_iff.mp (List.mem_map_of_mem (f := (·.1)) hin))
        obtain ⟨q, hq⟩ := hat
        refine od_sub od rfl rfl (od_getItem (by show A.units + 3 + 1 < 9900; omega) od hkf hq fun tk₄ => ?_)
        refine ⟨g, L', m2, _, _, .refl, S₂, fun h₀' Tn' Cm' bt' S₅ => ?_⟩
        rw [e1x] at hq
        exact post h₀' T1 (kf, f) q pe1 _ _ Tn' Cm' bt' hpe1 rel (nxt_first ek rel.r.up hlt) hq ok1 S₅
      | false =>
        rw [if_neg (by simp)]
        walk_at "m"
        refine wpAny_Try_except ?_
        walk_at "ms"
        refine nmL S₂ h2s ?_ rfl rfl (by decide)
        refine tr_vars C' S₂ ?_
        walk_at "ms"
        refine nmL S₂ h2s ?_ rfl rfl (by decide)
        refine tr_vars C' S₂ ?_
        have S₄ := TR.toR S₂
        refine odMeth (S₄.X C') (OR.inst S₄) (by k_is) (by k_is) (odF_no rfl rfl rfl rfl) ?_
        refine callK (by k_is) ?_ rfl rfl
        refine spliced_more ?_
        refine nmL S₄ h2n ?_ rfl rfl (by decide)
        refine spliced_none ?_
        refine ⟨S₄.X C', wpAny_call ?_⟩
        have sh1 : Short (T1.r.ks.map (·.1)) := fun k hk => sh k ((e1k.map (·.1)).mem_iff.mp hk)
        have hT : ∀ {r' : OR}, OrdRel T1.r r' → TrRel T { T1 with r := r' } := fun {r'} x => by
          rcases hor with ⟨rfl, _⟩ | ⟨_, rel, _⟩
          · exact ⟨rfl, rfl, rfl, x⟩
          · exact ⟨rel.t, rel.na, rel.cnt, rel.r.trans x⟩
        refine sd_next C' S₄ ok1 cl1 sh1 (by omega) hk1 (by exact hh) (by show A.depth + 1 < 860; omega) (by show A.units + 3 < 8700; omega) (fun r' y h₅ tk₅ x ok2 hy S₅ => ?_) (fun r' GG e h₅ tk₅ x ok2 hy FGG RX up f2 nd => ?_)
        · have hin : y ∈ r'.ks := List.mem_of_getElem? hy
          have hkf : IsNm w pe1 y.1 y.2 := ok2.k y hin
          have S₆ := TR.ofR (T := T1) x.t S₅
          obtain ⟨T2, eT2⟩ : ∃ T2 : TR, T2 = { T1 with r := r' } := ⟨_, rfl⟩
          have er : T2.r = r' := by rw [eT2]
          have rel2 : TrRel T T2 := by rw [eT2]; exact hT x
          rw [← eT2] at S₆
          rw [← er] at ok2 hin hy
          have od2 : OdAt w h₅ pe1 T2.r.t T2.r.td _ _ T2.r.xs T2.r.nt := OR.odAt S₆.drop1.drop1 (S₆.X C') ok2.x ok2.st
          have hat : ∃ q, atKey T2.r.xs y.1 = some q := by
            rw [← Option.isSome_iff_exists, atKey_isSome]
            exact decide_eq_true (ok2.same.mem_iff.mp (List.mem_map_of_mem (f := (·.1)) hin))
          obtain ⟨q, hq⟩ := hat
          refine od_sub od2 rfl (by rw [er]; exact x.t) (od_getItem (by show A.units + 3 + 1 < 9900; omega) od2 hkf hq fun tk₆ => ?_)
          refine ⟨g, L', m2, _, _, .refl, S₆, fun h₀' Tn' Cm' bt' S₇ => ?_⟩
          rw [rel2.r.xs] at hq
          exact post h₀' T2 y q pe1 _ _ Tn' Cm' bt' hpe1 rel2 hy hq ok2 S₇
        · refine' ex_caught2 C' b' FGG RX up f2 nd (handles_key ?x1 ?x2 ?x3) ?hE ?_
          case x1 => k_is
          case x2 => rfl
          case x3 => rfl
          case hE => exact PassesOwnAt.leaving
          intro h₆ g' oe vs hoe hoe2 Tn' S₆' C'' b''
          have S₆ := TR.ofR (T := T1) x.t S₆'
          obtain ⟨T2, eT2⟩ : ∃ T2 : TR, T2 = { T1 with r := r' } := ⟨_, rfl⟩
          have er : T2.r = r' := by rw [eT2]
          have rel2 : TrRel T T2 := by rw [eT2]; exact hT x
          rw [← eT2] at S₆
          rw [← er] at ok2 hy
          walk_at "m"
          refine exec_raise_obj (kx_base w) ?_
          refine noobj_eval C'' S₆ (by show A.depth + 1 < 970; omega) h2n h2c (List.mem_append_right _ (.tail _ hctx)) hdS rfl rfl rfl rfl ⟨_, rfl⟩ fun e2 t dx h₉ tk₉ S₉ => ?_
          refine ⟨e2, t, some dx, rfl, S₉.X C'', S₉.get (.head _), ?_⟩
          have hne : e ≠ e2 := fun z => by
            have := S₉.nd
            rw [List.cons_append, List.map_cons, List.nodup_cons] at this
            have hm : e ∈ ((T2.led w ++ mr) ++ (e, oe) :: pe1).map (fun x => x.1) := List.mem_map_of_mem (f := fun x => x.1) (a := (e, oe)) (List.mem_append_right _ (.head _))
            exact this.1 (by rw [← z]; exact hm)
          refine raiseNew_in rfl hne (S₉.getp (.head _)) hoe hoe2 S₉ fun h₁₀ S₁₀ => ?_
          obtain ⟨h₀', T0, Cm0, bt0, F0⟩ := turn_err Cm bt FG Tn'
          refine ex_leave C''.B rfl rfl S₁₀ rfl rfl rfl fun h'' RX2 up2 => ?_
          refine err h₀' T2 ((e, oe) :: pe1) g' e2 h'' _ T0 Cm0 bt0 (fun _ z => .tail _ (hpe1 z)) rel2 hy (ok2.mono fun _ z => .tail _ z) F0 RX2 up2 ?_
          have := S₁₀.nd
          rw [List.cons_append, List.map_cons, List.nodup_cons] at this
          exact this.2
end
def lawBody : List Stmt := match PR.main.body.getLast? with
  | some (.FunctionDef _ _ b _ _ _ _ _ _ _) => b
  | _ => []
def DefAt (i : Nat) (name : Str) (params : Arguments) (body : List Stmt) (scope : Scope) : Prop := ∃ pos, lawBody[i]? = some (.FunctionDef name params body [] none [] scope none name pos)
section
open PySem.W
variable {w : World} {A A₀ : Around} {base h₀ h g : Heap} {outer : List Env} {env : Env} {L : Addr} {p : Program} {loose : List Str} {mean : ExcName → Option Value} {mg mb m : Str → Option Value} {mu pe : Lg}
  {G : Array GenState} {D : Drawn} {tk : Nat} {O : OsState} {R : Result → Shared → Prop} {E : Value → Shared → Prop} {name qual : Str} {params : Arguments} {body : List Stmt} {scope : Scope} {cl : List (Str × Addr)} {dV kV doc pm cdv ct oc : Value} {an od : Option Addr} {osl : Array (Option Value)} {f : Addr} {args : Args} {binds : List (Str × Value)} {pos : Pos}
def IsDef (w : World) (pe : Lg) (i : Nat) (qual : Str) (cl : List (Str × Addr)) (f : Addr) : Prop :=
  ∃ (name : Str) (params : Arguments) (body : List Stmt) (scope : Scope) (doc pm ctv : Value) (c' : Addr) (oc : Obj) (vs : Array Value) (t : Tok), DefAt i name params body scope ∧ (f, fnMade name qual params body scope cl doc pm c' ctv) ∈ pe ∧ (c', oc) ∈ pe ∧ oc.data = .fields vs ∧ vs[1]? = some (.str qual t)
theorem IsDef.mono {pe' : Lg} {i : Nat} {q : Str} (x : IsDef w pe i q cl f) (hs : pe ⊆ pe') : IsDef w pe' i q cl f := by
  obtain ⟨name, params, body, scope, doc, pm, ctv, c', oc, vs, t, a, b, c, d, e⟩ := x
  exact ⟨name, params, body, scope, doc, pm, ctv, c', oc, vs, t, a, hs b, hs c, d, e⟩
theorem IsDef.at {i : Nat} {q : Str} (x : IsDef w pe i q cl f) (S : SL h₀ L m h mu pe) : FnAt f h := by
  obtain ⟨name, params, body, scope, doc, pm, ctv, c', oc, vs, t, a, b, c, d, e⟩ := x
  exact ⟨_, _, _, _, S.getp b⟩
theorem callF {first : List Value} {e : Expr} {rest : List Expr} {Q : Value → Shared → Prop} {s : Shared} (X : FnAt f s.heap)
    (q : wpAny (model PR w) A (spliced (backTo pos (starEach (e :: rest) env))) (fun vs s₁ => FnAt f s₁.heap ∧ wpAny (model PR w) A (call (.ref f) (first ++ vs)) Q E s₁) E s)
    (he : starEach (e :: rest) env = (false, eval e env) :: starEach rest env) (hp : (backTo pos (starEach rest env)).any (·.1) = false) :
    wpAny (model PR w) A (callWith pos (.ref f) first (backTo pos (starEach (e :: rest) env)) []) Q E s := callWith_F X q he hp
theorem enterR (C : Fm w A A₀ base outer env h₀ L p loose mean mg mb) (S : SL h₀ L m h mu pe)
    (ho : h.get? f = some ⟨oc, od, .func (fnX name qual params body scope cl dV kV doc pm an cdv ct), osl⟩) (hcd : h.CodeRec cdv qual) (hroom : A.depth < recursionLimit)
    (hbind : BindsTo ⟨h, G, D, tk, O⟩ (fnX name qual params body scope cl dV kV doc pm an cdv ct) args binds) (hloc : ∀ y ∈ binds, scope.names.lookup y.1 = some .local)
    (k : ∀ g L' h₁, Fm w (A.deeper (envX qual scope L' f cdv cl)) A base (env :: outer) (envX qual scope L' f cdv cl) g L' p loose mean mg mb → Fr h₀ L g m → SL g L' (fun y => binds.reverse.lookup y) h₁ mu pe →
      wpAny (model PR w) (A.deeper (envX qual scope L' f cdv cl)) (execs body (envX qual scope L' f cdv cl)) (Ret R h₀ L m g) (Err w A (envX qual scope L' f cdv cl) R) ⟨h₁, G, D, tk + binds.length, O⟩)
    (hcell : ∀ x ∈ scope.names, x.2 ≠ .cell) (hco : scope.isCoroutine = false) (hgen : scope.isGenerator = false) (hk : scope.kind = .function) :
    codeAny (model PR w) A (.call (.ref f) args) R ⟨h, G, D, tk, O⟩ :=
  callX_plain C.B S.fr S.nw C.T.nolimit C.hA C.hf C.hk ho rfl hcd hroom hbind hloc
    (fun g L' h₁ FG F' N' B' st _ => k g L' h₁ ⟨B', by rw [Around.deeper, C.hA]; rfl, rfl, hk, C.X.keeps st, C.T.keeps st⟩ FG ⟨F', N', S.nd⟩) hcell hco hgen hk
theorem enterRC (C : Fm w A A₀ base outer env h₀ L p loose mean mg mb) (S : SL h₀ L m h mu pe)
    (ho : h.get? f = some ⟨oc, od, .func (fnX name qual params body scope [] dV kV doc pm an cdv ct), osl⟩) (hcd : h.CodeRec cdv qual) (hroom : A.depth < recursionLimit)
    (hbind : BindsTo ⟨h, G, D, tk, O⟩ (fnX name qual params body scope [] dV kV doc pm an cdv ct) args binds)
    (hkind : (binds.all fun y => scope.names.lookup y.1 == some .local || scope.names.lookup y.1 == some .cell) = true) (hnd : ((cellsFrom 0 scope.names []).map (·.1)).Nodup)
    (k : ∀ g L' h₁ tk' cells, Fm w (A.deeper (envOfC qual scope L' f cdv)) A base (env :: outer) (envOfC qual scope L' f cdv) g L' p loose mean mg mb → Fr h₀ L g m →
      CellsAre (bindC (envOfC qual scope L' f cdv).kindOf binds fun _ => none) (cellsFrom (L' + 1) scope.names []) cells → ((∀ p ∈ cells, L' < p.1) → (cells.map (·.1)).Nodup → SL g L' (bindL (envOfC qual scope L' f cdv).kindOf binds fun _ => none) h₁ (cells ++ mu) pe) →
      wpAny (model PR w) (A.deeper (envOfC qual scope L' f cdv)) (execs body (envOfC qual scope L' f cdv)) (Ret R h₀ L m g) (Err w A (envOfC qual scope L' f cdv) R) ⟨h₁, G, D, tk', O⟩)
    (hco : scope.isCoroutine = false) (hgen : scope.isGenerator = false) (hk : scope.kind = .function) :
    codeAny (model PR w) A (.call (.ref f) args) R ⟨h, G, D, tk, O⟩ :=
  callX_cells C.B S.fr S.nw C.T.nolimit C.hA C.hf C.hk ho rfl hcd hroom hbind (kindsX hkind) hnd
    (fun g L' h₁ tk' cells FG F' N' Y B' st l => k g L' h₁ tk' cells ⟨B', by rw [Around.deeper, C.hA]; rfl, rfl, hk, C.X.keeps st, C.T.keeps st⟩ FG Y fun lc nc => ⟨F', by rw [List.append_assoc]; exact N', nd_cells S.nd l lc nc⟩) hco hgen hk
theorem enterTR (C : Fm w A A₀ base outer env h₀ L p loose mean mg mb) (b : Bt w base outer h₀ p loose mean mg mb) (S : SL h₀ L m h mu pe)
    (ho : h.get? f = some ⟨oc, od, .func (fnX name qual params body scope cl dV kV doc pm an cdv ct), osl⟩) (hcd : h.CodeRec cdv qual) (hroom : A.depth < recursionLimit)
    (hbind : BindsTo ⟨h, G, D, tk, O⟩ (fnX name qual params body scope cl dV kV doc pm an cdv ct) args binds) (hloc : ∀ y ∈ binds, scope.names.lookup y.1 = some .local)
    (k : ∀ g L' h₁, Fm w (A.deeper (envX qual scope L' f cdv cl)) A base (env :: outer) (envX qual scope L' f cdv cl) g L' p loose mean mg mb → Bt w base (env :: outer) g p loose mean mg mb → Fr h₀ L g m → SL g L' (fun y => binds.reverse.lookup y) h₁ mu pe →
      wpAny (model PR w) (A.deeper (envX qual scope L' f cdv cl)) (execs body (envX qual scope L' f cdv cl)) (RetT w A A₀ base outer env h₀ L m g p loose mean mg mb R) (Err w A (envX qual scope L' f cdv cl) R) ⟨h₁, G, D, tk + binds.length, O⟩)
    (hcell : ∀ x ∈ scope.names, x.2 ≠ .cell) (hco : scope.isCoroutine = false) (hgen : scope.isGenerator = false) (hk : scope.kind = .function) :
    codeAny (model PR w) A (.call (.ref f) args) R ⟨h, G, D, tk, O⟩ := by
  obtain ⟨FG, BG, st, b', lv⟩ := turn_ground (R := R) G D tk O C b S
  refine codeAny_call_def (s := ⟨h, G, D, tk, O⟩) (fd := fnX name qual params body scope cl dV kV doc pm an cdv ct) (body := body) (binds := binds) hroom ho rfl (C.T.nolimit.keeps S.fr.keep) hcd rfl hbind hcell hloc (fun h₁ hns hk₁ => ?_) hco hgen hk
  exact wpAny_mono (k _ h.objs.size h₁ ⟨BG, by rw [Around.deeper, C.hA]; rfl, rfl, hk, C.X.keeps st, C.T.keeps st⟩ b' FG ⟨⟨hns, fun b o e => hk₁ b o (of_hideAll _ e), Nat.le_of_eq (hideAll_size _ _)⟩,
    (fun p hp => ⟨hk₁ _ _ (S.nw p hp).1, Nat.ne_of_lt (Heap.lt_size (S.nw p hp).1), hideAll_none _ (List.mem_map_of_mem hp)⟩), S.nd⟩) (fun fl s' hl => lv hl) fun _ _ y => y
theorem enterTRC (C : Fm w A A₀ base outer env h₀ L p loose mean mg mb) (b : Bt w base outer h₀ p loose mean mg mb) (S : SL h₀ L m h mu pe)
    (ho : h.get? f = some ⟨oc, od, .func (fnX name qual params body scope [] dV kV doc pm an cdv ct), osl⟩) (hcd : h.CodeRec cdv qual) (hroom : A.depth < recursionLimit)
    (hbind : BindsTo ⟨h, G, D, tk, O⟩ (fnX name qual params body scope [] dV kV doc pm an cdv ct) args binds)
    (hkind : (binds.all fun y => scope.names.lookup y.1 == some .local || scope.names.lookup y.1 == some .cell) = true) (hnd : ((cellsFrom 0 scope.names []).map (·.1)).Nodup)
    (k : ∀ g L' h₁ tk' cells, Fm w (A.deeper (envOfC qual scope L' f cdv)) A base (env :: outer) (envOfC qual scope L' f cdv) g L' p loose mean mg mb → Bt w base (env :: outer) g p loose mean mg mb → Fr h₀ L g m →
      CellsAre (bindC (envOfC qual scope L' f cdv).kindOf binds fun _ => none) (cellsFrom (L' + 1) scope.names []) cells → ((∀ p ∈ cells, L' < p.1) → (cells.map (·.1)).Nodup → SL g L' (bindL (envOfC qual scope L' f cdv).kindOf binds fun _ => none) h₁ (cells ++ mu) pe) →
      wpAny (model PR w) (A.deeper (envOfC qual scope L' f cdv)) (execs body (envOfC qual scope L' f cdv)) (RetT w A A₀ base outer env h₀ L m g p loose mean mg mb R) (Err w A (envOfC qual scope L' f cdv) R) ⟨h₁, G, D, tk', O⟩)
    (hco : scope.isCoroutine = false) (hgen : scope.isGenerator = false) (hk : scope.kind = .function) :
    codeAny (model PR w) A (.call (.ref f) args) R ⟨h, G, D, tk, O⟩ := by
  obtain ⟨FG, BG, st, b', lv⟩ := turn_ground (R := R) G D tk O C b S
  refine codeAny_call_function (s := ⟨h, G, D, tk, O⟩) hroom ho rfl hco hgen rfl hcd (hbind _ _ _ _ ?_)
  refine wpAny_newFunctionEnv_cells hk (kindsX hkind _) fun env' he s' x => ?_
  subst he
  refine ⟨((C.T.nolimit.keeps S.fr.keep)).keeps x.toInCall.keep, codeAny_func ?_⟩
  obtain ⟨h₁, tk₁, rfl, _⟩ := x.done
  have hk₁ := x.toInCall.keep
  obtain ⟨cells, NC, Y⟩ := Cl.news (h₀ := h) (Nat.le_refl _) fun n c hm => ⟨x.cell n c (lookup_of_mem_nodup (cellsFrom_names scope.names 0 (h.objs.size + 1) [] [] rfl ▸ hnd) hm), x.above n c hm⟩
  refine wpAny_mono (k _ h.objs.size h₁ tk₁ cells ⟨BG, by rw [Around.deeper, C.hA]; rfl, rfl, hk, C.X.keeps st, C.T.keeps st⟩ b' FG Y fun lc nc => ⟨⟨x.toInCall.ns, fun b o e => hk₁ b o (of_hideAll _ e), Nat.le_of_eq (hideAll_size _ _)⟩, (fun p hp => ?_), nd_cells S.nd (fun q hq => S.lt q hq) lc nc⟩) (fun fl s' hl => lv hl) fun _ _ y => y
  rw [List.append_assoc] at hp
  rcases List.mem_append.mp hp with hp | hp
  · refine ⟨(NC p hp).1, (NC p hp).2.1, ?_⟩
    cases q : (hideAll h ((mu ++ pe).map (·.1))).get? p.1 with
    | none => rfl
    | some o => have := of_hideAll _ q; rw [(NC p hp).2.2] at this; cases this
  · exact ⟨hk₁ _ _ (S.nw p hp).1, Nat.ne_of_lt (Heap.lt_size (S.nw p hp).1), hideAll_none _ (List.mem_map_of_mem hp)⟩
end
section
open PyProof.Rows.LCg PySem.W
variable {w : World} {A A₀ : Around} {base h₀ h : Heap} {outer : List Env} {env : Env} {L f sl cc : Addr} {p : Program} {loose : List Str} {mean : ExcName → Option Value} {mg mb m : Str → Option Value} {mu mr pe : Lg}
  {G : Array GenState} {D : Drawn} {tk : Nat} {O : OsState} {R : Result → Shared → Prop} {E : Value → Shared → Prop} {ns : List Int} {vs : List Value}
def lnum (ns : List Int) (j : Nat) : Int := (if ns = [] then 0 else ns.getD (j % ns.length) 0) + 7 * (j : Int)
theorem law_number {j : Nat} {u : Tok} (Cm : Fm w A A₀ base outer env h₀ L p loose mean mg mb) (S : SL h₀ L m h mu pe) (hl : base.IsList sl vs.toArray) (hi : IntsAre vs ns) (hz : ns.length ≤ 63) (hj : j < 1000) (hd : A.depth < 990)
    (post : ∀ u h' tk', SL h₀ L m h' mu pe → R (.ok (.ret (.int (lnum ns j) u))) ⟨h', G, D, tk', O⟩) :
    codeAny (model PR w) A (.call (.ref 553) ⟨[.ref sl, .int j u], []⟩) R ⟨h, G, D, tk, O⟩ := by
  refine' enter (binds := [("script", .ref sl), ("place", .int j u)]) (cl := []) Cm S ?k6 ?k7 ?k8 ?k9 ?kB ?_ ?c2 ?c3 ?c4 ?c5
  case k6 => k_is
  case k7 => k_is
  case k8 => show Around.depth _ < 1000; first | omega | (simp only [und_depth]; omega)
  case k9 => exact BindsTo.of_eq rfl
  case kB => exact locs rfl
  case c2 => decide
  case c3 => exact rfl
  case c4 => exact rfl
  case c5 => exact rfl
  intro g L' h₁ C' S'
  have hL : h₁.IsList sl vs.toArray := let ⟨o, e, r⟩ := hl; ⟨o, S'.fr.keep _ _ (C'.B.stays _ _ e), r⟩
  have hlen : vs.toArray.size = ns.length := by rw [List.size_toArray, hi.length]
  have hjs : ((j : Int)).fmod (ns.length : Nat) = ((j % ns.length : Nat) : Int) := by
    rw [Int.fmod_eq_emod_of_nonneg _ (by omega)]; rfl
  walk_at "ms"
  refine wpAny_truthy_list hL (by rw [hlen]; omega) ?_
  by_cases h0 : ns = []
  · have e1 : vs.toArray.isEmpty = true := by
      rw [Array.isEmpty_iff_size_eq_zero, hlen, h0]; rfl
    rw [e1, if_neg (by simp)]
    walk_at "ms"
    refine mul_int ?_ (by mul_fits)
    refine add_int ?_
    refine leave S' fun S'' => ?_
    have e2 : lnum ns j = 0 + 7 * (j : Int) := by unfold lnum; rw [if_pos h0]
    rw [← e2]
    exact post _ _ _ S''
  · have e1 : vs.toArray.isEmpty = false := by
      rw [← Bool.not_eq_true, Array.isEmpty_iff_size_eq_zero, hlen]
      simpa using h0
    have h1 : 0 < ns.length := List.length_pos_iff.mpr h0
    have hlt : j % ns.length < ns.length := Nat.mod_lt _ h1
    rw [e1, if_pos (by rfl)]
    walk_at "ms"
    refine callB (mach _) ?_ rfl rfl
    walk_at "ms"
    refine len_list (items := vs.toArray) hL (by rw [hlen]; omega) ?_
    refine mod_int' (by rw [hlen]; omega) ?_
    rw [hlen, hjs]
    have hlt2 : j % ns.length < vs.length := by rw [hi.length]; exact hlt
    obtain ⟨n, t, hn, hv⟩ := intsAre_get hi (i := j % ns.length) (v := vs[j % ns.length]'hlt2) (List.getElem?_eq_getElem hlt2)
    refine item_list (items := vs.toArray) hL (by omega) (by omega) (x := .int n t) (by rw [← hv, Int.toNat_natCast, List.getElem?_toArray]; exact List.getElem?_eq_getElem hlt2) ?_
    walk_at "ms"
    refine mul_int ?_ (by mul_fits)
    refine add_int ?_
    refine leave S' fun S'' => ?_
    have e2 : lnum ns j = n + 7 * (j : Int) := by
      unfold lnum
      rw [if_neg h0, List.getD_eq_getElem?_getD, hn]; rfl
    rw [← e2]
    exact post _ _ _ S''
theorem law_draw {j : Nat} {u : Tok} {oS : Obj} {q : Str} (Cm : Fm w A A₀ base outer env h₀ L p loose mean mg mb) (S : SL h₀ L m h mu pe) (hdf : IsDef w pe 0 q [("script", cc)] f) (hc : (cc, oS) ∈ mu ++ pe) (hS : oS.data = .cell (some (.ref sl)))
    (hl : base.IsList sl vs.toArray) (hi : IntsAre vs ns) (hz : ns.length ≤ 63) (hj : j < 1000) (hd : A.depth < 980)
    (post : ∀ u h' tk', SL h₀ L m h' mu pe → R (.ok (.ret (.int (lnum ns j) u))) ⟨h', G, D, tk', O⟩) :
    codeAny (model PR w) A (.call (.ref f) ⟨[.int j u], []⟩) R ⟨h, G, D, tk, O⟩ := by
  obtain ⟨name, params, body, scope, doc, pm, ctv, c', oc, ws, t, ⟨pos, hb⟩, hm, hm2, hd2, hv2⟩ := hdf
  replace hb : some (Stmt.FunctionDef _ _ _ _ _ _ _ _ _ _) = some (Stmt.FunctionDef name params body [] none [] scope none name pos) := hb
  cases hb
  refine' enterR (binds := [("place", .int j u)]) Cm S (S.getp hm) (codeRec_news S.nw (List.mem_append_right _ hm2) hd2 hv2) ?k8 ?k9 ?kB ?_ ?c2 ?c3 ?c4 ?c5
  case k8 => show A.depth < 1000; omega
  case k9 => exact BindsTo.of_eq rfl
  case kB => exact locs rfl
  case c2 => decide
  case c3 => exact rfl
  case c4 => exact rfl
  case c5 => exact rfl
  intro g L' h₁ C' FG S'
  walk_at "ms"
  refine callK (by k_is) ?_ rfl rfl
  refine spliced_more ?_
  refine nmF S' hc hS ?_ rfl rfl rfl (by decide) (by decide)
  walk_at "ms"
  refine ⟨S'.X C', wpAny_call ?_⟩
  refine law_number C' S' hl hi hz hj (by show A.depth + 1 < 990; omega) fun u2 h₂ tk₂ S₂ => ?_
  refine leave S₂ fun S₃ => ?_
  exact post _ _ _ S₃
end
section
open PyProof.Rows.LCg PySem.W
variable {w : World} {A A₀ : Around} {base h₀ h : Heap} {outer : List Env} {env : Env} {L f : Addr} {p : Program} {loose : List Str} {mean : ExcName → Option Value} {mg mb m : Str → Option Value} {mu mr pe : Lg}
  {G : Array GenState} {D : Drawn} {tk : Nat} {O : OsState} {R : Result → Shared → Prop} {E : Value → Shared → Prop}
def nlen (x : Int) : Nat := [1, 2, 3, 2].getD (x.fmod 4).toNat 0
def ndig (x : Int) (k : Nat) : Int := [0, 2, 10].getD ((x.fdiv (5 ^ k)).fmod 3).toNat 0
def nmOf (x : Int) : Nm := (List.range (nlen x)).map (ndig x)
theorem fm {x c : Int} (hc : 0 < c) : 0 ≤ x.fmod c ∧ x.fmod c < c := ⟨Int.fmod_nonneg_of_pos _ hc, Int.fmod_lt_of_pos _ hc⟩
theorem nlen_le (x : Int) : 1 ≤ nlen x ∧ nlen x ≤ 3 := by
  have := fm (x := x) (c := 4) (by omega)
  have : (x.fmod 4).toNat = 0 ∨ (x.fmod 4).toNat = 1 ∨ (x.fmod 4).toNat = 2 ∨ (x.fmod 4).toNat = 3 := by omega
  unfold nlen
  rcases this with e | e | e | e <;> rw [e] <;> decide
theorem nmOf_len (x : Int) : (nmOf x).length = nlen x := by simp [nmOf]
theorem getD_some {l : List Int} {i : Nat} (h : i < l.length) : l[i]? = some (l.getD i 0) := by
  rw [List.getD_eq_getElem?_getD, List.getElem?_eq_getElem h]; rfl
theorem ints_snoc {vs : List Value} {ns : List Int} (hi : IntsAre vs ns) (n : Int) (t : Tok) : IntsAre (vs ++ [.int n t]) (ns ++ [n]) := by
  induction hi with
  | nil => exact .cons n t .nil
  | cons a b _ ih => exact .cons a b ih
theorem ints_items {vs : List Value} {ns : List Int} (hi : IntsAre vs ns) : ItemsAre (intKind PR w) ns vs := by
  induction hi with
  | nil => exact .nil
  | cons n t _ ih => exact .cons (intKind_is _ _ _ _) ih
theorem law_name {x : Int} {u : Tok} {q : Str} (Cm : Fm w A A₀ base outer env h₀ L p loose mean mg mb) (S : SL h₀ L m h mu pe) (hdf : IsDef w pe 1 q [] f) (hh : A.handled = none) (hd : A.depth < 980)
    (post : ∀ a pe' h' tk', pe ⊆ pe' → IsNm w pe' (nmOf x) a → SL h₀ L m h' mu pe' → R (.ok (.ret (.ref a))) ⟨h', G, D, tk', O⟩) :
    codeAny (model PR w) A (.call (.ref f) ⟨[.int x u], []⟩) R ⟨h, G, D, tk, O⟩ := by
  obtain ⟨name, params, body, scope, doc, pm, ctv, c', oc, ws, t, ⟨pos, hb⟩, hm, hm2, hd2, hv2⟩ := hdf
  replace hb : some (Stmt.FunctionDef _ _ _ _ _ _ _ _ _ _) = some (Stmt.FunctionDef name params body [] none [] scope none name pos) := hb
  cases hb
  refine' enterRC (binds := [("drawn", .int x u)]) Cm S (S.getp hm) (codeRec_news S.nw (List.mem_append_right _ hm2) hd2 hv2) ?k8 ?k9 ?kB ?kD ?_ ?c3 ?c4 ?c5
  case k8 => show A.depth < 1000; omega
  case k9 => exact BindsTo.of_eq rfl
  case kB => exact rfl
  case kD => decide +kernel
  case c3 => exact rfl
  case c4 => exact rfl
  case c5 => exact rfl
  intro g L' h₁ tk' cells C' FG hC S0
  have hC2 : CellsAre _ [("drawn", L' + 1)] cells := hC
  obtain ⟨oS, rfl, hS⟩ := hC2.one
  have hS' : oS.data = .cell (some (.int x u)) := hS
  obtain ⟨m', S'⟩ : ∃ m', SL g L' m' h₁ ((L' + 1, oS) :: mu) pe := ⟨_, S0 (fun p hp => by rw [List.mem_singleton.mp hp]; exact Nat.lt_succ_self _) (by simp)⟩
  have hS1 : (L' + 1, oS) ∈ ((L' + 1, oS) :: mu) ++ pe := .head _
  have hn4 := fm (x := x) (c := 4) (by omega)
  walk_at "ms"
  refine callB (machT _) ?_ rfl rfl
  refine spliced_more ?_
  refine' comp_list (h₀ := g) (L := L') (m := m') (G := G) (D := D) (O := O) (cl := [("drawn", L' + 1)]) ?_ ?a ?b ?c ?d ?e ?f
  case a => rfl
  case b => decide
  case c => rfl
  case d => decide
  case e => rfl
  case f => intro x; rfl
  walk_at "ms"
  refine callB (machT _) ?_ rfl rfl
  walk_at "ms"
  refine newListL (by simp) ?_
  have S₂ := S'.push (PySem.W.listOf #[.int 1 tk', .int 2 (tk' + 1), .int 3 (tk' + 1 + 1), .int 2 (tk' + 1 + 1 + 1)] 0)
  walk_at "ms"
  refine nmC S₂ (.tail _ hS1) hS' ?_ rfl rfl rfl (by decide)
  walk_at "ms"
  refine mod_int' (by decide) ?_
  have hit : ∃ v, (#[.int 1 tk', .int 2 (tk' + 1), .int 3 (tk' + 1 + 1), .int 2 (tk' + 1 + 1 + 1)] : Array Value)[(x.fmod 4).toNat]? = some (.int (nlen x : Nat) v) := by
    have : (x.fmod 4).toNat = 0 ∨ (x.fmod 4).toNat = 1 ∨ (x.fmod 4).toNat = 2 ∨ (x.fmod 4).toNat = 3 := by omega
    unfold nlen
    rcases this with e | e | e | e <;> rw [e] <;> exact ⟨_, rfl⟩
  obtain ⟨t1, hit⟩ := hit
  refine item_listA (items := #[.int 1 tk', .int 2 (tk' + 1), .int 3 (tk' + 1 + 1), .int 2 (tk' + 1 + 1 + 1)]) ⟨_, S₂.get (.head _), rfl, _, rfl⟩ (by omega) (by omega) hit ?_
  have hnl := nlen_le x
  refine spliced_none ?_
  refine call_range_1 ?_
  have S₃ := S₂.push { cls := .type "range", data := .fields #[.int 0 (tk' + 1 + 1 + 1 + 1 + 1 + 1), .int (nlen x : Nat) t1, .int 1 (tk' + 1 + 1 + 1 + 1 + 1 + 1 + 1)] }
  have hsm : Builtin.Range.small 0 (nlen x : Nat) 1 = true := by
    have : nlen x = 1 ∨ nlen x = 2 ∨ nlen x = 3 := by omega
    rcases this with e | e | e <;> rw [e] <;> decide
  have hrs : Builtin.Range.rangeSize 0 (nlen x : Nat) 1 = ((nlen x : Nat) : Int) := by
    have : nlen x = 1 ∨ nlen x = 2 ∨ nlen x = 3 := by omega
    rcases this with e | e | e <;> rw [e] <;> decide
  have hr3 := S₃.get (.head _)
  have hS2 : ∃ M3 : Lg, (L' + 1, oS) ∈ M3 ∧ (mu ++ pe).Sublist (M3 ++ pe) ∧ SL g L' m' _ M3 pe := ⟨_, .tail _ (.tail _ (.head _)), ((List.sublist_cons_self _ _).trans ((List.sublist_cons_self _ _).trans (List.sublist_cons_self _ _))).append (.refl _), S₃⟩
  obtain ⟨M3, hcM, hsub, S₃⟩ := hS2
  refine it_range (n := nlen x) (l := M3) (by exact hh) S₃ hr3 hsm hrs fun I h₅ oI St src hst S₅ => ?_
  refine ⟨I, _, _, St, h₅, _, _, pe, oI, fun i y pe' => pe' = pe ∧ IntsAre y ((List.range i).map (ndig x)), rfl, rfl, src, hst, S₅, ⟨rfl, .nil⟩, by omega, ?_, ?_⟩
  · rintro i v y pe' h tk I' C₁ Dd oI' oC m₂ E' hi ⟨tv, hP⟩ ⟨rfl, hJ⟩ hpe hns hm₂ S₆
    have ei : (0 : Int) + (i : Nat) = ((i : Nat) : Int) := by omega
    rw [ei] at hP
    subst hP
    refine wpAny_tests_nil ?_
    rw [if_pos rfl]
    walk_at "ms"
    refine newListL (by simp) ?_
    have S₇ := S₆.push (PySem.W.listOf #[.int 0 tk, .int 2 (tk + 1), .int 10 (tk + 1 + 1)] 0)
    walk_at "ms"
    refine cnC S₇ (c := L' + 1) (o := oS) rfl (List.mem_append_left _ (.tail _ (.tail _ (.tail _ (.tail _ hcM))))) hS' ?_ rfl rfl (by decide)
    walk_at "ms"
    refine cnL (S₇.get (.tail _ (.tail _ (.head _)))) hns hm₂ ?_ rfl rfl (by decide)
    refine pow_int_small (by omega) (by omega) (by decide) ?_
    rw [Int.toNat_natCast]
    have h5 : (5 : Int) ^ i = 1 ∨ (5 : Int) ^ i = 5 ∨ (5 : Int) ^ i = 25 := by
      have : i = 0 ∨ i = 1 ∨ i = 2 := by omega
      rcases this with e | e | e <;> rw [e] <;> simp
    refine floordiv_int (by omega) ?_ (Or.inl (PyProof.noPylong_small (by omega)))
    walk_at "ms"
    refine mod_int' (b := 3) (by decide) ?_
    have hn3 := fm (x := x.fdiv (5 ^ i)) (c := 3) (by omega)
    have hit : ∃ v, (#[.int 0 tk, .int 2 (tk + 1), .int 10 (tk + 1 + 1)] : Array Value)[((x.fdiv (5 ^ i)).fmod 3).toNat]? = some (.int (ndig x i) v) := by
      have : ((x.fdiv (5 ^ i)).fmod 3).toNat = 0 ∨ ((x.fdiv (5 ^ i)).fmod 3).toNat = 1 ∨ ((x.fdiv (5 ^ i)).fmod 3).toNat = 2 := by omega
      unfold ndig
      rcases this with e | e | e <;> rw [e] <;> exact ⟨_, rfl⟩
    obtain ⟨t2, hit⟩ := hit
    refine item_listA (items := #[.int 0 tk, .int 2 (tk + 1), .int 10 (tk + 1 + 1)]) ⟨_, S₇.get (.head _), rfl, _, rfl⟩ (by omega) (by omega) hit ?_
    refine ⟨_, _, pe', y ++ [.int (ndig x i) t2], rfl, rfl, ⟨rfl, ?_⟩, fun _ z => z, S₇.drop1⟩
    rw [List.range_succ, List.map_append]
    exact ints_snoc hJ _ _
  · rintro Dd h' tk' y pe' ⟨rfl, hJ⟩ hpe S₆
    have S₇ := S₆.sub (mu' := mu) (pe' := pe') (hsub.trans (List.sublist_cons_self _ _))
    have hlen : y.length = nlen x := by rw [hJ.length, List.length_map, List.length_range]
    refine spliced_none ?_
    refine call_tuple_list (items := y.toArray) ⟨_, S₆.get (.head _), rfl, _, rfl⟩ (fun h₈ k₈ => ?_) (by rw [List.size_toArray, sizeLine_eq]; omega)
    have S₈ := ((S₇.keeps k₈).push (tupO y 0)).toPe
    refine leave S₈ fun S₉ => ?_
    exact post _ _ _ _ (fun _ z => .tail _ z) ⟨y, 0, .head _, ints_items hJ⟩ S₉
end
section
open PyProof.Rows.LCg PySem.W
variable {w : World} {A A₀ : Around} {base h₀ h : Heap} {outer : List Env} {env : Env} {L f : Addr} {p : Program} {loose : List Str} {mean : ExcName → Option Value} {mg mb m : Str → Option Value} {mu mr pe : Lg}
  {G : Array GenState} {D : Drawn} {tk : Nat} {O : OsState} {R : Result → Shared → Prop} {E : Value → Shared → Prop} {name : Str}
theorem treeF_no {t1 t2 t3 : Tok} {na rt : Addr} {bv : Option (Tok × Int × Tok)} {x : Str} (h1 : (("name" : Str) == x) = false) (h2 : (("syntax" : Str) == x) = false) (h3 : (("_vars" : Str) == x) = false) (h4 : (("branchVersionId" : Str) == x) = false) : getL x (treeF w t1 t2 t3 na rt bv) = some none := by
  have e1 : ∀ t, (Value.str "name" t).isStr x = false := fun _ => h1
  have e2 : ∀ t, (Value.str "syntax" t).isStr x = false := fun _ => h2
  have e3 : ∀ t, (Value.str "_vars" t).isStr x = false := fun _ => h3
  have e4 : ∀ t, (Value.str "branchVersionId" t).isStr x = false := fun _ => h4
  rcases bv with _ | ⟨a, b, c⟩ <;> simp [getL, treeF, ent1, e1, e2, e3, e4, DictEntry.refKey]
theorem tr_meth {T : TR} {pl : Sem Bool} {Q : Value × List Value → Shared → Prop} {fn : Addr} (Cm : Fm w A A₀ base outer env h₀ L p loose mean mg mb) (S : SL h₀ L m h (T.led w ++ mr) pe) (hg : plainGet (hd.heap_39 w.params) 544 name = true)
    (hf : findIn (hd.heap_39 w.params) (.ref 544) name = some (some (.ref fn))) (ht : isFn (hd.heap_39 w.params) (.ref fn) = true) (h1 : (("name" : Str) == name) = false) (h2 : (("syntax" : Str) == name) = false) (h3 : (("_vars" : Str) == name) = false) (h4 : (("branchVersionId" : Str) == name) = false)
    (q : Q (.ref fn, [.ref T.t]) ⟨h, G, D, tk, O⟩) : wpAny (model PR w) A (getMethod (.ref T.t) name pl) Q E ⟨h, G, D, tk, O⟩ :=
  plMeth Cm S (TR.inst S) hg hf ht (treeF_no h1 h2 h3 h4) q
theorem node_meth {x : Addr} {k : Nm} {pl : Sem Bool} {Q : Value × List Value → Shared → Prop} (Cm : Fm w A A₀ base outer env h₀ L p loose mean mg mb) (S : SL h₀ L m h mu pe) (hx : IsNode w pe k x)
    (q : Q (.ref 299, [.ref x]) ⟨h, G, D, tk, O⟩) : wpAny (model PR w) A (getMethod (.ref x) "getName" pl) Q E ⟨h, G, D, tk, O⟩ := by
  obtain ⟨dx, t, na, n, m1, m2, hk⟩ := hx
  refine' plMeth Cm S (InstAt.pl (S.getp m1) (S.getp m2)) ?a ?b ?c ?d q
  case a => k_is
  case b => k_is
  case c => k_is
  case d => rfl
def NodesOk (w : World) (pe : Lg) (xs : Ents) : Prop := ∀ y ∈ xs, ∃ x, y.2.2 = .ref x ∧ IsNode w pe y.1 x
theorem NodesOk.mono {pe' : Lg} {xs : Ents} (x : NodesOk w pe xs) (hs : pe ⊆ pe') : NodesOk w pe' xs := fun y hy => let ⟨a, e, n⟩ := x y hy; ⟨a, e, n.mono hs⟩
theorem NodesOk.at {xs : Ents} (x : NodesOk w pe xs) {k : Nm} {q : Addr × Value} (h : atKey xs k = some q) : ∃ a, q.2 = .ref a ∧ IsNode w pe k a := by
  unfold atKey at h
  obtain ⟨y, hy, rfl⟩ := Option.map_eq_some_iff.mp h
  have h1 := List.mem_of_find?_eq_some hy
  have h2 := List.find?_some hy
  simp only [decide_eq_true_eq] at h2
  obtain ⟨a, e, n⟩ := x y h1
  exact ⟨a, e, h2 ▸ n⟩
def NodeRes (w : World) (pe : Lg) (o : Option Nm) (v : Value) : Prop := match o with
  | some b => ∃ a, v = .ref a ∧ IsNm w pe b a
  | none => ∃ u, v = .str "none" u
theorem law_node {T : TR} {k : Nm} {a : Addr} {way : Int} {u : Tok} {q : Str} (Cm : Fm w A A₀ base outer env h₀ L p loose mean mg mb) (bt : Bt w base outer h₀ p loose mean mg mb) (S : SL h₀ L m h (T.led w ++ mr) pe) (hdf : IsDef w pe 3 q [] f) (hw : way = 0 ∨ way = 1)
    (ok : T.r.Ok w pe) (nok : NodesOk w pe T.r.xs) (cl : Clean T.r) (sh : Short (T.r.ks.map (·.1))) (hz : T.r.ks.length < 64) (hk : IsNm w pe k a) (hkl : k.length ≤ 1000) (hh : A.handled = none) (hd : A.depth < 830) (hu : A.units < 8400)
    (post : ∀ h₀' T' v pe' h' tk', Tn outer h₀ h₀' → Fm w A A₀ base outer env h₀' L p loose mean mg mb → Bt w base outer h₀' p loose mean mg mb → pe ⊆ pe' → TrRel T T' → NodeRes w pe' (if way = 0 then brn (T.r.xs.map (·.1)) k else (nxt T'.r.ks k).map (·.1)) v → T'.r.Ok w pe' → SL h₀' L m h' (T'.led w ++ mr) pe' → R (.ok (.ret v)) ⟨h', G, D, tk', O⟩) :
    codeAny (model PR w) A (.call (.ref f) ⟨[.int way u, .ref T.t, .ref a], []⟩) R ⟨h, G, D, tk, O⟩ := by
  obtain ⟨name, params, body, scope, doc, pm, ctv, c', oc, ws, t, ⟨pos, hb⟩, hm, hm2, hd2, hv2⟩ := hdf
  replace hb : some (Stmt.FunctionDef _ _ _ _ _ _ _ _ _ _) = some (Stmt.FunctionDef name params body [] none [] scope none name pos) := hb
  cases hb
  refine' enterTR (binds := [("way", .int way u), ("tree", .ref T.t), ("name", .ref a)]) Cm bt S (S.getp hm) (codeRec_news S.nw (List.mem_append_right _ hm2) hd2 hv2) ?k8 ?k9 ?kB ?_ ?c2 ?c3 ?c4 ?c5
  case k8 => show A.depth < 1000; omega
  case k9 => exact BindsTo.of_eq rfl
  case kB => exact locs rfl
  case c2 => decide
  case c3 => exact rfl
  case c4 => exact rfl
  case c5 => exact rfl
  intro g L' h₁ C' b' FG S0
  obtain ⟨m1, em1, S'⟩ : ∃ m1 : Str → Option Value, m1 = (fun y => List.lookup y ([("way", .int way u), ("tree", .ref T.t), ("name", .ref a)] : List (Str × Value)).reverse) ∧ SL g L' m1 h₁ (T.led w ++ mr) pe := ⟨_, rfl, S0⟩
  have hmw : m1 "way" = some (.int way u) := by rw [em1]; rfl
  have hmt : m1 "tree" = some (.ref T.t) := by rw [em1]; rfl
  have hmn : m1 "name" = some (.ref a) := by rw [em1]; rfl
  walk_at "m"
  refine wpAny_Try_except ?_
  walk_at "m"
  walk_at "m"
  refine MethodCall_ ?_
  walk_at "ms"
  refine nmL S' hmw ?_ rfl rfl (by decide)
  walk_at "ms"
  refine eq_int ?_
  walk_at "m"
  rcases hw with rfl | rfl
  · rw [if_pos (by decide)]
    walk_at "ms"
    refine tr_meth C' S' (by k_is) (by k_is) (by rfl) rfl rfl rfl rfl ?_
    refine callK (by k_is) ?_ rfl rfl
    refine spliced_more ?_
    refine nmL S' hmn ?_ rfl rfl (by decide)
    refine spliced_none ?_
    refine ⟨S'.X C', wpAny_call ?_⟩
    refine tr_branch C' S' ok cl sh hz hk hkl (by exact hh) (by show A.depth + 1 < 840; omega) (by show A.units + 3 < 8500; omega) (fun T' b q pe' h₂ tk₂ hsub rel hbr hq ok2 S₂ => ?_) (fun T' pe' GG e h₂ tk₂ hsub rel hbr ok2 FGG RX up nd => ?_)
    · obtain ⟨x, ex, hx⟩ := (nok.mono hsub).at hq
      rw [ex]
      refine node_meth C' S₂ hx ?_
      refine callK0 (by k_is) (S₂.X C') ?_
      refine wpAny_call ?_
      refine node_getName C' S₂ (by show A.depth + 1 < 990; omega) hx fun na h₃ tk₃ hna S₃ => ?_
      refine ⟨g, L', m1, _, _, .refl, S₃, fun h₀' Tn' Cm' bt' S₄ => ?_⟩
      exact post h₀' T' _ pe' _ _ Tn' Cm' bt' hsub rel (by rw [if_pos rfl, hbr]; exact ⟨na, rfl, hna⟩) ok2 S₄
    · refine' ex_caught C' b' FGG RX up nd (handles_obj ?x1 (kx_base w) ?x2 ?x3 ?x4) ?hE ?_
      case x1 => k_is
      case x2 => rfl
      case x3 => rfl
      case x4 => decide
      case hE => exact PassesOwnAt.leaving
      intro h₃ g' Tn1 S₃ C'' b''
      walk_at "ms"
      refine ⟨g', L', m1, _, _, Tn1, S₃, fun h₀' Tn' Cm' bt' S₄ => ?_⟩
      exact post h₀' T' _ pe' _ _ Tn' Cm' bt' hsub rel (by rw [if_pos rfl, hbr]; exact ⟨_, rfl⟩) ok2 S₄
  · rw [if_neg (by decide)]
    walk_at "ms"
    refine tr_meth C' S' (by k_is) (by k_is) (by rfl) rfl rfl rfl rfl ?_
    refine callK (by k_is) ?_ rfl rfl
    refine spliced_more ?_
    refine nmL S' hmn ?_ rfl rfl (by decide)
    refine spliced_none ?_
    refine ⟨S'.X C', wpAny_call ?_⟩
    refine tr_next C' b' S' ok cl sh hz hk (by exact hh) (by show A.depth + 1 < 840; omega) (by show A.units + 3 < 8500; omega) (fun g1 T' y q pe' h₂ tk₂ Tn1 C1 b1 hsub rel hbr hq ok2 S₂ => ?_) (fun g1 T' pe' GG e h₂ tk₂ Tn1 C1 b1 hsub rel hbr ok2 FGG RX up nd => ?_)
    · obtain ⟨x, ex, hx⟩ := (nok.mono hsub).at hq
      rw [ex]
      refine node_meth C1 S₂ hx ?_
      refine callK0 (by k_is) (S₂.X C1) ?_
      refine wpAny_call ?_
      refine node_getName C1 S₂ (by show A.depth + 1 < 990; omega) hx fun na h₃ tk₃ hna S₃ => ?_
      refine ⟨g1, L', m1, _, _, Tn1, S₃, fun h₀' Tn' Cm' bt' S₄ => ?_⟩
      exact post h₀' T' _ pe' _ _ Tn' Cm' bt' hsub rel (by rw [if_neg (by decide), hbr]; exact ⟨na, rfl, hna⟩) ok2 S₄
    · refine' ex_caught C1 b1 FGG RX up nd (handles_obj ?x1 (kx_base w) ?x2 ?x3 ?x4) ?hE ?_
      case x1 => k_is
      case x2 => rfl
      case x3 => rfl
      case x4 => decide
      case hE => exact PassesOwnAt.leaving
      intro h₃ g' Tn2 S₃ C'' b''
      walk_at "ms"
      refine ⟨g', L', m1, _, _, Tn1.trans Tn2, S₃, fun h₀' Tn' Cm' bt' S₄ => ?_⟩
      exact post h₀' T' _ pe' _ _ Tn' Cm' bt' hsub rel (by rw [if_neg (by decide), hbr]; exact ⟨_, rfl⟩) ok2 S₄
end
section
open PyProof.Rows.LCg PySem.W PySem.SeqAt
variable {w : World} {A : Around} {E : Value → Shared → Prop} {s : Shared} {h₀ h : Heap} {L a b d : Addr} {m : Str → Option Value} {mu pe : Lg} {G : Array GenState} {D : Drawn} {tk : Nat} {O : OsState} {k l : Nm}
theorem items_get {k : Nm} {vs : List Value} (hi : ItemsAre (intKind PR w) k vs) : ∀ j (h : j < vs.toArray.size), ∃ t, vs.toArray[j] = .int (k.getD j 0) t := by
  induction hi with
  | nil => intro j h; simp at h
  | @cons x v ks vs a _ ih =>
    intro j h
    have hv : ∃ t, v = .int x t := by
      have a' : v.isInt x = true := a
      cases v <;> simp [Value.isInt] at a'
      exact ⟨_, by rw [a']⟩
    cases j with
    | zero => obtain ⟨t, rfl⟩ := hv; exact ⟨t, rfl⟩
    | succ j =>
      have := ih j (by simpa using h)
      simpa using this
theorem all_eq_names (k l : Nm) : ((List.range (min k.length l.length)).all (fun j => k.getD j 0 == l.getD j 0) && k.length == l.length) = decide (k = l) := by
  rw [Bool.eq_iff_iff, Bool.and_eq_true, List.all_eq_true, decide_eq_true_eq]
  constructor
  · rintro ⟨h1, h2⟩
    have h2' : k.length = l.length := by simpa using h2
    refine List.ext_getElem h2' fun i hi hi' => ?_
    have := h1 i (List.mem_range.mpr (by omega))
    simpa [List.getD_eq_getElem?_getD, List.getElem?_eq_getElem hi, List.getElem?_eq_getElem hi'] using this
  · rintro rfl
    exact ⟨fun j _ => by simp, by simp⟩
theorem nm_rcAt (hp : ∀ p ∈ pe, s.heap.get? p.1 = some p.2) (hk : IsNm w pe k a) (hl : IsNm w pe l b) (hu : A.units < cLine) : RcAt A s (.ref a) (.ref b) (decide (k = l)) := by
  obtain ⟨vs, n, hm, hi⟩ := hk
  obtain ⟨us, n', hm', hi'⟩ := hl
  have e1 : vs.toArray.size = k.length := by rw [List.size_toArray]; exact hi.length.symm
  have e2 : us.toArray.size = l.length := by rw [List.size_toArray]; exact hi'.length.symm
  have := RcAt.tuples (A := A) (s := s) (e := fun j => k.getD j 0 == l.getD j 0) (items := vs.toArray) (items2 := us.toArray) ⟨_, hp _ hm, rfl, n, rfl⟩ ⟨_, hp _ hm', rfl, n', rfl⟩ hu fun j h1 h2 => by
    obtain ⟨t, et⟩ := items_get hi j h1
    obtain ⟨t', et'⟩ := items_get hi' j h2
    rw [et, et']
    exact EqAt.int_int _ _ _ _
  rwa [e1, e2, all_eq_names] at this
theorem nm_rcNeAt (hp : ∀ p ∈ pe, s.heap.get? p.1 = some p.2) (hk : IsNm w pe k a) (hl : IsNm w pe l b) (hu : A.units < cLine) : RcNeAt A s (.ref a) (.ref b) (!decide (k = l)) := by
  obtain ⟨vs, n, hm, hi⟩ := hk
  obtain ⟨us, n', hm', hi'⟩ := hl
  have e1 : vs.toArray.size = k.length := by rw [List.size_toArray]; exact hi.length.symm
  have e2 : us.toArray.size = l.length := by rw [List.size_toArray]; exact hi'.length.symm
  have := RcNeAt.tuples (A := A) (s := s) (e := fun j => k.getD j 0 == l.getD j 0) (items := vs.toArray) (items2 := us.toArray) ⟨_, hp _ hm, rfl, n, rfl⟩ ⟨_, hp _ hm', rfl, n', rfl⟩ hu fun j h1 h2 => by
    obtain ⟨t, et⟩ := items_get hi j h1
    obtain ⟨t', et'⟩ := items_get hi' j h2
    rw [et, et']
    exact EqAt.int_int _ _ _ _
  rwa [e1, e2, all_eq_names] at this
theorem nm_eqAt (hp : ∀ p ∈ pe, s.heap.get? p.1 = some p.2) (hk : IsNm w pe k a) (hl : IsNm w pe l b) (hu : A.units < cLine) (e : k = l) : EqAt A s (.ref a) (.ref b) true := by
  by_cases q : a = b
  · subst q; exact EqAt.same _
  · have := EqAt.of_refs q (nm_rcAt hp hk hl hu)
    rwa [e, decide_eq_true rfl] at this
theorem nm_eq {Q : Value → Shared → Prop} (hp : ∀ p ∈ pe, h.get? p.1 = some p.2) (hk : IsNm w pe k a) (hl : IsNm w pe l b) (hu : A.units < cLine) (q : Q (.bool (decide (k = l))) ⟨h, G, D, tk, O⟩) : wpAny (model PR w) A (compareOp .Eq (.ref a) (.ref b)) Q E ⟨h, G, D, tk, O⟩ :=
  nm_rcAt (s := ⟨h, G, D, tk, O⟩) hp hk hl hu PR w E Q q
theorem nm_ne {Q : Value → Shared → Prop} (hp : ∀ p ∈ pe, h.get? p.1 = some p.2) (hk : IsNm w pe k a) (hl : IsNm w pe l b) (hu : A.units < cLine) (q : Q (.bool (!decide (k = l))) ⟨h, G, D, tk, O⟩) : wpAny (model PR w) A (compareOp .NotEq (.ref a) (.ref b)) Q E ⟨h, G, D, tk, O⟩ :=
  nm_rcNeAt (s := ⟨h, G, D, tk, O⟩) hp hk hl hu PR w E Q q
theorem lists_ne_same {items items2 : Array Value} {Q : Value → Shared → Prop} (hl : s.heap.IsList a items) (hb : s.heap.IsList b items2) (hsz : items.size = items2.size) (hu : A.units < cLine)
    (he : ∀ j (h1 : j < items.size) (h2 : j < items2.size), EqAt A.in1 s items[j] items2[j] true) (q : Q (.bool false) s) : wpAny (model PR w) A (compareOp .NotEq (.ref a) (.ref b)) Q E s := by
  have := RcNeAt.lists (e := fun _ => true) hl hb hsz hu he
  rw [show (!(List.range items.size).all fun _ => true) = false by simp] at this
  exact this PR w E Q q
theorem lists_eq_same {items items2 : Array Value} {Q : Value → Shared → Prop} (hl : s.heap.IsList a items) (hb : s.heap.IsList b items2) (hsz : items.size = items2.size) (hu : A.units < cLine)
    (he : ∀ j (h1 : j < items.size) (h2 : j < items2.size), EqAt A.in1 s items[j] items2[j] true) (q : Q (.bool true) s) : wpAny (model PR w) A (compareOp .Eq (.ref a) (.ref b)) Q E s := by
  have := RcAt.lists (e := fun _ => true) hl hb hsz hu he
  rw [show ((List.range items.size).all fun _ => true) = true by simp] at this
  exact this PR w E Q q
theorem ints_eqAt {vs us : List Value} {ns : List Int} (hv : IntsAre vs ns) (hw : IntsAre us ns) (j : Nat) (h1 : j < vs.toArray.size) (h2 : j < us.toArray.size) : EqAt A s vs.toArray[j] us.toArray[j] true := by
  have e1 : vs[j]? = some vs.toArray[j] := by simp at h1; simp [h1]
  have e2 : us[j]? = some us.toArray[j] := by simp at h2; simp [h2]
  obtain ⟨n, t, en, ev⟩ := intsAre_get hv e1
  obtain ⟨n', t', en', ev'⟩ := intsAre_get hw e2
  rw [ev, ev']
  rw [en] at en'
  obtain rfl : n = n' := Option.some.inj en'
  have := EqAt.int_int (A := A) (s := s) n t n t'
  rwa [beq_self_eq_true] at this
end
section
open PyProof.Rows.LCg PySem.W
variable {w : World} {A : Around} {E : Value → Shared → Prop} {R : Result → Shared → Prop} {I : Addr} {fp wr : List Addr} {Gr : Array GenState → Array GenState → Prop} {n : Nat} {P : Nat → Value → Prop} {St : Nat → Shared → Prop} {led : Bool}
theorem sm_loop (W : WalksS PR w A.in1 I fp wr Gr n P St) (S : Addr) (hSf : S ∉ fp) (val : Nat → Nat) (hval : ∀ i v, P i v → (∃ t, v = .int (val i : Nat) t) ∧ (val i = 1 ∨ val i = 2 ∨ val i = 3)) :
    ∀ (k i : Nat) (s : Shared) (bs : Sb) (ep : Nat), n - i = k → i ≤ n → St i s → s.heap.get? S = some (smO bs ep led) → Sm bs → (∀ x, x ∈ bs.map (·.1) ↔ ∃ j < i, val j = x) →
      (∀ s' bs' ep', Moved (S :: wr) Gr s s' → s'.heap.get? S = some (smO bs' ep' led) → Sm bs' → (∀ x, x ∈ bs'.map (·.1) ↔ ∃ j < n, val j = x) → R (.ok (.ret .none)) s') →
      codeAny (model PR w) A (.builtin "set.update.loop" ⟨[.ref S, .ref I], []⟩) R s := by
  have hSw : S ∉ wr := fun h => hSf (W.sub _ h)
  have hsub : ∀ b ∈ wr, b ∈ S :: wr := fun b hb => List.mem_cons_of_mem _ hb
  intro k
  induction k with
  | zero =>
    intro i s bs ep hk hi hst hS hsm hx hR
    have hin : i = n := by omega
    subst hin
    refine codeAny_builtin PyProof.Rows.F.entry_set_update_loop ?_
    rw [Around.under_plainId PyProof.Rows.F.plain_set_update_loop _]
    show wpAny _ A.in1 (pyNext (.ref I) >>= _) _ _ s
    refine wpAny_bind (W.done s _ _ hst fun s' hm => ?_)
    show wpAny _ A.in1 (ret Value.none) _ _ s'
    exact wpAny_pure (hR s' bs ep (hm.mono hsub) (hm.heap S _ hSw hS) hsm hx)
  | succ k ih =>
    intro i s bs ep hk hi hst hS hsm hx hR
    have hlt : i < n := by omega
    refine codeAny_builtin PyProof.Rows.F.entry_set_update_loop ?_
    rw [Around.under_plainId PyProof.Rows.F.plain_set_update_loop _]
    show wpAny _ A.in1 (pyNext (.ref I) >>= _) _ _ s
    refine wpAny_bind (W.item i s _ _ hlt hst fun v s' hP hst' hm => ?_)
    obtain ⟨⟨t, rfl⟩, h123⟩ := hval i v hP
    have hS' := hm.heap S _ hSw hS
    obtain ⟨h₁, G₁, D₁, tk₁, O₁⟩ := s'
    show wpAny _ A.in1 (holding [Value.int (val i : Nat) t] (setAdd S (.int (val i : Nat) t)) >>= _) _ _ _
    refine wpAny_bind (wpAny_holding ?_)
    refine sm_add0 hS' hsm h123 fun b h' hsb hg => ?_
    refine wpAny_pure ⟨plainId_quiet PyProof.Rows.F.plain_set_update_loop _, ih (i + 1) _ _ _ (by omega) hlt (W.frame _ _ _ _ hst' (Nat.le_succ _) fun b hb o e => ?_) hg (smIns_ok hsm h123) (fun x => ?_) fun s'' bs'' ep'' hm'' hS'' hsm'' hx'' => ?_⟩
    · rw [hsb.2 b (fun h : b = S => hSf (by rw [← h]; exact hb))]; exact e
    · rw [smIns_keys, hx x]
      constructor
      · rintro (⟨j, hj, e⟩ | e)
        · exact ⟨j, by omega, e⟩
        · exact ⟨i, by omega, e.symm⟩
      · rintro ⟨j, hj, e⟩
        rcases Nat.lt_or_ge j i with q | q
        · exact .inl ⟨j, q, e⟩
        · have : j = i := by omega
          subst this
          exact .inr e.symm
    · refine hR s'' bs'' ep'' (Moved.trans W.gtrans ((hm.mono hsub).then_heap (Nat.le_succ _) fun b o hb e => ?_) hm'') hS'' hsm'' hx''
      rw [hsb.2 b (fun h : b = S => hb (by rw [h]; exact List.mem_cons_self))]; exact e
end
section
open PyProof.Rows.LCg PySem.W
variable {w : World} {A : Around} {E : Value → Shared → Prop} {h₀ h : Heap} {L l : Addr} {m : Str → Option Value} {mu pe : Lg} {G : Array GenState} {D : Drawn} {tk : Nat} {O : OsState}
abbrev sE0 (w : World) : Obj := { cls := .type "set", dict := none, data := .set #[] 0 (.fresh 0 0 (!bt w)) }
theorem sE0_eq : sE0 w = smO [] 0 (!bt w) := rfl
theorem set_new1 (a : Value) {Q₁ : Value → Shared → Prop} (q : Q₁ (.ref h.objs.size) ⟨h.push (sE0 w), G, D, tk, O⟩) :
    codeAny (model PR w) A (.call (.builtin "set.__new__") ⟨[.type "set", a], []⟩) (wants Q₁ E) ⟨h, G, D, tk, O⟩ := by
  refine codeAny_of_tree ?_
  show wpAny _ A.in1 (do checkBuiltinCall "set.__new__" ⟨[.type "set", a], []⟩; again (.builtin "set.__new__" ⟨[.type "set", a], []⟩)) _ _ _
  refine wpAny_bind (wpAny_of_eq (PySem.F.newCall_set_1 a) (wpAny_pure ⟨plainId_quiet F.plain_set_new _, codeAny_builtin F.entry_set_new ?_⟩))
  rw [Around.under_plainId F.plain_set_new _]
  unfold Builtin.«set.__new__» Builtin.Frozenset.newClass
  have hsub := sub_set_self
  dsimp only
  wp_walk
  refine wpAny_askSetting (wpAny_pure ?_)
  dsimp only
  simp only [newObj]
  refine wpAny_bind (wpAny_alloc (wpAny_pure ?_))
  exact wpAny_pure q
set_option maxHeartbeats 3200000 in
theorem set_list {n : Nat} {vs : List Value} {ns : List Nat} {Q : Value → Shared → Prop} (hh : A.handled = none) (S : SL h₀ L m h mu pe) (hm : (l, PySem.W.listOf vs.toArray n) ∈ mu ++ pe) (hi : IntsAre vs (ns.map fun (x : Nat) => (x : Int))) (h123 : ∀ x ∈ ns, x = 1 ∨ x = 2 ∨ x = 3)
    (q : ∀ a bs ep h' tk', Sm bs → (∀ x, x ∈ bs.map (·.1) ↔ x ∈ ns) → SL h₀ L m h' ((a, smO bs ep (!bt w)) :: mu) pe → Q (.ref a) ⟨h', G, D, tk', O⟩) : wpAny (model PR w) A (call (.type "set") [.ref l]) Q E ⟨h, G, D, tk, O⟩ := by
  obtain ⟨c, tl, hmro⟩ := F.called_set.mro
  have hmade := F.called_set.made
  have hsub := F.called_set.sub
  have hol := (S.nw _ hm).1
  refine wpAny_call (codeAny_of_tree ?_)
  show wpAny _ _ (callAny (.type "set") _) _ _ _
  refine wpAny_pure ⟨Code.quiet_builtin _ (by decide +kernel), codeAny_builtin F.entry_type_call ?_⟩
  rw [Around.under_plain (weight_type_call_type "set" [.ref l] []) rfl]
  have h1 := F.called_set.notType
  have h2 := F.called_set.canCreate
  have hct := PySem.F.typeCall_set_1 (.ref l)
  repeat (any_goals (first | assumption | wp_step))
  refine codeAny_mono (set_new1 (.ref l) (E := E) (Q₁ := fun obj s₁ => obj = .ref h.objs.size ∧ s₁ = ⟨h.push (sE0 w), G, D, tk, O⟩) ⟨rfl, rfl⟩) fun r s₁ hr => ?_
  cases r with
  | error e => exact hr
  | ok fl =>
    cases fl with
    | ret obj =>
      obtain ⟨rfl, rfl⟩ := hr
      have S₁ := S.push (sE0 w)
      have hS : (h.push (sE0 w)).get? h.objs.size = some (sE0 w) := S₁.get (.head _)
      have hT : Shared.TypeIs ⟨h.push (sE0 w), G, D, tk, O⟩ (.ref h.objs.size) "set" := ⟨_, hS, rfl⟩
      have hli := F.called_set.init.lookup
      have hbi := F.called_set.init.bind (.ref h.objs.size)
      repeat (any_goals (first | assumption | wp_step))
      refine codeAny_mono (codeAny_call_builtin (R := wants (fun r s₂ => r = .none ∧ ∃ h' tk' bs ep, s₂ = ⟨h', G, D, tk', O⟩ ∧ Sm bs ∧ (∀ x, x ∈ bs.map (·.1) ↔ x ∈ ns) ∧ h'.get? h.objs.size = some (smO bs ep (!bt w)) ∧
          (∀ b o, b < h.objs.size → h.get? b = some o → h'.get? b = some o)) E) F.called_set.init.plain F.entry_set_init (PySem.check_set_init_1 hT ?_)) fun r₂ s₂ hr₂ => ?_
      · have hol' : (h.push (sE0 w)).get? l = some { cls := .type "list", dict := none, data := .seq vs.toArray n, slots := #[] } := Heap.get?_push_of_some _ hol
        have hsls := PySem.F.sub_list_set
        have hslf := PySem.F.sub_list_frozenset
        have hne : (Value.type "list" == Value.type "dict") = false := by decide
        have hl1 : (h.push (sE0 w)).IsList l vs.toArray := ⟨_, hol', rfl, n, rfl⟩
        unfold Builtin.«set.__init__» noKeywords Builtin.Frozenset.updateFrom
        generalize hPI : pyIter = PI
        wp_walk
        subst hPI
        refine wpAny_pyIter_list hl1 ?_
        refine wpAny_bind (wpAny_runValue ?_)
        have hlS : l < h.objs.size := Heap.lt_size hol
        have hh3 : A.in1.in1.in1.handled = none := by simp [hh]
        have hneI : l ≠ (h.push (sE0 w)).objs.size := by
          rw [Heap.size_push]; exact Nat.ne_of_lt (Nat.lt_succ_of_lt hlS)
        have hSf : h.objs.size ∉ [(h.push (sE0 w)).objs.size, l] := by
          rw [Heap.size_push]; simp only [List.mem_cons, List.mem_singleton, List.not_mem_nil, or_false, not_or]
          exact ⟨Nat.ne_of_lt (Nat.lt_succ_self _), Nat.ne_of_gt hlS⟩
        have hvn : vs.length = ns.length := by rw [hi.length, List.length_map]
        have hval : ∀ (i : Nat) (v : Value), vs.toArray[i]? = some v → (∃ t, v = .int (ns.getD i 0 : Nat) t) ∧ (ns.getD i 0 = 1 ∨ ns.getD i 0 = 2 ∨ ns.getD i 0 = 3) := fun i v hv => by
          obtain ⟨x, t, ex, ev⟩ := intsAre_get hi (by simpa using hv)
          rw [List.getElem?_map] at ex
          obtain ⟨y, hy, hyx⟩ := Option.map_eq_some_iff.mp ex
          have e1 : ns.getD i 0 = y := by rw [List.getD_eq_getElem?_getD, hy]; rfl
          rw [e1]
          exact ⟨⟨t, by rw [ev, ← hyx]⟩, h123 y (List.mem_of_getElem? hy)⟩
        have hget : ((h.push (sE0 w)).push { cls := .type "list_iterator", data := .fields #[.ref l, .int 0 0] }).get? h.objs.size = some (smO [] 0 (!bt w)) := Heap.get?_push_of_some _ hS
        refine sm_loop ((PySem.Walks.list hh3 _ l hneI vs.toArray).toS) h.objs.size hSf (fun i => ns.getD i 0) hval (vs.toArray.size - 0) 0 _ [] 0 (by omega) (Nat.zero_le _)
          ⟨⟨_, Heap.get?_push_size _ rfl, rfl, rfl⟩, (hl1.push _)⟩ hget (by simp [Sm]) (fun x => by simp) ?_
        intro s' bs' ep' hm' hS' hsm' hx'
        obtain ⟨h', g', d', tk', os'⟩ := s'
        have eg : g' = G := hm'.gens
        have ed : d' = D := hm'.drawn
        have eo : os' = O := hm'.os
        subst eg; subst ed; subst eo
        show wpAny _ _ _ _ _ _
        refine wpAny_pure ?_
        show wpAny _ _ (ret Value.none) _ _ _
        refine wpAny_pure ⟨rfl, h', tk', bs', ep', rfl, hsm', fun x => ?_, hS', fun b o hb e => ?_⟩
        · rw [hx' x, List.size_toArray, hvn]
          constructor
          · rintro ⟨j, hj, e⟩
            rw [← e, List.getD_eq_getElem?_getD, List.getElem?_eq_getElem hj]
            exact List.getElem_mem hj
          · intro hx
            obtain ⟨j, hj, e⟩ := List.getElem_of_mem hx
            exact ⟨j, hj, by rw [List.getD_eq_getElem?_getD, List.getElem?_eq_getElem hj]; exact e⟩
        · have hb1 : b ≠ h.objs.size := Nat.ne_of_lt hb
          have hb2 : b ≠ (h.push (sE0 w)).objs.size := by
            rw [Heap.size_push]; exact Nat.ne_of_lt (Nat.lt_succ_of_lt hb)
          exact hm'.heap b o (by simp only [List.mem_cons, List.mem_singleton, List.not_mem_nil, or_false, not_or]; exact ⟨hb1, hb2⟩) (Heap.get?_push_of_some _ (Heap.get?_push_of_some _ e))
      · cases r₂ with
        | error e => exact hr₂
        | ok fl₂ =>
          cases fl₂ with
          | ret r =>
            obtain ⟨rfl, h', tk', bs, ep, rfl, hsm, hx, hS', hk'⟩ := hr₂
            repeat (any_goals (first | assumption | wp_step))
            exact q _ bs ep h' tk' hsm hx (S.grow (fun b o e => hk' b o (Heap.lt_size e) e) hS')
          | _ => exact hr₂.elim
    | _ => exact hr.elim
end
section
open PyProof.Rows.LCg PySem.W PySem.SeqAt
variable {w : World} {A : Around} {E : Value → Shared → Prop} {h₀ h : Heap} {L d a b l : Addr} {m : Str → Option Value} {mu mu' mr pe : Lg} {G : Array GenState} {D : Drawn} {tk : Nat} {O : OsState} {xs : Ents} {n : Nat} {k : Nm}
theorem ed_sub {value slice : Expr} {Q : Value → Shared → Prop} {p : Addr × Value} (hu : A.units + 1 < cLine) (ho : h.get? d = some (eOb w xs n)) (x : EntOk w pe xs) (hp : ∀ p ∈ pe, h.get? p.1 = some p.2) (hk : IsNm w pe k a) (hx : atKey xs k = some p)
    (q : ∀ tk', Q p.2 ⟨h, G, D, tk', O⟩) (hs : subscripted slice false (.ref d) (.ref a) = operate [.ref d, .ref a] (getItem (.ref d) (.ref a)) := by with_unfolding_all rfl) :
    wpAny (model PR w) A (subscriptTail value slice (.ref d) (.ref a)) Q E ⟨h, G, D, tk, O⟩ :=
  tail_any (T := "dict") ⟨_, ho, rfl⟩ PySem.F.slot_dict_getitem.lookup (ed_getItem hu ho x hp hk hx q) hs
theorem ed_len {Q : Value → Shared → Prop} (ho : h.get? d = some (eOb w xs n)) (hs : (d == sysModules) = false) (hz : xs.length ≤ 1000) (q : Q (.int xs.length (tk + 1)) ⟨h, G, D, tk + 1 + 1, O⟩) :
    wpAny (model PR w) A (call (.builtin "len") [.ref d]) Q E ⟨h, G, D, tk, O⟩ := by
  have hT : (⟨h, G, D, tk, O⟩ : Shared).TypeIs (.ref d) "dict" := ⟨_, ho, rfl⟩
  refine Calls.call_function_entry kind_len plain_len entry_len (args_len1 _) ?_
  unfold Builtin.«len»
  refine wpAny_bind (m := oneArg "len" _) (wpAny_pure ?_)
  refine wpAny_bind (m := callSpecial? (.ref d) (Str.ofString "__len__")) (wpAny_callSpecial?_slot (name := Str.ofString "__len__") hT F.slot_dict_len (wpAny_call_entry F.slot_dict_len hT F.entry_dict_len ?_ (F.args_dict_len_1 _)))
  unfold Builtin.«dict.__len__» Builtin.Dict.dictSlotNone
  refine wpAny_bind (wpAny_bind ?_)
  show wpAny _ _ (Builtin.Dict.notOrdered "__len__" _) _ _ _
  show wpAny _ _ (pure ()) _ _ _
  refine wpAny_pure ?_
  refine wpAny_bind (wpAny_pure (wpAny_pure ?_))
  refine wpAny_bind (wpAny_pure ?_)
  refine wpAny_bind (wpAny_bind (wpAny_dictEntries ho rfl (wpAny_pure ?_)))
  show wpAny _ _ (Builtin.Dict.pendingCount d >>= _) _ _ _
  unfold Builtin.Dict.pendingCount
  rw [if_neg (by rw [hs]; decide)]
  refine wpAny_bind (wpAny_pure ?_)
  refine wpAny_bind (wpAny_mkInt ?_)
  refine wpAny_pure ⟨_, rfl, ?_⟩
  refine wpAny_bind (wpAny_holding (wpAny_pure ?_))
  refine wpAny_bind (wpAny_letGo ?_)
  have e : (((xs.map (entryOfKey (TKd w))).toArray.size : Nat) : Int) + ((0 : Nat) : Int) = (xs.length : Nat) := by simp
  rw [e]
  show wpAny _ _ (if ((xs.length : Nat) : Int) < 0 then _ else _) _ _ _
  rw [if_neg (by omega)]
  show wpAny _ _ (if ((xs.length : Nat) : Int) ≥ 2 ^ 63 then _ else _) _ _ _
  rw [if_neg (by omega)]
  exact wpAny_bind (wpAny_mkInt (wpAny_pure ⟨_, rfl, q⟩))
theorem ed_neE {n' : Nat} {Q : Value → Shared → Prop} (hu : A.units < cLine) (ho : h.get? d = some (eOb w xs n)) (hs : (d == sysModules) = false) (hob : h.get? b = some (eOb w [] n')) (hsb : (b == sysModules) = false) (q : Q (.bool (!xs.isEmpty)) ⟨h, G, D, tk, O⟩) :
    wpAny (model PR w) A (compareOp .NotEq (.ref d) (.ref b)) Q E ⟨h, G, D, tk, O⟩ := by
  have hT : (⟨h, G, D, tk, O⟩ : Shared).TypeIs (.ref d) "dict" := ⟨_, ho, rfl⟩
  have hTb : (⟨h, G, D, tk, O⟩ : Shared).TypeIs (.ref b) "dict" := ⟨_, hob, rfl⟩
  refine cmp_ofNotEq (wpAny_richCompare_same_room (op := .NotEq) hT hTb F.slot_dict_ne ?_ hu)
  refine wpAny_call_entry F.slot_dict_ne hT F.entry_dict_ne ?_ (F.args_dict_ne_2 _ _)
  show wpAny _ _ (Builtin.Dict.dictSlotArgs "__ne__" ⟨[.ref d, .ref b], []⟩ >>= _) _ _ _
  refine wpAny_bind ?_
  show wpAny _ _ (pure (Value.ref d, Value.ref b)) _ _ _
  refine wpAny_pure ?_
  have hsd : isSubtype (.type "dict") (.type "dict") = pure true := by rw [isSubtype_type]; kernel_rfl
  refine wpAny_bind (wpAny_isInstance hTb hsd ?_)
  rw [if_neg (by simp)]
  refine wpAny_bind (wpAny_pure (wpAny_bind (wpAny_pure (wpAny_bind ?_))))
  unfold Builtin.Dict.samePairs Builtin.Dict.showsAll
  rw [if_neg (show ¬ (d == sysModules) = true by rw [hs]; exact Bool.false_ne_true), if_neg (show ¬ (b == sysModules) = true by rw [hsb]; exact Bool.false_ne_true)]
  refine wpAny_bind (wpAny_pure (wpAny_bind (wpAny_pure ?_)))
  refine wpAny_bind (wpAny_dictEntries ho rfl ?_)
  dsimp only
  refine wpAny_bind (wpAny_dictEntries hob rfl ?_)
  cases xs with
  | nil =>
    rw [if_neg (by simp)]
    refine wpAny_bind (wpAny_dictEpoch ho rfl ?_)
    refine wpAny_bind ?_
    rw [Std.Legacy.Range.forIn_eq_forIn_range']
    simp only [Std.Legacy.Range.size, List.map_nil, List.size_toArray, List.length_nil, Nat.sub_zero, Nat.zero_add, Nat.sub_self, Nat.div_one, List.range'_zero, List.forIn_nil]
    refine wpAny_pure ?_
    exact wpAny_pure (wpAny_pure ⟨_, rfl, fun e => (nomatch e), q⟩)
  | cons y ys =>
    rw [if_pos (by simp)]
    exact wpAny_bind (wpAny_rule (wpAny_pure (wpAny_pure ⟨_, rfl, fun e => (nomatch e), q⟩)))
theorem ed_pop {Q : Value → Shared → Prop} {p : Addr × Value} (hu : A.units + 1 < cLine) (ho : h.get? d = some (eOb w xs n)) (hs : (d == sysModules) = false) (x : EntOk w pe xs) (hp : ∀ p ∈ pe, h.get? p.1 = some p.2) (hk : IsNm w pe k a) (hz : xs.length ≤ 1000) (hin : atKey xs k = some p)
    (q : ∀ tk' n' h', Heap.SameBut d h h' → h'.get? d = some (eOb w (cutH xs k) n') → Q p.2 ⟨h', G, D, tk', O⟩) : wpAny (model PR w) A (call (.builtin "dict.pop") [.ref d, .ref a]) Q E ⟨h, G, D, tk, O⟩ := by
  have hT : (⟨h, G, D, tk, O⟩ : Shared).TypeIs (.ref d) "dict" := ⟨_, ho, rfl⟩
  refine call_meth' (i := "dict.pop") (owner := "dict") (n := "pop") (by decide +kernel) (by decide +kernel) (by decide +kernel) PySem.F.entry_dict_pop (Looks.andThen (a := .type "dict") ((Looks.ld ho).andThen .now) (Looks.of_pure (by rw [isSubtype_type]; kernel_rfl))) (PySem.F.args_dict_pop_2 _ _) ?_
  unfold Builtin.«dict.pop» Builtin.Dict.keyAndDefault
  refine wpAny_bind (wpAny_bind (wpAny_notOrdered_dict hT ?_))
  refine wpAny_bind (wpAny_pure ?_)
  refine wpAny_bind (wpAny_pure ?_)
  refine wpAny_bind (wpAny_pure (wpAny_pure ?_))
  have hne : (xs.map (entryOfKey (TKd w))).toArray.isEmpty = false := by
    cases xs with
    | nil => simp [atKey] at hin
    | cons y ys => simp
  refine wpAny_bind (wpAny_dictEntries ho rfl ?_)
  rw [hne]
  refine wpAny_bind (wpAny_pure ?_)
  refine wpAny_bind (dtake (by show A.units + 1 < 9900; exact hu) hp hk ho x hz hin fun tk' n' h' hsb hg => ?_)
  dsimp only
  rw [if_neg (by simp)]
  refine wpAny_bind (wpAny_letGo ?_)
  exact wpAny_pure ⟨_, rfl, q tk' n' h' hsb hg⟩
theorem popL {mu' : Nat → Lg} {Q : Value → Shared → Prop} {p : Addr × Value} (hu : A.units + 1 < cLine) (S : SL h₀ L m h mu pe) (hm : (d, eOb w xs n) ∈ mu) (hr : ∀ n', Rp d (eOb w xs n) (eOb w (cutH xs k) n') mu (mu' n')) (hs : (d == sysModules) = false) (x : EntOk w pe xs) (hk : IsNm w pe k a) (hz : xs.length ≤ 1000) (hin : atKey xs k = some p)
    (q : ∀ tk' n' h', SL h₀ L m h' (mu' n') pe → Q p.2 ⟨h', G, D, tk', O⟩) : wpAny (model PR w) A (call (.builtin "dict.pop") [.ref d, .ref a]) Q E ⟨h, G, D, tk, O⟩ :=
  ed_pop hu (S.get hm) hs x S.pes hk hz hin fun tk' n' h' hsb hg => q tk' n' h' (S.set (hr n') hsb hg)
theorem storeL {mu' : Nat → Lg} {v : Value} {Q : Unit → Shared → Prop} (hu : A.units + 1 < cLine) (S : SL h₀ L m h mu pe) (hm : (d, eOb w xs n) ∈ mu) (hr : ∀ n', Rp d (eOb w xs n) (eOb w (storedH xs k a v) n') mu (mu' n')) (x : EntOk w pe xs) (hk : IsNm w pe k a) (hz : xs.length ≤ 1000)
    (q : ∀ tk' n' h', SL h₀ L m h' (mu' n') pe → Q () ⟨h', G, D, tk', O⟩) : wpAny (model PR w) A (setItem (.ref d) (.ref a) v) Q E ⟨h, G, D, tk, O⟩ :=
  ed_setItem hu (S.get hm) x S.pes hk hz fun tk' n' h' hsb hg => q tk' n' h' (S.set (hr n') hsb hg)
theorem addL {vs us : List Value} {Q : Value → Shared → Prop} (S : SL h₀ L m h mu pe) (hl : h.IsList a vs.toArray) (hb : h.IsList b us.toArray) (hz : vs.length + us.length ≤ 1000)
    (q : ∀ l h', SL h₀ L m h' ((l, PySem.W.listOf (vs ++ us).toArray 0) :: mu) pe → Q (.ref l) ⟨h', G, D, tk, O⟩) : wpAny (model PR w) A (binaryOp .Add (.ref a) (.ref b)) Q E ⟨h, G, D, tk, O⟩ :=
  add_lists (s := ⟨h, G, D, tk, O⟩) S.fr S.nw hl hb (fun h' F N => q _ h' (S.of F N S.lt)) (by rw [sizeLine_eq]; omega)
theorem nm_add {k l : Nm} {Q : Value → Shared → Prop} (S : SL h₀ L m h mu pe) (hk : IsNm w pe k a) (hl : IsNm w pe l b) (hz : k.length + l.length ≤ 1000)
    (q : ∀ c pe' h', pe ⊆ pe' → IsNm w pe' (k ++ l) c → SL h₀ L m h' mu pe' → Q (.ref c) ⟨h', G, D, tk, O⟩) : wpAny (model PR w) A (binaryOp .Add (.ref a) (.ref b)) Q E ⟨h, G, D, tk, O⟩ := by
  obtain ⟨vs, n1, hm1, hi1⟩ := id hk
  obtain ⟨us, n2, hm2, hi2⟩ := id hl
  have ha : ∀ {k l : Nm} {vs us : List Value}, ItemsAre (intKind PR w) k vs → ItemsAre (intKind PR w) l us → ItemsAre (intKind PR w) (k ++ l) (vs ++ us) := fun {k l vs us} h1 h2 => by
    induction h1 with
    | nil => exact h2
    | cons a _ ih => exact .cons a ih
  refine add_tuples (s := ⟨h, G, D, tk, O⟩) S.fr S.nw ⟨_, S.getp hm1, rfl, n1, rfl⟩ ⟨_, S.getp hm2, rfl, n2, rfl⟩ (fun e => ?_) (fun _ e => ?_) (fun _ _ h' F N => ?_) (by rw [sizeLine_eq, ← hi1.length, ← hi2.length]; omega)
  · subst e; cases hi1; exact q b pe h (fun _ z => z) hl S
  · subst e; cases hi2; exact q a pe h (fun _ z => z) (by rw [List.append_nil]; exact hk) S
  · exact q _ _ h' (fun _ z => .tail _ z) ⟨_, 0, .head _, ha hi1 hi2⟩ (S.of (o := tupO (vs ++ us) 0) F N S.lt).toPe
theorem sliceL {value slice : Expr} {ops : List Value} {its : Array Value} {vl vu vk : Value} {lo hi st : Option Int} {Q : Value → Shared → Prop} (S : SL h₀ L m h mu pe) (hl : h.IsList a its) (pl : IsPart vl lo) (pu : IsPart vu hi) (pk : IsPart vk st) (h0 : st ≠ some 0) (hz : its.size ≤ 1000)
    (q : ∀ l h', SL h₀ L m h' ((l, PySem.W.listOf (slicePick its lo hi st) 0) :: mu) pe → Q (.ref l) ⟨h', G, D, tk, O⟩)
    (hs : subscripted slice false (.ref a) (.ref h.objs.size) = operate ops (getItem (.ref a) (.ref h.objs.size)) := by with_unfolding_all rfl) :
    wpAny (model PR w) A (subscriptTail value slice (.ref a) (.ref h.objs.size)) Q E ⟨h.push { cls := .type "slice", data := .fields #[vl, vu, vk] }, G, D, tk, O⟩ := by
  have S₁ := S.push { cls := .type "slice", data := .fields #[vl, vu, vk] }
  have hl1 : (h.push { cls := .type "slice", data := .fields #[vl, vu, vk] }).IsList a its := hl.push _
  refine tail_any (s := ⟨h.push { cls := .type "slice", data := .fields #[vl, vu, vk] }, G, D, tk, O⟩) hl1.typeIs slot_list_getitem.lookup
    (wpAny_getItem_list_slice hl1 (Heap.IsSliceOf.new ..) pl pu pk h0 ?_ (by rw [sizeLine_eq]; omega)) hs
  have S₂ := S₁.push (PySem.W.listOf (slicePick its lo hi st) 0)
  exact q _ _ (S₂.sub ((List.sublist_cons_self _ mu).cons_cons _ |>.append (.refl pe)))
theorem item_last {s : Shared} {value slice : Expr} {items : Array Value} {u : Tok} {x : Value} {Q : Value → Shared → Prop} (hl : s.heap.IsList a items) (hx : items[items.size - 1]? = some x) (q : Q x s)
    (hs : subscripted slice false (.ref a) (.int (-1) u) = operate [.ref a, .int (-1) u] (getItem (.ref a) (.int (-1) u)) := by with_unfolding_all rfl) :
    wpAny (model PR w) A (subscriptTail value slice (.ref a) (.int (-1) u)) Q E s := by
  have hsz : 0 < items.size := by
    obtain ⟨h, _⟩ := Array.getElem?_eq_some_iff.mp hx
    omega
  refine tail_any hl.typeIs slot_list_getitem.lookup (wpAny_getItem_list_neg hl (by decide) (by omega) (by decide) ?_ q) hs
  rw [← hx]
  congr 1
  omega
end
section
open PyProof.Rows.LCg PySem.W PySem.SeqAt
variable {w : World} {A : Around} {E : Value → Shared → Prop} {h₀ h : Heap} {L d a b l : Addr} {m : Str → Option Value} {mu mu' mr pe : Lg} {G : Array GenState} {D : Drawn} {tk : Nat} {O : OsState} {xs xp : Ents} {n : Nat} {k : Nm}
theorem up_uniq {a b : List Nm} (p : a.Perm b) (ha : Up a) (hb : Up b) : a = b :=
  List.Perm.eq_of_pairwise (fun x y _ _ h1 h2 => by
    have := nlt_tr _ _ _ h1 h2
    rw [nlt_irr] at this; cases this) ha hb p
structure Twin (xs xp : Ents) : Prop where
  keys : ∀ k, k ∈ xs.map (·.1) ↔ k ∈ xp.map (·.1)
  vals : ∀ k p q, atKey xs k = some p → atKey xp k = some q → ∃ n t u, p.2 = .int n t ∧ q.2 = .int n u
theorem perm_of_mem {a b : List Nm} (ha : a.Nodup) (hb : b.Nodup) (h : ∀ k, k ∈ a ↔ k ∈ b) : a.Perm b := (List.perm_ext_iff_of_nodup ha hb).mpr h
theorem Twin.perm (t : Twin xs xp) (hx : EntOk w pe xs) (hp : EntOk w pe xp) : (xs.map (·.1)).Perm (xp.map (·.1)) := perm_of_mem hx.nd hp.nd t.keys
theorem Twin.len (t : Twin xs xp) (hx : EntOk w pe xs) (hp : EntOk w pe xp) : xs.length = xp.length := by
  have := (t.perm hx hp).length_eq
  simpa using this
abbrev valX (xp : Ents) (y : Nm × Addr) : Value := ((atKey xp y.1).map (·.2)).getD .none
theorem Twin.eqv {s : Shared} (t : Twin xs xp) {y z : Nm × Addr} (e : y.1 = z.1) (hy : y.1 ∈ xs.map (·.1)) : EqAt A s (valX xs y) (valX xp z) true := by
  obtain ⟨p, hp⟩ := atKey_some hy
  obtain ⟨q, hq⟩ := atKey_some ((t.keys _).mp hy)
  obtain ⟨n, t1, t2, e1, e2⟩ := t.vals _ _ _ hp hq
  rw [valX, valX, hp, ← e, hq]
  show EqAt A s p.2 q.2 true
  rw [e1, e2]
  have := EqAt.int_int (A := A) (s := s) n t1 n t2
  rwa [beq_self_eq_true] at this
theorem refs_ix {ts : Ts} {j : Nat} (h1 : j < (refs ts).toArray.size) : ∃ hj : j < ts.length, (refs ts).toArray[j] = .ref (ts[j]).2 := by
  have hj : j < ts.length := by rw [List.size_toArray, refs_length] at h1; exact h1
  exact ⟨hj, by simp [refs]⟩
theorem same_names {ks ts : Ts} (e : ks.map (·.1) = ts.map (·.1)) {j : Nat} (h1 : j < ks.length) (h2 : j < ts.length) : (ks[j]).1 = (ts[j]).1 := by
  have a1 : (ks.map (·.1))[j]? = some (ks[j]).1 := by simp [h1]
  have a2 : (ts.map (·.1))[j]? = some (ts[j]).1 := by simp [h2]
  rw [e, a2] at a1
  exact (Option.some.inj a1).symm
theorem refs_eqAt {s : Shared} {ks ts : Ts} (hp : ∀ p ∈ pe, s.heap.get? p.1 = some p.2) (hk : ∀ y ∈ ks, IsNm w pe y.1 y.2) (ht : ∀ y ∈ ts, IsNm w pe y.1 y.2) (e : ks.map (·.1) = ts.map (·.1)) (hu : A.units < cLine) (j : Nat) (h1 : j < (refs ks).toArray.size) (h2 : j < (refs ts).toArray.size) :
    EqAt A s (refs ks).toArray[j] (refs ts).toArray[j] true := by
  obtain ⟨i1, e1⟩ := refs_ix h1
  obtain ⟨i2, e2⟩ := refs_ix h2
  rw [e1, e2]
  exact nm_eqAt hp (hk _ (List.getElem_mem i1)) (ht _ (List.getElem_mem i2)) hu (same_names e i1 i2)
theorem pairs_eqAt {s : Shared} {ks ts : Ts} {vs us : List Value} (hp : ∀ p ∈ pe, s.heap.get? p.1 = some p.2) (hk : ∀ y ∈ ks, IsNm w pe y.1 y.2) (ht : ∀ y ∈ ts, IsNm w pe y.1 y.2) (e : ks.map (·.1) = ts.map (·.1)) (tw : Twin xs xp) (hin : ∀ y ∈ ks, y.1 ∈ xs.map (·.1))
    (hv : PairsAt pe ks (valX xs) vs) (hw : PairsAt pe ts (valX xp) us) (hu : A.in1.units < cLine) (hu0 : A.units < cLine) (j : Nat) (h1 : j < vs.toArray.size) (h2 : j < us.toArray.size) : EqAt A s vs.toArray[j] us.toArray[j] true := by
  have i1 : j < ks.length := by rw [List.size_toArray, hv.1] at h1; exact h1
  have i2 : j < ts.length := by rw [List.size_toArray, hw.1] at h2; exact h2
  obtain ⟨a1, n1, e1, m1⟩ := hv.2 j i1
  obtain ⟨a2, n2, e2, m2⟩ := hw.2 j i2
  have g1 : vs.toArray[j] = .ref a1 := by
    have : vs[j]? = some vs.toArray[j] := by simp at h1; simp [h1]
    rw [e1] at this; exact (Option.some.inj this).symm
  have g2 : us.toArray[j] = .ref a2 := by
    have : us[j]? = some us.toArray[j] := by simp at h2; simp [h2]
    rw [e2] at this; exact (Option.some.inj this).symm
  rw [g1, g2]
  by_cases q : a1 = a2
  · subst q; exact EqAt.same _
  have := RcAt.tuples (A := A) (s := s) (e := fun _ => true) (items := [Value.ref (ks[j]).2, valX xs ks[j]].toArray) (items2 := [Value.ref (ts[j]).2, valX xp ts[j]].toArray) ⟨_, hp _ m1, rfl, n1, rfl⟩ ⟨_, hp _ m2, rfl, n2, rfl⟩ hu0 fun i f1 f2 => by
    have hi : i = 0 ∨ i = 1 := by simp at f1; omega
    rcases hi with rfl | rfl
    · exact nm_eqAt hp (hk _ (List.getElem_mem i1)) (ht _ (List.getElem_mem i2)) hu (same_names e i1 i2)
    · exact tw.eqv (same_names e i1 i2) (hin _ (List.getElem_mem i1))
  exact EqAt.of_refs q this
theorem vals_eqAt {s : Shared} {ks ts : Ts} (e : ks.map (·.1) = ts.map (·.1)) (tw : Twin xs xp) (hin : ∀ y ∈ ks, y.1 ∈ xs.map (·.1)) (j : Nat) (h1 : j < (ks.map (valX xs)).toArray.size) (h2 : j < (ts.map (valX xp)).toArray.size) :
    EqAt A s (ks.map (valX xs)).toArray[j] (ts.map (valX xp)).toArray[j] true := by
  have i1 : j < ks.length := by simpa using h1
  have i2 : j < ts.length := by simpa using h2
  have := tw.eqv (A := A) (s := s) (same_names e i1 i2) (hin _ (List.getElem_mem i1))
  simpa using this
theorem nxt_head : ∀ {ks : Ts} {k : Nm}, Up (ks.map (·.1)) → nxt ks k = (ks.filter fun y => nlt k y.1).head?
  | [], k, _ => rfl
  | y :: r, k, h => by
    rw [List.map_cons, Up, List.pairwise_cons] at h
    cases hy : nlt k y.1 with
    | true =>
      have hno : ((y :: r).filter fun z => nle z.1 k) = [] := by
        rw [List.filter_eq_nil_iff]
        intro z hz
        have : nlt k z.1 = true := by
          rcases List.mem_cons.mp hz with rfl | hz
          · exact hy
          · exact nlt_tr _ _ _ hy (h.1 _ (List.mem_map_of_mem hz))
        simp [nle, this]
      unfold nxt
      rw [hno]
      simp [hy]
    | false =>
      have ih := nxt_head (ks := r) (k := k) h.2
      unfold nxt at ih ⊢
      have e : nle y.1 k = true := by simp [nle, hy]
      rw [List.filter_cons, List.filter_cons, e, hy]
      simpa using ih
theorem filter_names {ks ts : Ts} (e : ks.map (·.1) = ts.map (·.1)) (f : Nm → Bool) : (ks.filter fun y => f y.1).map (·.1) = (ts.filter fun y => f y.1).map (·.1) := by
  have h : ∀ l : Ts, (l.filter fun y => f y.1).map (·.1) = (l.map (·.1)).filter f := fun l => by rw [List.filter_map]; rfl
  rw [h, h, e]
end
section
open PyProof.Rows.LCg PySem.W PySem.SeqAt
variable {w : World} {A A₀ : Around} {base h₀ h : Heap} {outer : List Env} {env : Env} {L f : Addr} {p : Program} {loose : List Str} {mean : ExcName → Option Value} {mg mb m : Str → Option Value} {mu mr pe : Lg}
  {G : Array GenState} {D : Drawn} {tk : Nat} {O : OsState} {R : Result → Shared → Prop} {E : Value → Shared → Prop} {name : Str}
theorem law_told {r : OR} {xp : Ents} {np : Nat} {dp : Addr} {k : Nm} {a : Addr} {which : Int} {u : Tok} {q : Str} (Cm : Fm w A A₀ base outer env h₀ L p loose mean mg mb) (bt : Bt w base outer h₀ p loose mean mg mb) (S : SL h₀ L m h (r.led w ++ mr) pe) (hdf : IsDef w pe 2 q [] f) (hw : which = 0 ∨ which = 1 ∨ which = 2 ∨ which = 3 ∨ which = 4)
    (ok : r.Ok w pe) (cl : Clean r) (sh : Short (r.ks.map (·.1))) (hz : r.ks.length < 64) (hk : IsNm w pe k a) (hdp : (dp, eOb w xp np) ∈ mr) (hds : (dp == sysModules) = false) (xok : EntOk w pe xp) (tw : Twin r.xs xp) (hh : A.handled = none) (hd : A.depth < 830) (hu : A.units < 8400)
    (post : ∀ h₀' r' pe' h' tk', Tn outer h₀ h₀' → Fm w A A₀ base outer env h₀' L p loose mean mg mb → Bt w base outer h₀' p loose mean mg mb → pe ⊆ pe' → OrdRel r r' → r'.Ok w pe' → SL h₀' L m h' (r'.led w ++ mr) pe' → R (.ok (.ret (.bool true))) ⟨h', G, D, tk', O⟩) :
    codeAny (model PR w) A (.call (.ref f) ⟨[.int which u, .ref r.t, .ref a, .ref dp], []⟩) R ⟨h, G, D, tk, O⟩ := by
  obtain ⟨name, params, body, scope, doc, pm, ctv, c', oc, ws, t, ⟨pos, hb⟩, hm, hm2, hd2, hv2⟩ := hdf
  replace hb : some (Stmt.FunctionDef _ _ _ _ _ _ _ _ _ _) = some (Stmt.FunctionDef name params body [] none [] scope none name pos) := hb
  cases hb
  refine' enterTRC (binds := [("which", .int which u), ("table", .ref r.t), ("name", .ref a), ("plain", .ref dp)]) Cm bt S (S.getp hm) (codeRec_news S.nw (List.mem_append_right _ hm2) hd2 hv2) ?k8 ?k9 ?kB ?kD ?_ ?c3 ?c4 ?c5
  case k8 => show A.depth < 1000; omega
  case k9 => exact BindsTo.of_eq rfl
  case kB => exact rfl
  case kD => decide +kernel
  case c3 => exact rfl
  case c4 => exact rfl
  case c5 => exact rfl
  intro g L' h₁ tk' cells C' b' FG hC S0
  have hC2 : CellsAre _ [("plain", L' + 1 + 1), ("name", L' + 1)] cells := hC
  obtain ⟨oP, oN, rfl, hP, hN⟩ := hC2.two
  have hN' : oN.data = .cell (some (.ref a)) := hN
  have hP' : oP.data = .cell (some (.ref dp)) := hP
  obtain ⟨mr1, emr1⟩ : ∃ mr1 : Lg, mr1 = (L' + 1 + 1, oP) :: (L' + 1, oN) :: mr := ⟨_, rfl⟩
  have S1 := S0 (fun p hp => by
    rcases List.mem_cons.mp hp with rfl | hp
    · exact Nat.lt_succ_of_lt (Nat.lt_succ_self _)
    · rw [List.mem_singleton.mp hp]; exact Nat.lt_succ_self _) (by simp)
  have hperm : ((L' + 1 + 1, oP) :: (L' + 1, oN) :: (r.led w ++ mr)).Perm (r.led w ++ mr1) := by
    rw [emr1]
    exact (List.perm_append_comm_assoc [(L' + 1 + 1, oP), (L' + 1, oN)] (r.led w) mr)
  obtain ⟨m1, em1, S2⟩ : ∃ m1, m1 = (bindL _ _ _ : Str → Option Value) ∧ SL g L' m1 h₁ (r.led w ++ mr1) pe := ⟨_, rfl, S1.perm hperm⟩
  have hmw : m1 "which" = some (.int which u) := by rw [em1]; rfl
  have hmt : m1 "table" = some (.ref r.t) := by rw [em1]; rfl
  clear S0 S1 em1
  have hcN : ∀ {l : Lg}, (L' + 1, oN) ∈ l ++ mr1 := fun {_} => List.mem_append_right _ (by rw [emr1]; exact .tail _ (.head _))
  have hcP : ∀ {l : Lg}, (L' + 1 + 1, oP) ∈ l ++ mr1 := fun {_} => List.mem_append_right _ (by rw [emr1]; exact .head _)
  have hcD : (dp, eOb w xp np) ∈ mr1 := by rw [emr1]; exact .tail _ (.tail _ hdp)
  have hback : ∀ {r' : OR}, (r'.led w ++ mr).Sublist (r'.led w ++ mr1) := fun {_} => (List.Sublist.refl _).append (by rw [emr1]; exact (List.sublist_cons_self _ _).trans (List.sublist_cons_self _ _))
  have hlen := ok.same.length_eq
  rw [List.length_map, List.length_map] at hlen
  have hlx := tw.len ok.x xok
  have hne : ∀ y ∈ xp, y.1 ≠ [] := fun y hy => by
    have : y.1 ∈ r.xs.map (·.1) := (tw.keys _).mpr (List.mem_map_of_mem hy)
    exact sh.ne _ (ok.same.mem_iff.mpr this)
  walk_at "ms"
  refine callB (mach _) ?_ rfl rfl
  walk_at "ms"
  refine nmC S2 (List.mem_append_left _ hcP) hP' ?_ rfl rfl rfl (by decide)
  walk_at "ms"
  refine sorted_dict (by exact hh) S2 (List.mem_append_left _ (List.mem_append_right _ hcD)) hds xok hne (by omega) fun ts dn h₃ nn tk₃ hperm2 hup S3 => ?_
  refine stL S3 (fun h₄ S4' => ?_) rfl rfl
  obtain ⟨m4, em4, S4''⟩ : ∃ m4, m4 = (fun y => if y = ("names" : Str) then some (Value.ref dn) else m1 y) ∧ SL g L' m4 h₄ ((dn, PySem.W.listOf (refs ts).toArray nn) :: (r.led w ++ mr1)) pe := ⟨_, rfl, S4'⟩
  clear S4'
  have h4w : m4 "which" = some (.int which u) := by rw [em4]; exact hmw
  have h4t : m4 "table" = some (.ref r.t) := by rw [em4]; exact hmt
  have h4n : m4 "names" = some (.ref dn) := by rw [em4]; rfl
  obtain ⟨mr2, emr2⟩ : ∃ mr2 : Lg, mr2 = (dn, PySem.W.listOf (refs ts).toArray nn) :: mr1 := ⟨_, rfl⟩
  have S4 : SL g L' m4 h₄ (r.led w ++ mr2) pe := by rw [emr2]; exact S4''.perm List.perm_middle.symm
  clear S4'' S3 S2 em4
  have hdn : (dn, PySem.W.listOf (refs ts).toArray nn) ∈ mr2 := by rw [emr2]; exact .head _
  have hcN2 : ∀ {l : Lg}, (L' + 1, oN) ∈ l ++ mr2 := fun {_} => List.mem_append_right _ (by rw [emr2, emr1]; exact .tail _ (.tail _ (.head _)))
  have hcP2 : ∀ {l : Lg}, (L' + 1 + 1, oP) ∈ l ++ mr2 := fun {_} => List.mem_append_right _ (by rw [emr2, emr1]; exact .tail _ (.head _))
  have hcD2 : (dp, eOb w xp np) ∈ mr2 := by rw [emr2]; exact .tail _ hcD
  have hback2 : ∀ {r' : OR}, (r'.led w ++ mr).Sublist (r'.led w ++ mr2) := fun {_} => (List.Sublist.refl _).append (by rw [emr2, emr1]; exact ((List.sublist_cons_self _ _).trans (List.sublist_cons_self _ _)).trans (List.sublist_cons_self _ _))
  have htsP : (ts.map (·.1)).Perm (xp.map (·.1)) := by have := hperm2.map (·.1); rwa [dTs_keys] at this
  have htsK : (ts.map (·.1)).Perm (r.ks.map (·.1)) := htsP.trans ((tw.perm ok.x xok).symm.trans ok.same.symm)
  have htsI : ∀ y ∈ ts, IsNm w pe y.1 y.2 := fun y hy => by
    have := hperm2.mem_iff.mp hy
    obtain ⟨z, hz, rfl⟩ := List.mem_map.mp this
    exact xok.is z hz
  have htl : ts.length = r.ks.length := by have := htsK.length_eq; simpa using this
  walk_at "m"
  refine wpAny_If ?_
  walk_at "ms"
  refine nmL S4 h4w ?_ rfl rfl (by decide)
  walk_at "ms"
  refine wpAny_lt_int ?_
  walk_at "m"
  by_cases hlt : which < 3
  · rw [decide_eq_true hlt, if_pos rfl]
    refine mid (P := fun s' => ∃ r1 pe1 dg ng vg h' tk' m', s' = ⟨h', G, D, tk', O⟩ ∧ pe ⊆ pe1 ∧ OrdRel r r1 ∧ r1.Ok w pe1 ∧ SL g L' m' h' ((dg, PySem.W.listOf vg.toArray ng) :: (r1.led w ++ mr2)) pe1 ∧ m' "which" = some (.int which u) ∧ m' "names" = some (.ref dn) ∧ m' "table" = some (.ref r1.t) ∧ m' "got" = some (.ref dg) ∧
      ((which = 0 ∧ vg = refs r1.ks) ∨ (which = 1 ∧ vg = r1.ks.map (valX r1.xs)) ∨ (which = 2 ∧ PairsAt pe1 r1.ks (valX r1.xs) vg))) ?_ ?_
    · have h012 : which = 0 ∨ which = 1 ∨ which = 2 := by omega
      rcases h012 with rfl | rfl | rfl
      · walk_at "ms"
        refine nmL S4 h4w ?_ rfl rfl (by decide)
        walk_at "ms"
        refine eq_int ?_
        walk_at "m"
        rw [if_pos (by decide)]
        walk_at "ms"
        refine nmL S4 h4t ?_ rfl rfl (by decide)
        refine odMeth (S4.X C') (OR.inst S4) (by k_is) (by k_is) (odF_no rfl rfl rfl rfl) ?_
        refine callK0 (by k_is) (S4.X C') ?_
        refine wpAny_call ?_
        refine sd_keys C' S4 ok cl sh hz (by exact hh) (by show A.depth + 1 < 860; omega) (by show A.units + 3 < 8700; omega) fun r1 dg ng h₅ tk₅ x ok1 S₅ => ?_
        refine stL S₅ (fun h₆ S₆ => ?_) rfl rfl
        exact ⟨rfl, r1, pe, dg, ng, _, h₆, _, _, rfl, fun _ z => z, x, ok1, S₆, h4w, h4n, by rw [x.t]; exact h4t, rfl, .inl ⟨rfl, rfl⟩⟩
      · walk_at "ms"
        refine nmL S4 h4w ?_ rfl rfl (by decide)
        walk_at "ms"
        refine eq_int ?_
        walk_at "m"
        rw [if_neg (by decide)]
        walk_at "ms"
        refine nmL S4 h4w ?_ rfl rfl (by decide)
        walk_at "ms"
        refine eq_int ?_
        walk_at "m"
        rw [if_pos (by decide)]
        walk_at "ms"
        refine nmL S4 h4t ?_ rfl rfl (by decide)
        refine odMeth (S4.X C') (OR.inst S4) (by k_is) (by k_is) (odF_no rfl rfl rfl rfl) ?_
        refine callK0 (by k_is) (S4.X C') ?_
        refine wpAny_call ?_
        refine sd_values C' S4 ok cl sh hz (by exact hh) (by show A.depth + 1 < 860; omega) (by show A.units + 3 < 8700; omega) fun r1 dg ng vg h₅ tk₅ x ok1 hv S₅ => ?_
        refine stL S₅ (fun h₆ S₆ => ?_) rfl rfl
        exact ⟨rfl, r1, pe, dg, ng, _, h₆, _, _, rfl, fun _ z => z, x, ok1, S₆, h4w, h4n, by rw [x.t]; exact h4t, rfl, .inr (.inl ⟨rfl, hv⟩)⟩
      · walk_at "ms"
        refine nmL S4 h4w ?_ rfl rfl (by decide)
        walk_at "ms"
        refine eq_int ?_
        walk_at "m"
        rw [if_neg (by decide)]
        walk_at "ms"
        refine nmL S4 h4w ?_ rfl rfl (by decide)
        walk_at "ms"
        refine eq_int ?_
        walk_at "m"
        rw [if_neg (by decide)]
        walk_at "ms"
        refine nmL S4 h4t ?_ rfl rfl (by decide)
        refine odMeth (S4.X C') (OR.inst S4) (by k_is) (by k_is) (odF_no rfl rfl rfl rfl) ?_
        refine callK0 (by k_is) (S4.X C') ?_
        refine wpAny_call ?_
        refine sd_items C' S4 ok cl sh hz (by exact hh) (by show A.depth + 1 < 860; omega) (by show A.units + 3 < 8700; omega) fun r1 dg ng vg nw h₅ tk₅ x ok1 hv S₅ => ?_
        refine stL S₅ (fun h₆ S₆ => ?_) rfl rfl
        exact ⟨rfl, r1, nw ++ pe, dg, ng, _, h₆, _, _, rfl, fun _ z => List.mem_append_right _ z, x, ok1, S₆, h4w, h4n, by rw [x.t]; exact h4t, rfl, .inr (.inr ⟨rfl, hv⟩)⟩
    · rintro _ ⟨r1, pe1, dg, ng, vg, h₅, tk₅, m5, rfl, hsub1, x, ok1, S5, h5w, h5n, h5t, h5g, hgot⟩
      obtain ⟨mu5, emu5⟩ : ∃ mu5 : Lg, mu5 = (dg, PySem.W.listOf vg.toArray ng) :: (r1.led w ++ mr2) := ⟨_, rfl⟩
      rw [← emu5] at S5
      have hdn5 : (dn, PySem.W.listOf (refs ts).toArray nn) ∈ mu5 := by rw [emu5]; exact .tail _ (List.mem_append_right _ hdn)
      have hcP5 : (L' + 1 + 1, oP) ∈ mu5 := by rw [emu5]; exact .tail _ hcP2
      have hcD5 : (dp, eOb w xp np) ∈ mu5 := by rw [emu5]; exact .tail _ (List.mem_append_right _ hcD2)
      walk_at "m"
      refine wpAny_If ?_
      walk_at "ms"
      refine nmL S5 h5g ?_ rfl rfl (by decide)
      walk_at "ms"
      refine nmL S5 h5n ?_ rfl rfl (by decide)
      refine spliced_more ?_
      refine' comp_list (h₀ := g) (L := L') (m := m5) (G := G) (D := D) (O := O) (cl := [("plain", L' + 1 + 1)]) ?_ ?a ?b ?c ?d ?e ?f
      case a => rfl
      case b => decide
      case c => rfl
      case d => decide
      case e => rfl
      case f => intro x; rfl
      refine nmL S5 h5n ?_ rfl rfl (by decide)
      refine it_list (by exact hh) S5 (List.mem_append_left _ hdn5) hdn5 fun I h₆ oI St src hst S6 => ?_
      refine ⟨I, _, _, St, h₆, _, _, pe1, oI, fun i y pe' => y = (ts.take i).map (valX xp) ∧ pe' = pe1, rfl, rfl, src, hst, S6, ⟨rfl, rfl⟩, by rw [List.size_toArray, refs_length]; omega, ?_, ?_⟩
      · rintro i v y pe' h tk I' C₁ Dd oI' oC m₂ E' hi hP ⟨rfl, rfl⟩ hpe hns hm₂ S7
        obtain ⟨hi', e'⟩ := refs_get hP
        subst e'
        refine wpAny_tests_nil ?_
        rw [if_pos rfl]
        refine Subscript_ ?_
        refine cnC S7 (c := L' + 1 + 1) (o := oP) rfl (List.mem_append_left _ (.tail _ (.tail _ (.tail _ hcP5)))) hP' ?_ rfl rfl (by decide)
        refine cnL (S7.get (.tail _ (.head _))) hns hm₂ ?_ rfl rfl (by decide)
        have hy : ts[i] ∈ ts := List.getElem_mem hi'
        obtain ⟨pr, hpr⟩ := atKey_some (htsP.mem_iff.mp (List.mem_map_of_mem (f := (·.1)) hy))
        refine ed_sub (by show A.units + 3 + 1 < 9900; omega) (S7.get (.tail _ (.tail _ (.tail _ hcD5)))) (xok.mono hsub1) S7.pes ((htsI _ hy).mono hsub1) hpr fun tk₈ => ?_
        refine ⟨h, _, pe', _, rfl, rfl, ⟨?_, rfl⟩, fun _ z => z, S7⟩
        rw [List.take_succ_eq_append_getElem hi', List.map_append]
        simp [valX, hpr]
      · rintro d1 h₇ tk₇ y1 pe' ⟨rfl, rfl⟩ hpe S7
        rw [show (refs ts).toArray.size = ts.length by rw [List.size_toArray, refs_length], List.take_length] at S7
        obtain ⟨mu7, emu7⟩ : ∃ mu7 : Lg, mu7 = (d1, PySem.W.listOf (ts.map (valX xp)).toArray (ts.map (valX xp)).length) :: mu5 := ⟨_, rfl⟩
        rw [← emu7] at S7
        have hdn7 : (dn, PySem.W.listOf (refs ts).toArray nn) ∈ mu7 := by rw [emu7]; exact .tail _ hdn5
        have hcP7 : (L' + 1 + 1, oP) ∈ mu7 := by rw [emu7]; exact .tail _ hcP5
        have hcD7 : (dp, eOb w xp np) ∈ mu7 := by rw [emu7]; exact .tail _ hcD5
        refine spliced_more ?_
        refine' comp_list (h₀ := g) (L := L') (m := m5) (G := G) (D := D) (O := O) (cl := [("plain", L' + 1 + 1)]) ?_ ?a ?b ?c ?d ?e ?f
        case a => rfl
        case b => decide
        case c => rfl
        case d => decide
        case e => rfl
        case f => intro x; rfl
        refine nmL S7 h5n ?_ rfl rfl (by decide)
        refine it_list (by exact hh) S7 (List.mem_append_left _ hdn7) hdn7 fun I h₈ oI St src hst S8 => ?_
        refine ⟨I, _, _, St, h₈, _, _, pe', oI, fun i y pe2 => PairsAt pe2 (ts.take i) (valX xp) y ∧ pe' ⊆ pe2, rfl, rfl, src, hst, S8, ⟨⟨rfl, fun i hi => by simp at hi⟩, fun _ z => z⟩, by rw [List.size_toArray, refs_length]; omega, ?_, ?_⟩
        · rintro i v y pe2 h tk I' C₁ Dd oI' oC m₂ E' hi hP ⟨hJ1, hJ2⟩ hpe2 hns hm₂ S9
          obtain ⟨hi', e'⟩ := refs_get hP
          subst e'
          refine wpAny_tests_nil ?_
          rw [if_pos rfl]
          refine Tuple_ ?_
          refine spliced_more ?_
          refine cnL (S9.get (.tail _ (.head _))) hns hm₂ ?_ rfl rfl (by decide)
          refine spliced_more ?_
          refine Subscript_ ?_
          refine cnC S9 (c := L' + 1 + 1) (o := oP) rfl (List.mem_append_left _ (.tail _ (.tail _ (.tail _ hcP7)))) hP' ?_ rfl rfl (by decide)
          refine cnL (S9.get (.tail _ (.head _))) hns hm₂ ?_ rfl rfl (by decide)
          have hy : ts[i] ∈ ts := List.getElem_mem hi'
          obtain ⟨pr, hpr⟩ := atKey_some (htsP.mem_iff.mp (List.mem_map_of_mem (f := (·.1)) hy))
          have hsub2 : pe ⊆ pe2 := fun _ z => hJ2 (hsub1 z)
          refine ed_sub (by show A.units + 3 + 1 < 9900; omega) (S9.get (.tail _ (.tail _ (.tail _ hcD7)))) (xok.mono hsub2) S9.pes ((htsI _ hy).mono hsub2) hpr fun tk₉ => ?_
          refine spliced_none ?_
          refine newTupleL (by simp) ?_
          have S10 := (S9.push (tupO [.ref (ts[i]).2, pr.2] 0)).toPe
          refine ⟨_, _, _, y ++ [.ref h.objs.size], rfl, rfl, ⟨?_, fun _ z => .tail _ (hJ2 z)⟩, fun _ z => .tail _ z, S10⟩
          rw [List.take_succ_eq_append_getElem hi']
          exact hJ1.snoc (by simp [valX, hpr])
        · rintro d2 h₉ tk₉ y2 pe2 ⟨hy2, hsub2⟩ hpe2 S9
          rw [show (refs ts).toArray.size = ts.length by rw [List.size_toArray, refs_length], List.take_length] at hy2
          refine spliced_none ?_
          refine newListL (by simp) ?_
          have S10 := S9.push (PySem.W.listOf #[.ref dn, .ref d1, .ref d2] 0)
          refine nmL S10 h5w ?_ rfl rfl (by decide)
          have ok2 : r1.Ok w pe2 := ok1.mono hsub2
          have hks : (r1.ks.map (·.1)) = ts.map (·.1) := up_uniq ((x.ks.map _).trans htsK.symm) x.up hup
          have hkin : ∀ y ∈ r1.ks, y.1 ∈ r1.xs.map (·.1) := fun y hy => ok1.same.mem_iff.mp (List.mem_map_of_mem (f := (·.1)) hy)
          have tw1 : Twin r1.xs xp := by rw [x.xs]; exact tw
          have htsI2 : ∀ y ∈ ts, IsNm w pe2 y.1 y.2 := fun y hy => (htsI y hy).mono fun _ z => hsub2 (hsub1 z)
          have hkl : r1.ks.length = ts.length := by rw [x.ks.length_eq, htl]
          have hdg : (dg, PySem.W.listOf vg.toArray ng) ∈ mu7 := by rw [emu7, emu5]; exact .tail _ (.head _)
          have hd17 : (d1, PySem.W.listOf (ts.map (valX xp)).toArray (ts.map (valX xp)).length) ∈ mu7 := by rw [emu7]; exact .head _
          have hsel : ∃ dX itsX, (#[Value.ref dn, .ref d1, .ref d2] : Array Value)[which.toNat]? = some (.ref dX) ∧ (h₉.push (PySem.W.listOf #[.ref dn, .ref d1, .ref d2] 0)).IsList dX itsX ∧ vg.toArray.size = itsX.size ∧
              ∀ (B : Around) (hB : B.in1.units < cLine) (hB0 : B.units < cLine) j (h1 : j < vg.toArray.size) (h2 : j < itsX.size), EqAt B (⟨h₉.push (PySem.W.listOf #[.ref dn, .ref d1, .ref d2] 0), G, D, tk₉, O⟩ : Shared) vg.toArray[j] itsX[j] true := by
            rcases hgot with ⟨rfl, rfl⟩ | ⟨rfl, rfl⟩ | ⟨rfl, hv⟩
            · exact ⟨dn, _, rfl, ⟨_, S10.get (.tail _ (.tail _ hdn7)), rfl, _, rfl⟩, by rw [List.size_toArray, List.size_toArray, refs_length, refs_length, hkl], fun B hB hB0 => refs_eqAt S10.pes ok2.k htsI2 hks hB0⟩
            · exact ⟨d1, _, rfl, ⟨_, S10.get (.tail _ (.tail _ hd17)), rfl, _, rfl⟩, by rw [List.size_toArray, List.size_toArray, List.length_map, List.length_map, hkl], fun B hB hB0 => vals_eqAt hks tw1 hkin⟩
            · exact ⟨d2, _, rfl, ⟨_, S10.get (.tail _ (.head _)), rfl, _, rfl⟩, by rw [List.size_toArray, List.size_toArray, hv.1, hy2.1, hkl], fun B hB hB0 => pairs_eqAt S10.pes ok2.k htsI2 hks tw1 hkin (hv.mono hsub2) hy2 hB hB0⟩
          obtain ⟨dX, itsX, hX1, hX2, hX3, hX4⟩ := hsel
          refine item_listA (items := #[.ref dn, .ref d1, .ref d2]) ⟨_, S10.get (.head _), rfl, _, rfl⟩ (by omega) (by omega) hX1 ?_
          refine lists_ne_same ⟨_, S10.get (.tail _ (.tail _ hdg)), rfl, _, rfl⟩ hX2 hX3 (by show A.units + 3 < 9900; omega) (hX4 _ (by show A.units + 3 + 1 + 1 < 9900; omega) (by show A.units + 3 + 1 < 9900; omega)) ?_
          walk_at "m"
          rw [if_neg (by simp)]
          have S11 := S10.drop1.drop1
          rw [emu7] at S11
          have S12 := S11.drop1
          rw [emu5] at S12
          walk_at "m"
          walk_at "m"
          walk_at "m"
          refine MethodCall_ ?_
          refine nmL S12 h5g ?_ rfl rfl (by decide)
          refine getMethod_list_append (S12.get (.head _)) rfl rfl ?_
          refine callB (mach _) ?_ rfl rfl
          refine spliced_more ?_
          refine cStr ?_
          refine spliced_none ?_
          have hvl : vg.length = r1.ks.length := by
            rcases hgot with ⟨_, rfl⟩ | ⟨_, rfl⟩ | ⟨_, hv⟩
            · rw [refs_length]
            · rw [List.length_map]
            · exact hv.1
          refine appendL S12 .head (by rw [List.size_toArray, hvl, hkl]; omega) fun h₁₃ S13' => ?_
          have S13 := S13'.drop1
          clear S13' S12 S11
          have od1 : OdAt w h₁₃ pe2 r1.t r1.td _ _ r1.xs r1.nt := OR.odAt S13 (S13.X C') ok2.x ok2.st
          have hxl : r1.xs.length = xp.length := tw1.len ok2.x (xok.mono fun _ z => hsub2 (hsub1 z))
          walk_at "m"
          walk_at "m"
          refine BoolOp_and ?_
          walk_at "ms"
          refine callB (mach _) ?_ rfl rfl
          refine spliced_more ?_
          refine nmL S13 h5t ?_ rfl rfl (by decide)
          refine spliced_none ?_
          refine od_len od1 (by rw [hxl]; omega) ?_
          walk_at "ms"
          refine callB (mach _) ?_ rfl rfl
          refine spliced_more ?_
          refine nmC S13 (List.mem_append_left _ hcP2) hP' ?_ rfl rfl rfl (by decide)
          refine spliced_none ?_
          refine ed_len (S13.get (List.mem_append_right _ hcD2)) hds (by omega) ?_
          refine eq_int ?_
          walk_at "m"
          rw [if_pos (by rw [hxl]; simp)]
          refine BoolOp_one ?_
          walk_at "ms"
          refine nmC S13 (List.mem_append_left _ hcN2) hN' ?_ rfl rfl rfl (by decide)
          refine nmL S13 h5t ?_ rfl rfl (by decide)
          have hk2 : IsNm w pe2 k a := hk.mono fun _ z => hsub2 (hsub1 z)
          refine od_in (by show A.units + 3 + 1 < 9900; omega) od1 hk2 fun tk₁₄ => ?_
          walk_at "ms"
          refine nmC S13 (List.mem_append_left _ hcN2) hN' ?_ rfl rfl rfl (by decide)
          refine nmC S13 (List.mem_append_left _ hcP2) hP' ?_ rfl rfl rfl (by decide)
          refine ed_in (by show A.units + 3 + 1 < 9900; omega) (S13.get (List.mem_append_right _ hcD2)) (xok.mono fun _ z => hsub2 (hsub1 z)) S13.pes hds hk2 fun tk₁₅ => ?_
          refine RcAt.bool_bool _ _ PR w _ _ ?_
          have hbb : (decide (k ∈ r1.xs.map (·.1)) == decide (k ∈ xp.map (·.1))) = true := by
            have := tw1.keys k
            rw [beq_iff_eq, decide_eq_decide]
            exact this
          rw [hbb]
          refine ⟨g, L', m5, _, _, .refl, S13.sub (hback2.append (.refl _)), fun h₀' Tn' Cm' bt' S14 => ?_⟩
          exact post h₀' r1 pe2 _ _ Tn' Cm' bt' (fun _ z => hsub2 (hsub1 z)) x ok2 S14
  · rw [decide_eq_false hlt, if_neg (by simp)]
    walk_at "m"
    walk_at "m"
    refine wpAny_If ?_
    walk_at "ms"
    refine nmL S4 h4w ?_ rfl rfl (by decide)
    walk_at "ms"
    refine eq_int ?_
    walk_at "m"
    have h34 : which = 3 ∨ which = 4 := by omega
    rcases h34 with rfl | rfl
    · rw [if_pos (by decide)]
      walk_at "ms"
      refine nmL S4 h4t ?_ rfl rfl (by decide)
      refine odMeth (S4.X C') (OR.inst S4) (by k_is) (by k_is) (odF_no rfl rfl rfl rfl) ?_
      refine callK0 (by k_is) (S4.X C') ?_
      refine wpAny_call ?_
      refine sd_lens C' S4 ok cl sh hz (by exact hh) (by show A.depth + 1 < 860; omega) (by show A.units + 3 < 8700; omega) fun r1 tok ls h₅ tk₅ x hln ok1 S5 => ?_
      have hls : (ls, PySem.W.listOf r1.lv.toArray r1.nl) ∈ r1.led w := by
        refine .tail _ (.tail _ (.tail _ (.tail _ ?_)))
        unfold OR.lens
        rw [hln]
        exact .head _
      obtain ⟨mu5, emu5⟩ : ∃ mu5 : Lg, mu5 = r1.led w ++ mr2 := ⟨_, rfl⟩
      rw [← emu5] at S5
      have hls5 : (ls, PySem.W.listOf r1.lv.toArray r1.nl) ∈ mu5 := by rw [emu5]; exact List.mem_append_left _ hls
      have hdn5 : (dn, PySem.W.listOf (refs ts).toArray nn) ∈ mu5 := by rw [emu5]; exact List.mem_append_right _ hdn
      refine Subscript_ ?_
      walk_at "ms"
      refine callB (mach _) ?_ rfl rfl
      refine spliced_more ?_
      walk_at "ms"
      refine callB (machT _) ?_ rfl rfl
      refine spliced_more ?_
      refine' comp_list (h₀ := g) (L := L') (m := m4) (G := G) (D := D) (O := O) (cl := []) ?_ ?a ?b ?c ?d ?e ?f
      case a => rfl
      case b => decide
      case c => rfl
      case d => decide
      case e => rfl
      case f => intro x; rfl
      refine nmL S5 h4n ?_ rfl rfl (by decide)
      refine it_list (by exact hh) S5 (List.mem_append_left _ hdn5) hdn5 fun I h₆ oI St src hst S6 => ?_
      refine ⟨I, _, _, St, h₆, _, _, pe, oI, fun i y pe' => IntsAre y ((ts.take i).map fun z => ((z.1.length : Nat) : Int)) ∧ pe' = pe, rfl, rfl, src, hst, S6, ⟨.nil, rfl⟩, by rw [List.size_toArray, refs_length]; omega, ?_, ?_⟩
      · rintro i v y pe' h tk I' C₁ Dd oI' oC m₂ E' hi hP ⟨hJ, rfl⟩ hpe hns hm₂ S7
        obtain ⟨hi', e'⟩ := refs_get hP
        subst e'
        have hy : ts[i] ∈ ts := List.getElem_mem hi'
        have hsh : (ts[i]).1.length ≤ 1000 := by
          have := sh _ (htsK.mem_iff.mp (List.mem_map_of_mem (f := (·.1)) hy))
          omega
        refine wpAny_tests_nil ?_
        rw [if_pos rfl]
        refine Call_ ?_
        refine' cnB S7 C' ?e1 ?e2 ?e3 ?_ ?e4 ?e5 ?e6 ?e7 ?e8
        case e1 => k_is
        case e2 => boot_fast
        case e3 => decide
        case e4 => rfl
        case e5 => rfl
        case e6 => rfl
        case e7 => rfl
        case e8 => decide
        refine callB (mach _) ?_ rfl rfl
        refine spliced_more ?_
        refine cnL (S7.get (.tail _ (.head _))) hns hm₂ ?_ rfl rfl (by decide)
        refine spliced_none ?_
        refine name_len S7.pes (htsI _ hy) hsh fun t tk₈ => ?_
        refine ⟨h, _, pe', _, rfl, rfl, ⟨?_, rfl⟩, fun _ z => z, S7⟩
        rw [List.take_succ_eq_append_getElem hi', List.map_append]
        exact ints_snoc hJ _ _
      · rintro d1 h₇ tk₇ y1 pe' ⟨hy1, rfl⟩ hpe S7
        rw [show (refs ts).toArray.size = ts.length by rw [List.size_toArray, refs_length], List.take_length] at hy1
        refine spliced_none ?_
        refine set_list (ns := ts.map fun z => z.1.length) (by exact hh) S7 (.head _) (by rw [List.map_map]; exact hy1) (fun x hx => by
          obtain ⟨z, hz, rfl⟩ := List.mem_map.mp hx
          exact sh _ (htsK.mem_iff.mp (List.mem_map_of_mem (f := (·.1)) hz))) fun sa bs ep h₈ tk₈ hsm hsx S8 => ?_
        refine spliced_none ?_
        refine sorted_set (by exact hh) S8 (.head _) hsm fun vs d3 h₉ n3 tk₉ hvs S9 => ?_
        refine wpAny_Slice ?_
        refine evalPart_none_step ?_
        refine evalPart_none_step ?_
        refine evalPart_some_step ?_
        refine wpAny_UnaryOp ?_
        refine cInt ?_
        refine PyProof.Rows.neg_int ?_
        refine sliceL S9 ⟨_, S9.get (.head _), rfl, _, rfl⟩ .none .none (.int _ _) (by decide) (by rw [List.size_toArray, hvs.length]; have := hsm.len; simp [bInts]; omega) fun d4 h10 S10 => ?_
        rw [krv_pick] at S10
        have hks : (r1.ks.map (·.1)) = ts.map (·.1) := up_uniq ((x.ks.map _).trans htsK.symm) x.up hup
        have hrv : IntsAre (vs.toArray.toList.reverse) (lensD (r1.ks.map (·.1))) := by
          have e := lensD_of (ks := r1.ks.map (·.1)) hsm fun n => by
            rw [hsx n, hks]
            simp only [List.mem_map]
            constructor
            · rintro ⟨z, hz, e⟩
              exact ⟨z.1, ⟨z, hz, rfl⟩, e⟩
            · rintro ⟨_, ⟨z, hz, rfl⟩, e⟩
              exact ⟨z, hz, e⟩
          rw [← e]
          exact hvs.reverse
        refine lists_eq_same ⟨_, S10.get (.tail _ (.tail _ (.tail _ (.tail _ hls5)))), rfl, _, rfl⟩ ⟨_, S10.get (.head _), rfl, _, rfl⟩ (by rw [List.size_toArray, List.size_toArray, x.lv.length, hrv.length]) (by show A.units + 3 < 9900; omega) (ints_eqAt x.lv hrv) ?_
        have S11 := S10.drop1.drop1.drop1.drop1
        rw [emu5] at S11
        refine ⟨g, L', m4, _, _, .refl, S11.sub (hback2.append (.refl _)), fun h₀' Tn' Cm' bt' S12 => ?_⟩
        exact post h₀' r1 pe' _ _ Tn' Cm' bt' (fun _ z => z) x ok1 S12
    · rw [if_neg (by decide)]
      walk_at "m"
      refine mid (P := fun s' => ∃ g' r1 h' tk' m' v, s' = ⟨h', G, D, tk', O⟩ ∧ Tn (env :: outer) g g' ∧ Below A base (env :: outer) g' ∧ Bt w base (env :: outer) g' p loose mean mg mb ∧ OrdRel r r1 ∧ r1.Ok w pe ∧ SL g' L' m' h' (r1.led w ++ mr2) pe ∧ m' "names" = some (.ref dn) ∧ m' "behind" = some v ∧
        (match nxt r1.ks k with | some y => v = .ref y.2 | none => ∃ u, v = .str "last" u)) ?_ ?_
      · refine wpAny_Try_except ?_
        walk_at "ms"
        refine nmL S4 h4t ?_ rfl rfl (by decide)
        refine odMeth (S4.X C') (OR.inst S4) (by k_is) (by k_is) (odF_no rfl rfl rfl rfl) ?_
        refine callK (by k_is) ?_ rfl rfl
        refine spliced_more ?_
        refine nmC S4 (List.mem_append_left _ hcN2) hN' ?_ rfl rfl rfl (by decide)
        refine spliced_none ?_
        refine ⟨S4.X C', wpAny_call ?_⟩
        refine sd_next C' S4 ok cl sh hz hk (by exact hh) (by show A.depth + 1 < 860; omega) (by show A.units + 3 < 8700; omega) (fun r' y h₅ tk₅ x ok2 hy S₅ => ?_) (fun r' GG e h₅ tk₅ x ok2 hy FGG RX up f2 nd => ?_)
        · refine stL S₅ (fun h₆ S₆ => ?_) rfl rfl
          walk_at "ms"
          exact ⟨rfl, g, r', h₆, _, _, _, rfl, .refl, C'.B, b', x, ok2, S₆, h4n, rfl, by rw [hy]⟩
        · refine' ex_caught C' b' FGG RX up nd (handles_key ?x1 ?x2 ?x3) ?hE ?_
          case x1 => k_is
          case x2 => rfl
          case x3 => rfl
          case hE => exact PassesOwnAt.leaving
          intro h₆ g' Tn1 S₆ C'' b''
          walk_at "ms"
          refine stL S₆ (fun h₇ S₇ => ?_) rfl rfl
          walk_at "ms"
          exact ⟨rfl, g', r', h₇, _, _, _, rfl, Tn1, C''.B, b'', x, ok2, S₇, h4n, rfl, by rw [hy]; exact ⟨_, rfl⟩⟩
      · rintro _ ⟨g', r1, h₅, tk₅, m5, v, rfl, Tn1, B1, b1, x, ok1, S5, h5n, h5b, hv⟩
        have C1 := C'.at_ b' B1
        walk_at "ms"
        refine nmL S5 h5b ?_ rfl rfl (by decide)
        refine Subscript_ ?_
        walk_at "m"
        obtain ⟨mu5, emu5⟩ : ∃ mu5 : Lg, mu5 = r1.led w ++ mr2 := ⟨_, rfl⟩
        rw [← emu5] at S5
        have hdn5 : (dn, PySem.W.listOf (refs ts).toArray nn) ∈ mu5 := by rw [emu5]; exact List.mem_append_right _ hdn
        have hcN5 : (L' + 1, oN) ∈ mu5 := by rw [emu5]; exact hcN2
        refine' comp_list (h₀ := g') (L := L') (m := m5) (G := G) (D := D) (O := O) (cl := [("name", L' + 1)]) ?_ ?z1 ?z2 ?z3 ?z4 ?z5 ?z6
        case z1 => rfl
        case z2 => decide
        case z3 => rfl
        case z4 => decide
        case z5 => rfl
        case z6 => intro x; rfl
        refine nmL S5 h5n ?_ rfl rfl (by decide)
        refine it_list (by exact hh) S5 (List.mem_append_left _ hdn5) hdn5 fun I h₆ oI St src hst S6 => ?_
        refine ⟨I, _, _, St, h₆, _, _, pe, oI, fun i y pe' => y = refs ((ts.take i).filter fun z => nlt k z.1) ∧ pe' = pe, rfl, rfl, src, hst, S6, ⟨rfl, rfl⟩, by rw [List.size_toArray, refs_length]; omega, ?_, ?_⟩
        · rintro i v y pe' h tk I' C₁ Dd oI' oC m₂ E' hi hP ⟨hJ, rfl⟩ hpe hns hm₂ S7
          obtain ⟨hi', e'⟩ := refs_get hP
          subst e'
          have hy : ts[i] ∈ ts := List.getElem_mem hi'
          refine wpAny_tests_one ?_
          walk_at "ms"
          refine cnL (S7.get (.tail _ (.head _))) hns hm₂ ?_ rfl rfl (by decide)
          refine cnC S7 (c := L' + 1) (o := oN) rfl (List.mem_append_left _ (.tail _ (.tail _ (.tail _ hcN5)))) hN' ?_ rfl rfl (by decide)
          refine nm_gt (by show A.units + 3 < 9900; omega) S7.pes (htsI _ hy) hk ?_
          walk_at "m"
          have hT : ts.take (i + 1) = ts.take i ++ [ts[i]] := List.take_succ_eq_append_getElem hi'
          cases hn : ngt (ts[i]).1 k with
          | true =>
            rw [if_pos rfl]
            refine cnL (S7.get (.tail _ (.head _))) hns hm₂ ?_ rfl rfl (by decide)
            refine ⟨h, _, pe', y ++ [.ref (ts[i]).2], rfl, rfl, ⟨?_, rfl⟩, fun _ z => z, S7⟩
            have hn' : nlt k (ts[i]).1 = true := hn
            rw [hT, List.filter_append, hJ]
            simp [refs, hn']
          | false =>
            rw [if_neg (by simp)]
            refine ⟨h, _, pe', rfl, ⟨?_, rfl⟩, fun _ z => z, S7⟩
            have hn' : nlt k (ts[i]).1 = false := hn
            rw [hT, List.filter_append, hJ]
            simp [refs, hn']
        · rintro d1 h₇ tk₇ y1 pe' ⟨hy1, rfl⟩ hpe S7
          rw [show (refs ts).toArray.size = ts.length by rw [List.size_toArray, refs_length], List.take_length] at hy1
          subst hy1
          walk_at "ms"
          refine newListL (by simp) ?_
          have S8 := S7.push (PySem.W.listOf #[.str "last" tk₇] 0)
          have hfl : (ts.filter fun z => nlt k z.1).length ≤ ts.length := List.length_filter_le ..
          refine addL (us := [.str "last" tk₇]) S8 ⟨_, S8.get (.tail _ (.head _)), rfl, _, rfl⟩ ⟨_, S8.get (.head _), rfl, _, rfl⟩ (by rw [refs_length, List.length_singleton]; omega) fun d2 h₉ S9 => ?_
          walk_at "ms"
          have hks : (r1.ks.map (·.1)) = ts.map (·.1) := up_uniq ((x.ks.map _).trans htsK.symm) x.up hup
          have S10 := S9.drop1.drop1.drop1
          rw [emu5] at S10
          have fin : ∀ tk', RetT w A A₀ base outer env h₀ L m g p loose mean mg mb R (.ret (.bool true)) ⟨h₉, G, D, tk', O⟩ := fun tk' =>
            ⟨g', L', m5, _, _, Tn1, S10.sub (hback2.append (.refl _)), fun h₀' Tn' Cm' bt' S11 => post h₀' r1 pe' _ _ Tn' Cm' bt' (fun _ z => z) x ok1 S11⟩
          have hfn := filter_names hks fun z => nlt k z
          rw [nxt_head x.up] at hv
          cases hf1 : (r1.ks.filter fun y => nlt k y.1) with
          | nil =>
            rw [hf1] at hfn hv
            have hf2 : (ts.filter fun z => nlt k z.1) = [] := by
              cases q : (ts.filter fun z => nlt k z.1) with
              | nil => rfl
              | cons _ _ => rw [q] at hfn; simp at hfn
            obtain ⟨u2, rfl⟩ := hv
            refine item_listA (items := (refs (ts.filter fun z => nlt k z.1) ++ [Value.str "last" tk₇]).toArray) ⟨_, S9.get (.head _), rfl, _, rfl⟩ (by decide) (by decide) (x := .str "last" tk₇) (by rw [hf2]; rfl) ?_
            refine RcAt.str_str _ _ _ _ PR w _ _ ?_
            rw [beq_self_eq_true]
            exact fin _
          | cons y ys =>
            rw [hf1] at hfn hv
            obtain ⟨z, zs, hf2⟩ : ∃ z zs, (ts.filter fun z => nlt k z.1) = z :: zs := by
              cases q : (ts.filter fun z => nlt k z.1) with
              | nil => rw [q] at hfn; simp at hfn
              | cons z zs => exact ⟨z, zs, rfl⟩
            rw [hf2] at hfn
            have hyz : y.1 = z.1 := by simpa using (List.cons.inj (by simpa using hfn)).1
            subst hv
            have hym : y ∈ r1.ks := (List.mem_filter.mp (by rw [hf1]; exact .head _)).1
            have hzm : z ∈ ts := (List.mem_filter.mp (by rw [hf2]; exact .head _)).1
            refine item_listA (items := (refs (ts.filter fun z => nlt k z.1) ++ [Value.str "last" tk₇]).toArray) ⟨_, S9.get (.head _), rfl, _, rfl⟩ (by decide) (by decide) (x := .ref z.2) (by rw [hf2]; rfl) ?_
            refine nm_eq S9.pes (ok1.k _ hym) (htsI _ hzm) (by show A.units + 3 < 9900; omega) ?_
            rw [hyz, decide_eq_true rfl]
            exact fin _
end
section
open PyProof.Rows.LCg PySem.W
variable {w : World} {A A₀ : Around} {base h₀ h : Heap} {outer : List Env} {env : Env} {L f c : Addr} {p : Program} {loose : List Str} {mean : ExcName → Option Value} {mg mb m : Str → Option Value} {mu mr pe : Lg}
  {G : Array GenState} {D : Drawn} {tk : Nat} {O : OsState} {R : Result → Shared → Prop} {E : Value → Shared → Prop}
theorem Tn.same {g g' : Heap} (t : Tn [] g g') : (∀ b o, g.get? b = some o → g'.get? b = some o) ∧ ∀ b, g'.get? b = none → g.get? b = none := by
  refine ⟨fun b o e => t.other b o e (by simp), fun b e => ?_⟩
  cases q : g.get? b with
  | none => rfl
  | some o => rw [t.other b o q (by simp)] at e; cases e
theorem SL.untn {g g' : Heap} (t : Tn [] g g') (S : SL g' L m h mu pe) : SL g L m h mu pe :=
  ⟨⟨S.fr.ns, fun b o e => S.fr.keep b o (t.same.1 b o e), by rw [← t.size]; exact S.fr.above⟩, fun q hq => ⟨(S.nw q hq).1, (S.nw q hq).2.1, t.same.2 _ (S.nw q hq).2.2⟩, S.nd⟩
theorem stC {cn : Str} {cs : Scope} {a : Addr} {ccd : Value} {cl : List (Str × Addr)} {x : Str} {v : Value} {oN : Obj} {v0 : Option Value} {Q : Unit → Shared → Prop} (S : SL h₀ L m h ((c, oN) :: mu) pe) (hc : cl.lookup x = some c) (hd : oN.data = .cell v0)
    (q : ∀ h' o', o'.data = .cell (some v) → SL h₀ L m h' ((c, o') :: mu) pe → Q () ⟨h', G, D, tk, O⟩) (hk : cs.kind = .function) (hx : (envX cn cs L a ccd cl).kindOf x = some .cell) :
    wpAny (model PR w) A (storeName (envX cn cs L a ccd cl) x v) Q E ⟨h, G, D, tk, O⟩ := by
  refine wpAny_storeName_cell hk hx hc ⟨oN, S.get (.head _), hd⟩ fun h' hv hs => ?_
  obtain ⟨o', ho', hd'⟩ := hv
  exact q h' o' hd' (S.set .head hs ho')
theorem setL {a : Addr} {its : Array Value} {n j : Nat} {u : Tok} {v : Value} {mu' : Lg} {Q : Unit → Shared → Prop} (S : SL h₀ L m h mu pe) (hr : Rp a (PySem.W.listOf its n) (PySem.W.listOf (its.setIfInBounds j v) n) mu mu') (hj : j < its.size) (hz : its.size ≤ 1000)
    (q : ∀ h', SL h₀ L m h' mu' pe → Q () ⟨h', G, D, tk, O⟩) : wpAny (model PR w) A (setItem (.ref a) (.int j u) v) Q E ⟨h, G, D, tk, O⟩ := by
  have e : Obj.mapSeq (·.setIfInBounds j v) (PySem.W.listOf its n) = PySem.W.listOf (its.setIfInBounds j v) n := by
    simp [Obj.mapSeq]
  refine ki_setAt (s := ⟨h, G, D, tk, O⟩) (S.get hr.mem) (by omega) (by omega) (by omega) ?_
  rw [Int.toNat_natCast]
  exact q _ (SL.update (Obj.mapSeq (·.setIfInBounds j v)) S (by rw [e]; exact hr) (by rw [e]; rfl))
structure LS where
  T : TR
  r : OR
  dp : Addr
  np : Nat
  xp : Ents
def LS.led (w : World) (σ : LS) : Lg := σ.T.led w ++ (σ.r.led w ++ [(σ.dp, eOb w σ.xp σ.np)])
structure LInv (w : World) (pe : Lg) (σ : LS) (n : Nat) : Prop where
  tok : σ.T.r.Ok w pe
  tcl : Clean σ.T.r
  tnd : NodesOk w pe σ.T.r.xs
  tna : IsNm w pe [1] σ.T.na
  tcs : σ.T.r.cs.length ≤ n
  txs : σ.T.r.xs.length ≤ n
  rok : σ.r.Ok w pe
  rcl : Clean σ.r
  rcs : σ.r.cs.length ≤ n
  rxs : σ.r.xs.length ≤ n
  xok : EntOk w pe σ.xp
  sh : Short (σ.xp.map (·.1))
  sml : ∀ k ∈ σ.xp.map (·.1), Sml k
  len : σ.xp.length ≤ n
  dps : (σ.dp == sysModules) = false
theorem LInv.mono {pe' : Lg} {σ : LS} {n : Nat} (x : LInv w pe σ n) (h : pe ⊆ pe') : LInv w pe' σ n :=
  ⟨x.tok.mono h, x.tcl, x.tnd.mono h, x.tna.mono h, x.tcs, x.txs, x.rok.mono h, x.rcl, x.rcs, x.rxs, x.xok.mono h, x.sh, x.sml, x.len, x.dps⟩
end
section
open PyProof.Rows.LCg PySem.W
variable {w : World} {A : Around} {h₀ : Heap} {L : Addr} {m : Str → Option Value}
  {G : Array GenState} {D : Drawn} {O : OsState} {E : Value → Shared → Prop} {cn : Str} {cs : Scope} {a : Addr} {ccd : Value} {cl : List (Str × Addr)} {n1 n2 n3 : Str}
abbrev updM (m : Str → Option Value) (x : Str) (v : Value) : Str → Option Value := fun y => if y = x then some v else m y
def Pair2 (h₀ : Heap) (L : Addr) (m : Str → Option Value) (G : Array GenState) (D : Drawn) (O : OsState) (n1 n2 : Str) (Q : Flow → Shared → Prop) (v : Value) (s : Shared) : Prop :=
  ∃ t h tk v1 v2 mu pe n, v = .ref t ∧ s = ⟨h, G, D, tk, O⟩ ∧ SL h₀ L m h mu pe ∧ (t, tupO [v1, v2] n) ∈ mu ++ pe ∧ ∀ h' tk', SL h₀ L (updM (updM m n2 v2) n1 v1) h' mu pe → Q .next ⟨h', G, D, tk', O⟩
theorem swap2 {elts : List Expr} {k : Nat} {tpos pos : Pos} {value : Expr} {Q : Flow → Shared → Prop} {s : Shared} (hh : A.handled = none)
    (q : wpAny (model PR w) A (eval value (envX cn cs L a ccd cl)) (Pair2 h₀ L m G D O n1 n2 Q) E s)
    (hs : swapsWithSole [.Tuple elts k tpos] value pos.line (envX cn cs L a ccd cl) = pure false)
    (hw : swappedStores [.Tuple elts k tpos] value (envX cn cs L a ccd cl) = pure (some [n1, n2]))
    (hk : cs.kind = .function) (h1 : (envX cn cs L a ccd cl).kindOf n1 = some .local) (h2 : (envX cn cs L a ccd cl).kindOf n2 = some .local) :
    wpAny (model PR w) A (exec (.Assign [.Tuple elts k tpos] value pos) (envX cn cs L a ccd cl)) Q E s := by
  refine Assign_Tuple_swapped (names := [n1, n2]) (wpAny_mono q (fun v s₁ hq => ?_) fun _ _ z => z) hs hw
  obtain ⟨t, h, tk, v1, v2, mu, pe, n, rfl, rfl, S, hm, fin⟩ := hq
  refine unpackItems_tuple (items := [v1, v2].toArray) hh ⟨_, (S.nw _ hm).1, rfl, n, rfl⟩ fun h' he => ?_
  have S₁ : SL h₀ L m h' mu pe := S.keeps fun b o e => he b o (Nat.ne_of_lt (Heap.lt_size e)) e
  refine assignInOrder_cons (wpAny_bindName (stL S₁ (fun h₂ S₂ => ?_) hk h2))
  refine assignInOrder_cons (wpAny_bindName (stL S₂ (fun h₃ S₃ => ?_) hk h1))
  exact assignInOrder_nil (fin h₃ _ S₃)
def Pair3 (h₀ : Heap) (L : Addr) (m : Str → Option Value) (G : Array GenState) (D : Drawn) (O : OsState) (n1 n2 n3 : Str) (Q : Flow → Shared → Prop) (v : Value) (s : Shared) : Prop :=
  ∃ t h tk v1 v2 v3 mu pe n, v = .ref t ∧ s = ⟨h, G, D, tk, O⟩ ∧ SL h₀ L m h mu pe ∧ (t, tupO [v1, v2, v3] n) ∈ mu ++ pe ∧ ∀ h' tk', SL h₀ L (updM (updM (updM m n3 v3) n2 v2) n1 v1) h' mu pe → Q .next ⟨h', G, D, tk', O⟩
theorem swap3 {elts : List Expr} {k : Nat} {tpos pos : Pos} {value : Expr} {Q : Flow → Shared → Prop} {s : Shared} (hh : A.handled = none)
    (q : wpAny (model PR w) A (eval value (envX cn cs L a ccd cl)) (Pair3 h₀ L m G D O n1 n2 n3 Q) E s)
    (hs : swapsWithSole [.Tuple elts k tpos] value pos.line (envX cn cs L a ccd cl) = pure false)
    (hw : swappedStores [.Tuple elts k tpos] value (envX cn cs L a ccd cl) = pure (some [n1, n2, n3]))
    (hk : cs.kind = .function) (h1 : (envX cn cs L a ccd cl).kindOf n1 = some .local) (h2 : (envX cn cs L a ccd cl).kindOf n2 = some .local) (h3 : (envX cn cs L a ccd cl).kindOf n3 = some .local) :
    wpAny (model PR w) A (exec (.Assign [.Tuple elts k tpos] value pos) (envX cn cs L a ccd cl)) Q E s := by
  refine Assign_Tuple_swapped (names := [n1, n2, n3]) (wpAny_mono q (fun v s₁ hq => ?_) fun _ _ z => z) hs hw
  obtain ⟨t, h, tk, v1, v2, v3, mu, pe, n, rfl, rfl, S, hm, fin⟩ := hq
  refine unpackItems_tuple (items := [v1, v2, v3].toArray) hh ⟨_, (S.nw _ hm).1, rfl, n, rfl⟩ fun h' he => ?_
  have S₁ : SL h₀ L m h' mu pe := S.keeps fun b o e => he b o (Nat.ne_of_lt (Heap.lt_size e)) e
  refine assignInOrder_cons (wpAny_bindName (stL S₁ (fun h₂ S₂ => ?_) hk h3))
  refine assignInOrder_cons (wpAny_bindName (stL S₂ (fun h₃ S₃ => ?_) hk h2))
  refine assignInOrder_cons (wpAny_bindName (stL S₃ (fun h₄ S₄ => ?_) hk h1))
  exact assignInOrder_nil (fin h₄ _ S₄)
theorem tup2 {k : Nat} {tpos pos p1 p2 : Pos} {value : Expr} {Q : Flow → Shared → Prop} {s : Shared} (hh : A.handled = none)
    (q : wpAny (model PR w) A (eval value (envX cn cs L a ccd cl)) (fun v s => ∃ t h tk v1 v2 mu pe n, v = .ref t ∧ s = ⟨h, G, D, tk, O⟩ ∧ SL h₀ L m h mu pe ∧ (t, tupO [v1, v2] n) ∈ mu ++ pe ∧ ∀ h' tk', SL h₀ L (updM (updM m n1 v1) n2 v2) h' mu pe → Q .next ⟨h', G, D, tk', O⟩) E s)
    (hs : swapsWithSole [.Tuple [.Name n1 p1, .Name n2 p2] k tpos] value pos.line (envX cn cs L a ccd cl) = pure false)
    (hw : swappedStores [.Tuple [.Name n1 p1, .Name n2 p2] k tpos] value (envX cn cs L a ccd cl) = pure none)
    (hk : cs.kind = .function) (h1 : (envX cn cs L a ccd cl).kindOf n1 = some .local) (h2 : (envX cn cs L a ccd cl).kindOf n2 = some .local) :
    wpAny (model PR w) A (exec (.Assign [.Tuple [.Name n1 p1, .Name n2 p2] k tpos] value pos) (envX cn cs L a ccd cl)) Q E s := by
  refine Assign_Tuple (wpAny_mono q (fun v s₁ hq => ?_) fun _ _ z => z) hs hw
  obtain ⟨t, h, tk, v1, v2, mu, pe, n, rfl, rfl, S, hm, fin⟩ := hq
  refine assign_Tuple_tuple (items := [v1, v2].toArray) hh ⟨_, (S.nw _ hm).1, rfl, n, rfl⟩ rfl rfl fun h' he => ?_
  have S₁ : SL h₀ L m h' mu pe := S.keeps fun b o e => he b o (Nat.ne_of_lt (Heap.lt_size e)) e
  refine assignInOrder_cons (wpAny_assign_Name (stL S₁ (fun h₂ S₂ => ?_) hk h1))
  refine assignInOrder_cons (wpAny_assign_Name (stL S₂ (fun h₃ S₃ => ?_) hk h2))
  exact assignInOrder_nil (fin h₃ _ S₃)
end
def IsScope (sc : Scope) : Prop := (match PR.main.body.getLast? with
  | some (.FunctionDef _ _ _ _ _ _ sc _ _ _) => some sc
  | _ => none) = some sc
def lawLoop : List Stmt := match (lawBody[5]? : Option Stmt) with
  | some (Stmt.For _ _ b _ _) => b
  | _ => []
section
open PyProof.Rows.LCg PySem.W
variable {w : World} {A A₀ : Around} {h₀ h : Heap} {L : Addr} {p : Program} {loose : List Str} {mean : ExcName → Option Value} {mg mb m : Str → Option Value} {mu mr pe pe0 : Lg}
  {G : Array GenState} {D : Drawn} {tk : Nat} {O : OsState} {E : Value → Shared → Prop}
structure LC (w : World) (A A₀ : Around) (h₀ : Heap) (env : Env) (L : Addr) (p : Program) (loose : List Str) (mean : ExcName → Option Value) (mg mb : Str → Option Value) (pe0 : Lg) (ns : List Int) (cS cN f0 f1 f2 f3 : Addr) : Prop where
  C : Fm w A A₀ h₀ [] env h₀ L p loose mean mg mb
  b : Bt w h₀ [] h₀ p loose mean mg mb
  hh : A.handled = none
  hg : A.guards = some []
  hd : A.depth < 400
  hu : A.units < 100
  d0 : IsDef w pe0 0 "law.<locals>.draw" [("script", cS)] f0
  d1 : IsDef w pe0 1 "law.<locals>.name_of" [] f1
  d2 : IsDef w pe0 2 "law.<locals>.told" [] f2
  d3 : IsDef w pe0 3 "law.<locals>.node_name" [] f3
  cell : ∃ oS sl vs, (cS, oS) ∈ pe0 ∧ oS.data = .cell (some (.ref sl)) ∧ h₀.IsList sl (List.toArray vs) ∧ IntsAre vs ns ∧ ns.length ≤ 63
structure LN (m : Str → Option Value) (σ : LS) (f0 f1 f2 f3 : Addr) : Prop where
  draw : m "draw" = some (.ref f0)
  name_of : m "name_of" = some (.ref f1)
  told : m "told" = some (.ref f2)
  node : m "node_name" = some (.ref f3)
  tree : m "tree" = some (.ref σ.T.t)
  table : m "table" = some (.ref σ.r.t)
  plain : m "plain" = some (.ref σ.dp)
theorem LN.upd {m : Str → Option Value} {σ : LS} {f0 f1 f2 f3 : Addr} (x : LN m σ f0 f1 f2 f3) {y : Str} {v : Value} (hy : (["draw", "name_of", "told", "node_name", "tree", "table", "plain"] : List Str).contains y = false) : LN (updM m y v) σ f0 f1 f2 f3 := by
  have e : ∀ z : Str, z ∈ (["draw", "name_of", "told", "node_name", "tree", "table", "plain"] : List Str) → updM m y v z = m z := fun z hz => by
    have : z ≠ y := fun q => by
      rw [q] at hz
      have := List.contains_iff_mem.mpr hz
      rw [this] at hy; cases hy
    show (if z = y then some v else m z) = m z
    rw [if_neg this]
  exact ⟨(e _ (by simp)).trans x.draw, (e _ (by simp)).trans x.name_of, (e _ (by simp)).trans x.told, (e _ (by simp)).trans x.node, (e _ (by simp)).trans x.tree, (e _ (by simp)).trans x.table, (e _ (by simp)).trans x.plain⟩
end
section
open PyProof.Rows.LCg PySem.W
variable {w : World} {A A₀ : Around} {h₀ h : Heap} {L fa cS cN f0 f1 f2 f3 : Addr} {p : Program} {loose : List Str} {mean : ExcName → Option Value} {mg mb m : Str → Option Value} {mu mr pe pe0 : Lg}
  {G : Array GenState} {D : Drawn} {tk : Nat} {O : OsState} {E : Value → Shared → Prop} {sc : Scope} {ccd : Value} {ns : List Int} {st : Stmt}
abbrev lawEnv (sc : Scope) (L fa : Addr) (ccd : Value) (cN cS : Addr) : Env := envX "law" sc L fa ccd [("name", cN), ("script", cS)]
theorem call_draw {j : Nat} {u : Tok} {Q : Value → Shared → Prop} {env : Env} (lc : LC w A A₀ h₀ env L p loose mean mg mb pe0 ns cS cN f0 f1 f2 f3) (hpe : pe0 ⊆ pe) (S : SL h₀ L m h mu pe) (hj : j < 1000)
    (q : ∀ u h' tk', SL h₀ L m h' mu pe → Q (.int (lnum ns j) u) ⟨h', G, D, tk', O⟩) : wpAny (model PR w) A (call (.ref f0) [.int j u]) Q E ⟨h, G, D, tk, O⟩ := by
  obtain ⟨oS, sl, vs, h1, h2, h3, h4, h5⟩ := lc.cell
  refine wpAny_call ?_
  refine law_draw lc.C S (lc.d0.mono hpe) (List.mem_append_right _ (hpe h1)) h2 h3 h4 h5 hj (by have := lc.hd; omega) fun u h' tk' S' => ?_
  exact q u h' tk' S'
theorem st0 {k : Nat} {u : Tok} (hst : lawLoop[0]? = some st) (hsc : IsScope sc) (lc : LC w A A₀ h₀ (lawEnv sc L fa ccd cN cS) L p loose mean mg mb pe0 ns cS cN f0 f1 f2 f3) (hpe : pe0 ⊆ pe) (S : SL h₀ L m h mu pe) (hm : m "draw" = some (.ref f0)) (hk : m "k" = some (.int k u)) (hk8 : k < 8) :
    wpAny (model PR w) A (exec st (lawEnv sc L fa ccd cN cS)) (fun f s' => f = .next ∧ ∃ h' tk' u1 u2, s' = ⟨h', G, D, tk', O⟩ ∧ SL h₀ L (updM (updM m "drawn" (.int (lnum ns (2 + 2 * k)) u2)) "deed" (.int ((lnum ns (1 + 2 * k)).fmod 9) u1)) h' mu pe) E ⟨h, G, D, tk, O⟩ := by
  replace hst : some (Stmt.Assign _ _ _) = some st := hst
  cases hst
  replace hsc : some (Scope.mk _ _ _ _ _) = some sc := hsc
  cases hsc
  refine' swap2 (h₀ := h₀) (m := m) (G := G) (D := D) (O := O) (n1 := "deed") (n2 := "drawn") lc.hh ?q ?hs ?hw ?hk ?h1 ?h2
  case hs => exact rfl
  case hw => exact rfl
  case hk => rfl
  case h1 => rfl
  case h2 => rfl
  case q =>
    walk_at "ms"
    refine nmL S hm ?_ rfl rfl (by decide)
    refine callF ((lc.d0.mono hpe).at S) ?_ rfl rfl
    walk_at "ms"
    refine nmL S hk ?_ rfl rfl (by decide)
    refine mul_int ?_ (by mul_fits)
    refine add_int ?_
    walk_at "ms"
    refine ⟨(lc.d0.mono hpe).at S, ?_⟩
    have e1 : (1 : Int) + 2 * (k : Int) = ((1 + 2 * k : Nat) : Int) := by omega
    have e2 : (2 : Int) + 2 * (k : Int) = ((2 + 2 * k : Nat) : Int) := by omega
    rw [e1]
    refine call_draw (G := G) (D := D) (O := O) lc hpe S (by omega) fun u1 h₁ tk₁ S₁ => ?_
    walk_at "ms"
    refine mod_int' (b := 9) (by decide) ?_
    walk_at "ms"
    refine nmL S₁ hm ?_ rfl rfl (by decide)
    refine callF ((lc.d0.mono hpe).at S₁) ?_ rfl rfl
    walk_at "ms"
    refine nmL S₁ hk ?_ rfl rfl (by decide)
    refine mul_int ?_ (by mul_fits)
    refine add_int ?_
    walk_at "ms"
    refine ⟨(lc.d0.mono hpe).at S₁, ?_⟩
    rw [e2]
    refine call_draw (G := G) (D := D) (O := O) lc hpe S₁ (by omega) fun u2 h₂ tk₂ S₂ => ?_
    walk_at "ms"
    refine newTupleL (by simp) ?_
    refine ⟨_, _, _, _, _, _, _, _, rfl, rfl, S₂.push _, .head _, fun h₄ tk₄ S₄ => ⟨rfl, h₄, tk₄, _, _, rfl, S₄.drop1⟩⟩
end
section
open PyProof.Rows.LCg PySem.W
variable {w : World} {A A₀ : Around} {h₀ h : Heap} {L fa cS cN f0 f1 f2 f3 : Addr} {p : Program} {loose : List Str} {mean : ExcName → Option Value} {mg mb m : Str → Option Value} {mu mr pe pe0 : Lg}
  {G : Array GenState} {D : Drawn} {tk : Nat} {O : OsState} {E : Value → Shared → Prop} {sc : Scope} {ccd : Value} {ns : List Int} {st : Stmt}
def ncnt (x : Int) : Nat := 1 + ((x.fdiv 3).fmod 2).toNat
def nmsOf (x : Int) : List Nm := [nmOf x, nmOf (x.fdiv 4 + 1)].take (ncnt x)
theorem ncnt_le (x : Int) : 1 ≤ ncnt x ∧ ncnt x ≤ 2 := by
  have := fm (x := x.fdiv 3) (c := 2) (by omega)
  unfold ncnt
  omega
theorem nmsOf_len (x : Int) : (nmsOf x).length = ncnt x := by
  have := ncnt_le x
  unfold nmsOf
  rw [List.length_take]
  show min (ncnt x) 2 = _
  omega
theorem call_name {x : Int} {u : Tok} {Q : Value → Shared → Prop} {env : Env} (lc : LC w A A₀ h₀ env L p loose mean mg mb pe0 ns cS cN f0 f1 f2 f3) (hpe : pe0 ⊆ pe) (S : SL h₀ L m h mu pe)
    (q : ∀ a pe' h' tk', pe ⊆ pe' → IsNm w pe' (nmOf x) a → SL h₀ L m h' mu pe' → Q (.ref a) ⟨h', G, D, tk', O⟩) : wpAny (model PR w) A (call (.ref f1) [.int x u]) Q E ⟨h, G, D, tk, O⟩ := by
  refine wpAny_call ?_
  refine law_name lc.C S (lc.d1.mono hpe) lc.hh (by have := lc.hd; omega) fun a pe' h' tk' h1 h2 S' => ?_
  exact q a pe' h' tk' h1 h2 S'
theorem st1 {x : Int} {u : Tok} (hst : lawLoop[1]? = some st) (hsc : IsScope sc) (lc : LC w A A₀ h₀ (lawEnv sc L fa ccd cN cS) L p loose mean mg mb pe0 ns cS cN f0 f1 f2 f3) (hpe : pe0 ⊆ pe) (S : SL h₀ L m h mu pe) (hm : m "name_of" = some (.ref f1)) (hx : m "drawn" = some (.int x u)) :
    wpAny (model PR w) A (exec st (lawEnv sc L fa ccd cN cS)) (fun f s' => f = .next ∧ ∃ h' tk' dn nn ks pe', s' = ⟨h', G, D, tk', O⟩ ∧ pe ⊆ pe' ∧ ks.map (·.1) = nmsOf x ∧ (∀ y ∈ ks, IsNm w pe' y.1 y.2) ∧ SL h₀ L (updM m "names" (.ref dn)) h' ((dn, PySem.W.listOf (refs ks).toArray nn) :: mu) pe') E ⟨h, G, D, tk, O⟩ := by
  replace hst : some (Stmt.Assign _ _ _) = some st := hst
  cases hst
  replace hsc : some (Scope.mk _ _ _ _ _) = some sc := hsc
  cases hsc
  walk_at "m"
  refine Subscript_ ?_
  walk_at "ms"
  refine nmL S hm ?_ rfl rfl (by decide)
  refine callF ((lc.d1.mono hpe).at S) ?_ rfl rfl
  refine spliced_more ?_
  refine nmL S hx ?_ rfl rfl (by decide)
  refine spliced_none ?_
  refine ⟨(lc.d1.mono hpe).at S, ?_⟩
  refine call_name (G := G) (D := D) (O := O) lc hpe S fun a1 pe1 h₁ tk₁ hs1 hk1 S₁ => ?_
  have hpe1 : pe0 ⊆ pe1 := fun _ z => hs1 (hpe z)
  refine spliced_more ?_
  walk_at "ms"
  refine nmL S₁ hm ?_ rfl rfl (by decide)
  refine callF ((lc.d1.mono hpe1).at S₁) ?_ rfl rfl
  refine spliced_more ?_
  walk_at "ms"
  refine nmL S₁ hx ?_ rfl rfl (by decide)
  walk_at "ms"
  refine floordiv_int (b := 4) (by decide) ?_ (Or.inl (PyProof.noPylong_small (by decide)))
  walk_at "ms"
  refine add_int ?_
  refine spliced_none ?_
  refine ⟨(lc.d1.mono hpe1).at S₁, ?_⟩
  refine call_name (G := G) (D := D) (O := O) lc hpe1 S₁ fun a2 pe2 h₂ tk₂ hs2 hk2 S₂ => ?_
  refine spliced_none ?_
  refine newListL (by simp) ?_
  have S₃ := S₂.push (PySem.W.listOf #[.ref a1, .ref a2] 0)
  refine wpAny_Slice ?_
  refine evalPart_none_step ?_
  refine evalPart_some_step ?_
  walk_at "ms"
  refine nmL S₃ hx ?_ rfl rfl (by decide)
  walk_at "ms"
  refine floordiv_int (b := 3) (by decide) ?_ (Or.inl (PyProof.noPylong_small (by decide)))
  walk_at "ms"
  refine mod_int' (b := 2) (by decide) ?_
  refine add_int ?_
  refine evalPart_none_step ?_
  have hc := ncnt_le x
  have e1 : (1 : Int) + (x.fdiv 3).fmod 2 = (ncnt x : Nat) := by
    have := fm (x := x.fdiv 3) (c := 2) (by omega)
    unfold ncnt
    omega
  rw [e1]
  refine sliceL (its := #[.ref a1, .ref a2]) S₃ ⟨_, S₃.get (.head _), rfl, _, rfl⟩ .none (.int _ _) .none (by decide) (show 2 ≤ 1000 by decide) fun dn h₄ S₄ => ?_
  rw [slicePick_upto'] at S₄
  obtain ⟨ks, eks⟩ : ∃ ks : Ts, ks = [(nmOf x, a1), (nmOf (x.fdiv 4 + 1), a2)].take (ncnt x) := ⟨_, rfl⟩
  have er : ((#[.ref a1, .ref a2] : Array Value).toList.take (ncnt x)) = refs ks := by
    have : ncnt x = 1 ∨ ncnt x = 2 := by omega
    rcases this with e | e <;> rw [eks, e] <;> rfl
  rw [er] at S₄
  refine stL (S₄.sub (mu' := (dn, PySem.W.listOf (refs ks).toArray 0) :: mu) ((List.sublist_cons_self _ mu).cons_cons _ |>.append (.refl _))) (fun h₅ S₅ => ?_) rfl rfl
  refine ⟨rfl, h₅, _, dn, 0, ks, pe2, rfl, fun _ z => hs2 (hs1 z), ?_, ?_, S₅⟩
  · rw [eks, List.map_take]; rfl
  · intro y hy
    rw [eks] at hy
    have := List.mem_of_mem_take hy
    rcases List.mem_cons.mp this with rfl | this
    · exact hk1.mono hs2
    · rw [List.mem_singleton.mp this]; exact hk2
end
section
open PyProof.Rows.LCg PySem.W
variable {w : World} {A A₀ : Around} {h₀ h : Heap} {L fa cS cN f0 f1 f2 f3 : Addr} {p : Program} {loose : List Str} {mean : ExcName → Option Value} {mg mb m : Str → Option Value} {mu mr pe pe0 : Lg}
  {G : Array GenState} {D : Drawn} {tk : Nat} {O : OsState} {E : Value → Shared → Prop} {sc : Scope} {ccd : Value} {ns : List Int} {st : Stmt} {dn nn : Nat} {ks : Ts} {σ : LS} {n : Nat}
structure NmOk (w : World) (pe : Lg) (y : Nm × Addr) : Prop where
  is : IsNm w pe y.1 y.2
  sh : y.1.length = 1 ∨ y.1.length = 2 ∨ y.1.length = 3
  sml : Sml y.1
theorem NmOk.mono {pe' : Lg} {y : Nm × Addr} (x : NmOk w pe y) (h : pe ⊆ pe') : NmOk w pe' y := ⟨x.is.mono h, x.sh, x.sml⟩
theorem nmOf_ok (x : Int) : ((nmOf x).length = 1 ∨ (nmOf x).length = 2 ∨ (nmOf x).length = 3) ∧ Sml (nmOf x) := by
  have := nlen_le x
  have hl := nmOf_len x
  refine ⟨by omega, by omega, fun y hy => ?_⟩
  obtain ⟨i, _, rfl⟩ := List.mem_map.mp (show y ∈ (List.range (nlen x)).map (ndig x) from hy)
  unfold ndig
  generalize ((x.fdiv (5 ^ i)).fmod 3).toNat = j
  rcases j with _ | _ | _ | j
  · decide
  · decide
  · decide
  · simp
theorem nmsOf_ok {x : Int} {k : Nm} (hk : k ∈ nmsOf x) : (k.length = 1 ∨ k.length = 2 ∨ k.length = 3) ∧ Sml k := by
  have := List.mem_of_mem_take hk
  rcases List.mem_cons.mp this with rfl | this
  · exact nmOf_ok _
  · rw [List.mem_singleton.mp this]; exact nmOf_ok _
theorem st2 (hst : lawLoop[2]? = some st) (hsc : IsScope sc) (lc : LC w A A₀ h₀ (lawEnv sc L fa ccd cN cS) L p loose mean mg mb pe0 ns cS cN f0 f1 f2 f3) (S : SL h₀ L m h mu pe) :
    wpAny (model PR w) A (exec st (lawEnv sc L fa ccd cN cS)) (fun f s' => f = .next ∧ ∃ h' tk', s' = ⟨h', G, D, tk', O⟩ ∧ SL h₀ L (updM (updM m "refused" (.bool false)) "due" (.bool false)) h' mu pe) E ⟨h, G, D, tk, O⟩ := by
  replace hst : some (Stmt.Assign _ _ _) = some st := hst
  cases hst
  replace hsc : some (Scope.mk _ _ _ _ _) = some sc := hsc
  cases hsc
  refine' tup2 (h₀ := h₀) (m := m) (G := G) (D := D) (O := O) (n1 := "refused") (n2 := "due") lc.hh ?q ?hs ?hw ?hk ?h1 ?h2
  case hs => exact rfl
  case hw => exact rfl
  case hk => rfl
  case h1 => rfl
  case h2 => rfl
  case q =>
    walk_at "ms"
    refine newTupleL (by simp) ?_
    exact ⟨_, _, _, _, _, _, _, _, rfl, rfl, S.push _, .head _, fun h₄ tk₄ S₄ => ⟨rfl, h₄, tk₄, rfl, S₄.drop1⟩⟩
theorem LS.memP : (σ.dp, eOb w σ.xp σ.np) ∈ σ.led w := List.mem_append_right _ (List.mem_append_right _ (.head _))
theorem st3 {de x : Int} {ud ux : Tok} (hst : lawLoop[3]? = some st) (hsc : IsScope sc) (lc : LC w A A₀ h₀ (lawEnv sc L fa ccd cN cS) L p loose mean mg mb pe0 ns cS cN f0 f1 f2 f3) (S : SL h₀ L m h ((dn, PySem.W.listOf (refs ks).toArray nn) :: (σ.led w ++ mr)) pe)
    (inv : LInv w pe σ n) (hn8 : n ≤ 60) (hm1 : m "deed" = some (.int de ud)) (hm2 : m "plain" = some (.ref σ.dp)) (hm3 : m "drawn" = some (.int x ux)) (hm4 : m "names" = some (.ref dn)) (hks : ∀ y ∈ ks, NmOk w pe y) (hkl : 1 ≤ ks.length ∧ ks.length ≤ 2) :
    wpAny (model PR w) A (exec st (lawEnv sc L fa ccd cN cS)) (fun f s' => f = .next ∧ ∃ h' tk' ks', s' = ⟨h', G, D, tk', O⟩ ∧ ks'.length = ks.length ∧ (∀ y ∈ ks', NmOk w pe y) ∧ SL h₀ L m h' ((dn, PySem.W.listOf (refs ks').toArray nn) :: (σ.led w ++ mr)) pe) E ⟨h, G, D, tk, O⟩ := by
  replace hst : some (Stmt.If _ _ _ _) = some st := hst
  cases hst
  replace hsc : some (Scope.mk _ _ _ _ _) = some sc := hsc
  cases hsc
  have hd := lc.hd
  have hu := lc.hu
  have Cm := lc.C
  have hlen := inv.len
  have hP : (σ.dp, eOb w σ.xp σ.np) ∈ (dn, PySem.W.listOf (refs ks).toArray nn) :: (σ.led w ++ mr) := .tail _ (List.mem_append_left _ LS.memP)
  refine wpAny_If (wpAny_mono (Q := fun c s' => ∃ h' tk', s' = ⟨h', G, D, tk', O⟩ ∧ (c = true → σ.xp ≠ []) ∧ SL h₀ L m h' ((dn, PySem.W.listOf (refs ks).toArray nn) :: (σ.led w ++ mr)) pe) ?_ (fun c s' hc => ?_) (fun _ _ z => z))
  · refine isTrue_and ?_
    walk_at "ms"
    refine nmL S hm1 ?_ rfl rfl (by decide)
    walk_at "ms"
    refine PyProof.Rows.ge_int ?_
    walk_at "m"
    by_cases c1 : (5 : Int) ≤ de
    · rw [decide_eq_true c1, if_pos rfl]
      refine isTrue_and ?_
      walk_at "ms"
      refine nmL S hm2 ?_ rfl rfl (by decide)
      refine newDictL S ?_
      have S₁ := S.push (eOb w [] 0)
      refine ed_neE (by show A.units < 9900; omega) (S₁.get (.tail _ hP)) inv.dps (S₁.get (.head _)) (notSys (S.X lc.C) (Nat.le_refl _)) ?_
      walk_at "m"
      cases hx : σ.xp.isEmpty with
      | true =>
        rw [if_neg (by simp)]
        exact ⟨_, _, rfl, (fun z => nomatch z), S₁.drop1⟩
      | false =>
        rw [if_pos (by simp)]
        refine isTrue_and ?_
        walk_at "ms"
        refine nmL S₁ hm3 ?_ rfl rfl (by decide)
        walk_at "ms"
        refine mod_int' (b := 2) (by decide) ?_
        walk_at "ms"
        refine eq_int ?_
        walk_at "m"
        have hne : σ.xp ≠ [] := fun q => by rw [q] at hx; cases hx
        cases (x.fmod 2 == 0) with
        | true =>
          rw [if_pos rfl]
          refine isTrue_and_nil ?_
          exact ⟨_, _, rfl, (fun _ => hne), S₁.drop1⟩
        | false =>
          rw [if_neg (by simp)]
          exact ⟨_, _, rfl, (fun z => nomatch z), S₁.drop1⟩
    · rw [decide_eq_false c1, if_neg (by simp)]
      exact ⟨_, _, rfl, (fun z => nomatch z), S⟩
  · obtain ⟨h₁, tk₁, rfl, hc, S₁⟩ := hc
    cases c with
    | false =>
      rw [if_neg (by simp)]
      walk_at "ms"
      exact ⟨rfl, h₁, _, ks, rfl, rfl, hks, S₁⟩
    | true =>
      rw [if_pos rfl]
      have hne := hc rfl
      have hxl : 0 < σ.xp.length := List.length_pos_iff.mpr hne
      walk_at "m"
      refine wpAny_Assign_Subscript ?_
      refine Subscript_ ?_
      walk_at "ms"
      refine callB (mach _) ?_ rfl rfl
      refine spliced_more ?_
      refine nmL S₁ hm2 ?_ rfl rfl (by decide)
      refine spliced_none ?_
      refine sorted_dict lc.hh S₁ (List.mem_append_left _ hP) inv.dps inv.xok (fun y hy => inv.sh.ne _ (List.mem_map_of_mem hy)) (by omega) fun ts d2 h₂ n2 tk₂ hperm hup S₂ => ?_
      walk_at "ms"
      refine nmL S₂ hm3 ?_ rfl rfl (by decide)
      walk_at "ms"
      refine floordiv_int (b := 2) (by decide) ?_ (Or.inl (PyProof.noPylong_small (by decide)))
      walk_at "ms"
      refine callB (mach _) ?_ rfl rfl
      refine spliced_more ?_
      refine nmL S₂ hm2 ?_ rfl rfl (by decide)
      refine spliced_none ?_
      refine ed_len (S₂.get (.tail _ hP)) inv.dps (by omega) ?_
      refine mod_int' (by omega) ?_
      have hj := fm (x := x.fdiv 2) (c := (σ.xp.length : Int)) (by omega)
      have htl : ts.length = σ.xp.length := by rw [hperm.length_eq]; simp [dTs]
      have hj2 : ((x.fdiv 2).fmod (σ.xp.length : Nat)).toNat < ts.length := by omega
      refine item_listA (items := (refs ts).toArray) ⟨_, S₂.get (.head _), rfl, _, rfl⟩ hj.1 (by omega) (x := .ref (ts[((x.fdiv 2).fmod (σ.xp.length : Nat)).toNat]).2) (by simp [refs, hj2]) ?_
      have hy : ts[((x.fdiv 2).fmod (σ.xp.length : Nat)).toNat] ∈ dTs σ.xp := hperm.mem_iff.mp (List.getElem_mem hj2)
      refine nmL S₂ hm4 ?_ rfl rfl (by decide)
      walk_at "ms"
      obtain ⟨k1, k2, eks⟩ : ∃ k1 k2, ks = k1 :: k2 := by
        cases ks with
        | nil => simp at hkl
        | cons a b => exact ⟨a, b, rfl⟩
      generalize ts[((x.fdiv 2).fmod (σ.xp.length : Nat)).toNat] = y at hy
      have er : (refs ks).toArray.setIfInBounds 0 (.ref y.2) = (refs (y :: k2)).toArray := by rw [eks]; simp [refs]
      refine setL (j := 0) (v := .ref y.2) S₂ (.tail .head) (by rw [List.size_toArray, refs_length]; omega) (by rw [List.size_toArray, refs_length]; omega) fun h₃ S₃ => ?_
      rw [er] at S₃
      obtain ⟨z, hz, ez⟩ := List.mem_map.mp hy
      have hyo : NmOk w pe y := by
        have hk : z.1 ∈ σ.xp.map (·.1) := List.mem_map_of_mem hz
        rw [← ez]
        exact ⟨inv.xok.is z hz, inv.sh _ hk, inv.sml _ hk⟩
      walk_at "ms"
      refine ⟨rfl, h₃, _, y :: k2, rfl, by rw [eks]; rfl, fun y' hy' => ?_, S₃.drop1⟩
      rcases List.mem_cons.mp hy' with rfl | hy'
      · exact hyo
      · exact hks y' (by rw [eks]; exact .tail _ hy')
end
section
open PyProof.Rows.LCg PySem.W
variable {w : World} {pe : Lg} {xs xp : Ents} {k : Nm} {a b : Addr} {v v' : Value} {N : Nat}
def adv1 (add : Bool) (S : List Nm) (k : Nm) : List Nm := if add then S ++ [k] else S.filter fun x => !decide (x = k)
def adv (add : Bool) : List Nm → List Nm → List Nm × Bool
  | S, [] => (S, false)
  | S, k :: r => if decide (k ∈ S) = add then (S, true) else adv add (adv1 add S k) r
theorem adv_nil {add : Bool} {S : List Nm} : adv add S [] = (S, false) := rfl
theorem adv_cons {add : Bool} {S : List Nm} {k : Nm} {r : List Nm} : adv add S (k :: r) = if decide (k ∈ S) = add then (S, true) else adv add (adv1 add S k) r := rfl
theorem adv_append (add : Bool) : ∀ (S l1 l2 : List Nm), adv add S (l1 ++ l2) = if (adv add S l1).2 then adv add S l1 else adv add (adv add S l1).1 l2
  | S, [], l2 => by simp [adv_nil]
  | S, k :: r, l2 => by
    rw [List.cons_append, adv_cons, adv_cons]
    by_cases h : decide (k ∈ S) = add
    · simp only [if_pos h]; simp
    · simp only [if_neg h]
      exact adv_append add _ r l2
theorem adv_snoc (add : Bool) (S l : List Nm) (k : Nm) : adv add S (l ++ [k]) = if (adv add S l).2 then adv add S l else if decide (k ∈ (adv add S l).1) = add then ((adv add S l).1, true) else (adv1 add (adv add S l).1 k, false) := by
  rw [adv_append, adv_cons, adv_nil]
theorem adv_congr (add : Bool) : ∀ {S S' : List Nm} (l : List Nm), (∀ x, x ∈ S ↔ x ∈ S') → (∀ x, x ∈ (adv add S l).1 ↔ x ∈ (adv add S' l).1) ∧ (adv add S l).2 = (adv add S' l).2
  | S, S', [], h => ⟨h, rfl⟩
  | S, S', k :: r, h => by
    rw [adv_cons, adv_cons]
    have e : decide (k ∈ S) = decide (k ∈ S') := decide_eq_decide.mpr (h k)
    rw [e]
    by_cases c : decide (k ∈ S') = add
    · rw [if_pos c, if_pos c]; exact ⟨h, rfl⟩
    · rw [if_neg c, if_neg c]
      refine adv_congr add r fun x => ?_
      unfold adv1
      cases add <;> simp [h x]
theorem stored_new (h : k ∉ xs.map (·.1)) : (storedH xs k a v).map (·.1) = xs.map (·.1) ++ [k] := by
  rw [storedH_keys, atKey_isSome, if_neg (by simpa using h)]
theorem stored_mem {x : Nm} : x ∈ (storedH xs k a v).map (·.1) ↔ x ∈ xs.map (·.1) ∨ x = k := by
  rw [storedH_keys, atKey_isSome]
  by_cases h : k ∈ xs.map (·.1)
  · rw [if_pos (by simpa using h)]
    exact ⟨.inl, fun z => z.elim id fun e => e ▸ h⟩
  · rw [if_neg (by simpa using h)]
    simp
theorem stored_len : (storedH xs k a v).length ≤ xs.length + 1 := by
  have := congrArg List.length (storedH_keys (xs := xs) (k := k) (a := a) (v := v))
  rw [List.length_map] at this
  rw [this]
  split <;> simp
theorem stored_len_old (h : k ∈ xs.map (·.1)) : (storedH xs k a v).length = xs.length := by
  have := congrArg List.length (storedH_keys (xs := xs) (k := k) (a := a) (v := v))
  rw [List.length_map, atKey_isSome, if_pos (by simpa using h), List.length_map] at this
  exact this
theorem cut_len : (cutH xs k).length ≤ xs.length := List.length_filter_le ..
theorem stored_at_same : ∃ c, atKey (storedH xs k a v) k = some (c, v) := by
  unfold storedH
  split
  · rename_i h
    unfold atKey at h ⊢
    rw [Option.isSome_map, List.find?_isSome] at h
    obtain ⟨y, hy, hyk⟩ := h
    rw [List.find?_map]
    have e : ((fun y : Nm × Addr × Value => decide (y.1 = k)) ∘ putAt k v) = fun y => decide (y.1 = k) := by
      funext y
      simp only [Function.comp, putAt]
      split <;> simp_all
    rw [e]
    cases q : xs.find? (fun y => decide (y.1 = k)) with
    | none =>
      have := List.find?_eq_none.mp q y hy
      simp at hyk
      simp [hyk] at this
    | some z =>
      have hz := List.find?_some q
      refine ⟨z.2.1, ?_⟩
      have hz' : z.1 = k := by simpa using hz
      simp [putAt, hz']
  · rename_i h
    unfold atKey at h ⊢
    have hn : xs.find? (fun y => decide (y.1 = k)) = none := by
      cases q : xs.find? (fun y => decide (y.1 = k)) with
      | none => rfl
      | some z => rw [q] at h; simp at h
    refine ⟨a, ?_⟩
    rw [List.find?_append, hn]
    simp
theorem stored_at_other {l : Nm} (h : l ≠ k) : (atKey (storedH xs k a v) l).map (·.2) = (atKey xs l).map (·.2) := by
  unfold storedH
  split
  · unfold atKey
    rw [List.find?_map]
    have e : ((fun y : Nm × Addr × Value => decide (y.1 = l)) ∘ putAt k v) = fun y => decide (y.1 = l) := by
      funext y
      simp only [Function.comp, putAt]
      split <;> simp_all
    rw [e]
    cases q : xs.find? (fun y => decide (y.1 = l)) with
    | none => rfl
    | some z =>
      have hz := List.find?_some q
      have hz' : z.1 = l := by simpa using hz
      have : ¬ z.1 = k := fun q => h (hz'.symm.trans q)
      simp [putAt, this]
  · unfold atKey
    rw [List.find?_append]
    have : ([(k, a, v)] : Ents).find? (fun y => decide (y.1 = l)) = none := by simp [Ne.symm h]
    rw [this, Option.or_none]
theorem Twin.put {n : Int} {t u : Tok} (x : Twin xs xp) : Twin (storedH xs k a (.int n t)) (storedH xp k b (.int n u)) := by
  refine ⟨fun y => by rw [stored_mem, stored_mem, x.keys y], fun y p q hp hq => ?_⟩
  by_cases e : y = k
  · subst e
    obtain ⟨c, h1⟩ := stored_at_same (xs := xs) (k := y) (a := a) (v := .int n t)
    obtain ⟨c', h2⟩ := stored_at_same (xs := xp) (k := y) (a := b) (v := .int n u)
    rw [h1] at hp
    rw [h2] at hq
    cases hp; cases hq
    exact ⟨n, t, u, rfl, rfl⟩
  · have h1 := stored_at_other (xs := xs) (k := k) (a := a) (v := .int n t) e
    have h2 := stored_at_other (xs := xp) (k := k) (a := b) (v := .int n u) e
    rw [hp] at h1
    rw [hq] at h2
    obtain ⟨p', hp', e1⟩ := Option.map_eq_some_iff.mp h1.symm
    obtain ⟨q', hq', e2⟩ := Option.map_eq_some_iff.mp h2.symm
    obtain ⟨n', t', u', r1, r2⟩ := x.vals y p' q' hp' hq'
    exact ⟨n', t', u', e1.symm.trans r1, e2.symm.trans r2⟩
def VI (xs : Ents) : Prop := ∀ y ∈ xs, ∃ n t, y.2.2 = Value.int n t
theorem VI.put {n : Int} {t : Tok} (x : VI xs) : VI (storedH xs k a (.int n t)) := by
  intro y hy
  unfold storedH at hy
  split at hy
  · obtain ⟨z, hz, rfl⟩ := List.mem_map.mp hy
    unfold putAt
    split
    · exact ⟨n, t, rfl⟩
    · exact x z hz
  · rcases List.mem_append.mp hy with hz | hz
    · exact x y hz
    · rw [List.mem_singleton.mp hz]; exact ⟨n, t, rfl⟩
theorem VI.cut (x : VI xs) : VI (cutH xs k) := fun y hy => x y (List.mem_filter.mp hy).1
theorem VI.at {q : Addr × Value} (x : VI xs) (h : atKey xs k = some q) : ∃ n t, q.2 = .int n t := by
  unfold atKey at h
  obtain ⟨y, hy, rfl⟩ := Option.map_eq_some_iff.mp h
  exact x y (List.mem_of_find?_eq_some hy)
theorem Twin.nil : Twin ([] : Ents) [] := ⟨fun _ => Iff.rfl, fun _ _ _ h => by simp [atKey] at h⟩
end
section
open PyProof.Rows.LCg PySem.W PySem.SeqAt
variable {w : World} {A A₀ : Around} {h₀ h : Heap} {L fa cS cN f0 f1 f2 f3 : Addr} {p : Program} {loose : List Str} {mean : ExcName → Option Value} {mg mb m : Str → Option Value} {mu mr pe pe0 : Lg}
  {G : Array GenState} {D : Drawn} {tk : Nat} {O : OsState} {E : Value → Shared → Prop} {sc : Scope} {ccd : Value} {ns : List Int} {st : Stmt} {dn nn : Nat} {ks : Ts} {σ : LS} {N : Nat} {oN : Obj}
theorem permR {α : Type} (pre T R P mr : List α) : (pre ++ ((T ++ (R ++ P)) ++ mr)).Perm (R ++ (pre ++ (T ++ (P ++ mr)))) := by
  have e : pre ++ ((T ++ (R ++ P)) ++ mr) = (pre ++ T) ++ (R ++ (P ++ mr)) := by simp [List.append_assoc]
  have e2 : R ++ (pre ++ (T ++ (P ++ mr))) = R ++ ((pre ++ T) ++ (P ++ mr)) := by simp [List.append_assoc]
  rw [e, e2]
  exact List.perm_append_comm_assoc _ _ _
theorem permT {α : Type} (pre T X mr : List α) : (pre ++ ((T ++ X) ++ mr)).Perm (T ++ (pre ++ (X ++ mr))) := by
  have e : pre ++ ((T ++ X) ++ mr) = pre ++ (T ++ (X ++ mr)) := by simp [List.append_assoc]
  rw [e]
  exact List.perm_append_comm_assoc _ _ _
theorem Rp.pre {d : Addr} {o o' : Obj} {l l' : Lg} (h : Rp d o o' l l') : ∀ p : Lg, Rp d o o' (p ++ l) (p ++ l')
  | [] => h
  | _ :: p => .tail (Rp.pre h p)
theorem LS.rpP {xp' : Ents} {np' : Nat} (pre mr : Lg) : Rp σ.dp (eOb w σ.xp σ.np) (eOb w xp' np') (pre ++ (σ.led w ++ mr)) (pre ++ (({ σ with xp := xp', np := np' } : LS).led w ++ mr)) :=
  Rp.pre ((Rp.pre (Rp.pre .head _) _ : Rp σ.dp (eOb w σ.xp σ.np) (eOb w xp' np') (σ.led w) (({ σ with xp := xp', np := np' } : LS).led w)).app mr) pre
theorem LS.toR {pre : Lg} (S : SL h₀ L m h (pre ++ (σ.led w ++ mr)) pe) : SL h₀ L m h (σ.r.led w ++ (pre ++ (σ.T.led w ++ ([(σ.dp, eOb w σ.xp σ.np)] ++ mr)))) pe := S.perm (permR ..)
theorem LS.ofR {pre : Lg} {r' : OR} (S : SL h₀ L m h (r'.led w ++ (pre ++ (σ.T.led w ++ ([(σ.dp, eOb w σ.xp σ.np)] ++ mr)))) pe) : SL h₀ L m h (pre ++ (({ σ with r := r' } : LS).led w ++ mr)) pe := S.perm (permR ..).symm
theorem LS.toT {pre : Lg} (S : SL h₀ L m h (pre ++ (σ.led w ++ mr)) pe) : SL h₀ L m h (σ.T.led w ++ (pre ++ ((σ.r.led w ++ [(σ.dp, eOb w σ.xp σ.np)]) ++ mr))) pe := S.perm (permT ..)
theorem LS.ofT {pre : Lg} {T' : TR} (S : SL h₀ L m h (T'.led w ++ (pre ++ ((σ.r.led w ++ [(σ.dp, eOb w σ.xp σ.np)]) ++ mr))) pe) : SL h₀ L m h (pre ++ (({ σ with T := T' } : LS).led w ++ mr)) pe := S.perm (permT ..).symm
theorem LInv.putP {k : Nm} {a : Addr} {v : Value} {np' : Nat} (x : LInv w pe σ N) (hy : NmOk w pe (k, a)) : LInv w pe ({ σ with xp := storedH σ.xp k a v, np := np' } : LS) (N + 1) :=
  ⟨x.tok, x.tcl, x.tnd, x.tna, by have := x.tcs; show σ.T.r.cs.length ≤ N + 1; omega, by have := x.txs; show σ.T.r.xs.length ≤ N + 1; omega, x.rok, x.rcl, by have := x.rcs; show σ.r.cs.length ≤ N + 1; omega, by have := x.rxs; show σ.r.xs.length ≤ N + 1; omega, x.xok.put hy.is,
    fun y hy' => (stored_mem.mp hy').elim (x.sh y) fun e => e ▸ hy.sh, fun y hy' => (stored_mem.mp hy').elim (x.sml y) fun e => e ▸ hy.sml, by have := x.len; have := stored_len (xs := σ.xp) (k := k) (a := a) (v := v); show (storedH σ.xp k a v).length ≤ N + 1; omega, x.dps⟩
theorem LInv.cutP {k : Nm} {np' : Nat} (x : LInv w pe σ N) : LInv w pe ({ σ with xp := cutH σ.xp k, np := np' } : LS) N :=
  ⟨x.tok, x.tcl, x.tnd, x.tna, x.tcs, x.txs, x.rok, x.rcl, x.rcs, x.rxs, x.xok.cut,
    fun y hy' => x.sh y (by rw [cutH_keys] at hy'; exact (List.mem_filter.mp hy').1), fun y hy' => x.sml y (by rw [cutH_keys] at hy'; exact (List.mem_filter.mp hy').1), by have := x.len; have := cut_len (xs := σ.xp) (k := k); show (cutH σ.xp k).length ≤ N; omega, x.dps⟩
theorem PutRel.lens {r r' : OR} {k : Nm} {a : Addr} {v : Value} (x : PutRel r r' k a v) : r'.xs.length ≤ r.xs.length + 1 ∧ r'.cs.length ≤ r.cs.length + 1 := by
  constructor
  · rw [x.xs]; exact stored_len
  · rw [x.cs]; split
    · omega
    · simp
theorem LInv.putR {k : Nm} {a : Addr} {v : Value} {r' : OR} (x : LInv w pe σ N) (pr : PutRel σ.r r' k a v) (ok : r'.Ok w pe) : LInv w pe ({ σ with r := r' } : LS) (N + 1) :=
  ⟨x.tok, x.tcl, x.tnd, x.tna, by have := x.tcs; show σ.T.r.cs.length ≤ N + 1; omega, by have := x.txs; show σ.T.r.xs.length ≤ N + 1; omega, ok, pr.clean x.rcl, by have := x.rcs; have := pr.lens; show r'.cs.length ≤ N + 1; omega, by have := x.rxs; have := pr.lens; show r'.xs.length ≤ N + 1; omega, x.xok,
    x.sh, x.sml, by have := x.len; show σ.xp.length ≤ N + 1; omega, x.dps⟩
theorem LInv.le {N' : Nat} (x : LInv w pe σ N) (h : N ≤ N') : LInv w pe σ N' :=
  ⟨x.tok, x.tcl, x.tnd, x.tna, Nat.le_trans x.tcs h, Nat.le_trans x.txs h, x.rok, x.rcl, Nat.le_trans x.rcs h, Nat.le_trans x.rxs h, x.xok, x.sh, x.sml, Nat.le_trans x.len h, x.dps⟩
theorem st4 {de x : Int} {ud ux : Tok} {v0 : Option Value} (hE : PassesOwn (model PR w) A (lawEnv sc L fa ccd cN cS) E) (hst : lawLoop[4]? = some st) (hsc : IsScope sc) (lc : LC w A A₀ h₀ (lawEnv sc L fa ccd cN cS) L p loose mean mg mb pe0 ns cS cN f0 f1 f2 f3) (S : SL h₀ L m h ((cN, oN) :: (dn, PySem.W.listOf (refs ks).toArray nn) :: (σ.led w ++ mr)) pe) (hoN : oN.data = .cell v0)
    (inv : LInv w pe σ N) (hN : N ≤ 50) (tw : Twin σ.r.xs σ.xp) (vi : VI σ.xp) (hm1 : m "deed" = some (.int de ud)) (hm3 : m "drawn" = some (.int x ux)) (hm4 : m "names" = some (.ref dn)) (hm5 : m "due" = some (.bool false)) (ln : LN m σ f0 f1 f2 f3) (hks : ∀ y ∈ ks, NmOk w pe y) (hkl : 1 ≤ ks.length ∧ ks.length ≤ 2) :
    wpAny (model PR w) A (exec st (lawEnv sc L fa ccd cN cS)) (fun f s' => f = .next ∧ ∃ h' tk' σ' oN' m' v0', s' = ⟨h', G, D, tk', O⟩ ∧ oN'.data = .cell v0' ∧ LInv w pe σ' (N + 4) ∧ σ'.T = σ.T ∧ σ'.r.t = σ.r.t ∧ (5 ≤ de ∨ Twin σ'.r.xs σ'.xp) ∧ VI σ'.xp ∧
      σ'.xp.map (·.1) = (adv (decide (de < 5)) (σ.xp.map (·.1)) (ks.map (·.1))).1 ∧ m' "due" = some (.bool (adv (decide (de < 5)) (σ.xp.map (·.1)) (ks.map (·.1))).2) ∧ (∀ y : Str, y ≠ "due" → m' y = m y) ∧ LN m' σ' f0 f1 f2 f3 ∧
      SL h₀ L m' h' ((cN, oN') :: (dn, PySem.W.listOf (refs ks).toArray nn) :: (σ'.led w ++ mr)) pe) E ⟨h, G, D, tk, O⟩ := by
  replace hst : some (Stmt.For _ _ _ _ _) = some st := hst
  cases hst
  replace hsc : some (Scope.mk _ _ _ _ _) = some sc := hsc
  cases hsc
  have hd := lc.hd
  have hu := lc.hu
  have Cm := lc.C
  obtain ⟨add, eadd⟩ : ∃ add, add = decide (de < 5) := ⟨_, rfl⟩
  rw [← eadd]
  refine' for_loop (h₀ := h₀) (G := G) (D := D) (O := O) ?_ (fun _ => rfl) hE
  refine nmL S hm4 ?_ rfl rfl (by decide)
  have hdnm : (dn, PySem.W.listOf (refs ks).toArray nn) ∈ (cN, oN) :: (dn, PySem.W.listOf (refs ks).toArray nn) :: (σ.led w ++ mr) := .tail _ (.head _)
  refine it_list (l := [(dn, PySem.W.listOf (refs ks).toArray nn)]) lc.hh S (List.mem_append_left _ hdnm) (.head _) fun I h₁ oI St src hst0 S₁ => ?_
  refine ⟨I, _, _, St, h₁, _, _, pe, _, oI, m, fun i m' mu' pe' => pe' = pe ∧ ∃ σ' oN' v0', mu' = (cN, oN') :: (dn, PySem.W.listOf (refs ks).toArray nn) :: (σ'.led w ++ mr) ∧ oN'.data = .cell v0' ∧ LInv w pe σ' (N + 2 * i) ∧ σ'.T = σ.T ∧ σ'.r.t = σ.r.t ∧ (5 ≤ de ∨ Twin σ'.r.xs σ'.xp) ∧ VI σ'.xp ∧
      σ'.xp.map (·.1) = (adv add (σ.xp.map (·.1)) ((ks.map (·.1)).take i)).1 ∧ m' "due" = some (.bool (adv add (σ.xp.map (·.1)) ((ks.map (·.1)).take i)).2) ∧ (∀ y : Str, y ≠ "due" → m' y = m y) ∧ LN m' σ' f0 f1 f2 f3, rfl, rfl, src, hst0, S₁, ?_, ?_, ?_, ?_⟩
  · exact ⟨rfl, σ, oN, v0, rfl, hoN, inv, rfl, rfl, .inr tw, vi, rfl, hm5, fun _ _ => rfl, ln⟩
  · rintro i m' mu' pe' ⟨rfl, σ', oN', v0', rfl, _⟩ q hq
    rw [List.mem_singleton.mp hq]
    exact List.mem_append_left _ (.tail _ (.head _))
  · rintro i v m' mu' pe' h tk oI' hi hP ⟨rfl, σ', oN', v0', rfl, hoN', inv', eT, er, tw', vi', hkeys, hdue, hsame, ln'⟩ S₂
    obtain ⟨hi', e'⟩ := refs_get hP
    subst e'
    have hi2 : i < 2 := by omega
    have hk1 := hks _ (List.getElem_mem hi')
    have hlen := inv'.len
    have hcs := inv'.rcs
    have hxs := inv'.rxs
    have htk : (ks.map (·.1)).take (i + 1) = (ks.map (·.1)).take i ++ [(ks[i]).1] := by
      rw [List.take_succ_eq_append_getElem (by rw [List.length_map]; exact hi'), List.getElem_map]
    refine wpAny_assign_Name (stC (S₂.perm (List.Perm.swap ..)) rfl hoN' (fun h₃ oN3 hoN3 S₃' => ?_) rfl rfl)
    have S₃ := S₃'.perm (List.Perm.swap _ _ _)
    clear S₃' S₂
    have hcm : ∀ {σ'' : LS}, (cN, oN3) ∈ ((I, oI') :: (cN, oN3) :: (dn, PySem.W.listOf (refs ks).toArray nn) :: (σ''.led w ++ mr)) ++ pe' := fun {_} => .tail _ (.head _)
    have hPm : (σ'.dp, eOb w σ'.xp σ'.np) ∈ (I, oI') :: (cN, oN3) :: (dn, PySem.W.listOf (refs ks).toArray nn) :: (σ'.led w ++ mr) := .tail _ (.tail _ (.tail _ (List.mem_append_left _ LS.memP)))
    have hde : m' "deed" = some (.int de ud) := (hsame _ (by decide)).trans hm1
    have hdr : m' "drawn" = some (.int x ux) := (hsame _ (by decide)).trans hm3
    refine mid (P := fun s' => ∃ h' tk', s' = ⟨h', G, D, tk', O⟩ ∧ SL h₀ L (updM m' "due" (.bool ((adv add (σ.xp.map (·.1)) ((ks.map (·.1)).take i)).2 || (decide ((ks[i]).1 ∈ σ'.xp.map (·.1)) == add)))) h' ((I, oI') :: (cN, oN3) :: (dn, PySem.W.listOf (refs ks).toArray nn) :: (σ'.led w ++ mr)) pe') ?_ ?_
    · walk_at "m"
      refine BoolOp_or ?_
      refine nmL S₃ hdue ?_ rfl rfl (by decide)
      walk_at "m"
      cases hb : (adv add (σ.xp.map (·.1)) ((ks.map (·.1)).take i)).2 with
      | true =>
        rw [if_pos rfl]
        refine stL S₃ (fun h₄ S₄ => ?_) rfl rfl
        exact ⟨rfl, h₄, _, rfl, S₄⟩
      | false =>
        rw [if_neg (by simp)]
        refine BoolOp_one ?_
        walk_at "ms"
        refine nmC S₃ (hcm (σ'' := σ')) hoN3 ?_ rfl rfl rfl (by decide)
        refine nmL S₃ ln'.plain ?_ rfl rfl (by decide)
        refine ed_in (by show A.units + 1 < 9900; omega) (S₃.get hPm) inv'.xok S₃.pes inv'.dps hk1.is fun tk₄ => ?_
        walk_at "ms"
        refine nmL S₃ hde ?_ rfl rfl (by decide)
        walk_at "ms"
        refine wpAny_lt_int ?_
        rw [← eadd]
        refine RcAt.bool_bool _ _ PR w _ _ ?_
        refine stL S₃ (fun h₄ S₄ => ?_) rfl rfl
        exact ⟨rfl, h₄, _, rfl, S₄⟩
    · rintro _ ⟨h₄, tk₄, rfl, S₄⟩
      have hsnoc := adv_snoc add (σ.xp.map (·.1)) ((ks.map (·.1)).take i) (ks[i]).1
      rw [← htk] at hsnoc
      obtain ⟨m5, em5, S₅⟩ : ∃ m5, m5 = updM m' "due" (.bool ((adv add (σ.xp.map (·.1)) ((ks.map (·.1)).take i)).2 || (decide ((ks[i]).1 ∈ σ'.xp.map (·.1)) == add))) ∧ SL h₀ L m5 h₄ ((I, oI') :: (cN, oN3) :: (dn, PySem.W.listOf (refs ks).toArray nn) :: (σ'.led w ++ mr)) pe' := ⟨_, rfl, S₄⟩
      clear S₄
      have h5due : m5 "due" = some (.bool ((adv add (σ.xp.map (·.1)) ((ks.map (·.1)).take i)).2 || (decide ((ks[i]).1 ∈ σ'.xp.map (·.1)) == add))) := by rw [em5]; rfl
      have h5same : ∀ y : Str, y ≠ "due" → m5 y = m y := fun y hy => by
        rw [em5]
        show (if y = "due" then _ else _) = _
        rw [if_neg hy]; exact hsame y hy
      have ln5 : LN m5 σ' f0 f1 f2 f3 := by rw [em5]; exact ln'.upd rfl
      have hde : m5 "deed" = some (.int de ud) := (h5same _ (by decide)).trans hm1
      have hdr : m5 "drawn" = some (.int x ux) := (h5same _ (by decide)).trans hm3
      clear em5
      rw [← hkeys] at hsnoc
      refine wpAny_execs_cons ?_
      refine wpAny_If ?_
      refine isTrue_and ?_
      refine isTrue_not ?_
      walk_at "ms"
      refine nmL S₅ h5due ?_ rfl rfl (by decide)
      walk_at "m"
      cases hb : ((adv add (σ.xp.map (·.1)) ((ks.map (·.1)).take i)).2 || (decide ((ks[i]).1 ∈ σ'.xp.map (·.1)) == add)) with
      | true =>
        rw [hb] at h5due
        rw [if_neg (by simp)]
        rw [if_neg (by simp)]
        refine wpAny_execs_cons ?_
        refine wpAny_If ?_
        refine isTrue_not ?_
        walk_at "ms"
        refine nmL S₅ h5due ?_ rfl rfl (by decide)
        walk_at "m"
        rw [if_neg (by simp)]
        walk_at "ms"
        have hst : (adv add (σ.xp.map (·.1)) ((ks.map (·.1)).take (i + 1))) = (σ'.xp.map (·.1), true) := by
          rw [hsnoc]
          cases hd : (adv add (σ.xp.map (·.1)) ((ks.map (·.1)).take i)).2 with
          | true =>
            rw [if_pos rfl]
            exact Prod.ext hkeys.symm hd
          | false =>
            rw [hd, Bool.false_or, beq_iff_eq] at hb
            rw [if_neg (by simp), if_pos hb]
        refine ⟨h₄, _, m5, _, pe', rfl, ⟨rfl, σ', oN3, _, rfl, hoN3, inv'.le (by omega), eT, er, tw', vi', by rw [hst], by rw [hst]; exact h5due, h5same, ln5⟩, S₅⟩
      | false =>
        rw [hb] at h5due
        rw [Bool.or_eq_false_iff] at hb
        rw [if_pos (by simp)]
        refine isTrue_and ?_
        walk_at "ms"
        refine nmL S₅ hde ?_ rfl rfl (by decide)
        walk_at "ms"
        refine wpAny_lt_int ?_
        walk_at "m"
        have hno : ¬ decide ((ks[i]).1 ∈ σ'.xp.map (·.1)) = add := by
          have := hb.2
          rw [beq_eq_false_iff_ne] at this
          exact this
        have hst : (adv add (σ.xp.map (·.1)) ((ks.map (·.1)).take (i + 1))) = (adv1 add (σ'.xp.map (·.1)) (ks[i]).1, false) := by
          rw [hsnoc, hb.1, if_neg (by simp), if_neg hno]
        rw [← eadd]
        cases hadd : add with
        | true =>
          rw [if_pos rfl]
          refine isTrue_and_nil ?_
          rw [if_pos rfl]
          subst hadd
          have h5 : de < 5 := of_decide_eq_true eadd.symm
          have htw : Twin σ'.r.xs σ'.xp := tw'.resolve_left (by omega)
          have hnk : (ks[i]).1 ∉ σ'.xp.map (·.1) := fun z => hno (decide_eq_true z)
          refine wpAny_execs_cons ?_
          refine wpAny_Assign_Subscript ?_
          walk_at "ms"
          refine nmL S₅ hdr ?_ rfl rfl (by decide)
          walk_at "ms"
          refine mod_int' (b := 1000) (by decide) ?_
          refine nmL S₅ ln5.plain ?_ rfl rfl (by decide)
          refine nmC S₅ (hcm (σ'' := σ')) hoN3 ?_ rfl rfl rfl (by decide)
          refine storeL (n := σ'.np) (by show A.units + 1 < 9900; omega) S₅ hPm (fun n' => LS.rpP (σ := σ') (np' := n') [(I, oI'), (cN, oN3), (dn, PySem.W.listOf (refs ks).toArray nn)] mr) inv'.xok hk1.is (by omega) fun tk₆ np6 h₆ S₆ => ?_
          have inv6 := fun u => inv'.putP (v := .int (x.fmod 1000) u) (np' := np6) hk1
          have hP6 := hPm
          refine wpAny_execs_cons ?_
          obtain ⟨u6, σ6, eσ6, S₆'⟩ : ∃ u6 σ6, σ6 = ({ σ' with xp := storedH σ'.xp (ks[i]).1 (ks[i]).2 (.int (x.fmod 1000) u6), np := np6 } : LS) ∧ SL h₀ L m5 h₆ ([(I, oI'), (cN, oN3), (dn, PySem.W.listOf (refs ks).toArray nn)] ++ (σ6.led w ++ mr)) pe' := ⟨_, _, rfl, S₆⟩
          clear S₆
          have inv6' : LInv w pe' σ6 (N + 2 * i + 1) := by rw [eσ6]; exact inv6 u6
          have e6r : σ6.r = σ'.r := by rw [eσ6]
          have e6T : σ6.T = σ'.T := by rw [eσ6]
          have e6d : σ6.dp = σ'.dp := by rw [eσ6]
          have ln6 : LN m5 σ6 f0 f1 f2 f3 := by rw [eσ6]; exact ⟨ln5.draw, ln5.name_of, ln5.told, ln5.node, ln5.tree, ln5.table, ln5.plain⟩
          refine wpAny_Assign_Subscript ?_
          walk_at "ms"
          refine nmL S₆' hdr ?_ rfl rfl (by decide)
          walk_at "ms"
          refine mod_int' (b := 1000) (by decide) ?_
          refine nmL S₆' ln6.table ?_ rfl rfl (by decide)
          refine nmC S₆' (hcm (σ'' := σ6)) hoN3 ?_ rfl rfl rfl (by decide)
          have S₇ := LS.toR S₆'
          refine od_setItem (OR.odAt S₇ (S₇.X Cm) inv6'.rok.x inv6'.rok.st) (wpAny_call ?_)
          refine oid_setitem Cm S₇ inv6'.rok hk1.is (by rw [e6r]; omega) (by rw [e6r]; omega) (by omega) (by omega) fun r8 h₈ tk₈ pr ok8 S₈ => ?_
          walk_at "ms"
          have S₉ := LS.ofR (σ := σ6) S₈
          have inv9 := inv6'.putR pr ok8
          refine ⟨h₈, _, m5, _, pe', rfl, ⟨rfl, { σ6 with r := r8 }, oN3, _, rfl, hoN3, inv9, by show σ6.T = _; rw [e6T, eT], by show r8.t = _; rw [pr.t, e6r, er], .inr ?_, ?_, ?_, by rw [hst]; exact h5due, h5same, ⟨ln6.draw, ln6.name_of, ln6.told, ln6.node, ln6.tree, by show _ = some (Value.ref r8.t); rw [pr.t]; exact ln6.table, ln6.plain⟩⟩, S₉⟩
          · show Twin r8.xs σ6.xp
            rw [pr.xs, e6r, eσ6]
            exact htw.put
          · show VI σ6.xp
            rw [eσ6]
            exact vi'.put
          · show σ6.xp.map (·.1) = _
            rw [hst, eσ6]
            show (storedH _ _ _ _).map (·.1) = adv1 true _ _
            rw [stored_new hnk]
            rfl
        | false =>
          rw [if_neg (by simp), if_neg (by simp)]
          subst hadd
          have h5 : 5 ≤ de := by
            have := of_decide_eq_false eadd.symm
            omega
          have hin : (ks[i]).1 ∈ σ'.xp.map (·.1) := by
            cases q : decide ((ks[i]).1 ∈ σ'.xp.map (·.1)) with
            | true => exact of_decide_eq_true q
            | false => exact absurd q hno
          obtain ⟨pr, hpr⟩ := atKey_some hin
          refine wpAny_execs_cons ?_
          refine wpAny_If ?_
          refine isTrue_not ?_
          walk_at "ms"
          refine nmL S₅ h5due ?_ rfl rfl (by decide)
          walk_at "m"
          rw [if_pos (by simp)]
          walk_at "m"
          walk_at "m"
          refine MethodCall_ ?_
          refine nmL S₅ ln5.plain ?_ rfl rfl (by decide)
          refine dict_meth (S₅.get hPm) PySem.F.slot_dict_pop PySem.F.type_dict_pop ?_
          refine callB (mach _) ?_ rfl rfl
          refine spliced_more ?_
          refine nmC S₅ (hcm (σ'' := σ')) hoN3 ?_ rfl rfl rfl (by decide)
          refine spliced_none ?_
          refine popL (n := σ'.np) (by show A.units + 1 < 9900; omega) S₅ hPm (fun n' => LS.rpP (σ := σ') (np' := n') [(I, oI'), (cN, oN3), (dn, PySem.W.listOf (refs ks).toArray nn)] mr) inv'.dps inv'.xok hk1.is (by omega) hpr fun tk₆ np6 h₆ S₆ => ?_
          walk_at "ms"
          refine ⟨h₆, _, m5, _, pe', rfl, ⟨rfl, { σ' with xp := cutH σ'.xp (ks[i]).1, np := np6 }, oN3, _, rfl, hoN3, (inv'.cutP).le (by omega), eT, er, .inl h5, vi'.cut, ?_, by rw [hst]; exact h5due, h5same, ⟨ln5.draw, ln5.name_of, ln5.told, ln5.node, ln5.tree, ln5.table, ln5.plain⟩⟩, S₆⟩
          rw [hst]
          show (cutH _ _).map (·.1) = adv1 false _ _
          rw [cutH_keys]
          rfl
  · rintro m' mu' pe' h tk ⟨rfl, σ', oN', v0', rfl, hoN', inv', eT, er, tw', vi', hkeys, hdue, hsame, ln'⟩ S₂
    have ez : (refs ks).toArray.size = ks.length := by rw [List.size_toArray, refs_length]
    have et : (ks.map (·.1)).take (refs ks).toArray.size = ks.map (·.1) := by rw [ez, ← List.length_map (f := fun x : Nm × Addr => x.1), List.take_length]
    rw [et] at hkeys hdue
    exact ⟨rfl, h, tk, σ', oN', m', v0', rfl, hoN', inv'.le (by rw [ez]; omega), eT, er, tw', vi', hkeys, hdue, hsame, ln', S₂⟩
end
section
open PyProof.Rows.LCg PySem.W PySem.SeqAt
variable {w : World} {A A₀ : Around} {h₀ h : Heap} {L fa cS cN f0 f1 f2 f3 : Addr} {p : Program} {loose : List Str} {mean : ExcName → Option Value} {mg mb m : Str → Option Value} {mu mr pe pe0 : Lg}
  {G : Array GenState} {D : Drawn} {tk : Nat} {O : OsState} {E : Value → Shared → Prop} {sc : Scope} {ccd : Value} {ns : List Int} {st : Stmt} {dn nn : Nat} {ks : Ts} {σ : LS} {N : Nat} {oN : Obj}
theorem sml1 : Sml [1] := ⟨by decide, fun x hx => by rw [List.mem_singleton.mp hx]; decide⟩
theorem Puts.adv {r r' : OR} {l : Ts} (x : Puts r l r') : adv true (r.xs.map (·.1)) (l.map (·.1)) = (r'.xs.map (·.1), false) := by
  induction x with
  | nil => rfl
  | @snoc l r1 r2 k x a _ hk pr ih =>
    rw [List.map_append, List.map_singleton, adv_snoc, ih, if_neg (by simp), if_neg (by simpa using hk), pr.xs, stored_new hk]
    rfl
theorem Dels.adv {r r' : OR} {l : Ts} (x : Dels r l r') : adv false (r.xs.map (·.1)) (l.map (·.1)) = (r'.xs.map (·.1), false) := by
  induction x with
  | nil => rfl
  | @snoc l r1 r2 k a _ hk pr ih =>
    rw [List.map_append, List.map_singleton, adv_snoc, ih, if_neg (by simp), if_neg (by simpa using hk), pr.xs, cutH_keys]
    rfl
theorem adv_stop {add : Bool} {S S' : List Nm} {l : Ts} {i : Nat} {k : Nm} {x : Addr} (h : adv add S ((l.take i).map (·.1)) = (S', false)) (hi : l[i]? = some (k, x)) (hk : decide (k ∈ S') = add) : adv add S (l.map (·.1)) = (S', true) := by
  have e : l = l.take i ++ (k, x) :: l.drop (i + 1) := by
    obtain ⟨hlt, he⟩ := List.getElem?_eq_some_iff.mp hi
    rw [← he, ← List.drop_eq_getElem_cons hlt, List.take_append_drop]
  rw [e, List.map_append, adv_append, h, if_neg (by simp), List.map_cons, adv_cons, if_pos hk]
theorem Puts.nodes {r r' : OR} {l : Ts} (x : Puts r l r') (hl : ∀ y ∈ l, IsNode w pe y.1 y.2) (hn : NodesOk w pe r.xs) : NodesOk w pe r'.xs := by
  induction x with
  | nil => exact hn
  | @snoc l r1 r2 k x a _ hk pr ih =>
    intro y hy
    have ih' := ih fun y hy => hl y (List.mem_append_left _ hy)
    rw [pr.xs] at hy
    unfold storedH at hy
    rw [if_neg (by rw [atKey_isSome]; simpa using hk)] at hy
    rcases List.mem_append.mp hy with z | z
    · exact ih' y z
    · rw [List.mem_singleton.mp z]
      exact ⟨x, rfl, hl (k, x) (by simp)⟩
theorem Dels.nodes {r r' : OR} {l : Ts} (x : Dels r l r') (hn : NodesOk w pe r.xs) : NodesOk w pe r'.xs := by
  induction x with
  | nil => exact hn
  | @snoc l r1 r2 k a _ hk pr ih =>
    intro y hy
    rw [pr.xs] at hy
    exact ih y (List.mem_filter.mp hy).1
structure TreeRes (w : World) (pe pe' : Lg) (add b : Bool) (T T' : TR) (ks : List Nm) : Prop where
  sub : pe ⊆ pe'
  t : T'.t = T.t
  na : T'.na = T.na
  cnt : T'.cnt = T.cnt + 1
  ok : T'.r.Ok w pe'
  cl : Clean T'.r
  nd : NodesOk w pe' T'.r.xs
  xs : T'.r.xs.length ≤ T.r.xs.length + 2
  cs : T'.r.cs.length ≤ T.r.cs.length + 2
  adv : adv add (T.r.xs.map (·.1)) ks = (T'.r.xs.map (·.1), b)
theorem treg_ok {T T' : TR} {l : Ts} {pe1 pe' : Lg} (cl : Clean T.r) (nd : NodesOk w pe T.r.xs) (h1 : pe ⊆ pe1) (hl : ∀ y ∈ l, IsNode w pe1 y.1 y.2) (hz : l.length ≤ 2) (h2 : pe1 ⊆ pe') (t : T'.t = T.t) (na : T'.na = T.na) (cnt : T'.cnt = T.cnt + 1) (pu : Puts T.r l T'.r) (ok : T'.r.Ok w pe') :
    TreeRes w pe pe' true false T T' (l.map (·.1)) :=
  ⟨fun _ z => h2 (h1 z), t, na, cnt, ok, pu.clean cl, pu.nodes (fun y hy => (hl y hy).mono h2) (nd.mono fun _ z => h2 (h1 z)), by have := pu.len; omega, by have := pu.len; omega, pu.adv⟩
theorem treg_err {T T' : TR} {l : Ts} {pe1 pe' : Lg} {i : Nat} {k : Nm} {x : Addr} (cl : Clean T.r) (nd : NodesOk w pe T.r.xs) (h1 : pe ⊆ pe1) (hl : ∀ y ∈ l, IsNode w pe1 y.1 y.2) (hz : l.length ≤ 2) (h2 : pe1 ⊆ pe') (t : T'.t = T.t) (na : T'.na = T.na) (cnt : T'.cnt = T.cnt + 1)
    (hi : l[i]? = some (k, x)) (pu : Puts T.r (l.take i) T'.r) (hk : k ∈ T'.r.xs.map (·.1)) (ok : T'.r.Ok w pe') : TreeRes w pe pe' true true T T' (l.map (·.1)) := by
  have hl2 : (l.take i).length ≤ l.length := by rw [List.length_take]; omega
  exact ⟨fun _ z => h2 (h1 z), t, na, cnt, ok, pu.clean cl, pu.nodes (fun y hy => (hl y (List.mem_of_mem_take hy)).mono h2) (nd.mono fun _ z => h2 (h1 z)), by have := pu.len; omega, by have := pu.len; omega, adv_stop pu.adv hi (decide_eq_true hk)⟩
theorem tdel_ok {T T' : TR} {l : Ts} {pe' : Lg} (cl : Clean T.r) (nd : NodesOk w pe T.r.xs) (h2 : pe ⊆ pe') (t : T'.t = T.t) (na : T'.na = T.na) (cnt : T'.cnt = T.cnt + 1) (pu : Dels T.r l T'.r) (ok : T'.r.Ok w pe') :
    TreeRes w pe pe' false false T T' (l.map (·.1)) :=
  ⟨h2, t, na, cnt, ok, pu.clean cl, pu.nodes (nd.mono h2), by have := pu.len; omega, by have := pu.len; omega, pu.adv⟩
theorem tdel_err {T T' : TR} {l : Ts} {pe' : Lg} {i : Nat} {k : Nm} {x : Addr} (cl : Clean T.r) (nd : NodesOk w pe T.r.xs) (h2 : pe ⊆ pe') (t : T'.t = T.t) (na : T'.na = T.na) (cnt : T'.cnt = T.cnt + 1)
    (hi : l[i]? = some (k, x)) (pu : Dels T.r (l.take i) T'.r) (hk : k ∉ T'.r.xs.map (·.1)) (ok : T'.r.Ok w pe') : TreeRes w pe pe' false true T T' (l.map (·.1)) :=
  ⟨h2, t, na, cnt, ok, pu.clean cl, pu.nodes (nd.mono h2), by have := pu.len; omega, by have := pu.len; omega, adv_stop pu.adv hi (decide_eq_false hk)⟩
theorem kx_183 (w : World) : ∃ nm q N bs hdct sn sub ab col dd k0 k1 k2 k3 k5, (hd.heap_39 w.params).lookup 183 = some (excClassObj nm q 183 N bs [.ref 157, .ref 170, .type "Exception", .type "BaseException", .type "object"] hdct sn sub ab col dd k0 k1 k2 k3 k5 "Exception.__new__") := by
  refine' mk_exc ?h
  case h => k_is
theorem kx_b183 (w : World) : ktsIn (hd.heap_39 w.params) 183 "BaseException" = true := by
  obtain ⟨nm, q, N, bs, hdct, sn, sub, ab, col, dd, k0, k1, k2, k3, k5, hC⟩ := kx_183 w
  unfold ktsIn
  rw [hC]
  rfl
theorem LInv.res {T' : TR} {pe' : Lg} {add b : Bool} {l : List Nm} (x : LInv w pe σ N) (t : TreeRes w pe pe' add b σ.T T' l) : LInv w pe' ({ σ with T := T' } : LS) (N + 2) :=
  have y := x.mono t.sub
  ⟨t.ok, t.cl, t.nd, by show IsNm w pe' [1] T'.na; rw [t.na]; exact y.tna, by have := x.tcs; have := t.cs; show T'.r.cs.length ≤ N + 2; omega, by have := x.txs; have := t.xs; show T'.r.xs.length ≤ N + 2; omega, y.rok, y.rcl, by have := x.rcs; show σ.r.cs.length ≤ N + 2; omega, by have := x.rxs; show σ.r.xs.length ≤ N + 2; omega,
    y.xok, y.sh, y.sml, by have := x.len; show σ.xp.length ≤ N + 2; omega, y.dps⟩
theorem st5 {de : Int} {ud : Tok} (hE : ∀ e, PassesOwnAt (model PR w) ((A₀.deeper (lawEnv sc L fa ccd cN cS)).mark (some (.ref e))) (A₀.deeper (lawEnv sc L fa ccd cN cS)) (lawEnv sc L fa ccd cN cS) E) (hst : lawLoop[5]? = some st) (hsc : IsScope sc)
    (lc : LC w (A₀.deeper (lawEnv sc L fa ccd cN cS)) A₀ h₀ (lawEnv sc L fa ccd cN cS) L p loose mean mg mb pe0 ns cS cN f0 f1 f2 f3) (S : SL h₀ L m h ((cN, oN) :: (dn, PySem.W.listOf (refs ks).toArray nn) :: (σ.led w ++ mr)) pe)
    (inv : LInv w pe σ N) (hN : N ≤ 60) (hm1 : m "deed" = some (.int de ud)) (hm4 : m "names" = some (.ref dn)) (hm5 : m "refused" = some (.bool false)) (ln : LN m σ f0 f1 f2 f3) (hks : ∀ y ∈ ks, NmOk w pe y) (hkl : 1 ≤ ks.length ∧ ks.length ≤ 2) :
    wpAny (model PR w) (A₀.deeper (lawEnv sc L fa ccd cN cS)) (exec st (lawEnv sc L fa ccd cN cS)) (fun f s' => f = .next ∧ ∃ h' tk' T' b m' pe', s' = ⟨h', G, D, tk', O⟩ ∧ TreeRes w pe pe' (decide (de < 5)) b σ.T T' (ks.map (·.1)) ∧ m' "refused" = some (.bool b) ∧ (∀ y : Str, y ≠ "refused" → m' y = m y) ∧
      SL h₀ L m' h' ((cN, oN) :: (dn, PySem.W.listOf (refs ks).toArray nn) :: (({ σ with T := T' } : LS).led w ++ mr)) pe') E ⟨h, G, D, tk, O⟩ := by
  replace hst : some (Stmt.Try _ _ _ _ _) = some st := hst
  cases hst
  have hd := lc.hd
  have hu := lc.hu
  have hdnm : (dn, PySem.W.listOf (refs ks).toArray nn) ∈ (cN, oN) :: (dn, PySem.W.listOf (refs ks).toArray nn) :: (σ.led w ++ mr) := .tail _ (.head _)
  have htx := inv.txs
  have htc := inv.tcs
  refine wpAny_Try_except ?_
  have good : ∀ (T' : TR) (b : Bool) (pe' : Lg) (h' : Heap) (tk' : Nat), TreeRes w pe pe' (decide (de < 5)) b σ.T T' (ks.map (·.1)) → b = false → SL h₀ L m h' (T'.led w ++ ((cN, oN) :: (dn, PySem.W.listOf (refs ks).toArray nn) :: ((σ.r.led w ++ [(σ.dp, eOb w σ.xp σ.np)]) ++ mr))) pe' →
      ∃ h'' tk'' T' b m' pe', (⟨h', G, D, tk', O⟩ : Shared) = ⟨h'', G, D, tk'', O⟩ ∧ TreeRes w pe pe' (decide (de < 5)) b σ.T T' (ks.map (·.1)) ∧ m' "refused" = some (.bool b) ∧ (∀ y : Str, y ≠ "refused" → m' y = m y) ∧
      SL h₀ L m' h'' ((cN, oN) :: (dn, PySem.W.listOf (refs ks).toArray nn) :: (({ σ with T := T' } : LS).led w ++ mr)) pe' := by
    rintro T' b pe' h' tk' r rfl S'
    exact ⟨h', tk', T', false, m, pe', rfl, r, hm5, fun _ _ => rfl, LS.ofT (pre := [(cN, oN), (dn, PySem.W.listOf (refs ks).toArray nn)]) S'⟩
  refine wpAny_mono (Q := fun f s₁ => f = .next ∧ ∃ T' pe' h' tk', s₁ = ⟨h', G, D, tk', O⟩ ∧ TreeRes w pe pe' (decide (de < 5)) false σ.T T' (ks.map (·.1)) ∧ SL h₀ L m h' (T'.led w ++ ((cN, oN) :: (dn, PySem.W.listOf (refs ks).toArray nn) :: ((σ.r.led w ++ [(σ.dp, eOb w σ.xp σ.np)]) ++ mr))) pe')
    (E := fun v s₁ => ∃ T' pe' GG e h' tk', v = .ref e ∧ s₁ = ⟨h', G, D, tk', O⟩ ∧ TreeRes w pe pe' (decide (de < 5)) true σ.T T' (ks.map (·.1)) ∧ Fr h₀ L GG m ∧ RaisedX h₀ GG [lawEnv sc L fa ccd cN cS] e (.ref 183) ((T'.led w ++ ((cN, oN) :: (dn, PySem.W.listOf (refs ks).toArray nn) :: ((σ.r.led w ++ [(σ.dp, eOb w σ.xp σ.np)]) ++ mr))) ++ pe') h' ∧ GG.UpToSlots h' ∧
      (((T'.led w ++ ((cN, oN) :: (dn, PySem.W.listOf (refs ks).toArray nn) :: ((σ.r.led w ++ [(σ.dp, eOb w σ.xp σ.np)]) ++ mr))) ++ pe').map (·.1)).Nodup) ?_ ?_ ?_
  · replace hsc : some (Scope.mk _ _ _ _ _) = some sc := hsc
    cases hsc
    have Cm := lc.C
    have hL2 : (⟨h, G, D, tk, O⟩ : Shared).heap.IsList dn (refs ks).toArray := ⟨_, S.get hdnm, rfl, _, rfl⟩
    have lenq : ((refs ks).toArray.size : Int) = ks.length := by rw [List.size_toArray, refs_length]
    walk_at "m"
    walk_at "m"
    refine isTrue_and ?_
    walk_at "ms"
    refine nmL S hm1 ?_ rfl rfl (by decide)
    walk_at "ms"
    refine wpAny_lt_int ?_
    walk_at "m"
    have item0 : ∀ {y : Nm × Addr} {r : Ts}, ks = y :: r → (refs ks).toArray[0]? = some (.ref y.2) := fun e => by rw [e]; rfl
    have item1 : ∀ {y z : Nm × Addr} {r : Ts}, ks = y :: z :: r → (refs ks).toArray[1]? = some (.ref z.2) := fun e => by rw [e]; rfl
    have hsz : (refs ks).toArray.size ≤ 2 := by rw [List.size_toArray, refs_length]; omega
    obtain ⟨y, r, ek⟩ : ∃ y r, ks = y :: r := by
      cases ks with
      | nil => simp at hkl
      | cons a b => exact ⟨a, b, rfl⟩
    have hr : r.length ≤ 1 := by
      rw [ek] at hkl
      simpa using hkl.2
    by_cases c1 : de < 5
    · rw [decide_eq_true c1, if_pos rfl]
      refine isTrue_and ?_
      walk_at "ms"
      refine callB (mach _) ?_ rfl rfl
      refine spliced_more ?_
      refine nmL S hm4 ?_ rfl rfl (by decide)
      refine spliced_none ?_
      refine len_list (items := (refs ks).toArray) hL2 (by omega) ?_
      walk_at "ms"
      refine eq_int ?_
      walk_at "m"
      rw [lenq]
      rcases r with _ | ⟨z, r⟩
      · rw [if_pos (by rw [ek]; rfl)]
        refine isTrue_and_nil ?_
        rw [if_pos rfl]
        walk_at "m"
        walk_at "m"
        walk_at "m"
        refine nmL S ln.tree ?_ rfl rfl (by decide)
        refine tr_meth Cm (LS.toT (pre := [(cN, oN), (dn, PySem.W.listOf (refs ks).toArray nn)]) S) (by k_is) (by k_is) (by rfl) rfl rfl rfl rfl ?_
        refine callK (by k_is) ?_ rfl rfl
        refine spliced_more ?_
        walk_at "m"
        refine nmK S Cm (x := "MibNode") (v := .ref 316) (by k_is) ?_ rfl (by decide)
        refine callK (by k_is) ?_ rfl rfl
        refine spliced_more ?_
        walk_at "m"
        refine nmL S hm4 ?_ rfl rfl (by decide)
        walk_at "ms"
        refine item_listA (items := (refs ks).toArray) ⟨_, S.get hdnm, rfl, _, rfl⟩ (by omega) (by omega) (x := .ref y.2) (item0 ek) ?_
        refine spliced_none ?_
        refine ⟨S.X Cm, node_make Cm S (Nat.lt_of_lt_of_le hd (by decide)) ((hks y (by rw [ek]; simp)).is) fun x1 pe1 h₁ tk₁ hs1 hx1 S₁ => ?_⟩
        refine spliced_none ?_
        have hall : ∀ q ∈ ([(y.1, x1)] : Ts), IsNode w pe1 q.1 q.2 := (fun q hq => by
          rw [List.mem_singleton.mp hq]; exact hx1)
        have hsm : ∀ q ∈ ([(y.1, x1)] : Ts), Sml q.1 := fun q hq => by
          rw [List.mem_singleton.mp hq]; exact (hks y (by rw [ek]; simp)).sml
        have ekk : ks.map (·.1) = ([(y.1, x1)] : Ts).map (·.1) := by rw [ek]; rfl
        rw [ekk]
        refine ⟨S₁.X Cm, wpAny_call ?_⟩
        refine tr_register (l := [(y.1, x1)]) (kt := [1]) Cm (LS.toT (pre := [(cN, oN), (dn, PySem.W.listOf (refs ks).toArray nn)]) S₁) (inv.tok.mono hs1) (.inl rfl) (fun q hq => ⟨hall q hq, hsm q hq⟩) (inv.tna.mono hs1) sml1 (by omega) (by omega) lc.hh lc.hg (Nat.lt_of_lt_of_le hd (by decide)) (by omega) (fun T' pe' h₃ tk₃ hsub et ena ecnt pu ok' S₃ => ?_) (fun T' pe' i k x GG e h₃ tk₃ hsub et ena ecnt hi pu hk ok' FGG RX up nd => ?_)
        · walk_at "ms"
          exact ⟨rfl, T', pe', h₃, _, rfl, treg_ok inv.tcl inv.tnd hs1 hall (by simp) hsub et ena ecnt pu ok', S₃⟩
        · exact ⟨T', pe', GG, e, h₃, _, rfl, rfl, treg_err inv.tcl inv.tnd hs1 hall (by simp) hsub et ena ecnt hi pu hk ok', FGG, RX, up, nd⟩
      · rw [if_neg (by rw [ek]; simp; omega)]
        rw [if_neg (by simp)]
        have er2 : r = [] := List.length_eq_zero_iff.mp (by simpa using hr)
        subst er2
        walk_at "m"
        walk_at "m"
        walk_at "ms"
        refine nmL S hm1 ?_ rfl rfl (by decide)
        walk_at "ms"
        refine wpAny_lt_int ?_
        walk_at "m"
        rw [decide_eq_true c1, if_pos rfl]
        walk_at "m"
        walk_at "m"
        walk_at "m"
        refine nmL S ln.tree ?_ rfl rfl (by decide)
        refine tr_meth Cm (LS.toT (pre := [(cN, oN), (dn, PySem.W.listOf (refs ks).toArray nn)]) S) (by k_is) (by k_is) (by rfl) rfl rfl rfl rfl ?_
        refine callK (by k_is) ?_ rfl rfl
        refine spliced_more ?_
        walk_at "m"
        refine nmK S Cm (x := "MibNode") (v := .ref 316) (by k_is) ?_ rfl (by decide)
        refine callK (by k_is) ?_ rfl rfl
        refine spliced_more ?_
        walk_at "m"
        refine nmL S hm4 ?_ rfl rfl (by decide)
        walk_at "ms"
        refine item_listA (items := (refs ks).toArray) ⟨_, S.get hdnm, rfl, _, rfl⟩ (by omega) (by omega) (x := .ref y.2) (item0 ek) ?_
        refine spliced_none ?_
        refine ⟨S.X Cm, node_make Cm S (Nat.lt_of_lt_of_le hd (by decide)) ((hks y (by rw [ek]; simp)).is) fun x1 pe1 h₁ tk₁ hs1 hx1 S₁ => ?_⟩
        refine spliced_more ?_
        walk_at "m"
        refine nmK S₁ Cm (x := "MibNode") (v := .ref 316) (by k_is) ?_ rfl (by decide)
        refine callK (by k_is) ?_ rfl rfl
        refine spliced_more ?_
        walk_at "m"
        refine nmL S₁ hm4 ?_ rfl rfl (by decide)
        walk_at "ms"
        refine item_listA (items := (refs ks).toArray) ⟨_, S₁.get hdnm, rfl, _, rfl⟩ (by omega) (by omega) (x := .ref z.2) (item1 ek) ?_
        refine spliced_none ?_
        refine ⟨S₁.X Cm, node_make Cm S₁ (Nat.lt_of_lt_of_le hd (by decide)) (((hks z (by rw [ek]; simp)).is).mono hs1) fun x2 pe2 h₂ tk₂ hs2 hx2 S₂ => ?_⟩
        refine spliced_none ?_
        have hall : ∀ q ∈ ([(y.1, x1), (z.1, x2)] : Ts), IsNode w pe2 q.1 q.2 := (fun q hq => by
          rcases List.mem_cons.mp hq with rfl | hq
          · exact hx1.mono hs2
          · rw [List.mem_singleton.mp hq]; exact hx2)
        have hsm : ∀ q ∈ ([(y.1, x1), (z.1, x2)] : Ts), Sml q.1 := fun q hq => by
          rcases List.mem_cons.mp hq with rfl | hq
          · exact (hks y (by rw [ek]; simp)).sml
          · rw [List.mem_singleton.mp hq]; exact (hks z (by rw [ek]; simp)).sml
        have ekk : ks.map (·.1) = ([(y.1, x1), (z.1, x2)] : Ts).map (·.1) := by rw [ek]; rfl
        rw [ekk]
        refine ⟨S₂.X Cm, wpAny_call ?_⟩
        refine tr_register (l := [(y.1, x1), (z.1, x2)]) (kt := [1]) Cm (LS.toT (pre := [(cN, oN), (dn, PySem.W.listOf (refs ks).toArray nn)]) S₂) (inv.tok.mono fun _ q => hs2 (hs1 q)) (.inr rfl) (fun q hq => ⟨hall q hq, hsm q hq⟩) (inv.tna.mono fun _ q => hs2 (hs1 q)) sml1 (by omega) (by omega) lc.hh lc.hg (Nat.lt_of_lt_of_le hd (by decide)) (by omega) (fun T' pe' h₃ tk₃ hsub et ena ecnt pu ok' S₃ => ?_) (fun T' pe' i k x GG e h₃ tk₃ hsub et ena ecnt hi pu hk ok' FGG RX up nd => ?_)
        · walk_at "ms"
          exact ⟨rfl, T', pe', h₃, _, rfl, treg_ok inv.tcl inv.tnd (fun _ q => hs2 (hs1 q)) hall (by simp) hsub et ena ecnt pu ok', S₃⟩
        · exact ⟨T', pe', GG, e, h₃, _, rfl, rfl, treg_err inv.tcl inv.tnd (fun _ q => hs2 (hs1 q)) hall (by simp) hsub et ena ecnt hi pu hk ok', FGG, RX, up, nd⟩
    · rw [decide_eq_false c1, if_neg (by simp)]
      rw [if_neg (by simp)]
      walk_at "m"
      walk_at "m"
      walk_at "ms"
      refine nmL S hm1 ?_ rfl rfl (by decide)
      walk_at "ms"
      refine wpAny_lt_int ?_
      walk_at "m"
      rw [decide_eq_false c1, if_neg (by simp)]
      walk_at "m"
      walk_at "m"
      walk_at "ms"
      refine callB (mach _) ?_ rfl rfl
      refine spliced_more ?_
      refine nmL S hm4 ?_ rfl rfl (by decide)
      refine spliced_none ?_
      refine len_list (items := (refs ks).toArray) hL2 (by omega) ?_
      walk_at "ms"
      refine eq_int ?_
      walk_at "m"
      rw [lenq]
      rcases r with _ | ⟨z, r⟩
      · rw [if_pos (by rw [ek]; rfl)]
        walk_at "m"
        walk_at "m"
        walk_at "m"
        refine nmL S ln.tree ?_ rfl rfl (by decide)
        refine tr_meth Cm (LS.toT (pre := [(cN, oN), (dn, PySem.W.listOf (refs ks).toArray nn)]) S) (by k_is) (by k_is) (by rfl) rfl rfl rfl rfl ?_
        refine callK (by k_is) ?_ rfl rfl
        refine spliced_more ?_
        walk_at "m"
        refine nmL S hm4 ?_ rfl rfl (by decide)
        walk_at "ms"
        refine item_listA (items := (refs ks).toArray) ⟨_, S.get hdnm, rfl, _, rfl⟩ (by omega) (by omega) (x := .ref y.2) (item0 ek) ?_
        refine spliced_none ?_
        have ekk : ks = ([y] : Ts) := by rw [ek]
        rw [ekk]
        have hall : ∀ q ∈ ([y] : Ts), IsNm w pe q.1 q.2 ∧ Sml q.1 := fun q hq => ⟨(hks q (ekk ▸ hq)).is, (hks q (ekk ▸ hq)).sml⟩
        refine ⟨S.X Cm, wpAny_call ?_⟩
        refine tr_unregister (l := [y]) (kt := [1]) Cm (LS.toT (pre := [(cN, oN), (dn, PySem.W.listOf (refs ks).toArray nn)]) S) inv.tok (.inl rfl) hall inv.tna sml1 (by omega) (by omega) lc.hh lc.hg (Nat.lt_of_lt_of_le hd (by decide)) (by omega) (fun T' pe' h₃ tk₃ hsub et ena ecnt pu ok' S₃ => ?_) (fun T' pe' i k x GG e h₃ tk₃ hsub et ena ecnt hi pu hk ok' FGG RX up nd => ?_)
        · walk_at "ms"
          exact ⟨rfl, T', pe', h₃, _, rfl, tdel_ok inv.tcl inv.tnd hsub et ena ecnt pu ok', ekk ▸ S₃⟩
        · exact ⟨T', pe', GG, e, h₃, _, rfl, rfl, tdel_err inv.tcl inv.tnd hsub et ena ecnt hi pu hk ok', FGG, ekk ▸ RX, up, ekk ▸ nd⟩
      · rw [if_neg (by rw [ek]; simp; omega)]
        have er2 : r = [] := List.length_eq_zero_iff.mp (by simpa using hr)
        walk_at "m"
        walk_at "m"
        walk_at "m"
        refine nmL S ln.tree ?_ rfl rfl (by decide)
        refine tr_meth Cm (LS.toT (pre := [(cN, oN), (dn, PySem.W.listOf (refs ks).toArray nn)]) S) (by k_is) (by k_is) (by rfl) rfl rfl rfl rfl ?_
        refine callK (by k_is) ?_ rfl rfl
        refine spliced_more ?_
        walk_at "m"
        refine nmL S hm4 ?_ rfl rfl (by decide)
        walk_at "ms"
        refine item_listA (items := (refs ks).toArray) ⟨_, S.get hdnm, rfl, _, rfl⟩ (by omega) (by omega) (x := .ref y.2) (item0 ek) ?_
        refine spliced_more ?_
        walk_at "m"
        refine nmL S hm4 ?_ rfl rfl (by decide)
        walk_at "ms"
        refine item_listA (items := (refs ks).toArray) ⟨_, S.get hdnm, rfl, _, rfl⟩ (by omega) (by omega) (x := .ref z.2) (item1 ek) ?_
        refine spliced_none ?_
        have ekk : ks = ([y, z] : Ts) := by rw [ek, er2]
        rw [ekk]
        have hall : ∀ q ∈ ([y, z] : Ts), IsNm w pe q.1 q.2 ∧ Sml q.1 := fun q hq => ⟨(hks q (ekk ▸ hq)).is, (hks q (ekk ▸ hq)).sml⟩
        refine ⟨S.X Cm, wpAny_call ?_⟩
        refine tr_unregister (l := [y, z]) (kt := [1]) Cm (LS.toT (pre := [(cN, oN), (dn, PySem.W.listOf (refs ks).toArray nn)]) S) inv.tok (.inr rfl) hall inv.tna sml1 (by omega) (by omega) lc.hh lc.hg (Nat.lt_of_lt_of_le hd (by decide)) (by omega) (fun T' pe' h₃ tk₃ hsub et ena ecnt pu ok' S₃ => ?_) (fun T' pe' i k x GG e h₃ tk₃ hsub et ena ecnt hi pu hk ok' FGG RX up nd => ?_)
        · walk_at "ms"
          exact ⟨rfl, T', pe', h₃, _, rfl, tdel_ok inv.tcl inv.tnd hsub et ena ecnt pu ok', ekk ▸ S₃⟩
        · exact ⟨T', pe', GG, e, h₃, _, rfl, rfl, tdel_err inv.tcl inv.tnd hsub et ena ecnt hi pu hk ok', FGG, ekk ▸ RX, up, ekk ▸ nd⟩
  · rintro f _ ⟨rfl, T', pe', h', tk', rfl, tr, S'⟩
    walk_at "m"
    exact ⟨rfl, good _ _ _ _ _ tr rfl S'⟩
  · rintro _ _ ⟨T', pe', GG, e, h', tk', rfl, rfl, tr, FGG, RX, up, nd⟩
    replace hsc : some (Scope.mk _ _ _ _ _) = some sc := hsc
    cases hsc
    have Cm := lc.C
    refine' ex_caught Cm lc.b FGG RX up nd (handles_obj ?x1 (kx_b183 w) ?x2 ?x3 ?x4) (hE e) ?_
    case x1 => k_is
    case x2 => rfl
    case x3 => rfl
    case x4 => decide
    intro h₃ g' Tn1 S₃ C'' b''
    have S₄ := SL.untn Tn1 S₃
    walk_at "ms"
    refine stL S₄ (fun h₅ S₅ => ?_) rfl rfl
    walk_at "ms"
    refine ⟨rfl, h₅, _, T', true, _, pe', rfl, tr, rfl, fun y hy => ?_, LS.ofT (pre := [(cN, oN), (dn, PySem.W.listOf (refs ks).toArray nn)]) S₅⟩
    exact if_neg hy
end
section
open PyProof.Rows.LCg PySem.W PySem.SeqAt
variable {w : World} {A A₀ : Around} {h₀ h : Heap} {L fa cS cN f0 f1 f2 f3 : Addr} {p : Program} {loose : List Str} {mean : ExcName → Option Value} {mg mb m : Str → Option Value} {mu mr pe pe0 : Lg}
  {G : Array GenState} {D : Drawn} {tk : Nat} {O : OsState} {E : Value → Shared → Prop} {sc : Scope} {ccd : Value} {ns : List Int} {st : Stmt} {dn nn : Nat} {ks : Ts} {σ : LS} {N : Nat} {oN : Obj}
theorem st6 {b : Bool} {k : Nat} {u : Tok} (hst : lawLoop[6]? = some st) (hsc : IsScope sc) (lc : LC w A A₀ h₀ (lawEnv sc L fa ccd cN cS) L p loose mean mg mb pe0 ns cS cN f0 f1 f2 f3) {pre : Lg} (S : SL h₀ L m h (pre ++ (σ.led w ++ mr)) pe)
    (hm1 : m "refused" = some (.bool b)) (hm2 : m "due" = some (.bool b)) (hk : m "k" = some (.int k u)) (hk8 : k < 8) (hc : σ.T.cnt = (k : Int) + 1) (ln : LN m σ f0 f1 f2 f3) :
    wpAny (model PR w) A (exec st (lawEnv sc L fa ccd cN cS)) (fun f s' => f = .next ∧ ∃ tk', s' = ⟨h, G, D, tk', O⟩) E ⟨h, G, D, tk, O⟩ := by
  replace hst : some (Stmt.If _ _ _ _) = some st := hst
  cases hst
  replace hsc : some (Scope.mk _ _ _ _ _) = some sc := hsc
  cases hsc
  have Cm := lc.C
  walk_at "m"
  refine isTrue_or ?_
  walk_at "ms"
  refine nmL S hm1 ?_ rfl rfl (by decide)
  refine nmL S hm2 ?_ rfl rfl (by decide)
  refine RcNeAt.bool_bool _ _ PR w _ _ ?_
  walk_at "m"
  rw [if_neg (by simp)]
  refine isTrue_or ?_
  walk_at "ms"
  refine nmL S ln.tree ?_ rfl rfl (by decide)
  refine tr_bvGet Cm (LS.toT S) fun u2 => ?_
  walk_at "ms"
  refine nmL S hk ?_ rfl rfl (by decide)
  walk_at "ms"
  refine add_int ?_
  refine ne_int ?_
  walk_at "m"
  rw [hc, if_neg (by simp)]
  refine isTrue_or_nil ?_
  rw [if_neg (by simp)]
  walk_at "ms"
  exact ⟨rfl, _, rfl⟩
theorem st7 {de : Int} {ud : Tok} (hE : PassesOwn (model PR w) A (lawEnv sc L fa ccd cN cS) E) (hst : lawLoop[7]? = some st) (hsc : IsScope sc) (lc : LC w A A₀ h₀ (lawEnv sc L fa ccd cN cS) L p loose mean mg mb pe0 ns cS cN f0 f1 f2 f3) {pre : Lg} (S : SL h₀ L m h (pre ++ (σ.led w ++ mr)) pe)
    (inv : LInv w pe σ N) (hN : N ≤ 60) (vi : VI σ.xp) (tw : 5 ≤ de ∨ Twin σ.r.xs σ.xp) (hm1 : m "deed" = some (.int de ud)) (ln : LN m σ f0 f1 f2 f3) :
    wpAny (model PR w) A (exec st (lawEnv sc L fa ccd cN cS)) (fun f s' => f = .next ∧ ∃ h' tk' r' m', s' = ⟨h', G, D, tk', O⟩ ∧ LInv w pe ({ σ with r := r' } : LS) N ∧ Twin r'.xs σ.xp ∧ (∀ y : Str, y ≠ "table" → y ≠ "one" → m' y = m y) ∧ LN m' ({ σ with r := r' } : LS) f0 f1 f2 f3 ∧
      SL h₀ L m' h' (pre ++ (({ σ with r := r' } : LS).led w ++ mr)) pe) E ⟨h, G, D, tk, O⟩ := by
  replace hst : some (Stmt.If _ _ _ _) = some st := hst
  cases hst
  replace hsc : some (Scope.mk _ _ _ _ _) = some sc := hsc
  cases hsc
  have Cm := lc.C
  have hd := lc.hd
  have hu := lc.hu
  have hxl := inv.len
  walk_at "ms"
  refine nmL S hm1 ?_ rfl rfl (by decide)
  walk_at "ms"
  refine PyProof.Rows.ge_int ?_
  walk_at "m"
  by_cases c1 : (5 : Int) ≤ de
  · rw [decide_eq_true c1, if_pos rfl]
    walk_at "ms"
    refine callK0 (by k_is) (S.X Cm) ?_
    have S₁ : SL h₀ L m h (pre ++ (σ.T.led w ++ ([(σ.dp, eOb w σ.xp σ.np)] ++ mr))) pe := (LS.toR S).sub ((List.sublist_append_right _ _).append (.refl _))
    obtain ⟨rest, er⟩ : ∃ rest : Lg, rest = pre ++ (σ.T.led w ++ ([(σ.dp, eOb w σ.xp σ.np)] ++ mr)) := ⟨_, rfl⟩
    rw [← er] at S₁
    have hP : (σ.dp, eOb w σ.xp σ.np) ∈ rest := by rw [er]; exact List.mem_append_right _ (List.mem_append_right _ (.head _))
    refine od_create Cm S₁ (by omega) (by omega) fun r0 h₁ tk₁ exs eks ecs eb ok0 S₂ => ?_
    refine stL S₂ (fun h₂ S₃ => ?_) rfl rfl
    obtain ⟨m1, em1⟩ : ∃ m1, m1 = updM m "table" (.ref r0.t) := ⟨_, rfl⟩
    replace S₃ : SL h₀ L m1 h₂ (r0.led w ++ rest) pe := by rw [em1]; exact S₃
    have s1 : ∀ y : Str, y ≠ "table" → m1 y = m y := fun y hy => by rw [em1]; exact if_neg hy
    have m1t : m1 "table" = some (.ref r0.t) := by rw [em1]; rfl
    walk_at "m"
    refine' for_loop (h₀ := h₀) (G := G) (D := D) (O := O) ?_ (fun _ => rfl) hE
    walk_at "ms"
    refine callB (mach _) ?_ rfl rfl
    refine spliced_more ?_
    refine nmL S₃ ((s1 _ (by decide)).trans ln.plain) ?_ rfl rfl (by decide)
    refine spliced_none ?_
    refine sorted_dict lc.hh S₃ (List.mem_append_left _ (List.mem_append_right _ hP)) inv.dps inv.xok (fun y hy => inv.sh.ne _ (List.mem_map_of_mem hy)) (by omega) fun ts d2 h₃ n2 tk₃ hperm hup S₄ => ?_
    refine wpAny_Slice ?_
    refine evalPart_none_step ?_
    refine evalPart_none_step ?_
    refine evalPart_some_step ?_
    refine wpAny_UnaryOp ?_
    refine cInt ?_
    refine PyProof.Rows.neg_int ?_
    have htl : ts.length = σ.xp.length := by rw [hperm.length_eq]; simp [dTs]
    refine sliceL S₄ ⟨_, S₄.get (.head _), rfl, _, rfl⟩ .none .none (.int _ _) (by decide) (by rw [List.size_toArray, refs_length]; omega) fun d4 h₄ S₅ => ?_
    rw [krv_pick] at S₅
    have erv : (refs ts).toArray.toList.reverse = refs ts.reverse := by simp [refs]
    rw [erv] at S₅
    have S₆ := S₅.sub (mu' := (d4, PySem.W.listOf (refs ts.reverse).toArray 0) :: (r0.led w ++ rest)) (pe' := pe) (((List.sublist_cons_self _ _).cons_cons _).append (.refl _))
    obtain ⟨rs, ers⟩ : ∃ rs : Ts, rs = ts.reverse := ⟨_, rfl⟩
    rw [← ers] at S₆
    have hrl : rs.length = σ.xp.length := by rw [ers, List.length_reverse, htl]
    have hrm : ∀ y ∈ rs, NmOk w pe y ∧ y.1 ∈ σ.xp.map (·.1) := fun y hy => by
      rw [ers, List.mem_reverse] at hy
      obtain ⟨z, hz, ez⟩ := List.mem_map.mp (hperm.mem_iff.mp hy)
      have hk : z.1 ∈ σ.xp.map (·.1) := List.mem_map_of_mem hz
      rw [← ez]
      exact ⟨⟨inv.xok.is z hz, inv.sh _ hk, inv.sml _ hk⟩, hk⟩
    have hrk : ∀ x, x ∈ rs.map (·.1) ↔ x ∈ σ.xp.map (·.1) := fun x => by
      rw [ers, List.map_reverse, List.mem_reverse, (hperm.map (·.1)).mem_iff, dTs_keys]
    refine it_list (l := [(d4, PySem.W.listOf (refs rs).toArray 0)]) lc.hh S₆ (.head _) (.head _) fun I h₅ oI St src hst0 S₇ => ?_
    refine ⟨I, _, _, St, h₅, _, _, pe, _, oI, m1, fun i m' mu' pe' => pe' = pe ∧ ∃ r' : OR, mu' = (d4, PySem.W.listOf (refs rs).toArray 0) :: (r'.led w ++ rest) ∧ r'.t = r0.t ∧ r'.Ok w pe ∧ Clean r' ∧ r'.xs.length ≤ i ∧ r'.cs.length ≤ i ∧ (∀ x, x ∈ r'.xs.map (·.1) ↔ x ∈ (rs.take i).map (·.1)) ∧
      (∀ k p q, atKey r'.xs k = some p → atKey σ.xp k = some q → ∃ n t u, p.2 = .int n t ∧ q.2 = .int n u) ∧ (∀ y : Str, y ≠ "one" → m' y = m1 y), rfl, rfl, src, hst0, S₇, ?_, ?_, ?_, ?_⟩
    · refine ⟨rfl, r0, rfl, rfl, ok0, fun z => ?_, by rw [exs]; exact Nat.zero_le _, by rw [ecs]; exact Nat.zero_le _, fun x => by rw [exs]; exact Iff.rfl, fun k p q hp => ?_, fun _ _ => rfl⟩
      · rw [eb] at z; cases z
      · rw [exs] at hp; simp [atKey] at hp
    · rintro i m' mu' pe' ⟨rfl, r', rfl, _⟩ q hq
      rw [List.mem_singleton.mp hq]
      exact .head _
    · rintro i v m' mu' pe' h tk oI' hi hP' ⟨rfl, r', rfl, et, ok', cl', hxs, hcs, hkeys, hvals, hsame⟩ S₈
      obtain ⟨hi', e'⟩ := refs_get hP'
      subst e'
      obtain ⟨hno, hin⟩ := hrm _ (List.getElem_mem hi')
      refine wpAny_assign_Name (stL S₈ (fun h₉ S₉ => ?_) rfl rfl)
      obtain ⟨m2, em2⟩ : ∃ m2, m2 = updM m' "one" (.ref (rs[i]).2) := ⟨_, rfl⟩
      replace S₉ : SL h₀ L m2 h₉ ((I, oI') :: (d4, PySem.W.listOf (refs rs).toArray 0) :: (r'.led w ++ rest)) pe' := by rw [em2]; exact S₉
      have s2 : ∀ y : Str, y ≠ "one" → m2 y = m1 y := fun y hy => by rw [em2]; exact (if_neg hy).trans (hsame y hy)
      have m2o : m2 "one" = some (.ref (rs[i]).2) := by rw [em2]; rfl
      have hPm : (σ.dp, eOb w σ.xp σ.np) ∈ (I, oI') :: (d4, PySem.W.listOf (refs rs).toArray 0) :: (r'.led w ++ rest) := .tail _ (.tail _ (List.mem_append_right _ hP))
      obtain ⟨pr, hpr⟩ := atKey_some hin
      obtain ⟨n, t, en⟩ := vi.at hpr
      walk_at "m"
      refine wpAny_Assign_Subscript ?_
      refine Subscript_ ?_
      refine nmL S₉ ((s2 _ (by decide)).trans ((s1 _ (by decide)).trans ln.plain)) ?_ rfl rfl (by decide)
      refine nmL S₉ m2o ?_ rfl rfl (by decide)
      refine ed_sub (by show A.units + 1 < 9900; omega) (S₉.get hPm) inv.xok S₉.pes hno.is hpr fun tk₉ => ?_
      refine nmL S₉ ((s2 _ (by decide)).trans m1t) ?_ rfl rfl (by decide)
      refine nmL S₉ m2o ?_ rfl rfl (by decide)
      have S10 : SL h₀ L m2 h₉ (r'.led w ++ ([(I, oI'), (d4, PySem.W.listOf (refs rs).toArray 0)] ++ rest)) pe' := S₉.perm (List.perm_append_comm_assoc [(I, oI'), (d4, PySem.W.listOf (refs rs).toArray 0)] (r'.led w) rest)
      rw [← et]
      refine od_setItem (OR.odAt S10 (S10.X Cm) ok'.x ok'.st) (wpAny_call ?_)
      have hi60 : i < 60 := by omega
      refine oid_setitem Cm S10 ok' hno.is (by omega) (by omega) (by omega) (by omega) fun r8 h10 tk10 x8 ok8 S11 => ?_
      walk_at "ms"
      have S12 := S11.perm (List.perm_append_comm_assoc [(I, oI'), (d4, PySem.W.listOf (refs rs).toArray 0)] (r8.led w) rest).symm
      have hle := x8.lens
      refine ⟨h10, _, m2, _, pe', rfl, ⟨rfl, r8, rfl, by rw [x8.t, et], ok8, x8.clean cl', by omega, by omega, fun x => ?_, fun k p q hp hq => ?_, s2⟩, S12⟩
      · rw [x8.xs, stored_mem, hkeys, List.take_succ_eq_append_getElem hi', List.map_append]
        simp
      · by_cases e : k = (rs[i]).1
        · subst e
          rw [x8.xs] at hp
          obtain ⟨c, hc⟩ := stored_at_same (xs := r'.xs) (k := (rs[i]).1) (a := (rs[i]).2) (v := pr.2)
          rw [hc] at hp
          cases hp
          rw [hpr] at hq
          cases hq
          exact ⟨n, t, t, en, en⟩
        · have h1 := stored_at_other (xs := r'.xs) (k := (rs[i]).1) (a := (rs[i]).2) (v := pr.2) e
          rw [x8.xs] at hp
          rw [hp] at h1
          obtain ⟨p', hp', e1⟩ := Option.map_eq_some_iff.mp h1.symm
          obtain ⟨n', t', u', r1, r2⟩ := hvals k p' q hp' hq
          exact ⟨n', t', u', e1.symm.trans r1, r2⟩
    · rintro m' mu' pe' h tk ⟨rfl, r', rfl, et, ok', cl', hxs, hcs, hkeys, hvals, hsame⟩ S₈
      have ez : (refs rs).toArray.size = rs.length := by rw [List.size_toArray, refs_length]
      rw [ez, List.take_length] at hkeys
      rw [ez] at hxs hcs
      have S₉ := S₈.drop1
      rw [er] at S₉
      walk_at "ms"
      refine ⟨rfl, h, _, r', m', rfl, ⟨inv.tok, inv.tcl, inv.tnd, inv.tna, inv.tcs, inv.txs, ok', cl', by show r'.cs.length ≤ N; omega, by show r'.xs.length ≤ N; omega, inv.xok, inv.sh, inv.sml, inv.len, inv.dps⟩, ⟨fun x => (hkeys x).trans (hrk x), hvals⟩, fun y h1 h2 => (hsame y h2).trans (s1 y h1), ?_, LS.ofR (σ := σ) S₉⟩
      have s3 : ∀ y : Str, y ≠ "table" → y ≠ "one" → m' y = m y := fun y h1 h2 => (hsame y h2).trans (s1 y h1)
      exact ⟨(s3 _ (by decide) (by decide)).trans ln.draw, (s3 _ (by decide) (by decide)).trans ln.name_of, (s3 _ (by decide) (by decide)).trans ln.told, (s3 _ (by decide) (by decide)).trans ln.node, (s3 _ (by decide) (by decide)).trans ln.tree, (hsame _ (by decide)).trans (m1t.trans (by rw [← et])), (s3 _ (by decide) (by decide)).trans ln.plain⟩
  · rw [decide_eq_false c1, if_neg (by simp)]
    walk_at "ms"
    exact ⟨rfl, h, _, σ.r, m, rfl, inv, tw.resolve_left c1, fun _ _ _ => rfl, ln, S⟩
end
section
open PyProof.Rows.LCg PySem.W PySem.SeqAt
variable {w : World} {A A₀ : Around} {h₀ h : Heap} {L fa cS cN f0 f1 f2 f3 : Addr} {p : Program} {loose : List Str} {mean : ExcName → Option Value} {mg mb m : Str → Option Value} {mu mr pe pe0 : Lg}
  {G : Array GenState} {D : Drawn} {tk : Nat} {O : OsState} {E : Value → Shared → Prop} {sc : Scope} {ccd : Value} {ns : List Int} {st : Stmt} {dn nn : Nat} {ks : Ts} {σ : LS} {N : Nat} {oN : Obj}
theorem LInv.putO {k : Nm} {a : Addr} {v : Value} {np' : Nat} (x : LInv w pe σ N) (hy : NmOk w pe (k, a)) (hin : k ∈ σ.xp.map (·.1)) : LInv w pe ({ σ with xp := storedH σ.xp k a v, np := np' } : LS) N :=
  ⟨x.tok, x.tcl, x.tnd, x.tna, x.tcs, x.txs, x.rok, x.rcl, x.rcs, x.rxs, x.xok.put hy.is,
    fun y hy' => (stored_mem.mp hy').elim (x.sh y) fun e => e ▸ hy.sh, fun y hy' => (stored_mem.mp hy').elim (x.sml y) fun e => e ▸ hy.sml, by have := x.len; show (storedH σ.xp k a v).length ≤ N; rw [stored_len_old hin]; omega, x.dps⟩
theorem st8 {x : Int} {ux : Tok} {y : Nm × Addr} {kr : Ts} (hst : lawLoop[8]? = some st) (hsc : IsScope sc) (lc : LC w A A₀ h₀ (lawEnv sc L fa ccd cN cS) L p loose mean mg mb pe0 ns cS cN f0 f1 f2 f3) (S : SL h₀ L m h ((cN, oN) :: (dn, PySem.W.listOf (refs ks).toArray nn) :: (σ.led w ++ mr)) pe)
    (inv : LInv w pe σ N) (hN : N ≤ 60) (vi : VI σ.xp) (tw : Twin σ.r.xs σ.xp) (hm3 : m "drawn" = some (.int x ux)) (hm4 : m "names" = some (.ref dn)) (ln : LN m σ f0 f1 f2 f3) (hks : NmOk w pe y) (ek : ks = y :: kr) (hkl : ks.length ≤ 2) :
    wpAny (model PR w) A (exec st (lawEnv sc L fa ccd cN cS)) (fun f s' => f = .next ∧ ∃ h' tk' σ', s' = ⟨h', G, D, tk', O⟩ ∧ LInv w pe σ' (N + 1) ∧ σ'.T = σ.T ∧ σ'.r.t = σ.r.t ∧ Twin σ'.r.xs σ'.xp ∧ VI σ'.xp ∧ (∀ z, z ∈ σ'.xp.map (·.1) ↔ z ∈ σ.xp.map (·.1)) ∧ LN m σ' f0 f1 f2 f3 ∧
      SL h₀ L m h' ((cN, oN) :: (dn, PySem.W.listOf (refs ks).toArray nn) :: (σ'.led w ++ mr)) pe) E ⟨h, G, D, tk, O⟩ := by
  replace hst : some (Stmt.If _ _ _ _) = some st := hst
  cases hst
  replace hsc : some (Scope.mk _ _ _ _ _) = some sc := hsc
  cases hsc
  have Cm := lc.C
  have hd := lc.hd
  have hu := lc.hu
  have hxl := inv.len
  have hrx := inv.rxs
  have hrc := inv.rcs
  have hdnm : ∀ {σ'' : LS}, (dn, PySem.W.listOf (refs ks).toArray nn) ∈ (cN, oN) :: (dn, PySem.W.listOf (refs ks).toArray nn) :: (σ''.led w ++ mr) := fun {_} => .tail _ (.head _)
  have hPm : (σ.dp, eOb w σ.xp σ.np) ∈ (cN, oN) :: (dn, PySem.W.listOf (refs ks).toArray nn) :: (σ.led w ++ mr) := .tail _ (.tail _ (List.mem_append_left _ LS.memP))
  have hsz : (refs ks).toArray.size ≤ 2 := by rw [List.size_toArray, refs_length]; omega
  have item0 : (refs ks).toArray[0]? = some (.ref y.2) := by rw [ek]; rfl
  walk_at "ms"
  refine nmL S hm4 ?_ rfl rfl (by decide)
  walk_at "ms"
  refine item_listA (items := (refs ks).toArray) ⟨_, S.get hdnm, rfl, _, rfl⟩ (by omega) (by omega) (x := .ref y.2) item0 ?_
  refine nmL S ln.plain ?_ rfl rfl (by decide)
  refine ed_in (by show A.units + 1 < 9900; omega) (S.get hPm) inv.xok S.pes inv.dps hks.is fun tk₁ => ?_
  walk_at "m"
  by_cases hin : y.1 ∈ σ.xp.map (·.1)
  · rw [decide_eq_true hin, if_pos rfl]
    walk_at "m"
    refine wpAny_Assign_Subscript ?_
    walk_at "ms"
    refine nmL S hm3 ?_ rfl rfl (by decide)
    walk_at "ms"
    refine mod_int' (b := 997) (by decide) ?_
    walk_at "ms"
    refine add_int ?_
    refine nmL S ln.plain ?_ rfl rfl (by decide)
    refine Subscript_ ?_
    refine nmL S hm4 ?_ rfl rfl (by decide)
    walk_at "ms"
    refine item_listA (items := (refs ks).toArray) ⟨_, S.get hdnm, rfl, _, rfl⟩ (by omega) (by omega) (x := .ref y.2) item0 ?_
    refine storeL (n := σ.np) (by show A.units + 1 < 9900; omega) S hPm (fun n' => LS.rpP (σ := σ) (np' := n') [(cN, oN), (dn, PySem.W.listOf (refs ks).toArray nn)] mr) inv.xok hks.is (by omega) fun tk₆ np6 h₆ S₆ => ?_
    have inv6 := fun u => inv.putO (v := .int (x.fmod 997 + 1000) u) (np' := np6) hks hin
    refine wpAny_execs_cons ?_
    obtain ⟨u6, σ6, eσ6, S₆'⟩ : ∃ u6 σ6, σ6 = ({ σ with xp := storedH σ.xp y.1 y.2 (.int (x.fmod 997 + 1000) u6), np := np6 } : LS) ∧ SL h₀ L m h₆ ([(cN, oN), (dn, PySem.W.listOf (refs ks).toArray nn)] ++ (σ6.led w ++ mr)) pe := ⟨_, _, rfl, S₆⟩
    clear S₆
    have inv6' : LInv w pe σ6 N := by rw [eσ6]; exact inv6 u6
    have e6r : σ6.r = σ.r := by rw [eσ6]
    have e6T : σ6.T = σ.T := by rw [eσ6]
    have e6d : σ6.dp = σ.dp := by rw [eσ6]
    have ln6 : LN m σ6 f0 f1 f2 f3 := by rw [eσ6]; exact ⟨ln.draw, ln.name_of, ln.told, ln.node, ln.tree, ln.table, ln.plain⟩
    refine wpAny_Assign_Subscript ?_
    walk_at "ms"
    refine nmL S₆' hm3 ?_ rfl rfl (by decide)
    walk_at "ms"
    refine mod_int' (b := 997) (by decide) ?_
    walk_at "ms"
    refine add_int ?_
    refine nmL S₆' ln6.table ?_ rfl rfl (by decide)
    refine Subscript_ ?_
    refine nmL S₆' hm4 ?_ rfl rfl (by decide)
    walk_at "ms"
    refine item_listA (items := (refs ks).toArray) ⟨_, S₆'.get hdnm, rfl, _, rfl⟩ (by omega) (by omega) (x := .ref y.2) item0 ?_
    have S₇ := LS.toR S₆'
    refine od_setItem (OR.odAt S₇ (S₇.X Cm) inv6'.rok.x inv6'.rok.st) (wpAny_call ?_)
    refine oid_setitem Cm S₇ inv6'.rok hks.is (by rw [e6r]; omega) (by rw [e6r]; omega) (by omega) (by omega) fun r8 h₈ tk₈ pr ok8 S₈ => ?_
    walk_at "ms"
    have S₉ := LS.ofR (σ := σ6) S₈
    have inv9 := inv6'.putR pr ok8
    refine ⟨rfl, h₈, _, { σ6 with r := r8 }, rfl, inv9, e6T, by show r8.t = _; rw [pr.t, e6r], ?_, ?_, fun z => ?_, ⟨ln6.draw, ln6.name_of, ln6.told, ln6.node, ln6.tree, by show _ = some (Value.ref r8.t); rw [pr.t]; exact ln6.table, ln6.plain⟩, S₉⟩
    · show Twin r8.xs σ6.xp
      rw [pr.xs, e6r, eσ6]
      exact tw.put
    · show VI σ6.xp
      rw [eσ6]
      exact vi.put
    · show z ∈ σ6.xp.map (·.1) ↔ _
      rw [eσ6, stored_mem]
      exact ⟨fun q => q.elim id fun e => e ▸ hin, .inl⟩
  · rw [decide_eq_false hin, if_neg (by simp)]
    walk_at "ms"
    exact ⟨rfl, h, _, σ, rfl, inv.le (by omega), rfl, rfl, tw, vi, fun _ => Iff.rfl, ln, S⟩
end
section
open PyProof.Rows.LCg PySem.W PySem.SeqAt
variable {w : World} {A A₀ : Around} {h₀ h : Heap} {L fa cS cN f0 f1 f2 f3 : Addr} {p : Program} {loose : List Str} {mean : ExcName → Option Value} {mg mb m : Str → Option Value} {mu mr pe pe0 : Lg}
  {G : Array GenState} {D : Drawn} {tk : Nat} {O : OsState} {E : Value → Shared → Prop} {sc : Scope} {ccd : Value} {ns : List Int} {st : Stmt} {dn nn : Nat} {ks : Ts} {σ : LS} {N : Nat} {oN : Obj}
theorem LInv.ord {r' : OR} (x : LInv w pe σ N) (o : OrdRel σ.r r') (ok : r'.Ok w pe) : LInv w pe ({ σ with r := r' } : LS) N :=
  ⟨x.tok, x.tcl, x.tnd, x.tna, x.tcs, x.txs, ok, o.clean, by show r'.cs.length ≤ N; rw [o.cs]; exact x.rcs, by show r'.xs.length ≤ N; rw [o.xs]; exact x.rxs, x.xok, x.sh, x.sml, x.len, x.dps⟩
theorem LInv.rsh (x : LInv w pe σ N) (tw : Twin σ.r.xs σ.xp) : Short (σ.r.ks.map (·.1)) := fun k hk => x.sh k ((tw.keys k).mp (x.rok.same.mem_iff.mp hk))
theorem LInv.rlen (x : LInv w pe σ N) : σ.r.ks.length ≤ N := by
  have h1 := x.rok.same.length_eq
  have h2 := x.rxs
  simp only [List.length_map] at h1
  omega
theorem call_told {which : Int} {u : Tok} {k : Nm} {a : Addr} {Q : Value → Shared → Prop} {env : Env} {pre : Lg} (lc : LC w A A₀ h₀ env L p loose mean mg mb pe0 ns cS cN f0 f1 f2 f3) (hpe : pe0 ⊆ pe) (S : SL h₀ L m h (pre ++ (σ.led w ++ mr)) pe) (inv : LInv w pe σ N) (hN : N ≤ 60) (tw : Twin σ.r.xs σ.xp)
    (hw : which = 0 ∨ which = 1 ∨ which = 2 ∨ which = 3 ∨ which = 4) (hk : IsNm w pe k a)
    (q : ∀ r' pe' h' tk', pe ⊆ pe' → OrdRel σ.r r' → r'.Ok w pe' → SL h₀ L m h' (pre ++ (({ σ with r := r' } : LS).led w ++ mr)) pe' → Q (.bool true) ⟨h', G, D, tk', O⟩) : wpAny (model PR w) A (call (.ref f2) [.int which u, .ref σ.r.t, .ref a, .ref σ.dp]) Q E ⟨h, G, D, tk, O⟩ := by
  refine wpAny_call ?_
  have hd := lc.hd
  have hu := lc.hu
  have hl := inv.rlen
  refine law_told (xp := σ.xp) (np := σ.np) lc.C lc.b (LS.toR S) (lc.d2.mono hpe) hw inv.rok inv.rcl (inv.rsh tw) (by omega) hk (List.mem_append_right _ (List.mem_append_right _ (.head _))) inv.dps inv.xok tw lc.hh (by omega) (by omega) fun h₀' r' pe' h' tk' Tn' _ _ hsub x ok' S' => ?_
  exact q r' pe' h' tk' hsub x ok' (LS.ofR (SL.untn Tn' S'))
theorem st10 {x : Int} {ux : Tok} {y : Nm × Addr} {kr : Ts} (hE : PassesOwn (model PR w) A (lawEnv sc L fa ccd cN cS) E) (hst : lawLoop[10]? = some st) (hsc : IsScope sc) (lc : LC w A A₀ h₀ (lawEnv sc L fa ccd cN cS) L p loose mean mg mb pe0 ns cS cN f0 f1 f2 f3) (hpe : pe0 ⊆ pe) (S : SL h₀ L m h ((cN, oN) :: (dn, PySem.W.listOf (refs ks).toArray nn) :: (σ.led w ++ mr)) pe)
    (inv : LInv w pe σ N) (hN : N ≤ 60) (tw : Twin σ.r.xs σ.xp) (hm3 : m "drawn" = some (.int x ux)) (hm4 : m "names" = some (.ref dn)) (ln : LN m σ f0 f1 f2 f3) (hks : NmOk w pe y) (ek : ks = y :: kr) (hkl : ks.length ≤ 2) :
    wpAny (model PR w) A (exec st (lawEnv sc L fa ccd cN cS)) (fun f s' => f = .next ∧ ∃ h' tk' r' m' pe', s' = ⟨h', G, D, tk', O⟩ ∧ pe ⊆ pe' ∧ LInv w pe' ({ σ with r := r' } : LS) N ∧ r'.t = σ.r.t ∧ r'.xs = σ.r.xs ∧ (∀ y : Str, y ≠ "j" → m' y = m y) ∧
      SL h₀ L m' h' ((cN, oN) :: (dn, PySem.W.listOf (refs ks).toArray nn) :: (({ σ with r := r' } : LS).led w ++ mr)) pe') E ⟨h, G, D, tk, O⟩ := by
  replace hst : some (Stmt.For _ _ _ _ _) = some st := hst
  cases hst
  replace hsc : some (Scope.mk _ _ _ _ _) = some sc := hsc
  cases hsc
  have Cm := lc.C
  have hd := lc.hd
  have hu := lc.hu
  have hsz : (refs ks).toArray.size ≤ 2 := by rw [List.size_toArray, refs_length]; omega
  have item0 : (refs ks).toArray[0]? = some (.ref y.2) := by rw [ek]; rfl
  refine' for_loop (h₀ := h₀) (G := G) (D := D) (O := O) ?_ (fun _ => rfl) hE
  walk_at "ms"
  refine callB (machT _) ?_ rfl rfl
  walk_at "ms"
  refine call_range_1 ?_
  refine it_range (n := 5) (l := []) lc.hh (S.push _) ((S.push _).get (.head _)) (by decide) (by decide) fun I h₁ oI St src hst0 S₁ => ?_
  have S₂ := S₁.sub (mu' := (I, oI) :: (cN, oN) :: (dn, PySem.W.listOf (refs ks).toArray nn) :: (σ.led w ++ mr)) (pe' := pe) (((List.sublist_cons_self _ _).cons_cons _).append (.refl _))
  refine ⟨I, _, _, St, h₁, _, _, pe, _, oI, m, fun i m' mu' pe' => pe ⊆ pe' ∧ ∃ r' : OR, mu' = (cN, oN) :: (dn, PySem.W.listOf (refs ks).toArray nn) :: (({ σ with r := r' } : LS).led w ++ mr) ∧ r'.t = σ.r.t ∧ LInv w pe' ({ σ with r := r' } : LS) N ∧ r'.xs = σ.r.xs ∧ (∀ y : Str, y ≠ "j" → m' y = m y), rfl, rfl, src, hst0, S₂, ?_, ?_, ?_, ?_⟩
  · exact ⟨fun _ z => z, σ.r, rfl, rfl, inv, rfl, fun _ _ => rfl⟩
  · rintro i m' mu' pe' _ q hq
    exact nomatch hq
  · rintro i v m' mu' pe' h tk oI' hi ⟨tv, hP'⟩ ⟨hsub, r', rfl, et, inv', exs, hsame⟩ S₃
    have ei : (0 : Int) + (i : Nat) = ((i : Nat) : Int) := by omega
    rw [ei] at hP'
    subst hP'
    refine wpAny_assign_Name (stL S₃ (fun h₄ S₄ => ?_) rfl rfl)
    obtain ⟨m2, em2⟩ : ∃ m2, m2 = updM m' "j" (.int (i : Nat) tv) := ⟨_, rfl⟩
    replace S₄ : SL h₀ L m2 h₄ ((I, oI') :: (cN, oN) :: (dn, PySem.W.listOf (refs ks).toArray nn) :: (({ σ with r := r' } : LS).led w ++ mr)) pe' := by rw [em2]; exact S₄
    have s2 : ∀ y : Str, y ≠ "j" → m2 y = m y := fun y hy => by rw [em2]; exact (if_neg hy).trans (hsame y hy)
    have m2j : m2 "j" = some (.int (i : Nat) tv) := by rw [em2]; rfl
    have hpe' : pe0 ⊆ pe' := fun _ z => hsub (hpe z)
    walk_at "m"
    walk_at "m"
    refine isTrue_not ?_
    walk_at "ms"
    refine nmL S₄ ((s2 _ (by decide)).trans ln.told) ?_ rfl rfl (by decide)
    refine callF ((lc.d2.mono hpe').at S₄) ?_ rfl rfl
    refine spliced_more ?_
    walk_at "m"
    walk_at "m"
    refine nmL S₄ ((s2 _ (by decide)).trans hm3) ?_ rfl rfl (by decide)
    refine nmL S₄ m2j ?_ rfl rfl (by decide)
    refine add_int ?_
    walk_at "ms"
    refine mod_int' (b := 5) (by decide) ?_
    have h5 := fm (x := x + (i : Nat)) (c := 5) (by omega)
    refine spliced_more ?_
    refine nmL S₄ ((s2 _ (by decide)).trans ln.table) ?_ rfl rfl (by decide)
    refine spliced_more ?_
    refine Subscript_ ?_
    refine nmL S₄ ((s2 _ (by decide)).trans hm4) ?_ rfl rfl (by decide)
    walk_at "ms"
    refine item_listA (items := (refs ks).toArray) ⟨_, S₄.get (.tail _ (.tail _ (.head _))), rfl, _, rfl⟩ (by omega) (by omega) (x := .ref y.2) item0 ?_
    refine spliced_more ?_
    refine nmL S₄ ((s2 _ (by decide)).trans ln.plain) ?_ rfl rfl (by decide)
    refine spliced_none ?_
    refine ⟨(lc.d2.mono hpe').at S₄, ?_⟩
    rw [← et]
    refine call_told (σ := { σ with r := r' }) (pre := [(I, oI'), (cN, oN), (dn, PySem.W.listOf (refs ks).toArray nn)]) lc hpe' S₄ inv' hN (by show Twin r'.xs σ.xp; rw [exs]; exact tw) (by omega) (hks.is.mono hsub) fun r8 pe8 h₈ tk₈ hsub8 x8 ok8 S₈ => ?_
    walk_at "ms"
    rw [if_neg (by simp)]
    walk_at "ms"
    refine ⟨h₈, _, m2, _, pe8, rfl, ⟨fun _ z => hsub8 (hsub z), r8, rfl, x8.t, (inv'.mono hsub8).ord x8 ok8, x8.xs.trans exs, s2⟩, S₈⟩
  · rintro m' mu' pe' h tk ⟨hsub, r', rfl, et, inv', exs, hsame⟩ S₃
    exact ⟨rfl, h, _, r', m', pe', rfl, hsub, inv', et, exs, hsame, S₃⟩
end
section
theorem nlt_pre : ∀ (l m : Nm), l <+: m → l ≠ m → nlt l m = true
  | [], [], _, h => absurd rfl h
  | [], _ :: _, _, _ => rfl
  | a :: l, m, hp, h => by
    obtain ⟨t, rfl⟩ := hp
    rw [List.cons_append, nlt_cons, if_pos rfl]
    exact nlt_pre l (l ++ t) ⟨t, rfl⟩ fun e => h (by rw [List.cons_append, ← e])
theorem lensD_desc (ks : List Nm) : (lensD ks).Pairwise (fun a b => b < a) := by
  unfold lensD
  simp only [List.filterMap_cons, List.filterMap_nil]
  by_cases h3 : (ks.any fun k => k.length == 3) = true <;> by_cases h2 : (ks.any fun k => k.length == 2) = true <;> by_cases h1 : (ks.any fun k => k.length == 1) = true <;> simp [h1, h2, h3]
theorem lensD_mem {ks : List Nm} {l : Nm} (sh : Short ks) (h : l ∈ ks) : (l.length : Int) ∈ lensD ks := by
  unfold lensD
  rw [List.mem_filterMap]
  refine ⟨l.length, ?_, ?_⟩
  · have := sh l h
    simp only [List.mem_cons, List.not_mem_nil, or_false]
    omega
  · rw [if_pos]
    rw [List.any_eq_true]
    exact ⟨l, h, by simp⟩
theorem lensD_nat {ks : List Nm} {n : Int} (h : n ∈ lensD ks) : ∃ j : Nat, n = j := by
  unfold lensD at h
  rw [List.mem_filterMap] at h
  obtain ⟨j, _, e⟩ := h
  split at e
  · exact ⟨j, (Option.some.inj e).symm⟩
  · cases e
theorem take_upTo (k : Nm) (j : Nat) : k.take (upTo (j : Int) k.length) = k.take j := by
  rw [upTo_nat, ← List.take_eq_take_min]
theorem brn_last {ks us : List Nm} {k : Nm} (sh : Short ks) (up : Up us) (hm : ∀ l, l ∈ us ↔ l ∈ ks ∧ k.take l.length = l) : brn ks k = us.getLast? := by
  cases hb : brn ks k with
  | none =>
    have hno : ∀ l, l ∈ ks → k.take l.length ≠ l := fun l hl e => by
      unfold brn at hb
      have := List.find?_eq_none.mp hb l (List.mem_map.mpr ⟨_, lensD_mem sh hl, by rw [take_upTo, e]⟩)
      simp [hl] at this
    have : us = [] := by
      cases us with
      | nil => rfl
      | cons a r =>
        have := (hm a).mp (.head _)
        exact absurd this.2 (hno a this.1)
    rw [this]; rfl
  | some b =>
    unfold brn at hb
    obtain ⟨hbin, as, bs, hsp, hno⟩ := List.find?_eq_some_iff_append.mp hb
    simp only [decide_eq_true_eq] at hbin
    obtain ⟨l1, l2', e1, e2, e3⟩ := List.map_eq_append_iff.mp hsp
    obtain ⟨n, l2, rfl, en, e4⟩ := List.map_eq_cons_iff.mp e3
    obtain ⟨j, rfl⟩ := lensD_nat (ks := ks) (n := n) (by rw [e1]; simp)
    rw [take_upTo] at en
    have hbl : b.length = min j k.length := by rw [← en, List.length_take]
    have hbk : k.take b.length = b := by rw [hbl, ← List.take_eq_take_min, en]
    have hbu : b ∈ us := (hm b).mpr ⟨hbin, hbk⟩
    have hmax : ∀ l ∈ us, l.length ≤ b.length := fun l hl => by
      obtain ⟨h1, h2⟩ := (hm l).mp hl
      refine Nat.le_of_not_lt fun hlt => ?_
      have hlk : l.length ≤ k.length := by
        have := congrArg List.length h2
        rw [List.length_take] at this
        omega
      have hjl : (j : Int) < (l.length : Int) := by omega
      have hd := lensD_desc ks
      have hmem := lensD_mem sh h1
      rw [e1] at hd hmem
      rcases List.mem_append.mp hmem with z | z
      · have := hno l (by rw [← e2]; exact List.mem_map.mpr ⟨_, z, by rw [take_upTo, h2]⟩)
        simp [h1] at this
      · rcases List.mem_cons.mp z with z | z
        · omega
        · have := (List.pairwise_cons.mp (List.pairwise_append.mp hd).2.1).1 _ z
          omega
    have hne : us ≠ [] := fun e => by rw [e] at hbu; cases hbu
    rw [List.getLast?_eq_some_getLast hne]
    refine congrArg some ?_
    refine Classical.byContradiction fun hc => ?_
    have hz := List.getLast_mem hne
    have hlt : nlt b (us.getLast hne) = true := by
      have e := List.dropLast_concat_getLast hne
      have hbd : b ∈ us.dropLast := by
        rw [← e] at hbu
        rcases List.mem_append.mp hbu with q | q
        · exact q
        · exact absurd (List.mem_singleton.mp q) hc
      have up' := up
      rw [← e] at up'
      exact (List.pairwise_append.mp up').2.2 b hbd _ (.head _)
    have hgt : nlt (us.getLast hne) b = true := by
      have h2 := ((hm _).mp hz).2
      have hpre : us.getLast hne <+: b := by
        rw [← h2, ← hbk]
        exact List.take_prefix_take_left (hmax _ hz)
      exact nlt_pre _ _ hpre fun e => hc e.symm
    have := nlt_tr _ _ _ hlt hgt
    rw [nlt_irr] at this
    cases this
end
section
open PyProof.Rows.LCg PySem.W PySem.SeqAt
variable {w : World} {A A₀ : Around} {h₀ h : Heap} {L fa cS cN f0 f1 f2 f3 : Addr} {p : Program} {loose : List Str} {mean : ExcName → Option Value} {mg mb m : Str → Option Value} {mu mr pe pe0 : Lg}
  {G : Array GenState} {D : Drawn} {tk : Nat} {O : OsState} {E : Value → Shared → Prop} {sc : Scope} {ccd : Value} {ns : List Int} {st : Stmt} {dn nn : Nat} {ks : Ts} {σ : LS} {N : Nat} {oN : Obj}
theorem LInv.tr {T' : TR} (x : LInv w pe σ N) (t : TrRel σ.T T') (ok : T'.r.Ok w pe) : LInv w pe ({ σ with T := T' } : LS) N :=
  ⟨ok, t.r.clean, by show NodesOk w pe T'.r.xs; rw [t.r.xs]; exact x.tnd, by show IsNm w pe [1] T'.na; rw [t.na]; exact x.tna, by show T'.r.cs.length ≤ N; rw [t.r.cs]; exact x.tcs, by show T'.r.xs.length ≤ N; rw [t.r.xs]; exact x.txs, x.rok, x.rcl, x.rcs, x.rxs, x.xok, x.sh, x.sml, x.len, x.dps⟩
theorem LInv.tsh (x : LInv w pe σ N) (hk : ∀ z, z ∈ σ.T.r.xs.map (·.1) ↔ z ∈ σ.xp.map (·.1)) : Short (σ.T.r.ks.map (·.1)) := fun k hk' => x.sh k ((hk k).mp (x.tok.same.mem_iff.mp hk'))
theorem LInv.tlen (x : LInv w pe σ N) : σ.T.r.ks.length ≤ N := by
  have h1 := x.tok.same.length_eq
  have h2 := x.txs
  simp only [List.length_map] at h1
  omega
theorem call_node {way : Int} {u : Tok} {k : Nm} {a : Addr} {Q : Value → Shared → Prop} {env : Env} {pre : Lg} (lc : LC w A A₀ h₀ env L p loose mean mg mb pe0 ns cS cN f0 f1 f2 f3) (hpe : pe0 ⊆ pe) (S : SL h₀ L m h (pre ++ (σ.led w ++ mr)) pe) (inv : LInv w pe σ N) (hN : N ≤ 60)
    (hkeys : ∀ z, z ∈ σ.T.r.xs.map (·.1) ↔ z ∈ σ.xp.map (·.1)) (hw : way = 0 ∨ way = 1) (hk : IsNm w pe k a) (hkl : k.length ≤ 1000)
    (q : ∀ T' v pe' h' tk', pe ⊆ pe' → TrRel σ.T T' → NodeRes w pe' (if way = 0 then brn (σ.T.r.xs.map (·.1)) k else (nxt T'.r.ks k).map (·.1)) v → LInv w pe' ({ σ with T := T' } : LS) N → SL h₀ L m h' (pre ++ (({ σ with T := T' } : LS).led w ++ mr)) pe' → Q v ⟨h', G, D, tk', O⟩) :
    wpAny (model PR w) A (call (.ref f3) [.int way u, .ref σ.T.t, .ref a]) Q E ⟨h, G, D, tk, O⟩ := by
  refine wpAny_call ?_
  have hd := lc.hd
  have hu := lc.hu
  have hl := inv.tlen
  refine law_node lc.C lc.b (LS.toT S) (lc.d3.mono hpe) hw inv.tok inv.tnd inv.tcl (inv.tsh hkeys) (by omega) hk hkl lc.hh (by omega) (by omega) fun h₀' T' v pe' h' tk' Tn' _ _ hsub x hv ok' S' => ?_
  exact q T' v pe' h' tk' hsub x hv ((inv.mono hsub).tr x ok') (LS.ofT (SL.untn Tn' S'))
theorem dts_ok (inv : LInv w pe σ N) (f : Nm × Addr → Bool) : TsOk w pe ((dTs σ.xp).filter f) := by
  refine ⟨fun y hy => ?_, fun y hy => ?_, ?_⟩
  · obtain ⟨z, hz, rfl⟩ := List.mem_map.mp (List.mem_filter.mp hy).1
    exact inv.xok.is z hz
  · obtain ⟨z, hz, rfl⟩ := List.mem_map.mp (List.mem_filter.mp hy).1
    exact inv.sh.ne _ (List.mem_map_of_mem hz)
  · have := inv.xok.nd
    rw [← dTs_keys] at this
    exact this.sublist (List.Sublist.map _ List.filter_sublist)
theorem dts_len (inv : LInv w pe σ N) (f : Nm × Addr → Bool) : ((dTs σ.xp).filter f).length ≤ N := by
  have h1 := List.length_filter_le f (dTs σ.xp)
  have h2 : (dTs σ.xp).length = σ.xp.length := by simp [dTs]
  have := inv.len
  omega
theorem dts_mem {xp : Ents} {f : Nm → Bool} {l : Nm} : l ∈ ((dTs xp).filter fun z => f z.1).map (·.1) ↔ l ∈ xp.map (·.1) ∧ f l = true := by
  rw [← dTs_keys (xs := xp)]
  constructor
  · intro h
    obtain ⟨z, hz, rfl⟩ := List.mem_map.mp h
    obtain ⟨h1, h2⟩ := List.mem_filter.mp hz
    exact ⟨List.mem_map_of_mem h1, h2⟩
  · rintro ⟨h, h2⟩
    obtain ⟨z, hz, rfl⟩ := List.mem_map.mp h
    exact List.mem_map_of_mem (List.mem_filter.mpr ⟨hz, h2⟩)
abbrev prf (k l : Nm) : Bool := decide (k.take l.length = l)
theorem begun_is {k : Nm} {ts : Ts} (inv : LInv w pe σ N) (hkeys : ∀ z, z ∈ σ.T.r.xs.map (·.1) ↔ z ∈ σ.xp.map (·.1)) (hp : ts.Perm ((dTs σ.xp).filter fun z => prf k z.1)) (hup : Up (ts.map (·.1))) : brn (σ.T.r.xs.map (·.1)) k = (ts.map (·.1)).getLast? := by
  refine brn_last (fun l hl => inv.sh l ((hkeys l).mp hl)) hup fun l => ?_
  rw [(hp.map (·.1)).mem_iff, dts_mem, ← hkeys l]
  exact and_congr_right fun _ => decide_eq_true_iff
theorem next_is {k : Nm} {ts : Ts} {T' : TR} (inv : LInv w pe σ N) (x : TrRel σ.T T') (hkeys : ∀ z, z ∈ σ.T.r.xs.map (·.1) ↔ z ∈ σ.xp.map (·.1)) (hp : ts.Perm ((dTs σ.xp).filter fun z => nlt k z.1)) (hup : Up (ts.map (·.1))) : (nxt T'.r.ks k).map (·.1) = (ts.map (·.1)).head? := by
  rw [nxt_head x.r.up]
  have e1 : (T'.r.ks.filter fun y => nlt k y.1).map (·.1) = (T'.r.ks.map (·.1)).filter (nlt k) := by rw [List.filter_map]; rfl
  have hu2 : Up ((T'.r.ks.filter fun y => nlt k y.1).map (·.1)) := by
    rw [e1]
    exact x.r.up.filter _
  have hnd : ∀ {l : List Nm}, Up l → l.Nodup := fun {l} h => List.Pairwise.imp (fun {a b} hab e => by rw [e, nlt_irr] at hab; cases hab) h
  have hmem : ∀ l, l ∈ (T'.r.ks.filter fun y => nlt k y.1).map (·.1) ↔ l ∈ ts.map (·.1) := fun l => by
    rw [(hp.map (·.1)).mem_iff, dts_mem, e1, List.mem_filter, (x.r.ks.map (·.1)).mem_iff, inv.tok.same.mem_iff, hkeys l]
  have := up_uniq (perm_of_mem (hnd hu2) (hnd hup) hmem) hu2 hup
  rw [← this]
  cases (T'.r.ks.filter fun y => nlt k y.1) <;> rfl
end
section
open PyProof.Rows.LCg PySem.W PySem.SeqAt
variable {w : World} {A A₀ : Around} {h₀ h : Heap} {L fa cS cN f0 f1 f2 f3 : Addr} {p : Program} {loose : List Str} {mean : ExcName → Option Value} {mg mb m : Str → Option Value} {mu mr pe pe0 : Lg}
  {G : Array GenState} {D : Drawn} {tk : Nat} {O : OsState} {E : Value → Shared → Prop} {sc : Scope} {ccd : Value} {ns : List Int} {st : Stmt} {dn nn : Nat} {ks : Ts} {σ : LS} {N : Nat} {oN : Obj}
theorem last_item {ts : Ts} {v : Value} : ([v] ++ refs ts).toArray[([v] ++ refs ts).toArray.size - 1]? = some (match ts.getLast? with | some z => .ref z.2 | none => v) := by
  rw [List.size_toArray, List.getElem?_toArray, ← List.getLast?_eq_getElem?, List.getLast?_append]
  unfold refs
  rw [List.getLast?_map]
  cases ts.getLast? <;> rfl
theorem first_item {ts : Ts} {v : Value} : (refs ts ++ [v]).toArray[(0 : Nat)]? = some (match ts.head? with | some z => .ref z.2 | none => v) := by
  cases ts <;> rfl
theorem turn9 {t it : Expr} {bd oe : List Stmt} {ps : Pos} {k : Nm} {a : Addr} {pre : Lg} (hst : lawLoop[9]? = some (.For t it bd oe ps)) (hsc : IsScope sc) (lc : LC w A A₀ h₀ (lawEnv sc L fa ccd cN cS) L p loose mean mg mb pe0 ns cS cN f0 f1 f2 f3) (hpe : pe0 ⊆ pe) (S : SL h₀ L m h (pre ++ (σ.led w ++ mr)) pe)
    (hcN : (cN, oN) ∈ pre) (hoN : oN.data = .cell (some (.ref a))) (hk : IsNm w pe k a) (hkl : k.length ≤ 1000) (inv : LInv w pe σ N) (hN : N ≤ 60) (hkeys : ∀ z, z ∈ σ.T.r.xs.map (·.1) ↔ z ∈ σ.xp.map (·.1)) (ln : LN m σ f0 f1 f2 f3) :
    wpAny (model PR w) A (execs bd (lawEnv sc L fa ccd cN cS)) (fun f s' => f = .next ∧ ∃ h' tk' T' m' pe', s' = ⟨h', G, D, tk', O⟩ ∧ pe ⊆ pe' ∧ TrRel σ.T T' ∧ LInv w pe' ({ σ with T := T' } : LS) N ∧ (∀ y : Str, y ≠ "begun" → m' y = m y) ∧
      SL h₀ L m' h' (pre ++ (({ σ with T := T' } : LS).led w ++ mr)) pe') E ⟨h, G, D, tk, O⟩ := by
  replace hst : some (Stmt.For _ _ _ _ _) = some (Stmt.For t it bd oe ps) := hst
  cases hst
  replace hsc : some (Scope.mk _ _ _ _ _) = some sc := hsc
  cases hsc
  have Cm := lc.C
  have hd := lc.hd
  have hu := lc.hu
  have hxl := inv.len
  have hPm : ∀ {σ' : LS}, (σ'.dp, eOb w σ'.xp σ'.np) ∈ pre ++ (σ'.led w ++ mr) := fun {_} => List.mem_append_right _ (List.mem_append_left _ LS.memP)
  walk_at "m"
  walk_at "m"
  walk_at "ms"
  refine callB (mach _) ?_ rfl rfl
  refine spliced_more ?_
  refine' comp_list (h₀ := h₀) (L := L) (m := m) (G := G) (D := D) (O := O) (cl := [("name", cN)]) ?_ ?z1 ?z2 ?z3 ?z4 ?z5 ?z6
  case z1 => rfl
  case z2 => decide
  case z3 => rfl
  case z4 => decide
  case z5 => rfl
  case z6 => intro x; rfl
  refine nmL S ln.plain ?_ rfl rfl (by decide)
  refine it_dict lc.hh S (List.mem_append_left _ hPm) hPm inv.dps fun I h₁ oI St src hst S₁ => ?_
  refine ⟨I, _, _, St, h₁, _, _, pe, oI, fun i y pe' => y = refs (((dTs σ.xp).take i).filter fun z => prf k z.1) ∧ pe ⊆ pe', rfl, rfl, src, hst, S₁, ⟨rfl, fun _ z => z⟩, by omega, ?_, ?_⟩
  · rintro i v y pe' h tk I' C₁ Dd oI' oC m₂ E' hi hP ⟨hJ, hsub⟩ hpe' hns hm₂ S7
    have hP' : (refs (dTs σ.xp))[i]? = some v := by rw [← kvs_refs]; exact hP
    obtain ⟨hi', e'⟩ := refs_get (ts := dTs σ.xp) (i := i) (v := v) (by simpa [itemAt] using hP')
    subst e'
    have hy : (dTs σ.xp)[i] ∈ dTs σ.xp := List.getElem_mem hi'
    have hyI : IsNm w pe' ((dTs σ.xp)[i]).1 ((dTs σ.xp)[i]).2 := by
      obtain ⟨z, hz, e⟩ := List.mem_map.mp hy
      rw [← e]
      exact (inv.xok.is z hz).mono hsub
    have hyl : ((dTs σ.xp)[i]).1.length ≤ 1000 := by
      obtain ⟨z, hz, e⟩ := List.mem_map.mp hy
      rw [← e]
      have := inv.sh z.1 (List.mem_map_of_mem hz)
      show z.1.length ≤ 1000
      omega
    refine wpAny_tests_one ?_
    walk_at "ms"
    refine cnC S7 (c := cN) (o := oN) rfl (List.mem_append_left _ (.tail _ (.tail _ (.tail _ (List.mem_append_left _ hcN))))) hoN ?_ rfl rfl (by decide)
    refine wpAny_Slice ?_
    refine evalPart_none_step ?_
    refine evalPart_some_step ?_
    refine Call_ ?_
    refine' cnB S7 Cm ?e1 ?e2 ?e3 ?_ ?e4 ?e5 ?e6 ?e7 ?e8
    case e1 => k_is
    case e2 => boot_fast
    case e3 => decide
    case e4 => rfl
    case e5 => rfl
    case e6 => rfl
    case e7 => rfl
    case e8 => decide
    refine callB (mach _) ?_ rfl rfl
    refine spliced_more ?_
    refine cnL (S7.get (.tail _ (.head _))) hns hm₂ ?_ rfl rfl (by decide)
    refine spliced_none ?_
    refine name_len S7.pes hyI hyl fun t tk₈ => ?_
    refine evalPart_none_step ?_
    refine nm_upTo S7 (hk.mono hsub) hkl fun b pe2 h8 hsub2 hb S8 => ?_
    rw [take_upTo] at hb
    refine cnL (S8.get (.tail _ (.head _))) hns hm₂ ?_ rfl rfl (by decide)
    refine nm_eq S8.pes hb (hyI.mono hsub2) (by show A.units < 9900; omega) ?_
    walk_at "m"
    have hT : (dTs σ.xp).take (i + 1) = (dTs σ.xp).take i ++ [(dTs σ.xp)[i]] := List.take_succ_eq_append_getElem hi'
    cases hn : prf k ((dTs σ.xp)[i]).1 with
    | true =>
      have hn1 : decide (k.take ((dTs σ.xp)[i]).1.length = ((dTs σ.xp)[i]).1) = true := hn
      rw [hn1, if_pos rfl]
      refine cnL (S8.get (.tail _ (.head _))) hns hm₂ ?_ rfl rfl (by decide)
      refine ⟨_, _, pe2, y ++ [.ref ((dTs σ.xp)[i]).2], rfl, rfl, ⟨?_, fun _ z => hsub2 (hsub z)⟩, hsub2, S8⟩
      rw [hT, List.filter_append, hJ]
      simp [refs, hn]
    | false =>
      have hn1 : decide (k.take ((dTs σ.xp)[i]).1.length = ((dTs σ.xp)[i]).1) = false := hn
      rw [hn1, if_neg (by simp)]
      refine ⟨_, _, pe2, rfl, ⟨?_, fun _ z => hsub2 (hsub z)⟩, hsub2, S8⟩
      rw [hT, List.filter_append, hJ]
      simp [refs, hn]
  · rintro d1 h₂ tk₂ y1 pe1 ⟨hy1, hsub1⟩ _ S₂
    have hdl : (dTs σ.xp).length = σ.xp.length := by simp [dTs]
    rw [← hdl, List.take_length] at hy1
    subst hy1
    refine spliced_none ?_
    have inv1 := inv.mono hsub1
    have hbl := dts_len inv1 fun z => prf k z.1
    refine sorted_list S₂ (.head _) (dts_ok inv1 _) (by omega) fun ts d2 h₃ n2 tk₃ hperm hup S₃ => ?_
    have S₄ := S₃.sub (mu' := (d2, PySem.W.listOf (refs ts).toArray n2) :: (pre ++ (σ.led w ++ mr))) (pe' := pe1) (((List.sublist_cons_self _ _).cons_cons _).append (.refl _))
    refine stL S₄ (fun h₅ S₅' => ?_) rfl rfl
    obtain ⟨m1, em1⟩ : ∃ m1, m1 = updM m "begun" (.ref d2) := ⟨_, rfl⟩
    have S₅ : SL h₀ L m1 h₅ ((d2, PySem.W.listOf (refs ts).toArray n2) :: (pre ++ (σ.led w ++ mr))) pe1 := by rw [em1]; exact S₅'
    clear S₅'
    have s1 : ∀ y : Str, y ≠ "begun" → m1 y = m y := fun y hy => by rw [em1]; exact if_neg hy
    have m1b : m1 "begun" = some (.ref d2) := by rw [em1]; rfl
    have hbr := begun_is inv hkeys hperm hup
    have hpe1 : pe0 ⊆ pe1 := fun _ z => hsub1 (hpe z)
    have htl : ts.length ≤ N := by rw [hperm.length_eq]; exact hbl
    have htI : ∀ z ∈ ts, IsNm w pe1 z.1 z.2 := fun z hz => (dts_ok inv1 _).is z (hperm.mem_iff.mp hz)
    walk_at "m"
    walk_at "m"
    refine isTrue_or ?_
    walk_at "ms"
    refine nmL S₅ ((s1 _ (by decide)).trans ln.node) ?_ rfl rfl (by decide)
    refine callF ((lc.d3.mono hpe1).at S₅) ?_ rfl rfl
    refine spliced_more ?_
    walk_at "m"
    refine spliced_more ?_
    refine nmL S₅ ((s1 _ (by decide)).trans ln.tree) ?_ rfl rfl (by decide)
    refine spliced_more ?_
    refine nmC S₅ (List.mem_append_left _ (.tail _ (List.mem_append_left _ hcN))) hoN ?_ rfl rfl rfl (by decide)
    refine spliced_none ?_
    refine ⟨(lc.d3.mono hpe1).at S₅, ?_⟩
    refine call_node (pre := (d2, PySem.W.listOf (refs ts).toArray n2) :: pre) lc hpe1 S₅ inv1 hN hkeys (.inl rfl) (hk.mono hsub1) hkl fun T1 v1 pe2 h₆ tk₆ hsub2 x1 hv1 inv2 S₆ => ?_
    rw [if_pos rfl, hbr] at hv1
    walk_at "ms"
    refine newListL (by simp) ?_
    have hd2 : (d2, PySem.W.listOf (refs ts).toArray n2) ∈ ((d2, PySem.W.listOf (refs ts).toArray n2) :: pre) ++ (({ σ with T := T1 } : LS).led w ++ mr) := .head _
    have S₇ := S₆.push (PySem.W.listOf #[.str "none" tk₆] 0)
    refine nmL S₇ m1b ?_ rfl rfl (by decide)
    refine addL (vs := [.str "none" tk₆]) (us := refs ts) S₇ ⟨_, S₇.get (.head _), rfl, _, rfl⟩ ⟨_, S₇.get (.tail _ hd2), rfl, _, rfl⟩ (by rw [refs_length, List.length_singleton]; omega) fun d3 h₈ S₈ => ?_
    walk_at "ms"
    refine wpAny_UnaryOp ?_
    refine cInt ?_
    refine PyProof.Rows.neg_int ?_
    refine item_last (items := ([Value.str "none" tk₆] ++ refs ts).toArray) ⟨_, S₈.get (.head _), rfl, _, rfl⟩ last_item ?_
    refine wpAny_mono (Q := fun v s' => v = .bool false ∧ ∃ tk', s' = ⟨h₈, G, D, tk', O⟩) ?_ ?_ fun _ _ e => e
    · rw [List.getLast?_map] at hv1
      cases hgl : ts.getLast? with
      | none =>
        rw [hgl] at hv1
        obtain ⟨u, rfl⟩ := hv1
        refine RcNeAt.str_str _ _ _ _ PR w _ _ ?_
        rw [beq_self_eq_true]
        exact ⟨rfl, _, rfl⟩
      | some z =>
        rw [hgl] at hv1
        obtain ⟨a1, rfl, hna⟩ := hv1
        have hz : z ∈ ts := List.mem_of_getLast? hgl
        refine nm_ne S₈.pes hna ((htI z hz).mono hsub2) (by show A.units < 9900; omega) ?_
        rw [decide_eq_true rfl]
        exact ⟨rfl, _, rfl⟩
    · rintro _ _ ⟨rfl, tk₉, rfl⟩
      walk_at "m"
      rw [if_neg (by simp)]
      have S₉ := S₈.drop1.drop1
      clear S₈ S₇ S₆
      refine isTrue_or ?_
      walk_at "ms"
      obtain ⟨σ1, eσ1⟩ : ∃ σ1 : LS, σ1 = { σ with T := T1 } := ⟨_, rfl⟩
      rw [← eσ1] at S₉ inv2
      have hkeys2 : ∀ z, z ∈ σ1.T.r.xs.map (·.1) ↔ z ∈ σ1.xp.map (·.1) := fun z => by rw [eσ1]; show z ∈ T1.r.xs.map (·.1) ↔ _; rw [x1.r.xs]; exact hkeys z
      have hpe2 : pe0 ⊆ pe2 := fun _ z => hsub2 (hpe1 z)
      have hk2 : IsNm w pe2 k a := (hk.mono hsub1).mono hsub2
      have ln2 : LN m1 σ1 f0 f1 f2 f3 := by
        rw [eσ1]
        exact ⟨(s1 _ (by decide)).trans ln.draw, (s1 _ (by decide)).trans ln.name_of, (s1 _ (by decide)).trans ln.told, (s1 _ (by decide)).trans ln.node, by show _ = some (Value.ref T1.t); rw [x1.t]; exact (s1 _ (by decide)).trans ln.tree, (s1 _ (by decide)).trans ln.table, (s1 _ (by decide)).trans ln.plain⟩
      have hxl2 := inv2.len
      refine nmL S₉ ln2.node ?_ rfl rfl (by decide)
      refine callF ((lc.d3.mono hpe2).at S₉) ?_ rfl rfl
      refine spliced_more ?_
      walk_at "m"
      refine spliced_more ?_
      refine nmL S₉ ln2.tree ?_ rfl rfl (by decide)
      refine spliced_more ?_
      refine nmC S₉ (List.mem_append_left _ (.tail _ (List.mem_append_left _ hcN))) hoN ?_ rfl rfl rfl (by decide)
      refine spliced_none ?_
      refine ⟨(lc.d3.mono hpe2).at S₉, ?_⟩
      refine call_node (pre := (d2, PySem.W.listOf (refs ts).toArray n2) :: pre) lc hpe2 S₉ inv2 hN hkeys2 (.inr rfl) hk2 hkl fun T2 v2 pe3 h10 tk10 hsub3 x2 hv2 inv3 S10 => ?_
      rw [if_neg (by decide)] at hv2
      have S11 : SL h₀ L m1 h10 (pre ++ (({ σ1 with T := T2 } : LS).led w ++ mr)) pe3 := S10.drop1
      clear S10
      obtain ⟨σ2, eσ2⟩ : ∃ σ2 : LS, σ2 = { σ1 with T := T2 } := ⟨_, rfl⟩
      rw [← eσ2] at S11 inv3
      have exp : σ2.xp = σ1.xp := by rw [eσ2]
      have edp : σ2.dp = σ1.dp := by rw [eσ2]
      have hk3 : IsNm w pe3 k a := hk2.mono hsub3
      have hxl3 := inv3.len
      walk_at "ms"
      refine callB (mach _) ?_ rfl rfl
      refine spliced_more ?_
      refine' comp_list (h₀ := h₀) (L := L) (m := m1) (G := G) (D := D) (O := O) (cl := [("name", cN)]) ?_ ?y1 ?y2 ?y3 ?y4 ?y5 ?y6
      case y1 => rfl
      case y2 => decide
      case y3 => rfl
      case y4 => decide
      case y5 => rfl
      case y6 => intro x; rfl
      refine nmL S11 (ln2.plain.trans (by rw [← edp])) ?_ rfl rfl (by decide)
      refine it_dict lc.hh S11 (List.mem_append_left _ hPm) hPm inv3.dps fun I h12 oI St src hst S12 => ?_
      refine ⟨I, _, _, St, h12, _, _, pe3, oI, fun i y pe' => y = refs (((dTs σ2.xp).take i).filter fun z => nlt k z.1) ∧ pe' = pe3, rfl, rfl, src, hst, S12, ⟨rfl, rfl⟩, by omega, ?_, ?_⟩
      · rintro i v y pe' h tk I' C₁ Dd oI' oC m₂ E' hi hP ⟨hJ, rfl⟩ hpe' hns hm₂ S13
        have hP' : (refs (dTs σ2.xp))[i]? = some v := by rw [← kvs_refs]; exact hP
        obtain ⟨hi', e'⟩ := refs_get (ts := dTs σ2.xp) (i := i) (v := v) (by simpa [itemAt] using hP')
        subst e'
        have hy : (dTs σ2.xp)[i] ∈ dTs σ2.xp := List.getElem_mem hi'
        have hyI : IsNm w pe' ((dTs σ2.xp)[i]).1 ((dTs σ2.xp)[i]).2 := by
          obtain ⟨z, hz, e⟩ := List.mem_map.mp hy
          rw [← e]
          exact inv3.xok.is z hz
        refine wpAny_tests_one ?_
        walk_at "ms"
        refine cnL (S13.get (.tail _ (.head _))) hns hm₂ ?_ rfl rfl (by decide)
        refine cnC S13 (c := cN) (o := oN) rfl (List.mem_append_left _ (.tail _ (.tail _ (.tail _ (List.mem_append_left _ hcN))))) hoN ?_ rfl rfl (by decide)
        refine nm_gt (by show A.units < 9900; omega) S13.pes hyI hk3 ?_
        walk_at "m"
        have hT : (dTs σ2.xp).take (i + 1) = (dTs σ2.xp).take i ++ [(dTs σ2.xp)[i]] := List.take_succ_eq_append_getElem hi'
        cases hn : ngt ((dTs σ2.xp)[i]).1 k with
        | true =>
          rw [if_pos rfl]
          refine cnL (S13.get (.tail _ (.head _))) hns hm₂ ?_ rfl rfl (by decide)
          refine ⟨h, _, pe', y ++ [.ref ((dTs σ2.xp)[i]).2], rfl, rfl, ⟨?_, rfl⟩, fun _ z => z, S13⟩
          have hn' : nlt k ((dTs σ2.xp)[i]).1 = true := hn
          rw [hT, List.filter_append, hJ]
          simp [refs, hn']
        | false =>
          rw [if_neg (by simp)]
          refine ⟨h, _, pe', rfl, ⟨?_, rfl⟩, fun _ z => z, S13⟩
          have hn' : nlt k ((dTs σ2.xp)[i]).1 = false := hn
          rw [hT, List.filter_append, hJ]
          simp [refs, hn']
      · rintro d5 h14 tk14 y2 pe' ⟨hy2, rfl⟩ _ S14
        have hdl2 : (dTs σ2.xp).length = σ2.xp.length := by simp [dTs]
        rw [← hdl2, List.take_length] at hy2
        subst hy2
        refine spliced_none ?_
        have hgl2 := dts_len inv3 fun z => nlt k z.1
        refine sorted_list S14 (.head _) (dts_ok inv3 _) (by omega) fun ts2 d6 h15 n6 tk15 hperm2 hup2 S15 => ?_
        have hnx := next_is (k := k) (ts := ts2) inv2 x2 hkeys2 (by rw [← exp]; exact hperm2) hup2
        rw [hnx] at hv2
        have htl2 : ts2.length ≤ N := by rw [hperm2.length_eq]; exact hgl2
        have htI2 : ∀ z ∈ ts2, IsNm w pe' z.1 z.2 := fun z hz => (dts_ok inv3 _).is z (hperm2.mem_iff.mp hz)
        walk_at "ms"
        refine newListL (by simp) ?_
        have S16 := S15.push (PySem.W.listOf #[.str "none" tk15] 0)
        refine addL (vs := refs ts2) (us := [.str "none" tk15]) S16 ⟨_, S16.get (.tail _ (.head _)), rfl, _, rfl⟩ ⟨_, S16.get (.head _), rfl, _, rfl⟩ (by rw [refs_length, List.length_singleton]; omega) fun d7 h17 S17 => ?_
        walk_at "ms"
        refine item_listA (items := (refs ts2 ++ [Value.str "none" tk15]).toArray) ⟨_, S17.get (.head _), rfl, _, rfl⟩ (by decide) (by decide) first_item ?_
        refine wpAny_mono (Q := fun v s' => v = .bool false ∧ ∃ tk', s' = ⟨h17, G, D, tk', O⟩) ?_ ?_ fun _ _ e => e
        · rw [List.head?_map] at hv2
          cases hgl : ts2.head? with
          | none =>
            rw [hgl] at hv2
            obtain ⟨u, rfl⟩ := hv2
            refine RcNeAt.str_str _ _ _ _ PR w _ _ ?_
            rw [beq_self_eq_true]
            exact ⟨rfl, _, rfl⟩
          | some z =>
            rw [hgl] at hv2
            obtain ⟨a1, rfl, hna⟩ := hv2
            have hz : z ∈ ts2 := List.mem_of_head? hgl
            refine nm_ne S17.pes hna (htI2 z hz) (by show A.units < 9900; omega) ?_
            rw [decide_eq_true rfl]
            exact ⟨rfl, _, rfl⟩
        · rintro _ _ ⟨rfl, tk18, rfl⟩
          walk_at "m"
          rw [if_neg (by simp)]
          refine isTrue_or_nil ?_
          rw [if_neg (by simp)]
          walk_at "ms"
          have S18 := S17.drop1.drop1.drop1.drop1
          have e2 : σ2 = { σ with T := T2 } := by rw [eσ2, eσ1]
          rw [e2] at S18 inv3
          have x1' : TrRel σ.T σ1.T := by rw [eσ1]; exact x1
          exact ⟨rfl, h17, _, T2, m1, pe', rfl, fun _ z => hsub3 (hsub2 (hsub1 z)), ⟨x2.t.trans x1'.t, x2.na.trans x1'.na, x2.cnt.trans x1'.cnt, x1'.r.trans x2.r⟩, inv3, s1, S18⟩
end
section
open PyProof.Rows.LCg PySem.W PySem.SeqAt
variable {w : World} {A A₀ : Around} {h₀ h : Heap} {L fa cS cN f0 f1 f2 f3 : Addr} {p : Program} {loose : List Str} {mean : ExcName → Option Value} {mg mb m : Str → Option Value} {mu mr pe pe0 : Lg}
  {G : Array GenState} {D : Drawn} {tk : Nat} {O : OsState} {E : Value → Shared → Prop} {sc : Scope} {ccd : Value} {ns : List Int} {st : Stmt} {dn nn : Nat} {ks : Ts} {σ : LS} {N : Nat} {oN : Obj}
theorem st9 {x : Int} {ux : Tok} {y : Nm × Addr} {kr : Ts} {v0 : Option Value} (hE : PassesOwn (model PR w) A (lawEnv sc L fa ccd cN cS) E) (hst : lawLoop[9]? = some st) (hsc : IsScope sc) (lc : LC w A A₀ h₀ (lawEnv sc L fa ccd cN cS) L p loose mean mg mb pe0 ns cS cN f0 f1 f2 f3) (hpe : pe0 ⊆ pe) (S : SL h₀ L m h ((cN, oN) :: (dn, PySem.W.listOf (refs ks).toArray nn) :: (σ.led w ++ mr)) pe) (hoN : oN.data = .cell v0)
    (inv : LInv w pe σ N) (hN : N ≤ 60) (hkeys : ∀ z, z ∈ σ.T.r.xs.map (·.1) ↔ z ∈ σ.xp.map (·.1)) (hm3 : m "drawn" = some (.int x ux)) (hm4 : m "names" = some (.ref dn)) (ln : LN m σ f0 f1 f2 f3) (hks : ∀ y ∈ ks, NmOk w pe y) (ek : ks = y :: kr) (hkl : ks.length ≤ 2) :
    wpAny (model PR w) A (exec st (lawEnv sc L fa ccd cN cS)) (fun f s' => f = .next ∧ ∃ h' tk' T' oN' v0' m' pe', s' = ⟨h', G, D, tk', O⟩ ∧ oN'.data = .cell v0' ∧ pe ⊆ pe' ∧ LInv w pe' ({ σ with T := T' } : LS) N ∧ T'.t = σ.T.t ∧ T'.cnt = σ.T.cnt ∧ T'.r.xs = σ.T.r.xs ∧ (∀ y : Str, y ≠ "begun" → m' y = m y) ∧
      SL h₀ L m' h' ((cN, oN') :: (dn, PySem.W.listOf (refs ks).toArray nn) :: (({ σ with T := T' } : LS).led w ++ mr)) pe') E ⟨h, G, D, tk, O⟩ := by
  obtain ⟨t, it, bd, oe, ps, e⟩ : ∃ t it bd oe ps, st = Stmt.For t it bd oe ps := by
    replace hst : some (Stmt.For _ _ _ _ _) = some st := hst
    cases hst
    exact ⟨_, _, _, _, _, rfl⟩
  subst e
  have hst2 := hst
  have hsc2 := hsc
  replace hst : some (Stmt.For _ _ _ _ _) = some (Stmt.For t it bd oe ps) := hst
  cases hst
  replace hsc : some (Scope.mk _ _ _ _ _) = some sc := hsc
  cases hsc
  have Cm := lc.C
  have hd := lc.hd
  have hu := lc.hu
  have hsz : (refs ks).toArray.size ≤ 2 := by rw [List.size_toArray, refs_length]; omega
  have item0 : (refs ks).toArray[0]? = some (.ref y.2) := by rw [ek]; rfl
  have hy := hks y (by rw [ek]; exact .head _)
  have hyl : y.1.length ≤ 3 := by have := hy.sh; have := hy.sh; omega
  have hdnm : ∀ {pre : Lg}, (dn, PySem.W.listOf (refs ks).toArray nn) ∈ pre ++ ((cN, oN) :: (dn, PySem.W.listOf (refs ks).toArray nn) :: (σ.led w ++ mr)) := fun {_} => List.mem_append_right _ (.tail _ (.head _))
  refine' for_loop (h₀ := h₀) (G := G) (D := D) (O := O) ?_ (fun _ => rfl) hE
  walk_at "ms"
  refine nmL S hm4 ?_ rfl rfl (by decide)
  walk_at "ms"
  refine nmL S hm4 ?_ rfl rfl (by decide)
  walk_at "ms"
  refine item_listA (items := (refs ks).toArray) ⟨_, S.get (hdnm (pre := [])), rfl, _, rfl⟩ (by omega) (by omega) (x := .ref y.2) item0 ?_
  walk_at "ms"
  refine nmL S hm3 ?_ rfl rfl (by decide)
  walk_at "ms"
  refine mod_int' (b := 3) (by decide) ?_
  walk_at "ms"
  refine newTupleL (by simp) ?_
  obtain ⟨u3, S₁⟩ : ∃ u3, SL h₀ L m _ ((cN, oN) :: (dn, PySem.W.listOf (refs ks).toArray nn) :: (σ.led w ++ mr)) ((h.objs.size, tupO [Value.int (x.fmod 3) u3] 0) :: pe) := ⟨_, (S.push (tupO [Value.int (x.fmod 3) _] 0)).toPe⟩
  have hs1 : pe ⊆ (h.objs.size, tupO [Value.int (x.fmod 3) u3] 0) :: pe := fun _ z => .tail _ z
  refine nm_add (l := [x.fmod 3]) S₁ (hy.is.mono hs1) ⟨_, 0, .head _, ints_items (ints_snoc .nil (x.fmod 3) u3)⟩ (by rw [List.length_singleton]; omega) fun c1 pe2 h₂ hs2 hc1 S₂ => ?_
  walk_at "ms"
  refine nmL S₂ hm4 ?_ rfl rfl (by decide)
  walk_at "ms"
  refine item_listA (items := (refs ks).toArray) ⟨_, S₂.get (hdnm (pre := [])), rfl, _, rfl⟩ (by omega) (by omega) (x := .ref y.2) item0 ?_
  refine wpAny_Slice ?_
  refine evalPart_none_step ?_
  refine evalPart_some_step ?_
  refine wpAny_UnaryOp ?_
  refine cInt ?_
  refine PyProof.Rows.neg_int ?_
  refine evalPart_none_step ?_
  refine nm_upTo S₂ ((hy.is.mono hs1).mono hs2) (by omega) fun c2 pe3 h₃ hs3 hc2 S₃ => ?_
  walk_at "ms"
  refine newListL (by simp) ?_
  have S₄ := S₃.push (PySem.W.listOf #[.ref c1, .ref c2] 0)
  obtain ⟨qs, eqs⟩ : ∃ qs : Ts, qs = ks ++ [(y.1 ++ [x.fmod 3], c1), (y.1.take (upTo (-1) y.1.length), c2)] := ⟨_, rfl⟩
  refine addL (vs := refs ks) (us := [.ref c1, .ref c2]) S₄ ⟨_, S₄.get (hdnm (pre := [_])), rfl, _, rfl⟩ ⟨_, S₄.get (.head _), rfl, _, rfl⟩ (by rw [refs_length]; simp; omega) fun d2 h₅ S₅ => ?_
  have erq : refs ks ++ [Value.ref c1, Value.ref c2] = refs qs := by rw [eqs]; simp [refs]
  rw [erq] at S₅
  have hs13 : pe ⊆ pe3 := fun _ z => hs3 (hs2 (hs1 z))
  have S₆ := S₅.sub (mu' := (d2, PySem.W.listOf (refs qs).toArray 0) :: ((cN, oN) :: (dn, PySem.W.listOf (refs ks).toArray nn) :: (σ.led w ++ mr))) (pe' := pe3) (((List.sublist_cons_self _ _).cons_cons _).append (.refl _))
  have hqs : ∀ q ∈ qs, IsNm w pe3 q.1 q.2 ∧ q.1.length ≤ 1000 := fun q hq => by
    rw [eqs] at hq
    rcases List.mem_append.mp hq with hq | hq
    · have h1 := hks q hq
      have h2 := h1.sh
      exact ⟨h1.is.mono hs13, by omega⟩
    · rcases List.mem_cons.mp hq with rfl | hq
      · exact ⟨hc1.mono hs3, by show (y.1 ++ [x.fmod 3]).length ≤ 1000; rw [List.length_append, List.length_singleton]; omega⟩
      · rw [List.mem_singleton.mp hq]
        exact ⟨hc2, by show (y.1.take _).length ≤ 1000; rw [List.length_take]; omega⟩
  refine it_list (l := [(d2, PySem.W.listOf (refs qs).toArray 0)]) lc.hh S₆ (.head _) (.head _) fun I h₇ oI St src hst0 S₇ => ?_
  refine ⟨I, _, _, St, h₇, _, _, pe3, _, oI, m, fun i m' mu' pe' => pe3 ⊆ pe' ∧ ∃ (T' : TR) (oN' : Obj) (v0' : Option Value), mu' = (d2, PySem.W.listOf (refs qs).toArray 0) :: ((cN, oN') :: (dn, PySem.W.listOf (refs ks).toArray nn) :: (({ σ with T := T' } : LS).led w ++ mr)) ∧ oN'.data = .cell v0' ∧ LInv w pe' ({ σ with T := T' } : LS) N ∧ T'.t = σ.T.t ∧ T'.cnt = σ.T.cnt ∧ T'.r.xs = σ.T.r.xs ∧ (∀ y : Str, y ≠ "begun" → m' y = m y),
    rfl, rfl, src, hst0, S₇, ?_, ?_, ?_, ?_⟩
  · exact ⟨fun _ z => z, σ.T, oN, v0, rfl, hoN, inv.mono hs13, rfl, rfl, rfl, fun _ _ => rfl⟩
  · rintro i m' mu' pe' ⟨_, T', oN', v0', rfl, _⟩ q hq
    rw [List.mem_singleton.mp hq]
    exact .head _
  · rintro i v m' mu' pe' h tk oI' hi hP' ⟨hsub, T', oN', v0', rfl, hoN', inv', et, ec, ex, hsame⟩ S₈
    obtain ⟨hi', e'⟩ := refs_get hP'
    subst e'
    obtain ⟨hqI, hql⟩ := hqs _ (List.getElem_mem hi')
    have e1 : ∀ (q : Addr × Obj), ([(I, oI'), (d2, PySem.W.listOf (refs qs).toArray 0)] ++ (q :: ((dn, PySem.W.listOf (refs ks).toArray nn) :: (({ σ with T := T' } : LS).led w ++ mr)))).Perm (q :: ([(I, oI'), (d2, PySem.W.listOf (refs qs).toArray 0)] ++ ((dn, PySem.W.listOf (refs ks).toArray nn) :: (({ σ with T := T' } : LS).led w ++ mr)))) := fun q => List.perm_middle
    refine wpAny_assign_Name (stC (S₈.perm (e1 _)) rfl hoN' (fun h₉ oN3 hoN3 S₉' => ?_) rfl rfl)
    have S₉ := S₉'.perm (e1 _).symm
    clear S₉' S₈
    have ln' : LN m' ({ σ with T := T' } : LS) f0 f1 f2 f3 := ⟨(hsame _ (by decide)).trans ln.draw, (hsame _ (by decide)).trans ln.name_of, (hsame _ (by decide)).trans ln.told, (hsame _ (by decide)).trans ln.node, by show _ = some (Value.ref T'.t); rw [et]; exact (hsame _ (by decide)).trans ln.tree, (hsame _ (by decide)).trans ln.table, (hsame _ (by decide)).trans ln.plain⟩
    refine wpAny_mono (turn9 (σ := { σ with T := T' }) (pre := [(I, oI'), (d2, PySem.W.listOf (refs qs).toArray 0), (cN, oN3), (dn, PySem.W.listOf (refs ks).toArray nn)]) (hst2) (rfl) lc (fun _ z => hsub (hs13 (hpe z))) S₉ (.tail _ (.tail _ (.head _))) hoN3 (hqI.mono hsub) hql inv' hN (fun z => by show z ∈ T'.r.xs.map (·.1) ↔ _; rw [ex]; exact hkeys z) ln') ?_ fun _ _ e => e
    rintro f _ ⟨rfl, h10, tk10, T2, m2, pe2', rfl, hsub2, x2, inv2, hsame2, S10⟩
    exact ⟨h10, _, m2, _, pe2', rfl, ⟨fun _ z => hsub2 (hsub z), T2, oN3, _, rfl, hoN3, inv2, x2.t.trans et, x2.cnt.trans ec, x2.r.xs.trans ex, fun y hy => (hsame2 y hy).trans (hsame y hy)⟩, S10⟩
  · rintro m' mu' pe' h tk ⟨hsub, T', oN', v0', rfl, hoN', inv', et, ec, ex, hsame⟩ S₈
    exact ⟨rfl, h, _, T', oN', v0', m', pe', rfl, hoN', fun _ z => hsub (hs13 z), inv', et, ec, ex, hsame, S₈.drop1⟩
end
section
open PyProof.Rows.LCg PySem.W PySem.SeqAt
variable {w : World} {A A₀ : Around} {h₀ h : Heap} {L fa cS cN f0 f1 f2 f3 : Addr} {p : Program} {loose : List Str} {mean : ExcName → Option Value} {mg mb m : Str → Option Value} {mu mr pe pe0 : Lg}
  {G : Array GenState} {D : Drawn} {tk : Nat} {O : OsState} {E : Value → Shared → Prop} {sc : Scope} {ccd : Value} {ns : List Int} {st : Stmt} {σ : LS} {N k : Nat} {oN : Obj}
structure LTop (w : World) (pe : Lg) (m : Str → Option Value) (σ : LS) (k : Nat) (f0 f1 f2 f3 : Addr) : Prop where
  inv : LInv w pe σ (7 * k)
  cnt : σ.T.cnt = (k : Int)
  keys : ∀ z, z ∈ σ.T.r.xs.map (·.1) ↔ z ∈ σ.xp.map (·.1)
  tw : Twin σ.r.xs σ.xp
  vi : VI σ.xp
  ln : LN m σ f0 f1 f2 f3
theorem LN.to {m m' : Str → Option Value} {σ : LS} (x : LN m σ f0 f1 f2 f3) (h : ∀ y : Str, y ∈ (["draw", "name_of", "told", "node_name", "tree", "table", "plain"] : List Str) → m' y = m y) : LN m' σ f0 f1 f2 f3 :=
  ⟨(h _ (by simp)).trans x.draw, (h _ (by simp)).trans x.name_of, (h _ (by simp)).trans x.told, (h _ (by simp)).trans x.node, (h _ (by simp)).trans x.tree, (h _ (by simp)).trans x.table, (h _ (by simp)).trans x.plain⟩
theorem law_turn {u : Tok} {v0 : Option Value} (hE : PassesOwn (model PR w) (A₀.deeper (lawEnv sc L fa ccd cN cS)) (lawEnv sc L fa ccd cN cS) E) (hE2 : ∀ e, PassesOwnAt (model PR w) ((A₀.deeper (lawEnv sc L fa ccd cN cS)).mark (some (.ref e))) (A₀.deeper (lawEnv sc L fa ccd cN cS)) (lawEnv sc L fa ccd cN cS) E)
    (hsc : IsScope sc) (lc : LC w (A₀.deeper (lawEnv sc L fa ccd cN cS)) A₀ h₀ (lawEnv sc L fa ccd cN cS) L p loose mean mg mb pe0 ns cS cN f0 f1 f2 f3) (hpe : pe0 ⊆ pe) (S : SL h₀ L m h ((cN, oN) :: (σ.led w ++ mr)) pe) (hoN : oN.data = .cell v0)
    (tp : LTop w pe m σ k f0 f1 f2 f3) (hk8 : k < 8) (hmk : m "k" = some (.int k u)) :
    wpAny (model PR w) (A₀.deeper (lawEnv sc L fa ccd cN cS)) (execs lawLoop (lawEnv sc L fa ccd cN cS)) (fun f s' => f = .next ∧ ∃ h' tk' σ' oN' v0' m' pe', s' = ⟨h', G, D, tk', O⟩ ∧ oN'.data = .cell v0' ∧ pe ⊆ pe' ∧ LTop w pe' m' σ' (k + 1) f0 f1 f2 f3 ∧
      SL h₀ L m' h' ((cN, oN') :: (σ'.led w ++ mr)) pe') E ⟨h, G, D, tk, O⟩ := by
  obtain ⟨a0, a1, a2, a3, a4, a5, a6, a7, a8, a9, a10, e⟩ : ∃ a0 a1 a2 a3 a4 a5 a6 a7 a8 a9 a10, lawLoop = [a0, a1, a2, a3, a4, a5, a6, a7, a8, a9, a10] := ⟨_, _, _, _, _, _, _, _, _, _, _, rfl⟩
  have i0 : lawLoop[0]? = some a0 := by rw [e]; rfl
  have i1 : lawLoop[1]? = some a1 := by rw [e]; rfl
  have i2 : lawLoop[2]? = some a2 := by rw [e]; rfl
  have i3 : lawLoop[3]? = some a3 := by rw [e]; rfl
  have i4 : lawLoop[4]? = some a4 := by rw [e]; rfl
  have i5 : lawLoop[5]? = some a5 := by rw [e]; rfl
  have i6 : lawLoop[6]? = some a6 := by rw [e]; rfl
  have i7 : lawLoop[7]? = some a7 := by rw [e]; rfl
  have i8 : lawLoop[8]? = some a8 := by rw [e]; rfl
  have i9 : lawLoop[9]? = some a9 := by rw [e]; rfl
  have i10 : lawLoop[10]? = some a10 := by rw [e]; rfl
  rw [e]
  have hN : 7 * k ≤ 49 := by omega
  refine mid (st0 i0 hsc lc hpe S tp.ln.draw hmk hk8) ?_
  rintro _ ⟨h0, tk0, u1, u2, rfl, S0⟩
  obtain ⟨de, ede⟩ : ∃ de, de = (lnum ns (1 + 2 * k)).fmod 9 := ⟨_, rfl⟩
  obtain ⟨x, ex⟩ : ∃ x, x = lnum ns (2 + 2 * k) := ⟨_, rfl⟩
  rw [← ede, ← ex] at S0
  obtain ⟨m0, em0⟩ : ∃ m0, m0 = updM (updM m "drawn" (.int x u2)) "deed" (.int de u1) := ⟨_, rfl⟩
  rw [← em0] at S0
  have m0d : m0 "deed" = some (.int de u1) := by rw [em0]; rfl
  have m0x : m0 "drawn" = some (.int x u2) := by rw [em0]; rfl
  have m0k : m0 "k" = some (.int k u) := by rw [em0]; exact hmk
  have ln0 : LN m0 σ f0 f1 f2 f3 := by rw [em0]; exact (tp.ln.upd rfl).upd rfl
  refine mid (st1 i1 hsc lc hpe S0 ln0.name_of m0x) ?_
  rintro _ ⟨h1, tk1, dn, nn, ks0, pe1, rfl, hs1, ek0, hki0, S1⟩
  obtain ⟨m1, em1⟩ : ∃ m1, m1 = updM m0 "names" (.ref dn) := ⟨_, rfl⟩
  rw [← em1] at S1
  have m1d : m1 "deed" = some (.int de u1) := by rw [em1]; exact m0d
  have m1x : m1 "drawn" = some (.int x u2) := by rw [em1]; exact m0x
  have m1k : m1 "k" = some (.int k u) := by rw [em1]; exact m0k
  have m1n : m1 "names" = some (.ref dn) := by rw [em1]; rfl
  have ln1 : LN m1 σ f0 f1 f2 f3 := by rw [em1]; exact ln0.upd rfl
  have hks0 : ∀ y ∈ ks0, NmOk w pe1 y := fun y hy => by
    have := nmsOf_ok (x := x) (k := y.1) (by rw [← ek0]; exact List.mem_map_of_mem hy)
    exact ⟨hki0 y hy, this.1, this.2⟩
  have hkl0 : 1 ≤ ks0.length ∧ ks0.length ≤ 2 := by
    have h1 := congrArg List.length ek0
    rw [List.length_map, nmsOf_len] at h1
    have := ncnt_le x
    omega
  refine mid (st2 i2 hsc lc S1) ?_
  rintro _ ⟨h2, tk2, rfl, S2⟩
  obtain ⟨m2, em2⟩ : ∃ m2, m2 = updM (updM m1 "refused" (.bool false)) "due" (.bool false) := ⟨_, rfl⟩
  rw [← em2] at S2
  have m2d : m2 "deed" = some (.int de u1) := by rw [em2]; exact m1d
  have m2x : m2 "drawn" = some (.int x u2) := by rw [em2]; exact m1x
  have m2k : m2 "k" = some (.int k u) := by rw [em2]; exact m1k
  have m2n : m2 "names" = some (.ref dn) := by rw [em2]; exact m1n
  have m2r : m2 "refused" = some (.bool false) := by rw [em2]; rfl
  have m2u : m2 "due" = some (.bool false) := by rw [em2]; rfl
  have ln2 : LN m2 σ f0 f1 f2 f3 := by rw [em2]; exact (ln1.upd rfl).upd rfl
  have inv1 := tp.inv.mono hs1
  have S2' := S2.perm (mu' := (dn, PySem.W.listOf (refs ks0).toArray nn) :: (σ.led w ++ ((cN, oN) :: mr))) (List.Perm.cons _ List.perm_middle.symm)
  refine mid (st3 i3 hsc lc S2' inv1 (by omega) m2d ln2.plain m2x m2n hks0 hkl0) ?_
  rintro _ ⟨h3, tk3, ks, rfl, elen, hks, S3'⟩
  have hkl : 1 ≤ ks.length ∧ ks.length ≤ 2 := by omega
  have S3 : SL h₀ L m2 h3 ((cN, oN) :: (dn, PySem.W.listOf (refs ks).toArray nn) :: (σ.led w ++ mr)) pe1 := S3'.perm ((List.Perm.cons _ List.perm_middle).trans (List.Perm.swap _ _ _))
  refine mid (st4 hE i4 hsc lc S3 hoN inv1 (by omega) tp.tw tp.vi m2d m2x m2n m2u ln2 hks hkl) ?_
  rintro _ ⟨h4, tk4, σ4, oN4, m4, v4, rfl, hoN4, inv4, eT4, er4, tw4, vi4, hk4, hdue4, hsame4, ln4, S4⟩
  have m4d : m4 "deed" = some (.int de u1) := (hsame4 _ (by decide)).trans m2d
  have m4x : m4 "drawn" = some (.int x u2) := (hsame4 _ (by decide)).trans m2x
  have m4k : m4 "k" = some (.int k u) := (hsame4 _ (by decide)).trans m2k
  have m4n : m4 "names" = some (.ref dn) := (hsame4 _ (by decide)).trans m2n
  have m4r : m4 "refused" = some (.bool false) := (hsame4 _ (by decide)).trans m2r
  refine mid (st5 hE2 i5 hsc lc S4 inv4 (by omega) m4d m4n m4r ln4 hks hkl) ?_
  rintro _ ⟨h5, tk5, T5, b, m5, pe5, rfl, tr, href, hsame5, S5⟩
  have hs5 := tr.sub
  have inv5 := inv4.res tr
  obtain ⟨σ5, eσ5⟩ : ∃ σ5 : LS, σ5 = { σ4 with T := T5 } := ⟨_, rfl⟩
  rw [← eσ5] at S5 inv5
  have m5d : m5 "deed" = some (.int de u1) := (hsame5 _ (by decide)).trans m4d
  have m5x : m5 "drawn" = some (.int x u2) := (hsame5 _ (by decide)).trans m4x
  have m5k : m5 "k" = some (.int k u) := (hsame5 _ (by decide)).trans m4k
  have m5n : m5 "names" = some (.ref dn) := (hsame5 _ (by decide)).trans m4n
  have hag := adv_congr (decide (de < 5)) (ks.map (·.1)) tp.keys
  have htr := tr.adv
  rw [eT4] at htr
  rw [htr] at hag
  have hkeys5 : ∀ z, z ∈ σ5.T.r.xs.map (·.1) ↔ z ∈ σ5.xp.map (·.1) := fun z => by
    rw [eσ5]
    show z ∈ T5.r.xs.map (·.1) ↔ z ∈ σ4.xp.map (·.1)
    rw [hk4]
    exact hag.1 z
  have m5u : m5 "due" = some (.bool b) := by
    have := (hsame5 "due" (by decide)).trans hdue4
    rw [← hag.2] at this
    exact this
  have ln5 : LN m5 σ5 f0 f1 f2 f3 := by
    rw [eσ5]
    exact ⟨(hsame5 _ (by decide)).trans ln4.draw, (hsame5 _ (by decide)).trans ln4.name_of, (hsame5 _ (by decide)).trans ln4.told, (hsame5 _ (by decide)).trans ln4.node, by show _ = some (Value.ref T5.t); rw [tr.t]; exact (hsame5 _ (by decide)).trans ln4.tree, (hsame5 _ (by decide)).trans ln4.table, (hsame5 _ (by decide)).trans ln4.plain⟩
  have hcnt5 : σ5.T.cnt = (k : Int) + 1 := by
    rw [eσ5]
    show T5.cnt = _
    rw [tr.cnt, eT4, tp.cnt]
  have tw5 : 5 ≤ de ∨ Twin σ5.r.xs σ5.xp := by rw [eσ5]; exact tw4
  have vi5 : VI σ5.xp := by rw [eσ5]; exact vi4
  refine mid (st6 i6 hsc lc (pre := [(cN, oN4), (dn, PySem.W.listOf (refs ks).toArray nn)]) S5 href m5u m5k hk8 hcnt5 ln5) ?_
  rintro _ ⟨tk6, rfl⟩
  refine mid (st7 hE i7 hsc lc (pre := [(cN, oN4), (dn, PySem.W.listOf (refs ks).toArray nn)]) S5 inv5 (by omega) vi5 tw5 m5d ln5) ?_
  rintro _ ⟨h7, tk7, r7, m7, rfl, inv7, tw7, hsame7, ln7, S7⟩
  obtain ⟨σ7, eσ7⟩ : ∃ σ7 : LS, σ7 = { σ5 with r := r7 } := ⟨_, rfl⟩
  rw [← eσ7] at S7 inv7 ln7
  have m7x : m7 "drawn" = some (.int x u2) := (hsame7 _ (by decide) (by decide)).trans m5x
  have m7n : m7 "names" = some (.ref dn) := (hsame7 _ (by decide) (by decide)).trans m5n
  obtain ⟨y, kr, ek⟩ : ∃ y kr, ks = y :: kr := by
    cases ks with
    | nil => simp at hkl
    | cons a b => exact ⟨a, b, rfl⟩
  have hks5 : ∀ y ∈ ks, NmOk w pe5 y := fun y hy => (hks y hy).mono hs5
  have hy5 := hks5 y (by rw [ek]; exact .head _)
  have tw7' : Twin σ7.r.xs σ7.xp := by rw [eσ7]; exact tw7
  have vi7 : VI σ7.xp := by rw [eσ7]; exact vi5
  refine mid (st8 i8 hsc lc S7 inv7 (by omega) vi7 tw7' m7x m7n ln7 hy5 ek hkl.2) ?_
  rintro _ ⟨h8, tk8, σ8, rfl, inv8, eT8, er8, tw8, vi8, hk8', ln8, S8⟩
  have hkeys8 : ∀ z, z ∈ σ8.T.r.xs.map (·.1) ↔ z ∈ σ8.xp.map (·.1) := fun z => by
    rw [eT8, hk8' z, eσ7]
    exact hkeys5 z
  have hpe5 : pe0 ⊆ pe5 := fun _ z => hs5 (hs1 (hpe z))
  refine mid (st9 hE i9 hsc lc hpe5 S8 hoN4 inv8 (by omega) hkeys8 m7x m7n ln8 hks5 ek hkl.2) ?_
  rintro _ ⟨h9, tk9, T9, oN9, v9, m9, pe9, rfl, hoN9, hs9, inv9, et9, ec9, ex9, hsame9, S9⟩
  obtain ⟨σ9, eσ9⟩ : ∃ σ9 : LS, σ9 = { σ8 with T := T9 } := ⟨_, rfl⟩
  rw [← eσ9] at S9 inv9
  have ln9 : LN m9 σ9 f0 f1 f2 f3 := by
    rw [eσ9]
    exact ⟨(hsame9 _ (by decide)).trans ln8.draw, (hsame9 _ (by decide)).trans ln8.name_of, (hsame9 _ (by decide)).trans ln8.told, (hsame9 _ (by decide)).trans ln8.node, by show _ = some (Value.ref T9.t); rw [et9]; exact (hsame9 _ (by decide)).trans ln8.tree, (hsame9 _ (by decide)).trans ln8.table, (hsame9 _ (by decide)).trans ln8.plain⟩
  have tw9 : Twin σ9.r.xs σ9.xp := by rw [eσ9]; exact tw8
  refine mid (st10 hE i10 hsc lc (fun _ z => hs9 (hpe5 z)) S9 inv9 (by omega) tw9 ((hsame9 _ (by decide)).trans m7x) ((hsame9 _ (by decide)).trans m7n) ln9 (hy5.mono hs9) ek hkl.2) ?_
  rintro _ ⟨h10, tk10, r10, m10, pe10, rfl, hs10, inv10, et10, ex10, hsame10, S10⟩
  refine wpAny_execs_nil ⟨rfl, h10, tk10, { σ9 with r := r10 }, oN9, v9, m10, pe10, rfl, hoN9, fun _ z => hs10 (hs9 (hs5 (hs1 z))), ⟨?_, ?_, ?_, ?_, ?_, ?_⟩, ?_⟩
  · exact inv10.le (by omega)
  · show σ9.T.cnt = _
    rw [eσ9]
    show T9.cnt = _
    rw [ec9, eT8, eσ7]
    show σ5.T.cnt = _
    rw [hcnt5]
    omega
  · intro z
    show z ∈ σ9.T.r.xs.map (·.1) ↔ z ∈ σ9.xp.map (·.1)
    rw [eσ9]
    show z ∈ T9.r.xs.map (·.1) ↔ z ∈ σ8.xp.map (·.1)
    rw [ex9]
    exact hkeys8 z
  · show Twin r10.xs σ9.xp
    rw [ex10]
    exact tw9
  · show VI σ9.xp
    rw [eσ9]
    exact vi8
  · exact ⟨(hsame10 _ (by decide)).trans ln9.draw, (hsame10 _ (by decide)).trans ln9.name_of, (hsame10 _ (by decide)).trans ln9.told, (hsame10 _ (by decide)).trans ln9.node, (hsame10 _ (by decide)).trans ln9.tree, by show _ = some (Value.ref r10.t); rw [et10]; exact (hsame10 _ (by decide)).trans ln9.table, (hsame10 _ (by decide)).trans ln9.plain⟩
  · exact S10.sub (((List.sublist_cons_self _ _).cons_cons _).append (.refl _))
end
section
open PyProof.Rows.LCg PySem.W PySem.SeqAt
variable {w : World} {A A₀ : Around} {h₀ h : Heap} {L fa cS cN f0 f1 f2 f3 : Addr} {p : Program} {loose : List Str} {mean : ExcName → Option Value} {mg mb m : Str → Option Value} {mu mr pe pe0 : Lg}
  {G : Array GenState} {D : Drawn} {tk : Nat} {O : OsState} {E : Value → Shared → Prop} {sc : Scope} {ccd : Value} {ns : List Int} {st : Stmt} {σ : LS} {N k : Nat} {oN : Obj}
theorem LTop.upd {y : Str} {v : Value} (x : LTop w pe m σ k f0 f1 f2 f3) (hy : (["draw", "name_of", "told", "node_name", "tree", "table", "plain"] : List Str).contains y = false) : LTop w pe (updM m y v) σ k f0 f1 f2 f3 :=
  ⟨x.inv, x.cnt, x.keys, x.tw, x.vi, x.ln.upd hy⟩
theorem law_deeds {v0 : Option Value} (hE : PassesOwn (model PR w) (A₀.deeper (lawEnv sc L fa ccd cN cS)) (lawEnv sc L fa ccd cN cS) E) (hE2 : ∀ e, PassesOwnAt (model PR w) ((A₀.deeper (lawEnv sc L fa ccd cN cS)).mark (some (.ref e))) (A₀.deeper (lawEnv sc L fa ccd cN cS)) (lawEnv sc L fa ccd cN cS) E)
    (hst : lawBody[5]? = some st) (hsc : IsScope sc) (lc : LC w (A₀.deeper (lawEnv sc L fa ccd cN cS)) A₀ h₀ (lawEnv sc L fa ccd cN cS) L p loose mean mg mb pe0 ns cS cN f0 f1 f2 f3) (hpe : pe0 ⊆ pe) (S : SL h₀ L m h ((cN, oN) :: (σ.led w ++ mr)) pe) (hoN : oN.data = .cell v0)
    (tp : LTop w pe m σ 0 f0 f1 f2 f3) :
    wpAny (model PR w) (A₀.deeper (lawEnv sc L fa ccd cN cS)) (exec st (lawEnv sc L fa ccd cN cS)) (fun f s' => f = .next ∧ ∃ h' tk' σ' oN' v0' m' pe' n, s' = ⟨h', G, D, tk', O⟩ ∧ oN'.data = .cell v0' ∧ pe ⊆ pe' ∧ n ≤ 8 ∧ LTop w pe' m' σ' n f0 f1 f2 f3 ∧
      SL h₀ L m' h' ((cN, oN') :: (σ'.led w ++ mr)) pe') E ⟨h, G, D, tk, O⟩ := by
  replace hst : some (Stmt.For _ _ _ _ _) = some st := hst
  cases hst
  have hsc2 := hsc
  replace hsc : some (Scope.mk _ _ _ _ _) = some sc := hsc
  cases hsc
  have Cm := lc.C
  have hd := lc.hd
  have hu := lc.hu
  refine' for_loop (h₀ := h₀) (G := G) (D := D) (O := O) ?_ (fun _ => rfl) hE
  walk_at "ms"
  refine callB (machT _) ?_ rfl rfl
  walk_at "ms"
  refine nmL S tp.ln.draw ?_ rfl rfl (by decide)
  refine callF ((lc.d0.mono hpe).at S) ?_ rfl rfl
  walk_at "ms"
  refine ⟨(lc.d0.mono hpe).at S, ?_⟩
  refine call_draw (j := 0) (G := G) (D := D) (O := O) lc hpe S (by omega) fun u1 h₁ tk₁ S₁ => ?_
  walk_at "ms"
  refine mod_int' (b := 8) (by decide) ?_
  refine add_int ?_
  walk_at "ms"
  have h8 := fm (x := lnum ns 0) (c := 8) (by omega)
  obtain ⟨n, en⟩ : ∃ n : Nat, 1 + (lnum ns 0).fmod 8 = (n : Int) := ⟨(1 + (lnum ns 0).fmod 8).toNat, by omega⟩
  rw [en]
  have hn8 : 1 ≤ n ∧ n ≤ 8 := by omega
  refine call_range_1 ?_
  have hsm : Builtin.Range.small 0 (n : Int) 1 = true := by
    have : n = 1 ∨ n = 2 ∨ n = 3 ∨ n = 4 ∨ n = 5 ∨ n = 6 ∨ n = 7 ∨ n = 8 := by omega
    rcases this with e | e | e | e | e | e | e | e <;> rw [e] <;> decide
  have hrs : Builtin.Range.rangeSize 0 (n : Int) 1 = ((n : Nat) : Int) := by
    have : n = 1 ∨ n = 2 ∨ n = 3 ∨ n = 4 ∨ n = 5 ∨ n = 6 ∨ n = 7 ∨ n = 8 := by omega
    rcases this with e | e | e | e | e | e | e | e <;> rw [e] <;> decide
  refine it_range (n := n) (l := []) lc.hh (S₁.push _) ((S₁.push _).get (.head _)) hsm hrs fun I h₂ oI St src hst0 S₂ => ?_
  have S₃ := S₂.sub (mu' := (I, oI) :: (cN, oN) :: (σ.led w ++ mr)) (pe' := pe) (((List.sublist_cons_self _ _).cons_cons _).append (.refl _))
  refine ⟨I, _, _, St, h₂, _, _, pe, _, oI, m, fun i m' mu' pe' => pe ⊆ pe' ∧ ∃ σ' oN' v0', mu' = (cN, oN') :: (σ'.led w ++ mr) ∧ oN'.data = .cell v0' ∧ LTop w pe' m' σ' i f0 f1 f2 f3, rfl, rfl, src, hst0, S₃, ?_, ?_, ?_, ?_⟩
  · exact ⟨fun _ z => z, σ, oN, v0, rfl, hoN, tp⟩
  · rintro i m' mu' pe' _ q hq
    exact nomatch hq
  · rintro i v m' mu' pe' h tk oI' hi ⟨tv, hP'⟩ ⟨hsub, σ', oN', v0', rfl, hoN', tp'⟩ S₄
    have ei : (0 : Int) + (i : Nat) = ((i : Nat) : Int) := by omega
    rw [ei] at hP'
    subst hP'
    refine wpAny_assign_Name (stL S₄ (fun h₅ S₅ => ?_) rfl rfl)
    have S₆ : SL h₀ L (updM m' "k" (.int (i : Nat) tv)) h₅ ((cN, oN') :: (σ'.led w ++ ((I, oI') :: mr))) pe' := S₅.perm ((List.Perm.swap _ _ _).trans (List.Perm.cons _ List.perm_middle.symm))
    refine wpAny_mono (law_turn (u := tv) (k := i) hE hE2 hsc2 lc (fun _ z => hsub (hpe z)) S₆ hoN' (tp'.upd rfl) (by omega) rfl) ?_ fun _ _ e => e
    rintro f _ ⟨rfl, h6, tk6, σ6, oN6, v6, m6, pe6, rfl, hoN6, hs6, tp6, S7⟩
    exact ⟨h6, _, m6, _, pe6, rfl, ⟨fun _ z => hs6 (hsub z), σ6, oN6, v6, rfl, hoN6, tp6⟩, S7.perm ((List.Perm.cons _ List.perm_middle).trans (List.Perm.swap _ _ _))⟩
  · rintro m' mu' pe' h tk ⟨hsub, σ', oN', v0', rfl, hoN', tp'⟩ S₄
    exact ⟨rfl, h, _, σ', oN', v0', m', pe', n, rfl, hoN', hsub, hn8.2, tp', S₄⟩
end
section
open PyProof.Rows.LCg PySem.W PySem.SeqAt
variable {w : World} {A A₀ : Around} {h₀ h : Heap} {L fa cS cN f0 f1 f2 f3 : Addr} {p : Program} {loose : List Str} {mean : ExcName → Option Value} {mg mb m : Str → Option Value} {mu mr pe pe0 : Lg}
  {G : Array GenState} {D : Drawn} {tk : Nat} {O : OsState} {E : Value → Shared → Prop} {sc : Scope} {ccd : Value} {ns : List Int} {st : Stmt} {N k : Nat} {oN : Obj} {r : OR}
theorem fin1 (hst : lawBody[6]? = some st) (hsc : IsScope sc) (lc : LC w A A₀ h₀ (lawEnv sc L fa ccd cN cS) L p loose mean mg mb pe0 ns cS cN f0 f1 f2 f3) (S : SL h₀ L m h (r.led w ++ mr) pe) (ok : r.Ok w pe) (hz : r.xs.length < 1000) (hm : m "table" = some (.ref r.t)) :
    wpAny (model PR w) A (exec st (lawEnv sc L fa ccd cN cS)) (fun f s' => f = .next ∧ ∃ h' tk' r', s' = ⟨h', G, D, tk', O⟩ ∧ ClrRel r r' ∧ r'.Ok w pe ∧ SL h₀ L m h' (r'.led w ++ mr) pe) E ⟨h, G, D, tk, O⟩ := by
  replace hst : some (Stmt.Expr _ _) = some st := hst
  cases hst
  replace hsc : some (Scope.mk _ _ _ _ _) = some sc := hsc
  cases hsc
  have Cm := lc.C
  have hd := lc.hd
  have hu := lc.hu
  walk_at "ms"
  refine nmL S hm ?_ rfl rfl (by decide)
  refine odMeth (S.X Cm) (OR.inst S) (by k_is) (by k_is) (odF_no rfl rfl rfl rfl) ?_
  refine callK0 (by k_is) (S.X Cm) ?_
  refine wpAny_call ?_
  refine sd_clear Cm S ok hz (by omega) (by omega) fun r' h₁ tk₁ x ok' S₁ => ?_
  exact ⟨rfl, h₁, _, r', rfl, x, ok', S₁⟩
theorem fin2 (hst : lawBody[7]? = some st) (hsc : IsScope sc) (lc : LC w A A₀ h₀ (lawEnv sc L fa ccd cN cS) L p loose mean mg mb pe0 ns cS cN f0 f1 f2 f3) (S : SL h₀ L m h (r.led w ++ mr) pe) (ok : r.Ok w pe) (exs : r.xs = []) (eks : r.ks = []) (eb : r.b = true) (hm : m "table" = some (.ref r.t)) :
    wpAny (model PR w) A (exec st (lawEnv sc L fa ccd cN cS)) (fun f s' => f = .next ∧ ∃ h' tk' r' pe', s' = ⟨h', G, D, tk', O⟩ ∧ pe ⊆ pe' ∧ OrdRel r r' ∧ r'.Ok w pe' ∧ SL h₀ L m h' (r'.led w ++ mr) pe') E ⟨h, G, D, tk, O⟩ := by
  replace hst : some (Stmt.If _ _ _ _) = some st := hst
  cases hst
  replace hsc : some (Scope.mk _ _ _ _ _) = some sc := hsc
  cases hsc
  have Cm := lc.C
  have hd := lc.hd
  have hu := lc.hu
  have cl : Clean r := fun z => by rw [eb] at z; cases z
  walk_at "m"
  refine isTrue_or ?_
  walk_at "ms"
  refine nmL S hm ?_ rfl rfl (by decide)
  refine odMeth (S.X Cm) (OR.inst S) (by k_is) (by k_is) (odF_no rfl rfl rfl rfl) ?_
  refine callK0 (by k_is) (S.X Cm) ?_
  refine wpAny_call ?_
  refine sd_keys Cm S ok cl (by rw [eks]; exact fun _ z => nomatch z) (by rw [eks]; decide) lc.hh (by omega) (by omega) fun r1 d1 n1 h₁ tk₁ x1 ok1 S₁ => ?_
  have ek1 : r1.ks = [] := by
    have := x1.ks.length_eq
    rw [eks] at this
    exact List.length_eq_zero_iff.mp this
  rw [ek1] at S₁
  walk_at "ms"
  refine newListL (by simp) ?_
  have S₂ := S₁.push (PySem.W.listOf #[] 0)
  refine lists_ne_same (items := #[]) (items2 := #[]) ⟨_, S₂.get (.tail _ (.head _)), rfl, _, rfl⟩ ⟨_, S₂.get (.head _), rfl, _, rfl⟩ rfl (by show A.units < 9900; omega) (fun j h1 => by simp at h1) ?_
  walk_at "m"
  rw [if_neg (by simp)]
  have S₃ := S₂.drop1.drop1
  have hm1 : m "table" = some (.ref r1.t) := by rw [x1.t]; exact hm
  refine isTrue_or ?_
  walk_at "ms"
  refine nmL S₃ hm1 ?_ rfl rfl (by decide)
  refine odMeth (S₃.X Cm) (OR.inst S₃) (by k_is) (by k_is) (odF_no rfl rfl rfl rfl) ?_
  refine callK0 (by k_is) (S₃.X Cm) ?_
  refine wpAny_call ?_
  refine sd_lens Cm S₃ ok1 x1.clean (by rw [ek1]; exact fun _ z => nomatch z) (by rw [ek1]; decide) lc.hh (by omega) (by omega) fun r2 tok ls h₄ tk₄ x2 eln ok2 S₄ => ?_
  have ek2 : r2.ks = [] := by
    have := x2.ks.length_eq
    rw [ek1] at this
    exact List.length_eq_zero_iff.mp this
  have elv : r2.lv = [] := by
    have := x2.lv
    rw [ek2] at this
    exact List.length_eq_zero_iff.mp this.length
  have hls : (ls, PySem.W.listOf (#[] : Array Value) r2.nl) ∈ r2.led w ++ mr := by
    refine List.mem_append_left _ ?_
    unfold OR.led OR.lens
    rw [eln, elv]
    simp
  walk_at "ms"
  refine newListL (by simp) ?_
  have S₅ := S₄.push (PySem.W.listOf #[] 0)
  refine lists_ne_same (items := #[]) (items2 := #[]) ⟨_, S₅.get (.tail _ hls), rfl, _, rfl⟩ ⟨_, S₅.get (.head _), rfl, _, rfl⟩ rfl (by show A.units < 9900; omega) (fun j h1 => by simp at h1) ?_
  walk_at "m"
  rw [if_neg (by simp)]
  have S₆ := S₅.drop1
  have hm2 : m "table" = some (.ref r2.t) := by rw [x2.t]; exact hm1
  have ex2 : r2.xs = [] := by rw [x2.xs, x1.xs, exs]
  refine isTrue_or ?_
  walk_at "ms"
  refine callB (mach _) ?_ rfl rfl
  refine spliced_more ?_
  refine nmL S₆ hm2 ?_ rfl rfl (by decide)
  refine spliced_none ?_
  refine od_len (OR.odAt S₆ (S₆.X Cm) ok2.x ok2.st) (by rw [ex2]; decide) ?_
  walk_at "ms"
  refine ne_int ?_
  walk_at "m"
  rw [ex2, if_neg (by simp)]
  refine isTrue_or ?_
  walk_at "ms"
  refine callK0 (by k_is) (S₆.X Cm) ?_
  refine od_create Cm S₆ (by omega) (by omega) fun r0 h₇ tk₇ exs0 eks0 ecs0 eb0 ok0 S₇ => ?_
  refine odMeth (S₇.X Cm) (OR.inst S₇) (by k_is) (by k_is) (odF_no rfl rfl rfl rfl) ?_
  refine callK0 (by k_is) (S₇.X Cm) ?_
  refine wpAny_call ?_
  refine sd_items Cm S₇ ok0 (fun z => by rw [eb0] at z; cases z) (by rw [eks0]; exact fun _ z => nomatch z) (by rw [eks0]; decide) lc.hh (by omega) (by omega) fun r3 d3 n3 vs nw h₈ tk₈ x3 ok3 hv S₈ => ?_
  have ek3 : r3.ks = [] := by
    have := x3.ks.length_eq
    rw [eks0] at this
    exact List.length_eq_zero_iff.mp this
  have evs : vs = [] := by
    have := hv.1
    rw [ek3] at this
    exact List.length_eq_zero_iff.mp this
  rw [evs] at S₈
  walk_at "ms"
  refine newListL (by simp) ?_
  have S₉ := S₈.push (PySem.W.listOf #[] 0)
  refine lists_ne_same (items := #[]) (items2 := #[]) ⟨_, S₉.get (.tail _ (.head _)), rfl, _, rfl⟩ ⟨_, S₉.get (.head _), rfl, _, rfl⟩ rfl (by show A.units < 9900; omega) (fun j h1 => by simp at h1) ?_
  walk_at "m"
  rw [if_neg (by simp)]
  refine isTrue_or_nil ?_
  rw [if_neg (by simp)]
  walk_at "ms"
  have S10 := S₉.drop1.drop1.sub (mu' := r2.led w ++ mr) (pe' := nw ++ pe) ((List.sublist_append_right _ _).append (.refl _))
  exact ⟨rfl, _, _, r2, nw ++ pe, rfl, fun _ z => List.mem_append_right _ z, x1.trans x2, ok2.mono fun _ z => List.mem_append_right _ z, S10⟩
end
section
open PyProof.Rows.LCg PySem.W PySem.SeqAt
variable {w : World} {A A₀ : Around} {h₀ h : Heap} {L fa cS cN f0 f1 f2 f3 : Addr} {p : Program} {loose : List Str} {mean : ExcName → Option Value} {mg mb m : Str → Option Value} {mu mr pe pe0 : Lg}
  {G : Array GenState} {D : Drawn} {tk : Nat} {O : OsState} {E : Value → Shared → Prop} {sc : Scope} {ccd : Value} {ns : List Int} {st : Stmt} {N k : Nat} {oN : Obj} {r : OR} {xs : Ents}
theorem newNm {k : Nm} {vs : List Value} {Q : Value → Shared → Prop} (hi : IntsAre vs k) (S : SL h₀ L m h mu pe) (hz : k.length ≤ 1000) (q : ∀ a pe' h', pe ⊆ pe' → IsNm w pe' k a → SL h₀ L m h' mu pe' → Q (.ref a) ⟨h', G, D, tk, O⟩) : wpAny (model PR w) A (newTuple vs) Q E ⟨h, G, D, tk, O⟩ :=
  newTupleL (by rw [hi.length]; exact hz) (q _ _ _ (fun _ z => .tail _ z) ⟨vs, 0, .head _, ints_items hi⟩ (S.push (tupO vs 0)).toPe)
def LenV (xs : Ents) : Prop := ∀ k p, atKey xs k = some p → ∃ t, p.2 = Value.int (k.length : Nat) t
theorem LenV.nil : LenV [] := fun _ _ h => by simp [atKey] at h
theorem LenV.put {k : Nm} {a : Addr} {t : Tok} (x : LenV xs) : LenV (storedH xs k a (.int (k.length : Nat) t)) := by
  intro l q hq
  by_cases e : l = k
  · subst e
    obtain ⟨c, hc⟩ := stored_at_same (xs := xs) (k := l) (a := a) (v := .int (l.length : Nat) t)
    rw [hc] at hq
    cases hq
    exact ⟨t, rfl⟩
  · have h1 := stored_at_other (xs := xs) (k := k) (a := a) (v := .int (k.length : Nat) t) e
    rw [hq] at h1
    obtain ⟨p', hp', e1⟩ := Option.map_eq_some_iff.mp h1.symm
    obtain ⟨t', e2⟩ := x l p' hp'
    exact ⟨t', e1.symm.trans e2⟩
theorem LenV.twin {xp : Ents} (x : LenV xs) (y : LenV xp) (hk : ∀ z, z ∈ xs.map (·.1) ↔ z ∈ xp.map (·.1)) : Twin xs xp :=
  ⟨hk, fun k p q hp hq => by
    obtain ⟨t, e⟩ := x k p hp
    obtain ⟨u, e'⟩ := y k q hq
    exact ⟨_, t, u, e, e'⟩⟩
def lastNs (ns : List Int) : List Nm := [[10], [2, (lnum ns 2).fmod 9], [2]]
theorem fin3 {v0 : Option Value} (hE : PassesOwn (model PR w) A (lawEnv sc L fa ccd cN cS) E) (hst : lawBody[8]? = some st) (hsc : IsScope sc) (lc : LC w A A₀ h₀ (lawEnv sc L fa ccd cN cS) L p loose mean mg mb pe0 ns cS cN f0 f1 f2 f3) (hpe : pe0 ⊆ pe) (S : SL h₀ L m h (r.led w ++ ((cN, oN) :: mr)) pe) (hoN : oN.data = .cell v0)
    (ok : r.Ok w pe) (cl : Clean r) (exs : r.xs = []) (hcs : r.cs.length ≤ 100) (hm : m "table" = some (.ref r.t)) (hmd : m "draw" = some (.ref f0)) :
    wpAny (model PR w) A (exec st (lawEnv sc L fa ccd cN cS)) (fun f s' => f = .next ∧ ∃ h' tk' r' oN' pe' m', s' = ⟨h', G, D, tk', O⟩ ∧ pe ⊆ pe' ∧ r'.t = r.t ∧ r'.Ok w pe' ∧ Clean r' ∧ LenV r'.xs ∧ (∀ z, z ∈ r'.xs.map (·.1) ↔ z ∈ lastNs ns) ∧ m' = m ∧
      SL h₀ L m' h' (r'.led w ++ ((cN, oN') :: mr)) pe') E ⟨h, G, D, tk, O⟩ := by
  replace hst : some (Stmt.For _ _ _ _ _) = some st := hst
  cases hst
  replace hsc : some (Scope.mk _ _ _ _ _) = some sc := hsc
  cases hsc
  have Cm := lc.C
  have hd := lc.hd
  have hu := lc.hu
  refine' for_loop (h₀ := h₀) (G := G) (D := D) (O := O) ?_ (fun _ => rfl) hE
  walk_at "ms"
  refine newNm (k := [10]) (ints_snoc .nil 10 _) S (by decide) fun b1 pe1 h₁ hs1 hb1 S₁ => ?_
  have hpe1 : pe0 ⊆ pe1 := fun _ z => hs1 (hpe z)
  walk_at "ms"
  refine nmL S₁ hmd ?_ rfl rfl (by decide)
  refine callF ((lc.d0.mono hpe1).at S₁) ?_ rfl rfl
  walk_at "ms"
  refine ⟨(lc.d0.mono hpe1).at S₁, ?_⟩
  refine call_draw (j := 2) (G := G) (D := D) (O := O) lc hpe1 S₁ (by omega) fun u2 h₂ tk₂ S₂ => ?_
  walk_at "ms"
  refine mod_int' (b := 9) (by decide) ?_
  walk_at "ms"
  refine newNm (k := [2, (lnum ns 2).fmod 9]) (ints_snoc (ints_snoc .nil 2 _) _ _) S₂ (by simp) fun b2 pe2 h₃ hs2 hb2 S₃ => ?_
  walk_at "ms"
  refine newNm (k := [2]) (ints_snoc .nil 2 _) S₃ (by decide) fun b3 pe3 h₄ hs3 hb3 S₄ => ?_
  walk_at "ms"
  refine newListL (by simp) ?_
  have S₅ := S₄.push (PySem.W.listOf #[.ref b1, .ref b2, .ref b3] 0)
  obtain ⟨d4, ed4⟩ : ∃ d4, d4 = h₄.objs.size := ⟨_, rfl⟩
  rw [← ed4] at S₅ ⊢
  obtain ⟨qs, eqs⟩ : ∃ qs : Ts, qs = [([10], b1), ([2, (lnum ns 2).fmod 9], b2), ([2], b3)] := ⟨_, rfl⟩
  have erq : (#[.ref b1, .ref b2, .ref b3] : Array Value) = (refs qs).toArray := by rw [eqs]; rfl
  rw [erq] at S₅ ⊢
  have hql : qs.length = 3 := by rw [eqs]; rfl
  have hqk : qs.map (·.1) = lastNs ns := by rw [eqs]; rfl
  have hs13 : pe ⊆ pe3 := fun _ z => hs3 (hs2 (hs1 z))
  have hqs : ∀ q ∈ qs, IsNm w pe3 q.1 q.2 ∧ q.1.length ≤ 1000 := fun q hq => by
    rw [eqs] at hq
    rcases List.mem_cons.mp hq with rfl | hq
    · exact ⟨(hb1.mono hs2).mono hs3, by simp⟩
    · rcases List.mem_cons.mp hq with rfl | hq
      · exact ⟨hb2.mono hs3, by simp⟩
      · rw [List.mem_singleton.mp hq]
        exact ⟨hb3, by simp⟩
  clear S S₁ S₂ S₃ S₄
  refine it_list (l := [(d4, PySem.W.listOf (refs qs).toArray 0)]) lc.hh S₅ (.head _) (.head _) fun I h₇ oI St src hst0 S₇ => ?_
  refine ⟨I, _, _, St, h₇, _, _, pe3, _, oI, m, fun i m' mu' pe' => m' = m ∧ pe' = pe3 ∧ ∃ (r' : OR) (oN' : Obj) (v0' : Option Value), mu' = (d4, PySem.W.listOf (refs qs).toArray 0) :: (r'.led w ++ ((cN, oN') :: mr)) ∧ oN'.data = .cell v0' ∧ r'.t = r.t ∧ r'.Ok w pe3 ∧ Clean r' ∧ LenV r'.xs ∧ r'.xs.length ≤ i ∧ r'.cs.length ≤ 100 + i ∧ (∀ z, z ∈ r'.xs.map (·.1) ↔ z ∈ (qs.take i).map (·.1)),
    rfl, rfl, src, hst0, S₇, ?_, ?_, ?_, ?_⟩
  · exact ⟨rfl, rfl, r, oN, v0, rfl, hoN, rfl, ok.mono hs13, cl, by rw [exs]; exact LenV.nil, by rw [exs]; exact Nat.zero_le _, by omega, fun z => by rw [exs]; exact Iff.rfl⟩
  · rintro i m' mu' pe' ⟨_, _, r', oN', v0', rfl, _⟩ q hq
    rw [List.mem_singleton.mp hq]
    exact .head _
  · rintro i v m' mu' pe' h tk oI' hi hP' ⟨rfl, rfl, r', oN', v0', rfl, hoN', et, ok', cl', hlv, hxs, hcs, hkeys⟩ S₈
    obtain ⟨hi', e'⟩ := refs_get hP'
    subst e'
    obtain ⟨hqI, hql'⟩ := hqs _ (List.getElem_mem hi')
    have e1 : ∀ (q : Addr × Obj), ((I, oI') :: (d4, PySem.W.listOf (refs qs).toArray 0) :: (r'.led w ++ (q :: mr))).Perm (q :: ((I, oI') :: (d4, PySem.W.listOf (refs qs).toArray 0) :: (r'.led w ++ mr))) := fun q =>
      ((List.Perm.cons _ ((List.Perm.cons _ List.perm_middle).trans (List.Perm.swap _ _ _))).trans (List.Perm.swap _ _ _))
    refine wpAny_assign_Name (stC (S₈.perm (e1 _)) rfl hoN' (fun h₉ oN3 hoN3 S₉' => ?_) rfl rfl)
    have S₉ := S₉'.perm (e1 _).symm
    clear S₉' S₈
    have hcN : (cN, oN3) ∈ ((I, oI') :: (d4, PySem.W.listOf (refs qs).toArray 0) :: (r'.led w ++ ((cN, oN3) :: mr))) ++ pe' := List.mem_append_left _ (.tail _ (.tail _ (List.mem_append_right _ (.head _))))
    walk_at "m"
    refine wpAny_Assign_Subscript ?_
    walk_at "ms"
    refine callB (mach _) ?_ rfl rfl
    refine spliced_more ?_
    refine nmC S₉ hcN hoN3 ?_ rfl rfl rfl (by decide)
    refine spliced_none ?_
    refine name_len S₉.pes hqI hql' fun t tk₉ => ?_
    refine nmL S₉ hm ?_ rfl rfl (by decide)
    refine nmC S₉ hcN hoN3 ?_ rfl rfl rfl (by decide)
    have S10 : SL h₀ L m' h₉ (r'.led w ++ ([(I, oI'), (d4, PySem.W.listOf (refs qs).toArray 0)] ++ ((cN, oN3) :: mr))) pe' := S₉.perm (List.perm_append_comm_assoc [(I, oI'), (d4, PySem.W.listOf (refs qs).toArray 0)] (r'.led w) _)
    rw [← et]
    refine od_setItem (OR.odAt S10 (S10.X Cm) ok'.x ok'.st) (wpAny_call ?_)
    refine oid_setitem Cm S10 ok' hqI (by omega) (by omega) (by omega) (by omega) fun r8 h10 tk10 x8 ok8 S11 => ?_
    walk_at "ms"
    have S12 := S11.perm (List.perm_append_comm_assoc [(I, oI'), (d4, PySem.W.listOf (refs qs).toArray 0)] (r8.led w) ((cN, oN3) :: mr)).symm
    have hle := x8.lens
    refine ⟨h10, _, m', _, pe', rfl, ⟨rfl, rfl, r8, oN3, _, rfl, hoN3, x8.t, ok8, x8.clean cl', by rw [x8.xs]; exact hlv.put, by omega, by omega, fun x => ?_⟩, S12⟩
    rw [x8.xs, stored_mem, hkeys, List.take_succ_eq_append_getElem hi', List.map_append]
    simp
  · rintro m' mu' pe' h tk ⟨rfl, rfl, r', oN', v0', rfl, hoN', et, ok', cl', hlv, hxs, hcs, hkeys⟩ S₈
    have ez : (refs qs).toArray.size = qs.length := by rw [List.size_toArray, refs_length]
    rw [ez, List.take_length, hqk] at hkeys
    walk_at "ms"
    exact ⟨rfl, h, _, r', oN', pe', m', rfl, hs13, et, ok', cl', hlv, hkeys, rfl, S₈.drop1⟩
end
section
open PyProof.Rows.LCg PySem.W PySem.SeqAt
variable {w : World} {A A₀ : Around} {h₀ h : Heap} {L fa cS cN f0 f1 f2 f3 : Addr} {p : Program} {loose : List Str} {mean : ExcName → Option Value} {mg mb m : Str → Option Value} {mu mr pe pe0 : Lg}
  {G : Array GenState} {D : Drawn} {tk : Nat} {O : OsState} {E : Value → Shared → Prop} {sc : Scope} {ccd : Value} {ns : List Int} {st : Stmt} {N k : Nat} {oN : Obj} {r : OR} {xs : Ents}
theorem store_cons {d a : Addr} {k : Nm} {v : Value} {vs : List (Value × Value)} {n : Nat} {Q : PUnit → Shared → Prop} (hu : A.units < 9900) (S : SL h₀ L m h ((d, eOb w xs n) :: mu) pe) (x : EntOk w pe xs) (hk : IsNm w pe k a) (hz : xs.length ≤ 1000)
    (q : ∀ n' h' tk', SL h₀ L m h' ((d, eOb w (storedH xs k a v) n') :: mu) pe → wpAny (model PR w) A (storeAll d vs) Q E ⟨h', G, D, tk', O⟩) : wpAny (model PR w) A (storeAll d ((.ref a, v) :: vs)) Q E ⟨h, G, D, tk, O⟩ := by
  unfold storeAll
  rw [List.forIn_cons]
  exact wpAny_bind (wpAny_bind (dset hu S.pes hk (S.get (.head _)) x hz fun tk' n' h' sb hg => wpAny_pure (q n' h' tk' (S.set .head sb hg))))
theorem store_nil {d : Addr} {s : Shared} {Q : PUnit → Shared → Prop} (q : Q PUnit.unit s) : wpAny (model PR w) A (storeAll d []) Q E s := by
  unfold storeAll
  rw [List.forIn_nil]
  exact wpAny_pure q
def lawDict : Expr := match (lawBody[9]? : Option Stmt) with
  | some (.Return (some (.Call _ [_, _, _, d] _ _)) _) => d
  | _ => .Constant .none 0 default
theorem fin4D {eD : Expr} {Q : Value → Shared → Prop} (hD : lawDict = eD) (hsc : IsScope sc) (lc : LC w A A₀ h₀ (lawEnv sc L fa ccd cN cS) L p loose mean mg mb pe0 ns cS cN f0 f1 f2 f3) (hpe : pe0 ⊆ pe) (S : SL h₀ L m h mu pe) (hmd : m "draw" = some (.ref f0))
    (q : ∀ d xp np pe' h' tk', pe ⊆ pe' → (d == sysModules) = false → EntOk w pe' xp → LenV xp → (∀ z, z ∈ xp.map (·.1) ↔ z ∈ lastNs ns) → SL h₀ L m h' ((d, eOb w xp np) :: mu) pe' → Q (.ref d) ⟨h', G, D, tk', O⟩) :
    wpAny (model PR w) A (eval eD (lawEnv sc L fa ccd cN cS)) Q E ⟨h, G, D, tk, O⟩ := by
  replace hD : Expr.Dict _ _ _ = eD := hD
  cases hD
  replace hsc : some (Scope.mk _ _ _ _ _) = some sc := hsc
  cases hsc
  have Cm := lc.C
  have hd := lc.hd
  have hu := lc.hu
  refine wpAny_Dict_any ?_ ?_ ?_ ?_ ?_
  · rfl
  · rfl
  · simp
  · decide
  have S₃ := S.push (eOb w [] 0)
  have hds : (h.objs.size == sysModules) = false := notSys (S.X Cm) (Nat.le_refl _)
  refine pairTrees_cons_walk ?_
  walk_at "ms"
  refine newNm (k := [10]) (ints_snoc .nil 10 _) S₃ (by decide) fun b1 pe2 h₄ hs2 hb1 S₄ => ?_
  walk_at "ms"
  refine pairTrees_cons_walk ?_
  walk_at "ms"
  refine nmL S₄ hmd ?_ rfl rfl (by decide)
  have hpe2 : pe0 ⊆ pe2 := fun _ z => hs2 (hpe z)
  refine callF ((lc.d0.mono hpe2).at S₄) ?_ rfl rfl
  walk_at "ms"
  refine ⟨(lc.d0.mono hpe2).at S₄, ?_⟩
  refine call_draw (j := 2) (G := G) (D := D) (O := O) lc hpe2 S₄ (by omega) fun u2 h₅ tk₅ S₅ => ?_
  walk_at "ms"
  refine mod_int' (b := 9) (by decide) ?_
  walk_at "ms"
  refine newNm (k := [2, (lnum ns 2).fmod 9]) (ints_snoc (ints_snoc .nil 2 _) _ _) S₅ (by simp) fun b2 pe3 h₆ hs3 hb2 S₆ => ?_
  walk_at "ms"
  refine pairTrees_cons_walk ?_
  walk_at "ms"
  refine newNm (k := [2]) (ints_snoc .nil 2 _) S₆ (by decide) fun b3 pe4 h₇ hs4 hb3 S₇ => ?_
  walk_at "ms"
  refine pairTrees_nil_walk ?_
  have hs24 : pe ⊆ pe4 := fun _ z => hs4 (hs3 (hs2 z))
  have hb1' : IsNm w pe4 [10] b1 := (hb1.mono hs3).mono hs4
  have hb2' := hb2.mono hs4
  refine store_cons (by omega) S₇ EntOk.nil hb1' (by simp) fun n1 h₈ tk₈ S₈ => ?_
  refine store_cons (by omega) S₈ (EntOk.nil.put hb1') hb2' (by rw [storedH]; simp [atKey]) fun n2 h₉ tk₉ S₉ => ?_
  refine store_cons (by omega) S₉ ((EntOk.nil.put hb1').put hb2') hb3 (Nat.le_trans stored_len (Nat.succ_le_succ (Nat.le_trans stored_len (by decide : 1 ≤ 999)))) fun n3 h10 tk10 S10 => ?_
  refine store_nil ?_
  refine q _ _ n3 pe4 h10 _ hs24 hds (((EntOk.nil.put hb1').put hb2').put hb3) ?_ (fun z => ?_) S10
  · exact (((LenV.nil.put (k := [10]) (a := b1)).put (k := [2, (lnum ns 2).fmod 9]) (a := b2)).put (k := [2]) (a := b3))
  · rw [stored_mem, stored_mem, stored_mem]
    simp [lastNs, or_assoc]
theorem fin4 (hst : lawBody[9]? = some st) (hsc : IsScope sc) (lc : LC w A A₀ h₀ (lawEnv sc L fa ccd cN cS) L p loose mean mg mb pe0 ns cS cN f0 f1 f2 f3) (hpe : pe0 ⊆ pe) (S : SL h₀ L m h (r.led w ++ mr) pe)
    (ok : r.Ok w pe) (cl : Clean r) (hlv : LenV r.xs) (hkeys : ∀ z, z ∈ r.xs.map (·.1) ↔ z ∈ lastNs ns) (hm : m "table" = some (.ref r.t)) (hmd : m "draw" = some (.ref f0)) (hmt : m "told" = some (.ref f2)) :
    wpAny (model PR w) A (exec st (lawEnv sc L fa ccd cN cS)) (fun f s' => f = .ret (.bool true) ∧ ∃ h' tk' pe' mu', s' = ⟨h', G, D, tk', O⟩ ∧ SL h₀ L m h' (mu' ++ mr) pe') E ⟨h, G, D, tk, O⟩ := by
  replace hst : some (Stmt.Return (some (Expr.Call (.Name _ _) [_, _, _, lawDict] _ _)) _) = some st := hst
  obtain ⟨dks, dvs, dps, hD⟩ : ∃ dks dvs dps, lawDict = Expr.Dict dks dvs dps := ⟨_, _, _, rfl⟩
  rw [hD] at hst
  cases hst
  have hsc2 := hsc
  have lc2 := lc
  replace hsc : some (Scope.mk _ _ _ _ _) = some sc := hsc
  cases hsc
  have Cm := lc.C
  have hd := lc.hd
  have hu := lc.hu
  walk_at "m"
  walk_at "ms"
  refine nmL S hmt ?_ rfl rfl (by decide)
  refine callF ((lc.d2.mono hpe).at S) ?_ rfl rfl
  refine spliced_more ?_
  walk_at "ms"
  refine nmL S hmd ?_ rfl rfl (by decide)
  refine callF ((lc.d0.mono hpe).at S) ?_ rfl rfl
  walk_at "ms"
  refine ⟨(lc.d0.mono hpe).at S, ?_⟩
  refine call_draw (j := 3) (G := G) (D := D) (O := O) lc hpe S (by omega) fun u1 h₁ tk₁ S₁ => ?_
  walk_at "ms"
  refine mod_int' (b := 5) (by decide) ?_
  have h5 := fm (x := lnum ns 3) (c := 5) (by omega)
  refine spliced_more ?_
  refine nmL S₁ hm ?_ rfl rfl (by decide)
  refine spliced_more ?_
  walk_at "ms"
  refine newNm (k := [2, 9]) (ints_snoc (ints_snoc .nil 2 _) 9 _) S₁ (by simp) fun b0 pe1 h₂ hs1 hb0 S₂ => ?_
  have hpe1 : pe0 ⊆ pe1 := fun _ z => hs1 (hpe z)
  refine spliced_more ?_
  refine fin4D hD hsc2 lc hpe1 S₂ hmd fun d xp np pe2 h₃ tk₃ hs2 hds xok hxl hxk S₃ => ?_
  refine spliced_none ?_
  have hpe2 : pe0 ⊆ pe2 := fun _ z => hs2 (hpe1 z)
  have ok2 : r.Ok w pe2 := ok.mono fun _ z => hs2 (hs1 z)
  have tw : Twin r.xs xp := hlv.twin hxl fun z => (hkeys z).trans (hxk z).symm
  have S₄ := S₃.perm (List.perm_middle (l₁ := r.led w) (l₂ := mr)).symm
  have hsame := fun z => (ok.same.mem_iff (a := z)).trans (hkeys z)
  have hnd : (r.ks.map (·.1)).Nodup := ok.same.nodup_iff.mpr ok.x.nd
  have hrl : r.ks.length ≤ 3 := by
    have h1 : (lastNs ns).Nodup := by simp [lastNs]
    have := (perm_of_mem hnd h1 hsame).length_eq
    rw [List.length_map] at this
    rw [this]
    exact Nat.le_refl 3
  refine ⟨(lc.d2.mono hpe2).at S₄, ?_⟩
  refine wpAny_call ?_
  refine law_told (xp := xp) (np := np) (which := (lnum ns 3).fmod 5) (k := [2, 9]) Cm lc.b S₄ (lc.d2.mono hpe2) (by omega) ok2 cl (fun k hk => ?_) (by omega) (hb0.mono hs2) (.head _) hds xok tw lc.hh (by omega) (by omega) fun h₀' r' pe' h' tk' Tn' _ _ hsub x ok' S' => ?_
  · have := (hsame k).mp hk
    simp only [lastNs, List.mem_cons, List.not_mem_nil, or_false] at this
    rcases this with rfl | rfl | rfl <;> simp
  · exact ⟨rfl, h', _, pe', r'.led w ++ [(d, eOb w xp np)], rfl, by have := SL.untn Tn' S'; rwa [List.append_assoc]⟩
end
section
open PyProof.Rows.LCg PySem.W PySem.SeqAt
variable {w : World} {A A₀ : Around} {h₀ h : Heap} {L fa cS cN c P : Addr} {p : Program} {loose : List Str} {mean : ExcName → Option Value} {mg mb m : Str → Option Value} {mu mr pe pe0 : Lg}
  {G : Array GenState} {D : Drawn} {tk : Nat} {O : OsState} {E : Value → Shared → Prop} {sc : Scope} {ccd : Value} {ps : Array Value}
theorem def_one {i : Nat} {name qual : Str} {params : Arguments} {body : List Stmt} {scope : Scope} {pos : Pos} {clos : List (Str × Addr)} {cl : List (Str × Addr)} {cn : Str} (hst : lawBody[i]? = some (.FunctionDef name params body [] none [] scope none name pos)) (hd0 : params.defaults = []) (hk0 : params.kw_defaults = [])
    (ha : annTrees params none (envX cn sc L fa ccd cl) = []) (hcl : closureFor scope (envX cn sc L fa ccd cl) = pure clos) (hq : qualnameIn (envX cn sc L fa ccd cl) name name = qual) (hk : sc.kind = .function) (hx : (envX cn sc L fa ccd cl).kindOf name = some .local)
    (T : Top p loose mean mg mb h₀) (C : CodeHd h₀ c P) (hcd : ccd = .ref c) (ht : TriplesOk ps.toList) (hnf : codeAmong pos ps.toList = none) (S : SL h₀ L m h ((P, tabObj ps) :: mu) pe)
    {Q : Flow → Shared → Prop} (q : ∀ f c' pe' h' tk', pe ⊆ pe' → IsDef w pe' i qual clos f → SL h₀ L (updM m name (.ref f)) h' ((P, tabObj (ps ++ #[rawInt pos.line, rawInt pos.col, .ref c'])) :: mu) pe' → Q .next ⟨h', G, D, tk', O⟩) :
    wpAny (model PR w) A (exec (.FunctionDef name params body [] none [] scope none name pos) (envX cn sc L fa ccd cl)) Q E ⟨h, G, D, tk, O⟩ := by
  refine nestDef_K hd0 hk0 ha ?_
  rw [hq]
  have hnd := S.nd
  simp only [List.cons_append, List.map_cons, List.nodup_cons] at hnd
  have U : UpdF P (tabObj ps) ((P, tabObj ps) :: (mu ++ pe)) (fun o' => (P, o') :: (mu ++ pe)) := .head fun z hz e => hnd.1 (List.mem_map.mpr ⟨z, hz, e⟩)
  refine nest_K (s := ⟨h, G, D, tk, O⟩) S.fr S.nw T C hcd U ht hnf hcl fun f c' oc vs t ctv doc h' tk' F' N' e1 e2 l1 l2 => ?_
  have S' : SL h₀ L m h' ((P, tabObj (ps ++ #[rawInt pos.line, rawInt pos.col, .ref c'])) :: mu) ((f, fnMade name qual params body scope clos doc ((mg "__name__").getD .none) c' ctv) :: (c', oc) :: pe) := by
    refine ⟨F', fun z hz => N' z ?_, ?_⟩
    · rcases List.mem_append.mp hz with hz | hz
      · exact .tail _ (.tail _ (List.mem_append_left _ hz))
      · rcases List.mem_cons.mp hz with rfl | hz
        · exact .head _
        · rcases List.mem_cons.mp hz with rfl | hz
          · exact .tail _ (.head _)
          · exact .tail _ (.tail _ (.tail _ (List.mem_append_right _ hz)))
    · have hl : ∀ z ∈ ((P, tabObj (ps ++ #[rawInt pos.line, rawInt pos.col, .ref c'])) :: (mu ++ pe)), z.1 < c' := fun z hz => by
        rcases List.mem_cons.mp hz with rfl | hz
        · exact l1 (P, tabObj ps) (.head _)
        · exact l1 z (.tail _ hz)
      have hp : (((P, tabObj (ps ++ #[rawInt pos.line, rawInt pos.col, .ref c'])) :: mu) ++ ((f, fnMade name qual params body scope clos doc ((mg "__name__").getD .none) c' ctv) :: (c', oc) :: pe)).Perm
          ((f, fnMade name qual params body scope clos doc ((mg "__name__").getD .none) c' ctv) :: (c', oc) :: ((P, tabObj (ps ++ #[rawInt pos.line, rawInt pos.col, .ref c'])) :: (mu ++ pe))) :=
        List.perm_middle.trans (List.Perm.cons _ List.perm_middle)
      refine ((hp.map (·.1)).nodup_iff).mpr ?_
      rw [List.map_cons, List.map_cons, List.nodup_cons, List.nodup_cons]
      refine ⟨fun z => ?_, fun z => ?_, ?_⟩
      · rcases List.mem_cons.mp z with e | z
        · have e' : f = c' := e
          rw [e'] at l2
          exact absurd l2 (Nat.lt_irrefl _)
        · obtain ⟨x, hx, e⟩ := List.mem_map.mp z
          have := hl x hx
          have e' : x.1 = f := e
          rw [e'] at this
          exact absurd (Nat.lt_trans this l2) (Nat.lt_irrefl _)
      · obtain ⟨x, hx, e⟩ := List.mem_map.mp z
        have := hl x hx
        have e' : x.1 = c' := e
        rw [e'] at this
        exact absurd this (Nat.lt_irrefl _)
      · simp only [List.map_cons, List.nodup_cons]
        exact hnd
  refine stL S' (fun h₂ S₂ => ?_) hk hx
  exact q f c' _ h₂ _ (fun _ z => .tail _ (.tail _ z)) ⟨name, params, body, scope, doc, _, ctv, c', oc, vs, t, ⟨pos, hst⟩, .head _, .tail _ (.head _), e1, e2⟩ S₂
end
section
open PyProof.Rows.LCg PySem.W PySem.SeqAt
variable {w : World} {A A₀ : Around} {h₀ h : Heap} {L fa cS cN c P f0 f1 f2 f3 : Addr} {p : Program} {loose : List Str} {mean : ExcName → Option Value} {mg mb m : Str → Option Value} {mu mr pe pe0 : Lg}
  {G : Array GenState} {D : Drawn} {tk : Nat} {O : OsState} {E : Value → Shared → Prop} {sc : Scope} {ccd : Value} {ps : Array Value} {ns : List Int} {st : Stmt} {oN : Obj}
theorem law_defs {b0 b1 b2 b3 : Stmt} {rest : List Stmt} (i0 : lawBody[0]? = some b0) (i1 : lawBody[1]? = some b1) (i2 : lawBody[2]? = some b2) (i3 : lawBody[3]? = some b3) (hsc : IsScope sc) (T : Top p loose mean mg mb h₀) (CH : CodeHd h₀ c P) (hcd : ccd = .ref c) (S : SL h₀ L m h ((P, tabObj #[]) :: mu) pe)
    {Q : Flow → Shared → Prop} (q : ∀ f0 f1 f2 f3 ps' m' pe' h' tk', pe ⊆ pe' → IsDef w pe' 0 "law.<locals>.draw" [("script", cS)] f0 → IsDef w pe' 1 "law.<locals>.name_of" [] f1 → IsDef w pe' 2 "law.<locals>.told" [] f2 → IsDef w pe' 3 "law.<locals>.node_name" [] f3 →
      m' = updM (updM (updM (updM m "draw" (.ref f0)) "name_of" (.ref f1)) "told" (.ref f2)) "node_name" (.ref f3) → SL h₀ L m' h' ((P, tabObj ps') :: mu) pe' → wpAny (model PR w) A (execs rest (lawEnv sc L fa ccd cN cS)) Q E ⟨h', G, D, tk', O⟩) :
    wpAny (model PR w) A (execs (b0 :: b1 :: b2 :: b3 :: rest) (lawEnv sc L fa ccd cN cS)) Q E ⟨h, G, D, tk, O⟩ := by
  replace hsc : some (Scope.mk _ _ _ _ _) = some sc := hsc
  cases hsc
  replace i0 : some (Stmt.FunctionDef _ _ _ [] none [] _ none _ _) = some b0 := i0
  cases i0
  refine wpAny_execs_cons ?_
  refine def_one (i := 0) (h₀ := h₀) (P := P) (ps := #[]) rfl rfl rfl rfl rfl rfl rfl rfl T CH hcd trivial rfl S fun f0 c0 pe1 h1 tk1 hs1 d0 S₁ => ?_
  replace i1 : some (Stmt.FunctionDef _ _ _ [] none [] _ none _ _) = some b1 := i1
  cases i1
  refine wpAny_execs_cons ?_
  refine def_one (i := 1) (h₀ := h₀) (P := P) rfl rfl rfl rfl rfl rfl rfl rfl T CH hcd (by simp [TriplesOk, rawInt]) (by simp [codeAmong, rawInt]) S₁ fun f1 c1 pe2 h2 tk2 hs2 d1 S₂ => ?_
  replace i2 : some (Stmt.FunctionDef _ _ _ [] none [] _ none _ _) = some b2 := i2
  cases i2
  refine wpAny_execs_cons ?_
  refine def_one (i := 2) (h₀ := h₀) (P := P) rfl rfl rfl rfl rfl rfl rfl rfl T CH hcd (by simp [TriplesOk, rawInt]) (by simp [codeAmong, rawInt]) S₂ fun f2 c2 pe3 h3 tk3 hs3 d2 S₃ => ?_
  replace i3 : some (Stmt.FunctionDef _ _ _ [] none [] _ none _ _) = some b3 := i3
  cases i3
  refine wpAny_execs_cons ?_
  refine def_one (i := 3) (h₀ := h₀) (P := P) rfl rfl rfl rfl rfl rfl rfl rfl T CH hcd (by simp [TriplesOk, rawInt]) (by simp [codeAmong, rawInt]) S₃ fun f3 c3 pe4 h4 tk4 hs4 d3 S₄ => ?_
  exact q f0 f1 f2 f3 _ _ pe4 h4 tk4 (fun _ z => hs4 (hs3 (hs2 (hs1 z)))) (d0.mono fun _ z => hs4 (hs3 (hs2 z))) (d1.mono fun _ z => hs4 (hs3 z)) (d2.mono hs4) d3 rfl S₄
end
section
open PyProof.Rows.LCg PySem.W PySem.SeqAt
variable {w : World} {A A₀ : Around} {h₀ h : Heap} {L fa cS cN c P f0 f1 f2 f3 : Addr} {p : Program} {loose : List Str} {mean : ExcName → Option Value} {mg mb m : Str → Option Value} {mu mr pe pe0 : Lg}
  {G : Array GenState} {D : Drawn} {tk : Nat} {O : OsState} {E : Value → Shared → Prop} {sc : Scope} {ccd : Value} {ps : Array Value} {ns : List Int} {st : Stmt} {oN : Obj}
theorem law_start (hst : lawBody[4]? = some st) (hsc : IsScope sc) (lc : LC w A A₀ h₀ (lawEnv sc L fa ccd cN cS) L p loose mean mg mb pe0 ns cS cN f0 f1 f2 f3) (S : SL h₀ L m h mu pe) (md : m "draw" = some (.ref f0)) (mn : m "name_of" = some (.ref f1)) (mt : m "told" = some (.ref f2)) (mo : m "node_name" = some (.ref f3)) :
    wpAny (model PR w) A (exec st (lawEnv sc L fa ccd cN cS)) (fun f s' => f = .next ∧ ∃ h' tk' σ m' pe', s' = ⟨h', G, D, tk', O⟩ ∧ pe ⊆ pe' ∧ LTop w pe' m' σ 0 f0 f1 f2 f3 ∧ SL h₀ L m' h' (σ.led w ++ mu) pe') E ⟨h, G, D, tk, O⟩ := by
  replace hst : some (Stmt.Assign _ _ _) = some st := hst
  cases hst
  replace hsc : some (Scope.mk _ _ _ _ _) = some sc := hsc
  cases hsc
  have Cm := lc.C
  have hd := lc.hd
  have hu := lc.hu
  refine' swap3 (h₀ := h₀) (m := m) (G := G) (D := D) (O := O) (n1 := "tree") (n2 := "table") (n3 := "plain") lc.hh ?q ?hs ?hw ?hk ?h1 ?h2 ?h3
  case hs => exact rfl
  case hw => exact rfl
  case hk => rfl
  case h1 => rfl
  case h2 => rfl
  case h3 => rfl
  case q =>
    walk_at "ms"
    refine callK (by k_is) ?_ rfl rfl
    refine spliced_more ?_
    walk_at "ms"
    refine newNm (k := [1]) (ints_snoc .nil 1 _) S (by decide) fun na pe1 h₁ hs1 hna S₁ => ?_
    refine spliced_none ?_
    refine ⟨S₁.X Cm, tr_make Cm S₁ (by omega) (by omega) fun T h₂ tk₂ ena ebv exs eks ecs eb tok S₂ => ?_⟩
    walk_at "ms"
    refine callK0 (by k_is) (S₂.X Cm) ?_
    refine od_create Cm S₂ (by omega) (by omega) fun r h₃ tk₃ exs' eks' ecs' eb' rok S₃ => ?_
    walk_at "ms"
    refine newDictL S₃ ?_
    have S₄ := S₃.push (eOb w [] 0)
    have hds : (h₃.objs.size == sysModules) = false := notSys (S₃.X Cm) (Nat.le_refl _)
    obtain ⟨dp, edp⟩ : ∃ dp, dp = h₃.objs.size := ⟨_, rfl⟩
    rw [← edp] at S₄ hds ⊢
    obtain ⟨σ, eσ⟩ : ∃ σ : LS, σ = ⟨T, r, dp, 0, []⟩ := ⟨_, rfl⟩
    have S₅ : SL h₀ L m (h₃.push (eOb w [] 0)) (σ.led w ++ mu) pe1 := by
      rw [eσ]
      refine S₄.perm ?_
      show ((dp, eOb w [] 0) :: (r.led w ++ (T.led w ++ mu))).Perm ((T.led w ++ (r.led w ++ [(dp, eOb w [] 0)])) ++ mu)
      have e1 : ((dp, eOb w [] 0) :: (r.led w ++ (T.led w ++ mu))).Perm (r.led w ++ ((dp, eOb w [] 0) :: (T.led w ++ mu))) := List.perm_middle.symm
      have e2 : (r.led w ++ ((dp, eOb w [] 0) :: (T.led w ++ mu))).Perm (r.led w ++ (T.led w ++ ((dp, eOb w [] 0) :: mu))) := List.Perm.append_left _ List.perm_middle.symm
      have e3 : (r.led w ++ (T.led w ++ ((dp, eOb w [] 0) :: mu))).Perm (T.led w ++ (r.led w ++ ((dp, eOb w [] 0) :: mu))) := List.perm_append_comm_assoc _ _ _
      refine (e1.trans (e2.trans e3)).trans ?_
      simp [List.append_assoc]
    clear S₄ S₃ S₂
    walk_at "ms"
    refine newTupleL (by simp) ?_
    refine ⟨_, _, _, _, _, _, _, _, _, rfl, rfl, S₅.push _, .head _, fun h₆ tk₆ S₆ => ⟨rfl, h₆, tk₆, σ, _, pe1, rfl, hs1, ?_, S₆.drop1⟩⟩
    have nil0 : ([] : Ents).length ≤ 7 * 0 := Nat.le_refl _
    refine ⟨⟨?_, ?_, ?_, ?_, ?_, ?_, ?_, ?_, ?_, ?_, ?_, ?_, ?_, ?_, ?_⟩, ?_, ?_, ?_, ?_, ?_⟩
    · rw [eσ]; exact tok
    · rw [eσ]; exact fun z => by rw [show T.r.b = true from eb] at z; cases z
    · rw [eσ]; show NodesOk w pe1 T.r.xs; rw [exs]; exact fun _ z => nomatch z
    · rw [eσ]; show IsNm w pe1 [1] T.na; rw [ena]; exact hna
    · rw [eσ]; show T.r.cs.length ≤ _; rw [ecs]; exact nil0
    · rw [eσ]; show T.r.xs.length ≤ _; rw [exs]; exact nil0
    · rw [eσ]; exact rok
    · rw [eσ]; exact fun z => by rw [show r.b = true from eb'] at z; cases z
    · rw [eσ]; show r.cs.length ≤ _; rw [ecs']; exact nil0
    · rw [eσ]; show r.xs.length ≤ _; rw [exs']; exact nil0
    · rw [eσ]; exact EntOk.nil
    · rw [eσ]; exact fun _ z => nomatch z
    · rw [eσ]; exact fun _ z => nomatch z
    · rw [eσ]; exact nil0
    · rw [eσ]; exact hds
    · rw [eσ]; show T.cnt = _; unfold TR.cnt; rw [ebv]; rfl
    · intro z; rw [eσ]; show z ∈ T.r.xs.map (·.1) ↔ _; rw [exs]
    · rw [eσ]; show Twin r.xs []; rw [exs']; exact Twin.nil
    · rw [eσ]; exact fun _ z => nomatch z
    · rw [eσ]; exact ⟨md, mn, mt, mo, rfl, rfl, rfl⟩
end
section
open PyProof.Rows.LCg PySem.W PySem.SeqAt
variable {w : World} {A A₀ : Around} {h₀ h : Heap} {L fa cS cN c P f0 f1 f2 f3 : Addr} {p : Program} {loose : List Str} {mean : ExcName → Option Value} {mg mb m : Str → Option Value} {mu mr pe pe0 : Lg}
  {G : Array GenState} {D : Drawn} {tk : Nat} {O : OsState} {E : Value → Shared → Prop} {sc : Scope} {ccd : Value} {ps : Array Value} {ns : List Int} {st : Stmt} {oN : Obj}
theorem law_all {sl : Addr} {vs : List Value} {o1 o2 : Obj} (hsc : IsScope sc) (C : Fm w (A₀.deeper (lawEnv sc L fa ccd cN cS)) A₀ h₀ [] (lawEnv sc L fa ccd cN cS) h₀ L p loose mean mg mb) (b : Bt w h₀ [] h₀ p loose mean mg mb)
    (hh : (A₀.deeper (lawEnv sc L fa ccd cN cS)).handled = none) (hg : (A₀.deeper (lawEnv sc L fa ccd cN cS)).guards = some []) (hd : (A₀.deeper (lawEnv sc L fa ccd cN cS)).depth < 400) (hu : (A₀.deeper (lawEnv sc L fa ccd cN cS)).units < 100)
    (CH : CodeHd h₀ c P) (hcd : ccd = .ref c) (hl : h₀.IsList sl vs.toArray) (hi : IntsAre vs ns) (hz : ns.length ≤ 63)
    (hE : PassesOwn (model PR w) (A₀.deeper (lawEnv sc L fa ccd cN cS)) (lawEnv sc L fa ccd cN cS) E) (hE2 : ∀ e, PassesOwnAt (model PR w) ((A₀.deeper (lawEnv sc L fa ccd cN cS)).mark (some (.ref e))) (A₀.deeper (lawEnv sc L fa ccd cN cS)) (lawEnv sc L fa ccd cN cS) E)
    (S : SL h₀ L m h [(cN, o1), (cS, o2), (P, tabObj #[])] []) (h1 : o1.data = .cell none) (h2 : o2.data = .cell (some (.ref sl))) :
    wpAny (model PR w) (A₀.deeper (lawEnv sc L fa ccd cN cS)) (execs lawBody (lawEnv sc L fa ccd cN cS)) (fun f s' => f = .ret (.bool true) ∧ ∃ h' tk' m' mu' pe' ps, s' = ⟨h', G, D, tk', O⟩ ∧ SL h₀ L m' h' (mu' ++ [(P, tabObj ps)]) pe') E ⟨h, G, D, tk, O⟩ := by
  obtain ⟨b0, b1, b2, b3, b4, b5, b6, b7, b8, b9, e⟩ : ∃ b0 b1 b2 b3 b4 b5 b6 b7 b8 b9, lawBody = [b0, b1, b2, b3, b4, b5, b6, b7, b8, b9] := ⟨_, _, _, _, _, _, _, _, _, _, rfl⟩
  have i0 : lawBody[0]? = some b0 := by rw [e]; rfl
  have i1 : lawBody[1]? = some b1 := by rw [e]; rfl
  have i2 : lawBody[2]? = some b2 := by rw [e]; rfl
  have i3 : lawBody[3]? = some b3 := by rw [e]; rfl
  have i4 : lawBody[4]? = some b4 := by rw [e]; rfl
  have i5 : lawBody[5]? = some b5 := by rw [e]; rfl
  have i6 : lawBody[6]? = some b6 := by rw [e]; rfl
  have i7 : lawBody[7]? = some b7 := by rw [e]; rfl
  have i8 : lawBody[8]? = some b8 := by rw [e]; rfl
  have i9 : lawBody[9]? = some b9 := by rw [e]; rfl
  rw [e]
  have S₀ : SL h₀ L m h ((P, tabObj #[]) :: [(cN, o1)]) ((cS, o2) :: []) := (S.perm (mu' := (cS, o2) :: (P, tabObj #[]) :: [(cN, o1)]) ((List.Perm.swap _ _ _).trans (List.Perm.cons _ (List.Perm.swap _ _ _)))).toPe
  refine law_defs i0 i1 i2 i3 hsc C.T CH hcd S₀ fun f0 f1 f2 f3 ps' m1 pe1 h3 tk3 hs1 d0 d1 d2 d3 em1 S₁ => ?_
  have lc : LC w (A₀.deeper (lawEnv sc L fa ccd cN cS)) A₀ h₀ (lawEnv sc L fa ccd cN cS) L p loose mean mg mb pe1 ns cS cN f0 f1 f2 f3 := ⟨C, b, hh, hg, hd, hu, d0, d1, d2, d3, ⟨o2, sl, vs, hs1 (.head _), h2, hl, hi, hz⟩⟩
  refine mid (law_start i4 hsc lc S₁ (by rw [em1]; rfl) (by rw [em1]; rfl) (by rw [em1]; rfl) (by rw [em1]; rfl)) ?_
  rintro _ ⟨h4, tk4, σ, m2, pe2, rfl, hs2, tp, S₂⟩
  have S₃ : SL h₀ L m2 h4 ((cN, o1) :: (σ.led w ++ [(P, tabObj ps')])) pe2 := S₂.perm ((List.Perm.append_left _ (List.Perm.swap _ _ _)).trans List.perm_middle)
  refine mid (law_deeds hE hE2 i5 hsc lc hs2 S₃ h1 tp) ?_
  rintro _ ⟨h5, tk5, σ5, oN5, v5, m5, pe5, n, rfl, hoN5, hs5, hn, tp5, S₅⟩
  have hpe5 : pe1 ⊆ pe5 := fun _ z => hs5 (hs2 z)
  have S₆ := LS.toR (pre := [(cN, oN5)]) S₅
  obtain ⟨mr2, emr2⟩ : ∃ mr2 : Lg, mr2 = σ5.T.led w ++ ([(σ5.dp, eOb w σ5.xp σ5.np)] ++ [(P, tabObj ps')]) := ⟨_, rfl⟩
  replace S₆ : SL h₀ L m5 h5 (σ5.r.led w ++ ((cN, oN5) :: mr2)) pe5 := by rw [emr2]; exact S₆
  have hlen := tp5.inv.rxs
  have hlcs := tp5.inv.rcs
  refine mid (fin1 i6 hsc lc S₆ tp5.inv.rok (by omega) tp5.ln.table) ?_
  rintro _ ⟨h6, tk6, r6, rfl, x6, ok6, S₇⟩
  refine mid (fin2 i7 hsc lc S₇ ok6 x6.xs x6.ks x6.b (by rw [x6.t]; exact tp5.ln.table)) ?_
  rintro _ ⟨h7, tk7, r7, pe7, rfl, hs7, x7, ok7, S₈⟩
  have hpe7 : pe1 ⊆ pe7 := fun _ z => hs7 (hpe5 z)
  have et7 : r7.t = σ5.r.t := x7.t.trans x6.t
  refine mid (fin3 hE i8 hsc lc hpe7 S₈ hoN5 ok7 x7.clean (by rw [x7.xs, x6.xs]) (by rw [x7.cs, x6.cs]; omega) (by rw [et7]; exact tp5.ln.table) tp5.ln.draw) ?_
  rintro _ ⟨h8, tk8, r8, oN8, pe8, m8, rfl, hs8, et8, ok8, cl8, hlv8, hk8, rfl, S₉⟩
  refine wpAny_execs_cons (wpAny_mono (fin4 i9 hsc lc (fun _ z => hs8 (hpe7 z)) S₉ ok8 cl8 hlv8 hk8 (by rw [et8, et7]; exact tp5.ln.table) tp5.ln.draw tp5.ln.told) ?_ fun _ _ z => z)
  rintro f _ ⟨rfl, h9, tk9, pe9, mu9, rfl, S10⟩
  refine ⟨rfl, h9, tk9, _, mu9, pe9, ps', rfl, S10.sub ((List.Sublist.append_left ?_ _).append (.refl _))⟩
  rw [emr2]
  exact .cons _ ((List.sublist_append_right _ _).trans (List.sublist_append_right _ _))
end
theorem nd3 {a b c : Addr} {x y z : Obj} (h1 : a ≠ b) (h2 : a ≠ c) (h3 : b ≠ c) : (List.map (fun q : Addr × Obj => q.1) (([(a, x), (b, y), (c, z)] : List (Addr × Obj)) ++ ([] : List (Addr × Obj)))).Nodup := by
  simp [h1, h2, h3]

end Mine
set_option maxHeartbeats 8000000 in
theorem PySem.Challenge.cw_ff0019_01_holds : PySem.Challenge.rw_ff0019_01.Holds :=
  Mine.hd (by
  k_go0
  (all_goals try k_fold)
  rename_i X0 X' T' K' F' N' l0
  have S : Mine.SL (ghostOf _ [(557, 555)]) _ _ _ _ [] := ⟨F', by rw [List.append_nil]; exact N',
    by exact Mine.nd3 (Nat.ne_of_gt (Nat.lt_succ_self _)) (Nat.ne_of_gt (Nat.lt_of_lt_of_le l0 (Nat.le_add_right _ 2))) (Nat.ne_of_gt (Nat.lt_of_lt_of_le l0 (Nat.le_add_right _ 1)))⟩
  refine' wpAny_mono (Mine.law_all (c := 557) (P := 555) (h₀ := ghostOf _ [(557, 555)]) (A₀ := callerA) ?zzhsc ?zzC ?zzb ?zzhh ?zzhg ?zzhd ?zzhu ?zzCH ?zzhcd ?zzhl ?zzhi ?zzhz ?zzhE ?zzhE2 S ?zzh1 ?zzh2) ?zzq (fun _ _ z => z)
  case zzC => exact ⟨K', rfl, rfl, rfl, X', T'⟩
  case zzb => exact ⟨X', T', ktsDicts_nil⟩
  case zzhsc => rfl
  case zzhh => rfl
  case zzhg => rfl
  case zzhd => show (302 : Nat) < 400; decide
  case zzhu => show (7 : Nat) < 100; decide
  case zzCH => exact codeHd
  case zzhcd => rfl
  case zzhl => exact lifted
  case zzhi => assumption
  case zzhz => omega
  case zzh1 => assumption
  case zzh2 => assumption
  case zzhE => (first | passes_own | with_unfolding_all passes_own)
  case zzhE2 => intro e; (first | passes_own | with_unfolding_all passes_own)
  case zzq =>
    rintro _ _ ⟨rfl, h', tk', m', mu', pe', ps, rfl, Se⟩
    refine ⟨goodW_bool (s' := ⟨h', _, _, _, _⟩) Se.fr (by assumption) (fun _ => rfl) ?_ rfl, ⟨ps, (Se.nw _ (List.mem_append_left _ (List.mem_append_right _ (.head _)))).1⟩, trivial⟩
    first | kc_post | wrow_post)
