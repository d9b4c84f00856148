import PyProof.Rows.All
import Wide.All
import OpenK.AllK
import Wide.FinOn
import Lean
import PySem.Challenge.RW_oh0020_01
set_option Elab.async false

section
open PySem PySem.W PyProof.Rows
set_option Elab.async false
set_option maxRecDepth 100000
set_option maxHeartbeats 8000000
local macro_rules | `(tactic| refine $f:ident $args*) => if f.getId == ``PySem.W.holds_open then `(tactic| (refine ($f $args*); (case hl => (intro w; kernel_rfl)))) else Lean.Macro.throwUnsupported
namespace Mine
open_top hd for PySem.Challenge.rw_oh0020_01
end Mine
end

section
open PySem PySem.W PyProof.Rows PySem.Spec PySem.Calls
set_option Elab.async false
set_option maxRecDepth 100000
set_option maxHeartbeats 4000000
namespace Mine

abbrev P0 : Program := PySem.Challenge.rw_oh0020_01.row.prog
noncomputable abbrev KK (w : World) : Frag := hd.heap_39 w.params

/-- what is known of the base heap -/
structure Base (w : World) (mg mb : Str → Option Value) (b : Heap) : Prop where
  X : (KK w).In b
  g : b.Ns mainGlobals mg
  bn : b.Ns builtinsNs mb
  bi : ∀ x : Str, x ≠ "__name__" → mb x = bootBuiltins x
  lim : b.NoLimit
  dig : ∃ mc, b.Ns cStatics mc ∧ mc "sys.int_max_str_digits" = none

def Kn (m : Str → Option Value) (al : List (Str × Value)) : Prop := ∀ p ∈ al, m p.1 = some p.2
def NsO (o : Obj) (m : Str → Option Value) : Prop := ∃ es ep, o.data = .dict es ep ∧ StrKeys es ∧ ∀ name, nsFind es name = m name
/-- an object that is a frame's map of names -/
def LocO (o : Obj) (al : List (Str × Value)) : Prop := ∃ m, NsO o m ∧ Kn m al

/-- the ledger: the frame L knows al, the base is kept, the objects made are μ -/
structure Led (b : Heap) (L : Addr) (al : List (Str × Value)) (h : Heap) (μ : List (Addr × Obj)) : Prop where
  loc : ∃ m, Fr b L h m ∧ Kn m al
  nw : News b L h μ
  nn : (al.map (·.1)).Nodup
  nd : (μ.map (·.1)).Nodup

section
variable {b h h' : Heap} {L : Addr} {al : List (Str × Value)} {μ μ' : List (Addr × Obj)}

theorem Led.get (D : Led b L al h μ) {a : Addr} {o : Obj} (hm : (a, o) ∈ μ) : h.get? a = some o := (D.nw _ hm).1
theorem Led.keep (D : Led b L al h μ) {a : Addr} {o : Obj} (e : b.get? a = some o) : h.get? a = some o := let ⟨_, F, _⟩ := D.loc; F.keep a o e
theorem Led.sub (D : Led b L al h μ) (hs : μ'.Sublist μ) : Led b L al h μ' :=
  ⟨D.loc, fun p hp => D.nw p (hs.subset hp), D.nn, (hs.map _).nodup D.nd⟩
theorem Led.perm (D : Led b L al h μ) (hs : μ'.Perm μ) : Led b L al h μ' :=
  ⟨D.loc, fun p hp => D.nw p (hs.mem_iff.mp hp), D.nn, ((hs.map _).nodup_iff).mpr D.nd⟩
theorem Led.names (D : Led b L al h μ) {al' : List (Str × Value)} (hs : al'.Sublist al) : Led b L al' h μ :=
  let ⟨m, F, k⟩ := D.loc
  ⟨⟨m, F, fun p hp => k p (hs.subset hp)⟩, D.nw, (hs.map _).nodup D.nn, D.nd⟩
theorem Led.namesPerm (D : Led b L al h μ) {al' : List (Str × Value)} (hs : al'.Perm al) : Led b L al' h μ :=
  let ⟨m, F, k⟩ := D.loc
  ⟨⟨m, F, fun p hp => k p (hs.mem_iff.mp hp)⟩, D.nw, ((hs.map _).nodup_iff).mpr D.nn, D.nd⟩
theorem Led.fresh (D : Led b L al h μ) : h.objs.size ∉ μ.map (·.1) := fun hm => by
  obtain ⟨p, hp, e⟩ := List.mem_map.mp hm
  exact absurd (Heap.lt_size (D.nw p hp).1) (by rw [e]; exact Nat.lt_irrefl _)
theorem Led.push (D : Led b L al h μ) (o : Obj) (hf : o.isFreed = false := by rfl) : Led b L al (h.push o) ((h.objs.size, o) :: μ) := by
  obtain ⟨m, F, k⟩ := D.loc
  exact ⟨⟨m, F.push o, k⟩, D.nw.push F o hf, D.nn, List.nodup_cons.mpr ⟨D.fresh, D.nd⟩⟩

/-- one object of the ledger is another now -/
theorem Led.change {pre post : List (Addr × Obj)} {a : Addr} {o o' : Obj} (D : Led b L al h (pre ++ (a, o) :: post)) (hs : Heap.SameBut a h h') (ho : h'.get? a = some o') : Led b L al h' (pre ++ (a, o') :: post) := by
  obtain ⟨m, F, k⟩ := D.loc
  have nd := D.nd
  rw [List.map_append, List.map_cons] at nd
  have z := D.nw (a, o) (List.mem_append.mpr (.inr (.head _)))
  have h1 : ∀ p ∈ pre, p.1 ≠ a := fun p hp e => (List.nodup_append.mp nd).2.2 _ (List.mem_map_of_mem hp) _ (.head _) e
  have h2 : ∀ p ∈ post, p.1 ≠ a := fun p hp e => (List.nodup_cons.mp (List.nodup_append.mp nd).2.1).1 (List.mem_map.mpr ⟨p, hp, e⟩)
  refine ⟨⟨m, F.change hs z.2.1 z.2.2, k⟩, news_set D.nw h1 h2 hs ho, D.nn, ?_⟩
  rw [List.map_append, List.map_cons]
  exact nd
theorem Led.update {pre post : List (Addr × Obj)} {a : Addr} {o : Obj} {f : Obj → Obj} (D : Led b L al h (pre ++ (a, o) :: post)) (hf : (f o).isFreed = false) : Led b L al (h.update a f) (pre ++ (a, f o) :: post) :=
  D.change (Heap.SameBut.update ..) (Heap.get?_update_self f (D.get (List.mem_append.mpr (.inr (.head _)))) hf)

/-- a heap that keeps everything -/
theorem Led.more (D : Led b L al h μ) (hk : ∀ a o, h.get? a = some o → h'.get? a = some o) : Led b L al h' μ := by
  obtain ⟨m, F, k⟩ := D.loc
  exact ⟨⟨m, ⟨F.ns.keeps hk, fun a o e => hk _ _ (F.keep a o e), F.above⟩, k⟩, fun p hp => ⟨hk _ _ (D.nw p hp).1, (D.nw p hp).2⟩, D.nn, D.nd⟩
end

theorem kn_of_binds {binds : List (Str × Value)} (hn : (binds.map (·.1)).Nodup) : Kn (fun y => binds.reverse.lookup y) binds := by
  intro p hp
  have hn' : (binds.reverse.map (·.1)).Nodup := ((List.reverse_perm binds).map _).nodup_iff.mpr hn
  have hp' : p ∈ binds.reverse := List.mem_reverse.mpr hp
  show List.lookup p.1 binds.reverse = some p.2
  generalize binds.reverse = l at hn' hp'
  induction l with
  | nil => cases hp'
  | cons q r ih =>
    rw [List.map_cons, List.nodup_cons] at hn'
    rcases List.mem_cons.mp hp' with rfl | hp'
    · rw [List.lookup_cons]; simp
    · have : (p.1 == q.1) = false := beq_eq_false_iff_ne.mpr fun e => hn'.1 (e ▸ List.mem_map_of_mem hp')
      rw [List.lookup_cons, this]
      exact ih hn'.2 hp'

/-- what the end of a called def must bring -/
def Leave (b : Heap) (L : Addr) (al : List (Str × Value)) (oL : Obj) (R : Result → Shared → Prop) (fl : Flow) (s' : Shared) : Prop :=
  ∃ L' al' μ', Led b L' al' s'.heap ((L, oL) :: μ') ∧ (Led b L al s'.heap μ' → R (.ok (.ret (match fl with | .ret v => v | _ => .none))) s')
theorem Leave.ret {b h : Heap} {L L' : Addr} {al al' : List (Str × Value)} {oL : Obj} {R : Result → Shared → Prop} {v : Value} {G : Array GenState} {Dr : Drawn} {tk : Nat} {O : OsState} {μ' : List (Addr × Obj)}
    (D : Led b L' al' h ((L, oL) :: μ')) (k : Led b L al h μ' → R (.ok (.ret v)) ⟨h, G, Dr, tk, O⟩) : Leave b L al oL R (.ret v) ⟨h, G, Dr, tk, O⟩ := ⟨L', al', μ', D, k⟩

section
variable {w : World} {A : Around} {b h : Heap} {L : Addr} {al : List (Str × Value)} {μ : List (Addr × Obj)} {mg mb : Str → Option Value} {G : Array GenState} {Dr : Drawn} {tk : Nat} {O : OsState} {Q : Value → Shared → Prop} {E : Value → Shared → Prop}

theorem Led.back {L' : Addr} {al' : List (Str × Value)} {oL : Obj} {h' : Heap} {μ' : List (Addr × Obj)} (D : Led b L al h μ) (hL : LocO oL al) (D' : Led b L' al' h' ((L, oL) :: μ')) : Led b L al h' μ' := by
  obtain ⟨m₀, F₀, _⟩ := D.loc
  obtain ⟨m, ⟨es, ep, h1, h2, h3⟩, k⟩ := hL
  obtain ⟨m', F', _⟩ := D'.loc
  have nd := D'.nd
  rw [List.map_cons, List.nodup_cons] at nd
  refine ⟨⟨m, ⟨⟨oL, es, ep, D'.get (.head _), h1, h2, h3⟩, F'.keep, F₀.above⟩, k⟩, fun p hp => ⟨(D'.nw p (.tail _ hp)).1, fun e => nd.1 (List.mem_map.mpr ⟨p, hp, e⟩), (D'.nw p (.tail _ hp)).2.2⟩, D.nn, nd.2⟩

/-- a def of the text is called -/
theorem o_call {f : Addr} {args : List Value} {oc : Value} {od : Option Addr} {name qual : Str} {params : Arguments} {body : List Stmt} {scope : Scope} {dV kV doc pm cdv ct : Value} {an : Option Addr} {osl : Array (Option Value)} {binds : List (Str × Value)} {kw : List (Str × Value)}
    (B : Base w mg mb b) (D : Led b L al h μ)
    (ho : (KK w).lookup f = some ⟨oc, od, .func (fnOf name qual params body scope dV kV doc pm an cdv ct), osl⟩) (hcd : codeIn (KK w) cdv qual = true) (hroom : A.depth < recursionLimit)
    (hbind : BindsTo ⟨h, G, Dr, tk, O⟩ (fnOf name qual params body scope dV kV doc pm an cdv ct) ⟨args, kw⟩ binds) (hloc : ∀ y ∈ binds, scope.names.lookup y.1 = some .local) (hnn : (binds.map (·.1)).Nodup)
    (k : ∀ L' h₁ oL tk₁, Led b L' binds h₁ ((L, oL) :: μ) →
      wpAny (model P0 w) (A.deeper (envOf qual scope L' f cdv)) (execs body (envOf qual scope L' f cdv))
        (Leave b L al oL (fun r s' => match r with | .ok (.ret v) => Q v s' | .ok _ => False | .error e => E e s'))
        (fun e s' => wpAny (model P0 w) (A.deeper (envOf qual scope L' f cdv)) (leaving (envOf qual scope L' f cdv) e) (fun _ s'' => E e s'') (fun e' s'' => E e' s'') s') ⟨h₁, G, Dr, tk₁, O⟩)
    (hco : scope.isCoroutine = false := by rfl) (hgen : scope.isGenerator = false := by rfl) (hk : scope.kind = .function := by rfl)
    (hcell : ∀ x ∈ scope.names, x.2 ≠ .cell := by decide) :
    wpAny (model P0 w) A (call (.ref f) args kw) Q E ⟨h, G, Dr, tk, O⟩ := by
  obtain ⟨m, F, kn⟩ := D.loc
  obtain ⟨oL, es, ep, hL, hL2⟩ := F.ns
  refine wpAny_call (codeAny_call_def (fd := fnOf name qual params body scope dV kV doc pm an cdv ct) (body := body) (binds := binds) hroom (F.keep _ _ (B.X _ _ ho)) rfl (B.lim.keeps F.keep) ((codeRec_of B.X hcd).keeps F.keep) rfl hbind hcell hloc (fun h₁ hns hk₁ => ?_) hco hgen hk)
  have D₁ : Led b h.objs.size binds h₁ ((L, oL) :: μ) := by
    refine ⟨⟨_, ⟨hns, fun a o e => hk₁ a o (F.keep a o e), ?_⟩, kn_of_binds hnn⟩, fun p hp => ?_, hnn, ?_⟩
    · exact Nat.le_of_lt (Nat.lt_of_le_of_lt F.above (Heap.lt_size hL))
    · rcases List.mem_cons.mp hp with rfl | hp
      · refine ⟨hk₁ _ _ hL, Nat.ne_of_lt (Heap.lt_size hL), ?_⟩
        cases q : b.get? L with
        | none => rfl
        | some o => exact absurd (Heap.lt_size q) (Nat.not_lt.mpr F.above)
      · exact ⟨hk₁ _ _ (D.nw p hp).1, Nat.ne_of_lt (Heap.lt_size (D.nw p hp).1), (D.nw p hp).2.2⟩
    · rw [List.map_cons]
      refine List.nodup_cons.mpr ⟨fun q => ?_, D.nd⟩
      obtain ⟨p, hp, e⟩ := List.mem_map.mp q
      exact (D.nw p hp).2.1 e
  refine wpAny_mono (k _ h₁ oL _ D₁) (fun fl s' hl => ?_) fun _ _ y => y
  obtain ⟨L', al', μ', D', kk⟩ := hl
  exact kk (D.back ⟨m, ⟨es, ep, hL2⟩, kn⟩ D')

/-- the end of a called def that does not raise -/
def LeaveQ (b : Heap) (L : Addr) (al : List (Str × Value)) (oL : Obj) (Q : Value → Shared → Prop) (fl : Flow) (s' : Shared) : Prop :=
  ∃ L' al' μ', Led b L' al' s'.heap ((L, oL) :: μ') ∧ (Led b L al s'.heap μ' → Q (match fl with | .ret v => v | _ => .none) s')
theorem LeaveQ.ret {L' : Addr} {al' : List (Str × Value)} {oL : Obj} {v : Value} {μ' : List (Addr × Obj)}
    (D : Led b L' al' h ((L, oL) :: μ')) (k : Led b L al h μ' → Q v ⟨h, G, Dr, tk, O⟩) : LeaveQ b L al oL Q (.ret v) ⟨h, G, Dr, tk, O⟩ := ⟨L', al', μ', D, k⟩
theorem o_callN {f : Addr} {args : List Value} {oc : Value} {od : Option Addr} {name qual : Str} {params : Arguments} {body : List Stmt} {scope : Scope} {dV kV doc pm cdv ct : Value} {an : Option Addr} {osl : Array (Option Value)} {binds : List (Str × Value)} {kw : List (Str × Value)}
    (B : Base w mg mb b) (D : Led b L al h μ)
    (ho : (KK w).lookup f = some ⟨oc, od, .func (fnOf name qual params body scope dV kV doc pm an cdv ct), osl⟩) (hcd : codeIn (KK w) cdv qual = true) (hroom : A.depth < recursionLimit)
    (hbind : BindsTo ⟨h, G, Dr, tk, O⟩ (fnOf name qual params body scope dV kV doc pm an cdv ct) ⟨args, kw⟩ binds) (hloc : ∀ y ∈ binds, scope.names.lookup y.1 = some .local) (hnn : (binds.map (·.1)).Nodup)
    (k : ∀ A' E' L' h₁ oL tk₁, A'.handled = A.handled → A'.depth = A.depth + 1 → A'.units = A.units + 3 → Led b L' binds h₁ ((L, oL) :: μ) →
      wpAny (model P0 w) A' (execs body (envOf qual scope L' f cdv)) (LeaveQ b L al oL Q) E' ⟨h₁, G, Dr, tk₁, O⟩)
    (hco : scope.isCoroutine = false := by rfl) (hgen : scope.isGenerator = false := by rfl) (hk : scope.kind = .function := by rfl)
    (hcell : ∀ x ∈ scope.names, x.2 ≠ .cell := by decide) :
    wpAny (model P0 w) A (call (.ref f) args kw) Q E ⟨h, G, Dr, tk, O⟩ :=
  o_call B D ho hcd hroom hbind hloc hnn (fun L' h₁ oL tk₁ D₁ => wpAny_mono (k (A.deeper (envOf qual scope L' f cdv)) _ L' h₁ oL tk₁ rfl rfl rfl D₁) (fun _ _ q => q) fun _ _ q => q) hco hgen hk hcell
end
end Mine
end

section
open PySem PySem.W PyProof.Rows PySem.Spec PySem.Calls
set_option Elab.async false
set_option maxRecDepth 100000
set_option maxHeartbeats 4000000
namespace Mine
section
variable {w : World} {A : Around} {b h : Heap} {L a : Addr} {cd : Value} {nm : Str} {sc : Scope} {al : List (Str × Value)} {μ : List (Addr × Obj)} {mg mb : Str → Option Value} {G : Array GenState} {Dr : Drawn} {tk : Nat} {O : OsState} {Q : Value → Shared → Prop} {E : Value → Shared → Prop}

/-! names -/
theorem o_ld {env : Env} {x : Str} {pos : Pos} {v : Value} (D : Led b L al h μ) (hm : (x, v) ∈ al) (k : Q v ⟨h, G, Dr, tk, O⟩)
    (hL : env.locals = L) (hk : env.scope.kind = .function) (hl : env.kindOf x = some .local) (hd : (x == ("__debug__" : Str)) = false) :
    wpAny (model P0 w) A (eval (.Name x pos) env) Q E ⟨h, G, Dr, tk, O⟩ := by
  subst hL
  obtain ⟨m, F, kn⟩ := D.loc
  exact wpAny_Name (wpAny_loadName_local (s := ⟨h, G, Dr, tk, O⟩) hk hl F.ns (kn _ hm) k) hd
theorem o_glob {env : Env} {x : Str} {pos : Pos} {v : Value} (B : Base w mg mb b) (D : Led b L al h μ) (e : nsIn (KK w) mainGlobals x = some (some v)) (k : Q v ⟨h, G, Dr, tk, O⟩)
    (hg : env.globals = mainGlobals) (hk : env.scope.kind = .function) (hx : env.kindOf x = some .globalImplicit) (hd : (x == ("__debug__" : Str)) = false) :
    wpAny (model P0 w) A (eval (.Name x pos) env) Q E ⟨h, G, Dr, tk, O⟩ := by
  obtain ⟨m, F, kn⟩ := D.loc
  exact Calls.Name_function_global hk hx (Calls.loadGlobal_global (s := ⟨h, G, Dr, tk, O⟩) (by rw [hg]; exact B.g.keeps F.keep) (mg_of B.X B.g e) k) hd
theorem o_boot {env : Env} {x : Str} {pos : Pos} {v : Value} (B : Base w mg mb b) (D : Led b L al h μ) (e : nsIn (KK w) mainGlobals x = some none) (hv : bootBuiltins x = some v) (hn : x ≠ "__name__") (k : Q v ⟨h, G, Dr, tk, O⟩)
    (hg : env.globals = mainGlobals) (hb : env.builtins = builtinsNs) (hk : env.scope.kind = .function) (hx : env.kindOf x = some .globalImplicit) (hd : (x == ("__debug__" : Str)) = false) :
    wpAny (model P0 w) A (eval (.Name x pos) env) Q E ⟨h, G, Dr, tk, O⟩ := by
  obtain ⟨m, F, kn⟩ := D.loc
  exact Calls.Name_function_global hk hx (Calls.loadGlobal_builtin (s := ⟨h, G, Dr, tk, O⟩) (by rw [hg]; exact B.g.keeps F.keep) (mg_none_of B.X B.g e) (by rw [hb]; exact B.bn.keeps F.keep) ((B.bi x hn).trans hv) k) hd

/-! stores -/
theorem o_stGen {env : Env} {x : Str} {v : Value} {al' : List (Str × Value)} {Q : Unit → Shared → Prop} (D : Led b L al h μ) (h1 : ∀ p ∈ al', p = (x, v) ∨ (p.1 ≠ x ∧ p ∈ al)) (h2 : (al'.map (·.1)).Nodup)
    (k : ∀ h' tk', Led b L al' h' μ → Q () ⟨h', G, Dr, tk', O⟩)
    (hL : env.locals = L) (hk : env.scope.kind = .function) (hl : env.kindOf x = some .local) :
    wpAny (model P0 w) A (storeName env x v) Q E ⟨h, G, Dr, tk, O⟩ := by
  subst hL
  obtain ⟨m, F, kn⟩ := D.loc
  refine wpAny_storeName_local (s := ⟨h, G, Dr, tk, O⟩) hl F.ns (fun h' hn hs => k h' _ ⟨⟨_, F.set hn hs, fun p hp => ?_⟩, D.nw.set hs, h2, D.nd⟩) (by rw [hk]; rfl)
  rcases h1 p hp with rfl | ⟨q, hp'⟩
  · simp
  · simp only [q, if_false]; exact kn p hp'
theorem nn_ne {x : Str} {u : Value} {pre post : List (Str × Value)} (h : ((pre ++ (x, u) :: post).map (·.1)).Nodup) : ∀ p ∈ pre ++ post, p.1 ≠ x := by
  intro p hp e
  rw [List.map_append, List.map_cons] at h
  have h2 := List.nodup_append.mp h
  rcases List.mem_append.mp hp with q | q
  · exact h2.2.2 _ (List.mem_map_of_mem q) _ (.head _) e
  · exact (List.nodup_cons.mp h2.2.1).1 (List.mem_map.mpr ⟨p, q, e⟩)
theorem o_stAt {env : Env} {x : Str} {u v : Value} {pre post : List (Str × Value)} {Q : Unit → Shared → Prop} (D : Led b L (pre ++ (x, u) :: post) h μ)
    (k : ∀ h' tk', Led b L (pre ++ (x, v) :: post) h' μ → Q () ⟨h', G, Dr, tk', O⟩)
    (hL : env.locals = L) (hk : env.scope.kind = .function) (hl : env.kindOf x = some .local) :
    wpAny (model P0 w) A (storeName env x v) Q E ⟨h, G, Dr, tk, O⟩ := by
  refine o_stGen D (fun p hp => ?_) (by have := D.nn; rw [List.map_append, List.map_cons] at this ⊢; exact this) k hL hk hl
  rcases List.mem_append.mp hp with q | q
  · exact .inr ⟨nn_ne D.nn p (List.mem_append.mpr (.inl q)), List.mem_append.mpr (.inl q)⟩
  · rcases List.mem_cons.mp q with rfl | q
    · exact .inl rfl
    · exact .inr ⟨nn_ne D.nn p (List.mem_append.mpr (.inr q)), List.mem_append.mpr (.inr (.tail _ q))⟩
/-- a name that the ledger does not know yet: it comes last -/
theorem o_stN {env : Env} {x : Str} {v : Value} {Q : Unit → Shared → Prop} (D : Led b L al h μ) (hx : x ∉ al.map (·.1)) (k : ∀ h' tk', Led b L (al ++ [(x, v)]) h' μ → Q () ⟨h', G, Dr, tk', O⟩)
    (hL : env.locals = L) (hk : env.scope.kind = .function) (hl : env.kindOf x = some .local) :
    wpAny (model P0 w) A (storeName env x v) Q E ⟨h, G, Dr, tk, O⟩ := by
  refine o_stGen D (fun p hp => ?_) ?_ k hL hk hl
  · rcases List.mem_append.mp hp with q | q
    · exact .inr ⟨fun e => hx (List.mem_map.mpr ⟨p, q, e⟩), q⟩
    · exact .inl (List.mem_singleton.mp q)
  · rw [List.map_append]
    refine List.nodup_append.mpr ⟨D.nn, by simp, fun y hy z hz e => ?_⟩
    rw [List.map_cons, List.map_nil, List.mem_singleton] at hz
    subst hz; subst e; exact hx hy

/-! constants, ints -/
theorem o_int {i : Int} {n : Nat} {pos : Pos} {env : Env} (k : ∀ t tk', Q (.int i t) ⟨h, G, Dr, tk', O⟩) : wpAny (model P0 w) A (eval (.Constant (.int i) n pos) env) Q E ⟨h, G, Dr, tk, O⟩ := wpAny_Constant_int (k _ _)
theorem o_str {x : Str} {n : Nat} {pos : Pos} {env : Env} (k : ∀ t tk', Q (.str x t) ⟨h, G, Dr, tk', O⟩) : wpAny (model P0 w) A (eval (.Constant (.str x) n pos) env) Q E ⟨h, G, Dr, tk, O⟩ := Calls.Constant_str (k _ _)
section
variable {x y : Int} {t u : Tok}
theorem o_add (k : ∀ t tk', Q (.int (x + y) t) ⟨h, G, Dr, tk', O⟩) : wpAny (model P0 w) A (binaryOp .Add (.int x t) (.int y u)) Q E ⟨h, G, Dr, tk, O⟩ := add_int (k _ _)
theorem o_sub (k : ∀ t tk', Q (.int (x - y) t) ⟨h, G, Dr, tk', O⟩) : wpAny (model P0 w) A (binaryOp .Sub (.int x t) (.int y u)) Q E ⟨h, G, Dr, tk, O⟩ := sub_int (k _ _)
theorem o_and (k : ∀ t tk', Q (.int (Builtin.bitAnd x y) t) ⟨h, G, Dr, tk', O⟩) : wpAny (model P0 w) A (binaryOp .BitAnd (.int x t) (.int y u)) Q E ⟨h, G, Dr, tk, O⟩ := and_int (k _ _)
theorem o_or (k : ∀ t tk', Q (.int (Builtin.bitOr x y) t) ⟨h, G, Dr, tk', O⟩) : wpAny (model P0 w) A (binaryOp .BitOr (.int x t) (.int y u)) Q E ⟨h, G, Dr, tk, O⟩ := or_int (k _ _)
theorem o_mod (hy : y ≠ 0) (k : ∀ t tk', Q (.int (x.fmod y) t) ⟨h, G, Dr, tk', O⟩) : wpAny (model P0 w) A (binaryOp .Mod (.int x t) (.int y u)) Q E ⟨h, G, Dr, tk, O⟩ := mod_int' hy (k _ _)
theorem o_eq (k : Q (.bool (x == y)) ⟨h, G, Dr, tk, O⟩) : wpAny (model P0 w) A (compareOp .Eq (.int x t) (.int y u)) Q E ⟨h, G, Dr, tk, O⟩ := eq_int k
theorem o_lt (k : Q (.bool (decide (x < y))) ⟨h, G, Dr, tk, O⟩) : wpAny (model P0 w) A (compareOp .Lt (.int x t) (.int y u)) Q E ⟨h, G, Dr, tk, O⟩ := lt_int k
theorem o_gt (k : Q (.bool (decide (y < x))) ⟨h, G, Dr, tk, O⟩) : wpAny (model P0 w) A (compareOp .Gt (.int x t) (.int y u)) Q E ⟨h, G, Dr, tk, O⟩ := gt_int k
theorem o_ge (k : Q (.bool (decide (y ≤ x))) ⟨h, G, Dr, tk, O⟩) : wpAny (model P0 w) A (compareOp .GtE (.int x t) (.int y u)) Q E ⟨h, G, Dr, tk, O⟩ := ge_int k
end

/-! lists -/
theorem o_newList {vs : List Value} (D : Led b L al h μ) (k : ∀ l h', Led b L al h' ((l, listOf vs.toArray 0) :: μ) → Q (.ref l) ⟨h', G, Dr, tk, O⟩) (hsz : vs.length ≤ sizeLine) :
    wpAny (model P0 w) A (newList vs) Q E ⟨h, G, Dr, tk, O⟩ := by
  refine wpAny_newObj_type ?_ (by show vs.toArray.size ≤ sizeLine; rw [List.size_toArray]; exact hsz)
  exact k _ _ (D.push _)
theorem o_append {its : Array Value} {n : Nat} {x : Value} {D' : Addr} {pre post : List (Addr × Obj)} (D : Led b L al h (pre ++ (D', listOf its n) :: post)) (hsz : its.size ≤ sizeLine)
    (k : ∀ h', Led b L al h' (pre ++ (D', listOf (its.push x) (n + 1)) :: post) → Q .none ⟨h', G, Dr, tk, O⟩) : wpAny (model P0 w) A (call (.builtin "list.append") [.ref D', x]) Q E ⟨h, G, Dr, tk, O⟩ :=
  append_at (s := ⟨h, G, Dr, tk, O⟩) (D.get (List.mem_append.mpr (.inr (.head _)))) (fun h' hs ho => k h' (D.change hs ho)) hsz
theorem o_appendM {D' : Addr} {its : Array Value} {n : Nat} {pl : Sem Bool} {Q : Value × List Value → Shared → Prop} (D : Led b L al h μ) (hm : (D', listOf its n) ∈ μ)
    (k : Q (.builtin "list.append", [.ref D']) ⟨h, G, Dr, tk, O⟩) : wpAny (model P0 w) A (getMethod (.ref D') "append" pl) Q E ⟨h, G, Dr, tk, O⟩ :=
  Calls.getMethod_list_append (s := ⟨h, G, Dr, tk, O⟩) (D.get hm) rfl rfl k
end
end Mine
end

section
open PySem PySem.W PyProof.Rows PySem.Spec PySem.Calls
set_option Elab.async false
set_option maxRecDepth 100000
set_option maxHeartbeats 4000000
namespace Mine
/-- one object of the ledger is another -/
inductive Up (a : Addr) (o o' : Obj) : List (Addr × Obj) → List (Addr × Obj) → Prop
  | head {r} : Up a o o' ((a, o) :: r) ((a, o') :: r)
  | tail {p r r'} : Up a o o' r r' → Up a o o' (p :: r) (p :: r')
/-- one object of the ledger is dropped -/
inductive Rm (a : Addr) (o : Obj) : List (Addr × Obj) → List (Addr × Obj) → Prop
  | head {r} : Rm a o ((a, o) :: r) r
  | tail {p r r'} : Rm a o r r' → Rm a o (p :: r) (p :: r')
theorem Up.split {a : Addr} {o o' : Obj} {l l' : List (Addr × Obj)} (U : Up a o o' l l') : ∃ pre post, l = pre ++ (a, o) :: post ∧ l' = pre ++ (a, o') :: post := by
  induction U with
  | head => exact ⟨[], _, rfl, rfl⟩
  | tail _ ih => obtain ⟨pre, post, rfl, rfl⟩ := ih; exact ⟨_ :: pre, post, rfl, rfl⟩
theorem Up.mem {a : Addr} {o o' : Obj} {l l' : List (Addr × Obj)} (U : Up a o o' l l') : (a, o) ∈ l := by
  obtain ⟨pre, post, rfl, rfl⟩ := U.split; exact List.mem_append.mpr (.inr (.head _))
theorem Rm.split {a : Addr} {o : Obj} {l l' : List (Addr × Obj)} (U : Rm a o l l') : ∃ pre post, l = pre ++ (a, o) :: post ∧ l' = pre ++ post := by
  induction U with
  | head => exact ⟨[], _, rfl, rfl⟩
  | tail _ ih => obtain ⟨pre, post, rfl, rfl⟩ := ih; exact ⟨_ :: pre, post, rfl, rfl⟩
theorem Rm.mem {a : Addr} {o : Obj} {l l' : List (Addr × Obj)} (U : Rm a o l l') : (a, o) ∈ l := by
  obtain ⟨pre, post, rfl, rfl⟩ := U.split; exact List.mem_append.mpr (.inr (.head _))

theorem Up.keys {a : Addr} {o o' : Obj} {l l' : List (Addr × Obj)} (U : Up a o o' l l') : l'.map (·.1) = l.map (·.1) := by
  obtain ⟨pre, post, rfl, rfl⟩ := U.split; simp
theorem Up.cases {a : Addr} {o o' : Obj} {l l' : List (Addr × Obj)} (U : Up a o o' l l') (nd : (l.map (·.1)).Nodup) : ∀ p ∈ l', p = (a, o') ∨ (p ∈ l ∧ p.1 ≠ a) := by
  obtain ⟨pre, post, rfl, rfl⟩ := U.split
  intro p hp
  rw [List.map_append, List.map_cons] at nd
  have h2 := List.nodup_append.mp nd
  rcases List.mem_append.mp hp with q | q
  · exact .inr ⟨List.mem_append.mpr (.inl q), fun e => h2.2.2 _ (List.mem_map_of_mem q) _ (.head _) e⟩
  · rcases List.mem_cons.mp q with q | q
    · exact .inl q
    · exact .inr ⟨List.mem_append.mpr (.inr (.tail _ q)), fun e => (List.nodup_cons.mp h2.2.1).1 (List.mem_map.mpr ⟨p, q, e⟩)⟩

section
variable {b h h' : Heap} {L : Addr} {al : List (Str × Value)} {μ μ' : List (Addr × Obj)} {a : Addr} {o o' : Obj}
theorem Led.up (D : Led b L al h μ) (U : Up a o o' μ μ') (hs : Heap.SameBut a h h') (ho : h'.get? a = some o') : Led b L al h' μ' := by
  obtain ⟨pre, post, rfl, rfl⟩ := U.split; exact D.change hs ho
theorem Led.rm (D : Led b L al h μ) (U : Rm a o μ μ') (hs : Heap.ExtBut a h h') : Led b L al h' μ' := by
  obtain ⟨pre, post, rfl, rfl⟩ := U.split
  have z := D.nw (a, o) (List.mem_append.mpr (.inr (.head _)))
  obtain ⟨m, F, k⟩ := D.loc
  have nd := D.nd
  rw [List.map_append, List.map_cons] at nd
  have hne : ∀ p ∈ pre ++ post, p.1 ≠ a := by
    intro p hp e
    have h2 := List.nodup_append.mp nd
    rcases List.mem_append.mp hp with q | q
    · exact h2.2.2 _ (List.mem_map_of_mem q) _ (.head _) e
    · exact (List.nodup_cons.mp h2.2.1).1 (List.mem_map.mpr ⟨p, q, e⟩)
  refine ⟨⟨m, ⟨F.ns.extBut hs (Ne.symm z.2.1), fun c oc e => hs c oc (fun q => ?_) (F.keep c oc e), F.above⟩, k⟩, fun p hp => ?_, D.nn, ?_⟩
  · subst q; rw [z.2.2] at e; cases e
  · have hp' : p ∈ pre ++ (a, o) :: post := (List.mem_append.mp hp).elim (fun q => List.mem_append.mpr (.inl q)) fun q => List.mem_append.mpr (.inr (.tail _ q))
    exact ⟨hs _ _ (hne p hp) (D.nw p hp').1, (D.nw p hp').2⟩
  · rw [List.map_append]
    have h2 := List.nodup_append.mp nd
    exact List.nodup_append.mpr ⟨h2.1, (List.nodup_cons.mp h2.2.1).2, fun x hx y hy => h2.2.2 x hx y (.tail _ hy)⟩

/-- two objects have turned, the rest stands -/
theorem Led.two {μ₁ μ₂ : List (Addr × Obj)} {e i : Addr} {oe oe' oi oi' : Obj} (D : Led b L al h μ) (U : Up e oe oe' μ μ₁) (V : Up i oi oi' μ₁ μ₂) (hne : e ≠ i) (he : h'.get? e = some oe') (hi : h'.get? i = some oi')
    (hk : ∀ c o, c ≠ e → c ≠ i → h.get? c = some o → h'.get? c = some o) : Led b L al h' μ₂ := by
  have nd1 : (μ₁.map (·.1)).Nodup := by rw [U.keys]; exact D.nd
  have ze := D.nw _ U.mem
  have zi : h.get? i = some oi ∧ i ≠ L ∧ b.get? i = none := by
    rcases U.cases D.nd _ V.mem with q | q
    · exact absurd (congrArg Prod.fst q).symm hne
    · exact D.nw _ q.1
  obtain ⟨m, F, k⟩ := D.loc
  obtain ⟨oL, es, ep, hL, r⟩ := F.ns
  refine ⟨⟨m, ⟨⟨oL, es, ep, hk _ _ (Ne.symm ze.2.1) (Ne.symm zi.2.1) hL, r⟩, fun c o q => hk c o (fun z => ?_) (fun z => ?_) (F.keep c o q), F.above⟩, k⟩, fun p hp => ?_, D.nn, by rw [V.keys]; exact nd1⟩
  · subst z; rw [ze.2.2] at q; cases q
  · subst z; rw [zi.2.2] at q; cases q
  · rcases V.cases nd1 p hp with rfl | ⟨q, q1⟩
    · exact ⟨hi, zi.2⟩
    · rcases U.cases D.nd p q with rfl | ⟨q, q2⟩
      · exact ⟨he, ze.2⟩
      · exact ⟨hk _ _ q2 q1 (D.nw p q).1, (D.nw p q).2⟩
/-- one more object that the heap has -/
theorem Led.one {c : Addr} {o : Obj} (D : Led b L al h μ) (ho : h.get? c = some o) (hL : c ≠ L) (hb : b.get? c = none) (hn : c ∉ μ.map (·.1)) : Led b L al h ((c, o) :: μ) :=
  ⟨D.loc, fun p hp => by rcases List.mem_cons.mp hp with rfl | hp; exact ⟨ho, hL, hb⟩; exact D.nw p hp, D.nn, List.nodup_cons.mpr ⟨hn, D.nd⟩⟩
/-- all that stood stands -/
theorem Led.ext (D : Led b L al h μ) (hs : Heap.ExtBut h.objs.size h h') : Led b L al h' μ := D.more fun c o e => hs c o (Nat.ne_of_lt (Heap.lt_size e)) e
end

def TupItO (o : Obj) (t : Addr) (i : Nat) : Prop := o.cls = .type "tuple_iterator" ∧ o.data = .fields #[.ref t, .int i 0]
def LstItO (o : Obj) (t : Addr) (i : Nat) : Prop := o.cls = .type "list_iterator" ∧ o.data = .fields #[.ref t, .int i 0]
abbrev enumObj (it : Addr) (i : Int) (old : Value) : Obj := { cls := .type "enumerate", dict := none, data := .fields #[.none, .bool false, .ref it, rawInt i, .none, old], slots := #[] }

section
variable {w : World} {A : Around} {b h : Heap} {L a : Addr} {cd : Value} {nm : Str} {sc : Scope} {al : List (Str × Value)} {μ μ' μ'' : List (Addr × Obj)} {mg mb : Str → Option Value} {G : Array GenState} {Dr : Drawn} {tk : Nat} {O : OsState} {E : Value → Shared → Prop} {env : Env}

/-! one turn of a for -/
theorem o_forStep {R : Result → Shared → Prop} {target : Expr} {it : Value} {body orelse : List Stmt} {s : Shared}
    (turn : wpAny (model P0 w) A (pyNext it) (fun r s₁ => match r with
      | none => wpAny (model P0 w) A (execs orelse env) (fun f s₃ => R (.ok f) s₃) (notedBy (model P0 w) A env fun e s' => R (.error e) s') s₁
      | some v => wpAny (model P0 w) A (letOwnedTupleGo target it v) (fun _ s₁' =>
          wpAny (model P0 w) A (assign target env v) (fun _ s₂ => wpAny (model P0 w) A (execs body env) (fun f s₃ => match f with
            | .next | .cont => codeAny (model P0 w) A (.forLoop target it body orelse env) R s₃
            | .brk => R (.ok .next) s₃
            | .ret v => R (.ok (.ret v)) s₃) (notedBy (model P0 w) A env fun e s' => R (.error e) s') s₂) (notedBy (model P0 w) A env fun e s' => R (.error e) s') s₁') (notedBy (model P0 w) A env fun e s' => R (.error e) s') s₁) (notedBy (model P0 w) A env fun e s' => R (.error e) s') s) :
    codeAny (model P0 w) A (.forLoop target it body orelse env) R s := by
  refine codeAny_of_tree ?_
  show wpAny _ A ((forTurn target it body orelse env).onRaise (fun x => do noteFrame x env; theTreesLotGoes x)) _ _ s
  refine wpAny_noted ?_
  simp only [forTurn]
  refine wpAny_bind (wpAny_standAt (wpAny_bind (wpAny_onRaise (wpAny_mono turn (fun r s₁ h₁ => ?_) fun _ _ h' => wpAny_standAt h'))))
  cases r with
  | none => exact wpAny_pure ⟨rfl, codeAny_block h₁⟩
  | some v =>
    refine wpAny_bind (wpAny_mono h₁ (fun _ s₁' h₁' => ?_) fun _ _ h' => h')
    refine wpAny_bind (wpAny_mono h₁' (fun _ s₂ h₂ => wpAny_bind (wpAny_mono h₂ (fun f s₃ h₃ => ?_) fun _ _ h' => h')) fun _ _ h' => h')
    cases f with
    | next => exact wpAny_pure ⟨rfl, h₃⟩
    | cont => exact wpAny_pure ⟨rfl, h₃⟩
    | brk => exact wpAny_pure h₃
    | ret v => exact wpAny_pure h₃

/-! tuples' iterators -/
theorem o_iterTup {t : Addr} {its : Array Value} {Q : Value → Shared → Prop} (D : Led b L al h μ) (ht : IsTup h t its)
    (k : ∀ it o h', TupItO o t 0 → IsTup h' t its → Led b L al h' ((it, o) :: μ) → Q (.ref it) ⟨h', G, Dr, tk, O⟩) :
    wpAny (model P0 w) A (pyIter (.ref t)) Q E ⟨h, G, Dr, tk, O⟩ :=
  iter_tuple (s := ⟨h, G, Dr, tk, O⟩) ht (k _ _ _ ⟨rfl, rfl⟩ (ht.keeps fun _ _ e => Heap.get?_push_of_some _ e) (D.push _))
theorem o_nextTup {it t : Addr} {o : Obj} {i : Nat} {its : Array Value} {x : Value} {Q : Option Value → Shared → Prop} (D : Led b L al h μ) (hm : (it, o) ∈ μ) (ho : TupItO o t i) (ht : IsTup h t its) (hx : its[i]? = some x) (hne : t ≠ it)
    (k : ∀ o' h', TupItO o' t (i + 1) → IsTup h' t its → (∀ μ', Up it o o' μ μ' → Led b L al h' μ') → Q (some x) ⟨h', G, Dr, tk, O⟩) :
    wpAny (model P0 w) A (pyNext (.ref it)) Q E ⟨h, G, Dr, tk, O⟩ := by
  refine next_tuple_item (s := ⟨h, G, Dr, tk, O⟩) (it := it) (t := t) (i := i) ⟨o, D.get hm, ho⟩ ht hx fun h' hit hs => ?_
  obtain ⟨o', ho', q⟩ := hit
  exact k o' h' q (ht.extBut hs.extBut hne) fun μ' U => D.up U hs ho'
theorem o_endTup {it t : Addr} {o : Obj} {i : Nat} {its : Array Value} {Q : Option Value → Shared → Prop} (hh : A.handled = none) (D : Led b L al h μ) (hm : (it, o) ∈ μ) (ho : TupItO o t i) (ht : IsTup h t its) (hx : its[i]? = none)
    (U : Rm it o μ μ') (k : ∀ h', Led b L al h' μ' → Q none ⟨h', G, Dr, tk, O⟩) :
    wpAny (model P0 w) A (pyNext (.ref it)) Q E ⟨h, G, Dr, tk, O⟩ :=
  next_tuple_end (s := ⟨h, G, Dr, tk, O⟩) hh (it := it) (t := t) (i := i) ⟨o, D.get hm, ho⟩ ht hx fun h' hs => k h' (D.rm U hs)

/-! a tuple or a list is unpacked -/
theorem o_unpackTup {elts : List Expr} {x1 : Nat} {pos : Pos} {t : Addr} {its : Array Value} {Q : Unit → Shared → Prop} (hh : A.handled = none) (D : Led b L al h μ) (ht : IsTup h t its)
    (hn : (assignEach elts env).length = its.size) (hstar : (assignEach elts env).findIdx? (·.1) = none)
    (k : ∀ h', Led b L al h' μ → (∀ c o, h.get? c = some o → h'.get? c = some o) → wpAny (model P0 w) A (assignInOrder ((assignEach elts env).map (·.2)) its.toList) Q E ⟨h', G, Dr, tk, O⟩) :
    wpAny (model P0 w) A (assign (.Tuple elts x1 pos) env (.ref t)) Q E ⟨h, G, Dr, tk, O⟩ :=
  assign_Tuple_tuple (s := ⟨h, G, Dr, tk, O⟩) hh ht hn hstar fun h' hs => k h' (D.ext hs) fun c o e => hs c o (Nat.ne_of_lt (Heap.lt_size e)) e

/-! enumerate over a tuple -/
theorem nextOf_tup {it t : Addr} {i : Nat} {items : Array Value} {x : Value} {s : Shared} {Q : Value → Shared → Prop} (hit : IsTupIter s.heap it t i) (ht : IsTup s.heap t items) (hx : items[i]? = some x)
    (hQ : ∀ h', IsTupIter h' it t (i + 1) → Heap.SameBut it s.heap h' → Q x { s with heap := h' }) :
    wpAny (model P0 w) A (Builtin.SmallTypes.nextOf (.ref it)) Q E s := by
  obtain ⟨o, ho, hc, hd⟩ := id hit
  obtain ⟨ol, hol, _, nl, hdl⟩ := ht
  unfold Builtin.SmallTypes.nextOf
  refine wpAny_bind (wpAny_callSpecial?_slot (name := Str.ofString "__next__") hit.typeIs slot_tupleiter_next
    (wpAny_call_entry slot_tupleiter_next hit.typeIs entry_tupleiter_next ?_ (args_tupleiter_next _)))
  show wpAny _ _ (field (.ref it) 0 >>= _) _ _ s
  refine wpAny_bind (wpAny_field ho hd (x := .ref t) rfl ?_)
  show wpAny _ _ (if (Value.ref t == Value.none) = true then _ else _) _ _ s
  rw [if_neg (show ¬ ((Value.ref t == Value.none) = true) from Bool.false_ne_true)]
  show wpAny _ _ (field (.ref it) 1 >>= _) _ _ s
  refine wpAny_bind (wpAny_field ho hd (x := .int i 0) rfl ?_)
  show wpAny _ _ (seqItems? (.ref t) >>= _) _ _ s
  refine wpAny_bind (wpAny_seqItems hol hdl ?_)
  simp only [Int.toNat_natCast, hx]
  refine wpAny_bind (wpAny_setField ho hd (by simp) (wpAny_pure ⟨x, rfl, wpAny_pure (hQ _ ?_ (Heap.SameBut.update ..))⟩))
  exact ⟨_, Heap.get?_update_self _ ho (Obj.isFreed_of_fields (Obj.data_mapFields hd _)), (Obj.cls_mapFields ..).trans hc, by
    rw [Obj.data_mapFields hd]; simp [rawInt]⟩
theorem nextOf_tupEnd {it t : Addr} {i : Nat} {items : Array Value} {s : Shared} {Q : Value → Shared → Prop} (hh : A.handled = none) (hit : IsTupIter s.heap it t i) (ht : IsTup s.heap t items) (hx : items[i]? = none)
    (hE : ∀ h' e, Heap.ExtBut it s.heap h' → (∃ o, h'.get? e = some o ∧ o.cls = .type "StopIteration") → E (.ref e) { s with heap := h' }) :
    wpAny (model P0 w) A (Builtin.SmallTypes.nextOf (.ref it)) Q E s := by
  obtain ⟨o, ho, hc, hd⟩ := id hit
  obtain ⟨ol, hol, _, nl, hdl⟩ := ht
  unfold Builtin.SmallTypes.nextOf
  refine wpAny_bind (wpAny_callSpecial?_slot (name := Str.ofString "__next__") hit.typeIs slot_tupleiter_next
    (wpAny_call_entry slot_tupleiter_next hit.typeIs entry_tupleiter_next ?_ (args_tupleiter_next _)))
  show wpAny _ _ (field (.ref it) 0 >>= _) _ _ s
  refine wpAny_bind (wpAny_field ho hd (x := .ref t) rfl ?_)
  show wpAny _ _ (if (Value.ref t == Value.none) = true then _ else _) _ _ s
  rw [if_neg (show ¬ ((Value.ref t == Value.none) = true) from Bool.false_ne_true)]
  show wpAny _ _ (field (.ref it) 1 >>= _) _ _ s
  refine wpAny_bind (wpAny_field ho hd (x := .int i 0) rfl ?_)
  show wpAny _ _ (seqItems? (.ref t) >>= _) _ _ s
  refine wpAny_bind (wpAny_seqItems hol hdl ?_)
  simp only [Int.toNat_natCast, hx]
  refine wpAny_bind (wpAny_rule (wpAny_bind (wpAny_setField ho hd (by simp) ?_)))
  show wpAny _ _ (newExc (.type "StopIteration") [] >>= _) _ _ _
  refine wpAny_bind ?_
  simp only [newExc, newTuple]
  refine wpAny_bind (wpAny_newObj_type ?_ (by size_fits))
  refine wpAny_bind (m := firstArgMember _ _) (wpAny_of_eq (a := Value.none) (by first | rfl | (simp only [firstArgMember]; rfl)) ?_)
  refine wpAny_newObj_type ?_ (by size_fits)
  simp only [raiseNew]
  refine wpAny_bind (wpAny_handled ?_)
  first | rw [show A.in1.handled = none from hh] | rw [hh]
  refine wpAny_bind (wpAny_pure (wpAny_throw ?_))
  exact hE _ _ (((Heap.SameBut.update ..).extBut.push _).push _) ⟨_, Heap.get?_push_size _ rfl, rfl⟩
theorem drawsTup (hh : A.handled = none) (it t : Addr) (hne : t ≠ it) (items : Array Value) :
    Draws P0 w A it [it, t] items.size (fun i v => items[i]? = some v) (fun i h => IsTupIter h it t i ∧ IsTup h t items) where
  live := fun _ _ st => let ⟨o, ho, _⟩ := st.1; ⟨o, ho⟩
  frame := fun _ _ _ st hk => by
    obtain ⟨⟨o, ho, r⟩, ⟨o', ho', r'⟩⟩ := st
    exact ⟨⟨o, hk it (by simp) o ho, r⟩, ⟨o', hk t (by simp) o' ho', r'⟩⟩
  item := fun i s Q E hi st hQ => by
    refine nextOf_tup st.1 st.2 (x := items[i]) (by simp [hi]) fun h' hit' hs' => ?_
    exact hQ _ h' s.toks (by simp [hi]) ⟨hit', st.2.extBut hs'.extBut hne⟩ hs'
  done := fun s Q E st hE => nextOf_tupEnd hh st.1 st.2 (by simp) hE
theorem meets_enumTup (l : Addr) (items : Array Value) (n : Nat) (dct : Option Addr) (sl : Array (Option Value)) :
    Meets (Builtin.«enumerate.__new__» ⟨[.type "enumerate", .ref l], []⟩) (fun _ R s => s.heap.get? l = some { cls := .type "tuple", dict := dct, data := .seq items n, slots := sl } ∧
      R (.ok (.ret (.ref (s.heap.push { cls := .type "tuple_iterator", data := .fields #[.ref l, .int 0 0] }).objs.size)))
        { s with heap := (s.heap.push { cls := .type "tuple_iterator", data := .fields #[.ref l, .int 0 0] }).push { cls := .type "enumerate", data := .fields #[.none, .bool false, .ref s.heap.objs.size, rawInt 0, .none, .none] } }) :=
  .of_wp fun prog w A R s h => by
    obtain ⟨hp, g, d, tk, os⟩ := s; obtain ⟨hl, h⟩ := h
    have hsub := sub_enumerate
    have hL : IsTup (Shared.heap ⟨hp, g, d, tk, os⟩) l items := ⟨_, hl, rfl, n, rfl⟩
    wp_walk using AutoSeq1.wpAny_loadPart' hl
    refine wpAny_stack_any fun st => wpAny_pure ?_
    split
    · rename_i c _ _ _ _ _
      cases (c == Value.type "enumerate")
      · wp_walk using AutoSeq1.wpAny_loadPart' hl, iter_tuple hL
        exact ⟨_, rfl, h⟩
      · wp_walk using AutoSeq1.wpAny_loadPart' hl, iter_tuple hL
        exact ⟨_, rfl, h⟩
    · wp_walk using AutoSeq1.wpAny_loadPart' hl, iter_tuple hL
      exact ⟨_, rfl, h⟩
theorem o_enumTup {t : Addr} {its : Array Value} {Q : Value → Shared → Prop} (D : Led b L al h μ) (ht : IsTup h t its)
    (k : ∀ e it o h', TupItO o t 0 → IsTup h' t its → Led b L al h' ((e, enumObj it 0 .none) :: (it, o) :: μ) → Q (.ref e) ⟨h', G, Dr, tk, O⟩) :
    wpAny (model P0 w) A (call (.type "enumerate") [.ref t]) Q E ⟨h, G, Dr, tk, O⟩ := by
  obtain ⟨⟨c, dct, dt, sl⟩, hl, hc, n, hd⟩ := id ht
  replace hc : c = .type "tuple" := hc
  replace hd : dt = .seq its n := hd
  subst hc hd
  refine callType_new (s := ⟨h, G, Dr, tk, O⟩) F.called_enumerate (by decide) (F.typeCall_enumerate_1 _) (F.newCall_enumerate_1 _) (fun obj => F.args_object_init_2 obj _) F.entry_enumerate_new
    (meets_enumTup t its n dct sl) ⟨hl, ?_⟩
  have D1 := (D.push { cls := .type "tuple_iterator", data := .fields #[.ref t, .int 0 0] }).push { cls := .type "enumerate", data := .fields #[.none, .bool false, .ref h.objs.size, rawInt 0, .none, .none] }
  refine ⟨⟨_, D1.get (.head _), rfl⟩, k _ _ _ _ ⟨rfl, rfl⟩ (ht.keeps fun _ _ e => Heap.get?_push_of_some _ (Heap.get?_push_of_some _ e)) D1⟩
theorem o_iterEnum {e it : Addr} {i : Int} {old : Value} {Q : Value → Shared → Prop} (D : Led b L al h μ) (hm : (e, enumObj it i old) ∈ μ) (k : Q (.ref e) ⟨h, G, Dr, tk, O⟩) :
    wpAny (model P0 w) A (pyIter (.ref e)) Q E ⟨h, G, Dr, tk, O⟩ := wpAny_pyIter_enum (s := ⟨h, G, Dr, tk, O⟩) (D.get hm) k

abbrev enumOut (it : Addr) (i : Int) (item : Value) (a : Addr) : Obj := { cls := .type "enumerate", dict := none, data := .fields #[rawInt a, .bool false, .ref it, rawInt i, .none, item], slots := #[] }
theorem o_nextEnum {e it t : Addr} {o : Obj} {i : Nat} {its : Array Value} {x old : Value} {Q : Option Value → Shared → Prop} (hh : A.handled = none) (D : Led b L al h μ) (he : (e, enumObj it i old) ∈ μ) (hi : (it, o) ∈ μ) (ho : TupItO o t i) (ht : IsTup h t its) (hx : its[i]? = some x)
    (hne : e ≠ it) (hte : t ≠ e) (hti : t ≠ it)
    (k : ∀ o' c h' tk' u, c ≠ e → TupItO o' t (i + 1) → IsTup h' t its → IsTup h' c #[.int i u, x] → (∀ μ₁ μ₂, Up e (enumObj it i old) (enumOut it (i + 1) x c) μ μ₁ → Up it o o' μ₁ μ₂ → Led b L al h' μ₂) → Q (some (.ref c)) ⟨h', G, Dr, tk', O⟩) :
    wpAny (model P0 w) A (pyNext (.ref e)) Q E ⟨h, G, Dr, tk, O⟩ := by
  have hlt : i < its.size := by
    rcases Nat.lt_or_ge i its.size with q | q
    · exact q
    · rw [Array.getElem?_eq_none q] at hx; cases hx
  refine wpAny_pyNext_enum_itemD (s := ⟨h, G, Dr, tk, O⟩) (i := i) (drawsTup (A := A.in1) hh it t hti its) (D.get he) ⟨⟨o, D.get hi, ho⟩, ht⟩ hlt hne (by simp [hne, Ne.symm hte]) fun x' h' tk' hp he' st hc hz hk => ?_
  obtain ⟨⟨o', ho', q⟩, ht'⟩ := st
  have hxx : x' = x := by have z : its[i]? = some x' := hp; rw [hx] at z; exact (Option.some.inj z).symm
  subst hxx
  exact k o' _ h' _ tk' (Nat.ne_of_gt (Heap.lt_size (D.get he))) q ht' ⟨_, hc, rfl, 0, rfl⟩ fun μ₁ μ₂ U V => D.two U V hne he' ho' hk
theorem o_endEnum {e it t : Addr} {o : Obj} {i : Nat} {its : Array Value} {old : Value} {Q : Option Value → Shared → Prop} (hh : A.handled = none) (D : Led b L al h μ) (he : (e, enumObj it i old) ∈ μ) (hi : (it, o) ∈ μ) (ho : TupItO o t i) (ht : IsTup h t its) (hx : i = its.size)
    (hti : t ≠ it) (U : Rm it o μ μ') (k : ∀ h', Led b L al h' μ' → Q none ⟨h', G, Dr, tk, O⟩) :
    wpAny (model P0 w) A (pyNext (.ref e)) Q E ⟨h, G, Dr, tk, O⟩ := by
  subst hx
  exact wpAny_pyNext_enum_endD (s := ⟨h, G, Dr, tk, O⟩) (drawsTup (A := A.in1) hh it t hti its) (D.get he) ⟨⟨o, D.get hi, ho⟩, ht⟩ fun h' hs => k h' (D.rm U hs)
theorem o_letGoEnum {elts : List Expr} {x1 : Nat} {pos : Pos} {e it c : Addr} {i : Int} {item : Value} {Q : Unit → Shared → Prop} (D : Led b L al h μ) (U : Up e (enumOut it i item c) (enumObj it i item) μ μ')
    (k : ∀ h', Led b L al h' μ' → (∀ x o, x ≠ e → h.get? x = some o → h'.get? x = some o) → Q () ⟨h', G, Dr, tk, O⟩) :
    wpAny (model P0 w) A (letOwnedTupleGo (.Tuple elts x1 pos) (.ref e) (.ref c)) Q E ⟨h, G, Dr, tk, O⟩ :=
  wpAny_letOwnedTupleGo_enum (s := ⟨h, G, Dr, tk, O⟩) (D.get U.mem) fun h' he hs => k h' (D.up U hs he) fun x o hx q => hs.extBut x o hx q
theorem o_letGoTup {elts : List Expr} {x1 : Nat} {pos : Pos} {it t : Addr} {o : Obj} {i : Nat} {v : Value} {Q : Unit → Shared → Prop} (D : Led b L al h μ) (hm : (it, o) ∈ μ) (ho : TupItO o t i) (k : Q () ⟨h, G, Dr, tk, O⟩) :
    wpAny (model P0 w) A (letOwnedTupleGo (.Tuple elts x1 pos) (.ref it) v) Q E ⟨h, G, Dr, tk, O⟩ := by
  obtain ⟨oc, od, odt, osl⟩ := o
  obtain ⟨rfl, rfl⟩ : oc = .type "tuple_iterator" ∧ odt = .fields #[.ref t, .int i 0] := ho
  unfold letOwnedTupleGo
  cases v <;> first
    | exact wpAny_pure k
    | (refine wpAny_bind (wpAny_load (D.get hm) ?_); exact wpAny_pure k)
theorem o_asgCons {f : Value → Sem Unit} {fs : List (Value → Sem Unit)} {v : Value} {vs : List Value} {s : Shared} {Q : Unit → Shared → Prop} (k : wpAny (model P0 w) A (f v) (fun _ s₁ => wpAny (model P0 w) A (assignInOrder fs vs) Q E s₁) E s) :
    wpAny (model P0 w) A (assignInOrder (f :: fs) (v :: vs)) Q E s := by
  rw [assignInOrder]
  exact wpAny_bind (wpAny_holding k)
theorem o_asgNil {vs : List Value} {s : Shared} {Q : Unit → Shared → Prop} (k : Q () s) : wpAny (model P0 w) A (assignInOrder [] vs) Q E s := by
  rw [assignInOrder]; exact wpAny_pure k
  all_goals (intros; simp_all)

/-- a loop's end, told once -/
theorem o_loop {c : Code} {R : Result → Shared → Prop} {s : Shared} (P : Heap → Nat → Prop) (fin : ∀ h tk, P h tk → R (.ok .next) ⟨h, G, Dr, tk, O⟩)
    (loop : ∀ R' : Result → Shared → Prop, (∀ h tk, P h tk → R' (.ok .next) ⟨h, G, Dr, tk, O⟩) → codeAny (model P0 w) A c R' s) : codeAny (model P0 w) A c R s := loop R fin
theorem Led.neK (B : Base w mg mb b) (D : Led b L al h μ) {t e : Addr} {o ot : Obj} (hm : (e, o) ∈ μ) (hl : (KK w).lookup t = some ot) : t ≠ e := by
  rintro rfl
  have := (D.nw _ hm).2.2
  rw [B.X _ _ hl] at this
  cases this
theorem Led.ne01 {p q : Addr × Obj} {r : List (Addr × Obj)} (D : Led b L al h (p :: q :: r)) : p.1 ≠ q.1 := by
  have := D.nd
  simp only [List.map_cons, List.nodup_cons, List.mem_cons, not_or] at this
  exact this.1.1
end
end Mine
end

section
open PySem PySem.W PyProof.Rows PySem.Spec PySem.Calls
set_option Elab.async false
set_option maxRecDepth 100000
set_option maxHeartbeats 4000000
example : (PySem.Challenge.rw_oh0020_01, Mine.hd.heap_39) = (PySem.Challenge.rw_oh0020_01, Mine.hd.heap_39) := by
  k_fill
  rfl
namespace Mine
inductive Us (x : Str) (v : Value) : List (Str × Value) → List (Str × Value) → Prop
  | head {u r} : Us x v ((x, u) :: r) ((x, v) :: r)
  | tail {p r r'} : Us x v r r' → Us x v (p :: r) (p :: r')
theorem Us.split {x : Str} {v : Value} {l l' : List (Str × Value)} (U : Us x v l l') : ∃ u pre post, l = pre ++ (x, u) :: post ∧ l' = pre ++ (x, v) :: post := by
  induction U with
  | head => exact ⟨_, [], _, rfl, rfl⟩
  | tail _ ih => obtain ⟨u, pre, post, rfl, rfl⟩ := ih; exact ⟨u, _ :: pre, post, rfl, rfl⟩
section
variable {w : World} {A : Around} {b h : Heap} {L a : Addr} {cd : Value} {nm : Str} {sc : Scope} {al al' : List (Str × Value)} {μ μ' : List (Addr × Obj)} {mg mb : Str → Option Value} {G : Array GenState} {Dr : Drawn} {tk : Nat} {O : OsState} {E : Value → Shared → Prop} {env : Env}
theorem o_st {x : Str} {v : Value} {Q : Unit → Shared → Prop} (D : Led b L al h μ) (U : Us x v al al') (k : ∀ h' tk', Led b L al' h' μ → Q () ⟨h', G, Dr, tk', O⟩) (hL : env.locals = L) (hk : env.scope.kind = .function) (hl : env.kindOf x = some .local) :
    wpAny (model P0 w) A (storeName env x v) Q E ⟨h, G, Dr, tk, O⟩ := by
  obtain ⟨u, pre, post, rfl, rfl⟩ := U.split
  exact o_stAt D k hL hk hl
theorem o_ifT {c : Bool} {P Q : Prop} (hc : c = true) (k : P) : if c = true then P else Q := by rw [if_pos hc]; exact k
theorem o_ifF {c : Bool} {P Q : Prop} (hc : c = false) (k : Q) : if c = true then P else Q := by rw [if_neg (by rw [hc]; exact Bool.false_ne_true)]; exact k
end
end Mine
end

section
open PySem PySem.W PyProof.Rows PySem.Spec PySem.Calls
set_option Elab.async false
set_option maxRecDepth 100000
set_option maxHeartbeats 4000000
set_option linter.unusedSimpArgs false
namespace Mine
section
variable {w : World} {A : Around} {b h : Heap} {L a : Addr} {cd : Value} {nm : Str} {sc : Scope} {al al' : List (Str × Value)} {μ μ' : List (Addr × Obj)} {mg mb : Str → Option Value} {G : Array GenState} {Dr : Drawn} {tk : Nat} {O : OsState} {E : Value → Shared → Prop} {env : Env}
theorem o_append' {its : Array Value} {n : Nat} {x : Value} {c : Addr} {Q : Value → Shared → Prop} (D : Led b L al h μ) (U : Up c (listOf its n) (listOf (its.push x) (n + 1)) μ μ') (hsz : its.size ≤ sizeLine)
    (k : ∀ h', Led b L al h' μ' → Q .none ⟨h', G, Dr, tk, O⟩) : wpAny (model P0 w) A (call (.builtin "list.append") [.ref c, x]) Q E ⟨h, G, Dr, tk, O⟩ :=
  append_at (s := ⟨h, G, Dr, tk, O⟩) (D.get U.mem) (fun h' hs ho => k h' (D.up U hs ho)) hsz
theorem o_callWith {pos : Pos} {f : Value} {e : Expr} {rest : List Expr} {s : Shared} {Q : Value → Shared → Prop} (_B : Base w mg mb b) (hk : keepIn (KK w) f = true)
    (k : wpAny (model P0 w) A (spliced (backTo pos (starEach (e :: rest) env))) (fun vs s₁ => (KK w).In s₁.heap ∧ wpAny (model P0 w) A (call f vs) Q E s₁) E s)
    (he : starEach (e :: rest) env = (false, eval e env) :: starEach rest env) (hplain : (backTo pos (starEach rest env)).any (·.1) = false) :
    wpAny (model P0 w) A (callWith pos f [] (backTo pos (starEach (e :: rest) env)) []) Q E s := callWith_K (first := []) _B.X hk k he hplain
theorem o_calling {P : Prop} (B : Base w mg mb b) (D : Led b L al h μ) (k : P) : (KK w).In h ∧ P := ⟨B.X.keeps fun _ _ e => D.keep e, k⟩
end
theorem tupB {w : World} {mg mb : Str → Option Value} {b h : Heap} {L : Addr} {al : List (Str × Value)} {μ : List (Addr × Obj)} {a : Addr} {l : List Value} {n : Nat} {dd : Option Addr} {sl : Array (Option Value)} (B : Base w mg mb b) (D : Led b L al h μ) (e : (KK w).lookup a = some ⟨.type "tuple", dd, .seq l.toArray n, sl⟩) : IsTup h a l.toArray :=
  tupK (B.X.keeps fun _ _ e => D.keep e) e
end Mine
end

section
open PySem PySem.W PyProof.Rows PySem.Spec PySem.Calls PyProof.V
set_option Elab.async false
set_option maxRecDepth 100000
set_option maxHeartbeats 4000000
set_option linter.unusedSimpArgs false
namespace Mine
section
variable {w : World} {A : Around} {b h : Heap} {L a : Addr} {cd : Value} {nm : Str} {sc : Scope} {al al' : List (Str × Value)} {μ μ' : List (Addr × Obj)} {mg mb : Str → Option Value} {G : Array GenState} {Dr : Drawn} {tk : Nat} {O : OsState} {E : Value → Shared → Prop} {env : Env}
/-! a dict of written ints; its get -/
theorem o_dict {keys : List (Option PySem.Expr)} {values : List PySem.Expr} {pos : Pos} {T : List (PyData × PyData)} {Q : Value → Shared → Prop} (B : Base w mg mb b) (D : Led b L al h μ) (hD : litPairs keys values = some T) (hs : intKeyed T = true) (hn : (intKeysOf T).Nodup)
    (hall : keys.all (·.isSome) = true) (hl : keys.length = values.length) (h0 : keys ≠ []) (hlen : keys.length ≤ 15)
    (k : ∀ d h' tk', Led b L al h' μ → IntTab P0 w h' d T → Q (.ref d) ⟨h', G, Dr, tk', O⟩) :
    wpAny (model P0 w) A (eval (.Dict keys values pos) env) Q E ⟨h, G, Dr, tk, O⟩ := by
  refine Dict_lits_int (s := ⟨h, G, Dr, tk, O⟩) hD hs hn hall hl h0 hlen fun d o h₁ tk' hd ho ht hk => k d h₁ tk' (D.more hk) ?_
  obtain ⟨m, F, _⟩ := D.loc
  have hlow : sysModules < b.objs.size := modules_low B.lim
  have hle : b.objs.size ≤ h.objs.size := by
    obtain ⟨oL, _, _, hL, _⟩ := F.ns
    exact Nat.le_of_lt (Nat.lt_of_le_of_lt F.above (Heap.lt_size hL))
  have hlt : sysModules < d := Nat.lt_of_lt_of_le hlow (Nat.le_trans hle hd)
  obtain ⟨kvs, hk1, hk2⟩ := ht
  exact ⟨beq_eq_false_iff_ne.mpr (Nat.ne_of_gt hlt), kvs, Heap.dictOf_iff.mpr ⟨o, ho, hk1⟩, hk2⟩
theorem o_getM {d : Addr} {T : List (PyData × PyData)} {pl : Sem Bool} {Q : Value × List Value → Shared → Prop} (hT : IntTab P0 w h d T) (k : Q (.builtin "dict.get", [.ref d]) ⟨h, G, Dr, tk, O⟩) :
    wpAny (model P0 w) A (getMethod (.ref d) "get" pl) Q E ⟨h, G, Dr, tk, O⟩ := getMethod_intTab_get (s := ⟨h, G, Dr, tk, O⟩) hT k
theorem o_get {d : Addr} {T : List (PyData × PyData)} {i : Int} {t u : Tok} {x y : Str} {Q : Value → Shared → Prop} (hT : IntTab P0 w h d T) (hx : (lookup (.int i) T).getD (.str x) = .str y) (k : ∀ t tk', Q (.str y t) ⟨h, G, Dr, tk', O⟩) :
    wpAny (model P0 w) A (call (.builtin "dict.get") [.ref d, .int i t, .str x u]) Q E ⟨h, G, Dr, tk, O⟩ :=
  call_get2_intTab (s := ⟨h, G, Dr, tk, O⟩) hT (Flat.str x u) fun v hv => by
    rw [hx] at hv
    obtain ⟨t', rfl⟩ := hv.str_inv
    exact k _ _
/-! more ints, texts -/
section
variable {x y : Int} {t u : Tok} {Q : Value → Shared → Prop}
theorem o_div (hy : y ≠ 0) (hs : y.natAbs < 1073741824) (k : ∀ t tk', Q (.int (x.fdiv y) t) ⟨h, G, Dr, tk', O⟩) : wpAny (model P0 w) A (binaryOp .FloorDiv (.int x t) (.int y u)) Q E ⟨h, G, Dr, tk, O⟩ := floordiv_int hy (k _ _) (.inl (PyProof.noPylong_small hs))
theorem o_pow (hy : 0 ≤ y) (hy2 : y ≤ 1000000) (hx : x.natAbs < 2 ^ 64) (k : ∀ t tk', Q (.int (x ^ y.toNat) t) ⟨h, G, Dr, tk', O⟩) : wpAny (model P0 w) A (binaryOp .Pow (.int x t) (.int y u)) Q E ⟨h, G, Dr, tk, O⟩ := pow_int_small hy hy2 hx (k _ _)
theorem o_cat {x y : Str} (hz : x.length + y.length ≤ sizeLine) (k : ∀ t tk', Q (.str (x ++ y) t) ⟨h, G, Dr, tk', O⟩) : wpAny (model P0 w) A (binaryOp .Add (.str x t) (.str y u)) Q E ⟨h, G, Dr, tk, O⟩ := add_str (s := ⟨h, G, Dr, tk, O⟩) (fun t' tk' => k t' tk') hz
theorem o_upperM {x : Str} {pl : Sem Bool} {Q : Value × List Value → Shared → Prop} (k : Q (.builtin "str.upper", [.str x t]) ⟨h, G, Dr, tk, O⟩) : wpAny (model P0 w) A (getMethod (.str x t) "upper" pl) Q E ⟨h, G, Dr, tk, O⟩ := GM.upper k
theorem o_upper {x : Str} (hz : (Txt.upper x).length ≤ sizeLine) (k : ∀ t tk', Q (.str (Txt.upper x) t) ⟨h, G, Dr, tk', O⟩) : wpAny (model P0 w) A (call (.builtin "str.upper") [.str x t]) Q E ⟨h, G, Dr, tk, O⟩ :=
  SC.upper (s := ⟨h, G, Dr, tk, O⟩) (by unfold Builtin.Str.tooLong; exact decide_eq_false (Nat.not_lt.mpr hz)) (k _ _)
/-- the two ways of a conditional expression meet -/
theorem o_join {c : Bool} {e₁ e₂ : PySem.Expr} {x y : Str} (h1 : ∀ Q' : Value → Shared → Prop, (∀ t tk', Q' (.str x t) ⟨h, G, Dr, tk', O⟩) → wpAny (model P0 w) A (eval e₁ env) Q' E ⟨h, G, Dr, tk, O⟩)
    (h2 : ∀ Q' : Value → Shared → Prop, (∀ t tk', Q' (.str y t) ⟨h, G, Dr, tk', O⟩) → wpAny (model P0 w) A (eval e₂ env) Q' E ⟨h, G, Dr, tk, O⟩)
    (k : ∀ t tk', Q (.str (if c then x else y) t) ⟨h, G, Dr, tk', O⟩) : if c = true then wpAny (model P0 w) A (eval e₁ env) Q E ⟨h, G, Dr, tk, O⟩ else wpAny (model P0 w) A (eval e₂ env) Q E ⟨h, G, Dr, tk, O⟩ := by
  cases c
  · exact h2 Q k
  · exact h1 Q k
end
theorem len_app {x y : Str} {m n : Nat} (hx : x.length ≤ m) (hy : y.length ≤ n) : (x ++ y).length ≤ m + n := by rw [Str.length_append]; exact Nat.add_le_add hx hy
theorem len_ite {c : Bool} {x y : Str} {m n : Nat} (hx : x.length ≤ m) (hy : y.length ≤ n) : (if c = true then x else y).length ≤ m + n := by
  cases c
  · exact Nat.le_trans hy (Nat.le_add_left _ _)
  · exact Nat.le_trans hx (Nat.le_add_right _ _)
/-! lists' iterators -/
theorem o_iterLst {t : Addr} {its : Array Value} {n : Nat} {Q : Value → Shared → Prop} (D : Led b L al h μ) (ht : (t, listOf its n) ∈ μ)
    (k : ∀ it o h', LstItO o t 0 → Led b L al h' ((it, o) :: μ) → Q (.ref it) ⟨h', G, Dr, tk, O⟩) :
    wpAny (model P0 w) A (pyIter (.ref t)) Q E ⟨h, G, Dr, tk, O⟩ :=
  wpAny_pyIter_list (s := ⟨h, G, Dr, tk, O⟩) ⟨_, D.get ht, rfl, _, rfl⟩ (k _ _ _ ⟨rfl, rfl⟩ (D.push _))
theorem o_nextLst {it t : Addr} {o : Obj} {i n : Nat} {vs : List Value} {x : Value} {Q : Option Value → Shared → Prop} (D : Led b L al h μ) (hm : (it, o) ∈ μ) (ho : LstItO o t i) (ht : (t, listOf vs.toArray n) ∈ μ) (hx : vs[i]? = some x)
    (k : ∀ o' h', LstItO o' t (i + 1) → (∀ μ', Up it o o' μ μ' → Led b L al h' μ') → Q (some x) ⟨h', G, Dr, tk, O⟩) :
    wpAny (model P0 w) A (pyNext (.ref it)) Q E ⟨h, G, Dr, tk, O⟩ := by
  refine wpAny_pyNext_list_item (s := ⟨h, G, Dr, tk, O⟩) (it := it) (l := t) (i := i) ⟨o, D.get hm, ho⟩ ⟨_, D.get ht, rfl, _, rfl⟩ (by simpa using hx) fun h' hit hs => ?_
  obtain ⟨o', ho', q⟩ := hit
  exact k o' h' q fun μ' U => D.up U hs ho'
theorem o_endLst {it t : Addr} {o : Obj} {i n : Nat} {vs : List Value} {Q : Option Value → Shared → Prop} (hh : A.handled = none) (D : Led b L al h μ) (hm : (it, o) ∈ μ) (ho : LstItO o t i) (ht : (t, listOf vs.toArray n) ∈ μ) (hx : vs[i]? = none)
    (U : Rm it o μ μ') (k : ∀ h', Led b L al h' μ' → Q none ⟨h', G, Dr, tk, O⟩) :
    wpAny (model P0 w) A (pyNext (.ref it)) Q E ⟨h, G, Dr, tk, O⟩ :=
  wpAny_pyNext_list_end (s := ⟨h, G, Dr, tk, O⟩) hh (it := it) (l := t) (i := i) ⟨o, D.get hm, ho⟩ ⟨_, D.get ht, rfl, _, rfl⟩ (by simpa using hx) fun h' hs => k h' (D.rm U hs)
theorem o_letGoLst {elts : List PySem.Expr} {x1 : Nat} {pos : Pos} {it t : Addr} {o : Obj} {i : Nat} {v : Value} {Q : Unit → Shared → Prop} (D : Led b L al h μ) (hm : (it, o) ∈ μ) (ho : LstItO o t i) (k : Q () ⟨h, G, Dr, tk, O⟩) :
    wpAny (model P0 w) A (letOwnedTupleGo (.Tuple elts x1 pos) (.ref it) v) Q E ⟨h, G, Dr, tk, O⟩ := by
  obtain ⟨oc, od, odt, osl⟩ := o
  obtain ⟨rfl, rfl⟩ : oc = .type "list_iterator" ∧ odt = .fields #[.ref t, .int i 0] := ho
  unfold letOwnedTupleGo
  cases v <;> first
    | exact wpAny_pure k
    | (refine wpAny_bind (wpAny_load (D.get hm) ?_); exact wpAny_pure k)
theorem o_unpackLst {elts : List PySem.Expr} {x1 : Nat} {pos : Pos} {t : Addr} {vs : List Value} {n : Nat} {Q : Unit → Shared → Prop} (hh : A.handled = none) (D : Led b L al h μ) (ht : (t, listOf vs.toArray n) ∈ μ)
    (hn : (assignEach elts env).length = vs.length) (hstar : (assignEach elts env).findIdx? (·.1) = none)
    (k : ∀ h', Led b L al h' μ → wpAny (model P0 w) A (assignInOrder ((assignEach elts env).map (·.2)) vs) Q E ⟨h', G, Dr, tk, O⟩) :
    wpAny (model P0 w) A (assign (.Tuple elts x1 pos) env (.ref t)) Q E ⟨h, G, Dr, tk, O⟩ := by
  rw [assign_Tuple]
  refine wpAny_bind (wpAny_standAt ?_)
  unfold unpack
  rw [hn, hstar]
  have q := kun_itemsOf (prog := P0) (w := w) (A := A) (E := E) (s := ⟨h, G, Dr, tk, O⟩) (Q := fun vs' s' => wpAny (model P0 w) A (assignInOrder ((assignEach elts env).map (·.2)) vs') Q E s') hh ⟨_, D.get ht, rfl, _, rfl⟩ fun h' hs => k h' (D.ext hs)
  rw [List.size_toArray] at q
  exact wpAny_bind (wpAny_holding q)
end
end Mine
end

section
open PySem PySem.W PyProof.Rows PySem.Spec PySem.Calls PyProof.V
set_option Elab.async false
set_option maxRecDepth 100000
set_option maxHeartbeats 4000000
set_option linter.unusedSimpArgs false
namespace Mine
/-- an outer frame that waits -/
structure Outer (b : Heap) (L : Addr) (al : List (Str × Value)) (oL : Obj) : Prop where
  above : b.objs.size ≤ L
  nn : (al.map (·.1)).Nodup
  loc : LocO oL al
section
variable {w : World} {A : Around} {b h : Heap} {L a : Addr} {al al' : List (Str × Value)} {μ μ' : List (Addr × Obj)} {mg mb : Str → Option Value} {G : Array GenState} {Dr : Drawn} {tk : Nat} {O : OsState} {E : Value → Shared → Prop} {env : Env}
theorem Led.back' {L' : Addr} {oL : Obj} (U : Outer b L al oL) (D' : Led b L' al' h ((L, oL) :: μ')) : Led b L al h μ' := by
  obtain ⟨m, ⟨es, ep, h1, h2, h3⟩, k⟩ := U.loc
  obtain ⟨m', F', _⟩ := D'.loc
  have nd := D'.nd
  rw [List.map_cons, List.nodup_cons] at nd
  exact ⟨⟨m, ⟨⟨oL, es, ep, D'.get (.head _), h1, h2, h3⟩, F'.keep, U.above⟩, k⟩, fun p hp => ⟨(D'.nw p (.tail _ hp)).1, fun e => nd.1 (List.mem_map.mpr ⟨p, hp, e⟩), (D'.nw p (.tail _ hp)).2.2⟩, U.nn, nd.2⟩
/-- a heap that turns the frame alone: the rest of the ledger stands under the outer frame -/
theorem Led.back'' {C : Addr} {oL : Obj} {h' : Heap} (U : Outer b L al oL) (D' : Led b C al' h ((L, oL) :: μ')) (hs : Heap.SameBut C h h') : Led b L al h' μ' := by
  have D := D'.back' U
  obtain ⟨m, ⟨es, ep, h1, h2, h3⟩, k⟩ := U.loc
  obtain ⟨m', F', _⟩ := D'.loc
  have zL := D'.nw (L, oL) (.head _)
  refine ⟨⟨m, ⟨⟨oL, es, ep, (hs.2 L zL.2.1).trans zL.1, h1, h2, h3⟩, fun c o e => (hs.2 c (Nat.ne_of_lt (Nat.lt_of_lt_of_le (Heap.lt_size e) F'.above))).trans (F'.keep c o e), U.above⟩, k⟩, fun p hp => ?_, U.nn, D.nd⟩
  have z := D'.nw p (.tail _ hp)
  exact ⟨(hs.2 _ z.2.1).trans z.1, (D.nw p hp).2⟩

/-- the comprehension's own frame -/
theorem o_cenv {scope : Scope} {cl : List (Str × Addr)} {Q : Env → Shared → Prop} (D : Led b L al h μ) (hL : env.locals = L) (hcell : ∀ x ∈ scope.names, x.2 ≠ .cell) (hkind : scope.kind = .function)
    (k : ∀ C h' tk' oL, Outer b L al oL → Led b C [] h' ((L, oL) :: μ) → Q (newEnv scope C env.globals cl env.qual none .none (some env) builtinsNs) ⟨h', G, Dr, tk', O⟩) :
    wpAny (model P0 w) A (newFunctionEnv scope env.globals cl [] env.qual none .none (some env)) Q E ⟨h, G, Dr, tk, O⟩ := by
  obtain ⟨m, F, kn⟩ := D.loc
  obtain ⟨oL, es, ep, hLo, hL2⟩ := F.ns
  refine wpAny_newFunctionEnv (s := ⟨h, G, Dr, tk, O⟩) hcell (by intro x hx; cases hx) (fun h₁ hns hsb => k _ h₁ _ oL ⟨F.above, D.nn, m, ⟨es, ep, hL2⟩, kn⟩ ?_) hkind
  have hk₁ : ∀ c o, h.get? c = some o → h₁.get? c = some o := fun c o e => hsb.extBut c o (Nat.ne_of_lt (Heap.lt_size e)) (Heap.get?_push_of_some _ e)
  refine ⟨⟨_, ⟨hns, fun c o e => hk₁ c o (F.keep c o e), Nat.le_of_lt (Nat.lt_of_le_of_lt F.above (Heap.lt_size hLo))⟩, fun p hp => by cases hp⟩, fun p hp => ?_, List.nodup_nil, ?_⟩
  · rcases List.mem_cons.mp hp with rfl | hp
    · refine ⟨hk₁ _ _ hLo, Nat.ne_of_lt (Heap.lt_size hLo), ?_⟩
      cases q : b.get? L with
      | none => rfl
      | some o => exact absurd (Heap.lt_size q) (Nat.not_lt.mpr F.above)
    · exact ⟨hk₁ _ _ (D.nw p hp).1, Nat.ne_of_lt (Heap.lt_size (D.nw p hp).1), (D.nw p hp).2.2⟩
  · rw [List.map_cons]
    refine List.nodup_cons.mpr ⟨fun q => ?_, D.nd⟩
    obtain ⟨p, hp, e⟩ := List.mem_map.mp q
    exact (D.nw p hp).2.1 e
theorem o_compEnd {C : Addr} {oL : Obj} {acc : Value} {f : Flow} {Q : Value → Shared → Prop} (U : Outer b L al oL) (D : Led b C al' h ((L, oL) :: μ')) (k : ∀ h', Led b L al h' μ' → Q acc ⟨h', G, Dr, tk, O⟩) :
    compPost (model P0 w) A E none Q acc C (.ok f) ⟨h, G, Dr, tk, O⟩ := by
  obtain ⟨m, F, _⟩ := D.loc
  exact ⟨m, F.ns, fun h' hs => k h' (D.back'' U hs)⟩
theorem o_compStep {elt target iter : PySem.Expr} {scope : Scope} {pos : Pos} {it acc : Value} {R : Result → Shared → Prop} {s : Shared}
    (turn : wpAny (model P0 w) A (pyNext it) (fun r s₁ => match r with
      | none => R (.ok .next) s₁
      | some v => wpAny (model P0 w) A (letOwnedTupleGo target it v) (fun _ s₁' => wpAny (model P0 w) A (assign target env v) (fun _ s₂ => wpAny (model P0 w) A (eval elt env) (fun x s₃ =>
          wpAny (model P0 w) A (call (.builtin "list.append") [acc, x]) (fun _ s₄ => codeAny (model P0 w) A (.compLoop (.ListComp elt [⟨target, iter, [], 0⟩] scope pos) 0 it acc env) R s₄) (notedBy (model P0 w) A env fun e s' => R (.error e) s') s₃)
          (notedBy (model P0 w) A env fun e s' => R (.error e) s') s₂) (notedBy (model P0 w) A env fun e s' => R (.error e) s') s₁') (notedBy (model P0 w) A env fun e s' => R (.error e) s') s₁) (notedBy (model P0 w) A env fun e s' => R (.error e) s') s) :
    codeAny (model P0 w) A (.compLoop (.ListComp elt [⟨target, iter, [], 0⟩] scope pos) 0 it acc env) R s := by
  refine codeAny_of_tree ?_
  show wpAny _ _ ((compTurn (.ListComp elt [⟨target, iter, [], 0⟩] scope pos) 0 it acc env).onRaise (fun x => do noteFrame x env; theTreesLotGoes x)) _ _ s
  refine wpAny_noted ?_
  rw [compTurn_list1]
  refine wpAny_bind (wpAny_standAt (wpAny_bind (wpAny_mono turn (fun r s₁ h₁ => ?_) fun _ _ h' => h')))
  cases r with
  | none => exact wpAny_pure h₁
  | some v =>
    refine wpAny_bind (wpAny_mono h₁ (fun _ s₁' h₁' => ?_) fun _ _ h' => h')
    exact wpAny_bind (wpAny_mono h₁' (fun _ s₂ h₂ => wpAny_bind (wpAny_bind (wpAny_mono h₂ (fun x s₃ h₃ => wpAny_bind (wpAny_mono h₃
      (fun _ s₄ h₄ => wpAny_pure (wpAny_pure ⟨rfl, h₄⟩)) fun _ _ h' => h')) fun _ _ h' => h'))) fun _ _ h' => h')

/-! cells -/
def CellO (o : Obj) (v : Option Value) : Prop := o.data = .cell v
theorem o_ldCell {x : Str} {pos : Pos} {v : Value} {c : Addr} {o : Obj} {Q : Value → Shared → Prop} (D : Led b L al h μ) (hk : env.scope.kind = .function) (hl : env.kindOf x = some .cell) (hc : env.cells.lookup x = some c) (hm : (c, o) ∈ μ) (ho : CellO o (some v)) (k : Q v ⟨h, G, Dr, tk, O⟩)
    (hd : (x == ("__debug__" : Str)) = false) : wpAny (model P0 w) A (eval (.Name x pos) env) Q E ⟨h, G, Dr, tk, O⟩ :=
  wpAny_Name (wpAny_loadName_cell (s := ⟨h, G, Dr, tk, O⟩) hk hl hc ⟨_, D.get hm, ho⟩ k) hd
theorem o_ldFree {x : Str} {pos : Pos} {v : Value} {c : Addr} {o : Obj} {Q : Value → Shared → Prop} (D : Led b L al h μ) (hk : env.scope.kind = .function) (hl : env.kindOf x = some .free) (hc : env.cells.lookup x = some c) (hm : (c, o) ∈ μ) (ho : CellO o (some v)) (k : Q v ⟨h, G, Dr, tk, O⟩)
    (hd : (x == ("__debug__" : Str)) = false) (hn : (x == ("__classdict__" : Str)) = false) : wpAny (model P0 w) A (eval (.Name x pos) env) Q E ⟨h, G, Dr, tk, O⟩ :=
  wpAny_Name (wpAny_loadName_free (s := ⟨h, G, Dr, tk, O⟩) hk hl hc ⟨_, D.get hm, ho⟩ k hn) hd
theorem o_stCell {x : Str} {v₀ : Option Value} {v : Value} {c : Addr} {o : Obj} {Q : Unit → Shared → Prop} (D : Led b L al h μ) (hk : env.scope.kind = .function) (hl : env.kindOf x = some .cell) (hc : env.cells.lookup x = some c) (hm : (c, o) ∈ μ) (ho : CellO o v₀)
    (k : ∀ o' h', CellO o' (some v) → (∀ μ', Up c o o' μ μ' → Led b L al h' μ') → Q () ⟨h', G, Dr, tk, O⟩) : wpAny (model P0 w) A (storeName env x v) Q E ⟨h, G, Dr, tk, O⟩ := by
  unfold storeName
  simp only [hl, hk]
  refine wpAny_bind (wpAny_cellOf hc ?_)
  unfold cellSet
  refine wpAny_bind (wpAny_load (s := ⟨h, G, Dr, tk, O⟩) (D.get hm) ?_)
  have ho' : o.data = .cell v₀ := ho
  rw [ho']
  exact wpAny_update (s := ⟨h, G, Dr, tk, O⟩) (D.get hm) (k { o with data := .cell (some v) } _ rfl fun μ' U => D.up U (Heap.SameBut.update ..) (Heap.get?_update_self _ (D.get hm) rfl))
/-- a def of the text with one name that is captured -/
theorem o_callC1 {f : Addr} {args : List Value} {oc : Value} {od : Option Addr} {name qual : Str} {params : Arguments} {body : List Stmt} {scope : Scope} {dV kV doc pm cdv ct : Value} {an : Option Addr} {osl : Array (Option Value)} {binds : List (Str × Value)} {x : Str} {al₀ : List (Str × Value)} {cv : Option Value} {Q : Value → Shared → Prop}
    (B : Base w mg mb b) (D : Led b L al h μ)
    (ho : (KK w).lookup f = some ⟨oc, od, .func (fnOf name qual params body scope dV kV doc pm an cdv ct), osl⟩) (hcd : codeIn (KK w) cdv qual = true) (hroom : A.depth < recursionLimit)
    (hbind : bindArgs (fnOf name qual params body scope dV kV doc pm an cdv ct) ⟨args, []⟩ = pure binds)
    (hcs : ∀ n, cellsFrom n scope.names [] = [(x, n)])
    (hkind : ∀ y ∈ binds, scope.names.lookup y.1 = some .local ∨ (scope.names.lookup y.1 = some .cell ∧ y.1 = x))
    (hal : Kn (bindL (fun y => scope.names.lookup y) binds fun _ => none) al₀) (hnn : (al₀.map (·.1)).Nodup) (hcv : bindC (fun y => scope.names.lookup y) binds (fun _ => none) x = cv)
    (k : ∀ A' E' L' c o h₁ oL tk₁, A'.handled = A.handled → A'.depth = A.depth + 1 → A'.units = A.units + 3 → CellO o cv → Led b L' al₀ h₁ ((c, o) :: (L, oL) :: μ) →
      wpAny (model P0 w) A' (execs body (envX qual scope L' f cdv [(x, c)])) (LeaveQ b L al oL Q) E' ⟨h₁, G, Dr, tk₁, O⟩)
    (hco : scope.isCoroutine = false) (hgen : scope.isGenerator = false) (hk : scope.kind = .function) :
    wpAny (model P0 w) A (call (.ref f) args) Q E ⟨h, G, Dr, tk, O⟩ := by
  obtain ⟨m, F, kn⟩ := D.loc
  obtain ⟨oL, es, ep, hL, hL2⟩ := F.ns
  refine wpAny_call (codeAny_call_cells (s := ⟨h, G, Dr, tk, O⟩) (fd := fnOf name qual params body scope dV kV doc pm an cdv ct) (body := body) (binds := binds) hroom (F.keep _ _ (B.X _ _ ho)) rfl (B.lim.keeps F.keep) ((codeRec_of B.X hcd).keeps F.keep) rfl hbind rfl
    (fun y hy => ?_) (fun s₁ X => ?_) hco hgen hk)
  · rcases hkind y hy with q | ⟨q, e⟩
    · exact .inl q
    · refine .inr ⟨q, ?_⟩
      show (List.lookup y.1 (cellsFrom (h.objs.size + 1) scope.names [])).isSome = true
      rw [hcs, e]; simp
  have hcells : (callEnvC (fnOf name qual params body scope dV kV doc pm an cdv ct) h.objs.size f).cells = [(x, h.objs.size + 1)] := hcs _
  have henv : callEnvC (fnOf name qual params body scope dV kV doc pm an cdv ct) h.objs.size f = envX qual scope h.objs.size f cdv [(x, h.objs.size + 1)] := by
    show newEnv scope h.objs.size mainGlobals (cellsFrom (h.objs.size + 1) scope.names []) (qual ++ ".<locals>.") (some f) cdv none builtinsNs = _
    rw [hcs]; rfl
  obtain ⟨⟨⟨h₁, tk₁, rfl⟩, hns, hkeep, hfresh⟩, hcell, hap, hab⟩ := X
  rw [henv]
  obtain ⟨co, hco1, hco2⟩ := hcell x (h.objs.size + 1) (by rw [hcells]; simp)
  have hcv' : co.data = .cell cv := by rw [hco2]; exact congrArg _ hcv
  have D₁ : Led b h.objs.size al₀ h₁ ((h.objs.size + 1, co) :: (L, oL) :: μ) := by
    have hbs : b.objs.size ≤ h.objs.size := Nat.le_of_lt (Nat.lt_of_le_of_lt F.above (Heap.lt_size hL))
    have hnb : ∀ c, h.objs.size ≤ c → b.get? c = none := fun c hc => by
      cases q : b.get? c with
      | none => rfl
      | some o => exact absurd (Heap.lt_size q) (Nat.not_lt.mpr (Nat.le_trans hbs hc))
    refine ⟨⟨_, ⟨hns, fun a o e => hkeep a o (F.keep a o e), hbs⟩, hal⟩, fun p hp => ?_, hnn, ?_⟩
    · rcases List.mem_cons.mp hp with rfl | hp
      · exact ⟨hco1, Nat.ne_of_gt (Nat.lt_succ_self _), hnb _ (Nat.le_succ _)⟩
      · rcases List.mem_cons.mp hp with rfl | hp
        · refine ⟨hkeep _ _ hL, Nat.ne_of_lt (Heap.lt_size hL), ?_⟩
          cases q : b.get? L with
          | none => rfl
          | some o => exact absurd (Heap.lt_size q) (Nat.not_lt.mpr F.above)
        · exact ⟨hkeep _ _ (D.nw p hp).1, Nat.ne_of_lt (Heap.lt_size (D.nw p hp).1), (D.nw p hp).2.2⟩
    · rw [List.map_cons, List.map_cons]
      refine List.nodup_cons.mpr ⟨fun q => ?_, List.nodup_cons.mpr ⟨fun q => ?_, D.nd⟩⟩
      · rcases List.mem_cons.mp q with e | q
        · exact absurd (Heap.lt_size hL) (by rw [← (show h.objs.size + 1 = L from e)]; exact Nat.not_lt.mpr (Nat.le_succ _))
        · obtain ⟨p, hp, e⟩ := List.mem_map.mp q
          exact absurd (Heap.lt_size (D.nw p hp).1) (by rw [show p.1 = h.objs.size + 1 from e]; exact Nat.not_lt.mpr (Nat.le_succ _))
      · obtain ⟨p, hp, e⟩ := List.mem_map.mp q
        exact (D.nw p hp).2.1 e
  refine wpAny_mono (k (A.deeper (envX qual scope h.objs.size f cdv [(x, h.objs.size + 1)])) _ _ _ co h₁ oL tk₁ rfl rfl rfl hcv' D₁) (fun fl s' hl => ?_) fun _ _ y => y
  obtain ⟨L', al', μ', D', kk⟩ := hl
  exact kk (D.back ⟨m, ⟨es, ep, hL2⟩, kn⟩ D')
end
end Mine
end

section
open PySem PySem.W PyProof.Rows PySem.Spec PySem.Calls PyProof.V
set_option Elab.async false
set_option maxRecDepth 100000
set_option maxHeartbeats 4000000
set_option linter.unusedSimpArgs false
namespace Mine
abbrev rngObj (a z c : Int) (t u v : Tok) : Obj := { cls := .type "range", dict := none, data := .fields #[.int a t, .int z u, .int c v], slots := #[] }
abbrev rngIt (x left step : Int) : Obj := { cls := .type "range_iterator", dict := none, data := .fields #[rawInt x, rawInt left, rawInt step], slots := #[] }
section
variable {w : World} {A : Around} {b h : Heap} {L a : Addr} {al al' : List (Str × Value)} {μ μ' : List (Addr × Obj)} {mg mb : Str → Option Value} {G : Array GenState} {Dr : Drawn} {tk : Nat} {O : OsState} {E : Value → Shared → Prop} {env : Env}
theorem o_range1 {n : Int} {t : Tok} {Q : Value → Shared → Prop} (D : Led b L al h μ) (k : ∀ r h' tk' t₁ t₂, Led b L al h' ((r, rngObj 0 n 1 t₁ t t₂) :: μ) → Q (.ref r) ⟨h', G, Dr, tk', O⟩) :
    wpAny (model P0 w) A (call (.type "range") [.int n t]) Q E ⟨h, G, Dr, tk, O⟩ := call_range_1 (s := ⟨h, G, Dr, tk, O⟩) (k _ _ _ _ _ (D.push _))
theorem o_iterRng {r : Addr} {x z c : Int} {t u v : Tok} {n : Int} {Q : Value → Shared → Prop} (D : Led b L al h μ) (hm : (r, rngObj x z c t u v) ∈ μ) (hs : Builtin.Range.small x z c = true) (hn : Builtin.Range.rangeSize x z c = n)
    (k : ∀ it h', Led b L al h' ((it, rngIt x n c) :: μ) → Q (.ref it) ⟨h', G, Dr, tk, O⟩) : wpAny (model P0 w) A (pyIter (.ref r)) Q E ⟨h, G, Dr, tk, O⟩ := by
  subst hn
  exact wpAny_pyIter_range (s := ⟨h, G, Dr, tk, O⟩) (D.get hm) hs (k _ _ (D.push _))
theorem o_nextRng {it : Addr} {x left step : Int} {Q : Option Value → Shared → Prop} (D : Led b L al h μ) (hl : 0 < left) (U : Up it (rngIt x left step) (rngIt (x + step) (left - 1) step) μ μ')
    (k : ∀ h' t tk', Led b L al h' μ' → Q (some (.int x t)) ⟨h', G, Dr, tk', O⟩) : wpAny (model P0 w) A (pyNext (.ref it)) Q E ⟨h, G, Dr, tk, O⟩ :=
  wpAny_pyNext_range_item (s := ⟨h, G, Dr, tk, O⟩) (D.get U.mem) hl fun h' hit hs => k h' _ _ (D.up U hs hit)
theorem o_endRng {it : Addr} {x left step : Int} {Q : Option Value → Shared → Prop} (hh : A.handled = none) (D : Led b L al h μ) (hl : left ≤ 0) (U : Rm it (rngIt x left step) μ μ')
    (k : ∀ h', Led b L al h' μ' → Q none ⟨h', G, Dr, tk, O⟩) : wpAny (model P0 w) A (pyNext (.ref it)) Q E ⟨h, G, Dr, tk, O⟩ :=
  wpAny_pyNext_range_end (s := ⟨h, G, Dr, tk, O⟩) hh (D.get U.mem) hl fun h' hs => k h' (D.rm U hs)
theorem o_listComp {elt target iter : PySem.Expr} {ifs : List PySem.Expr} {rest : List Comprehension} {scope : Scope} {pos : Pos} {cl : List (Str × Addr)} {Q : Value → Shared → Prop} {s : Shared}
    (hclos : closureFor scope env = pure cl) (hkind : scope.kind = .function) (hnames : ∀ x ∈ scope.names, x.2 = .local → scope.names.lookup x.1 = some .local) (hs : ∀ x, foldedSetIterable iter env x = pure x)
    (k : wpAny (model P0 w) A (eval iter env) (fun x s₁ => wpAny (model P0 w) A (pyIter x) (fun it s₂ => wpAny (model P0 w) A (newList []) (fun acc s₃ =>
      wpAny (model P0 w) A (newFunctionEnv scope env.globals cl [] env.qual none .none (some env)) (fun cenv s₄ =>
        codeAny (model P0 w) A (.compStart (.ListComp elt (⟨target, iter, ifs, 0⟩ :: rest) scope pos) 0 it acc { cenv with scope := relabel scope env }) (compPost (model P0 w) A E none Q acc cenv.locals) s₄) E s₃) E s₂) E s₁) E s) :
    wpAny (model P0 w) A (eval (.ListComp elt (⟨target, iter, ifs, 0⟩ :: rest) scope pos) env) Q E s := by
  rw [eval_ListComp]; exact wpAny_comprehension_free (use := none) rfl hs hclos hkind hnames k
/-- a comprehension over a range's iterator starts -/
theorem o_startRng {elt target iter : PySem.Expr} {ifs : List PySem.Expr} {rest : List Comprehension} {scope : Scope} {pos : Pos} {it : Addr} {x left step : Int} {acc : Value} {R : Result → Shared → Prop} (D : Led b L al h μ) (hm : (it, rngIt x left step) ∈ μ)
    (k : codeAny (model P0 w) A (.compLoop (.ListComp elt (⟨target, iter, ifs, 0⟩ :: rest) scope pos) 0 (.ref it) acc env) R ⟨h, G, Dr, tk, O⟩) :
    codeAny (model P0 w) A (.compStart (.ListComp elt (⟨target, iter, ifs, 0⟩ :: rest) scope pos) 0 (.ref it) acc env) R ⟨h, G, Dr, tk, O⟩ :=
  codeAny_compStart_list k (wpAny_pyIter_rangeiter (s := ⟨h, G, Dr, tk, O⟩) (D.get hm) k)
theorem o_cenv' {scope : Scope} {cl : List (Str × Addr)} {gl} {qu : Str} {Q : Env → Shared → Prop} (D : Led b L al h μ) (hL : env.locals = L) (hcell : ∀ x ∈ scope.names, x.2 ≠ .cell) (hkind : scope.kind = .function) (hg : env.globals = gl) (hq : env.qual = qu)
    (k : ∀ C h' tk' oL, Outer b L al oL → Led b C [] h' ((L, oL) :: μ) → Q (newEnv scope C gl cl qu none .none (some env) builtinsNs) ⟨h', G, Dr, tk', O⟩) :
    wpAny (model P0 w) A (newFunctionEnv scope gl cl [] qu none .none (some env)) Q E ⟨h, G, Dr, tk, O⟩ := by
  subst hg hq
  exact o_cenv D hL hcell hkind k
theorem o_compEnd' {C Z : Addr} {oL : Obj} {acc : Value} {f : Flow} {Q : Value → Shared → Prop} (U : Outer b L al oL) (D : Led b C al' h ((L, oL) :: μ')) (hz : Z = C) (k : ∀ h', Led b L al h' μ' → Q acc ⟨h', G, Dr, tk, O⟩) :
    compPost (model P0 w) A E none Q acc Z (.ok f) ⟨h, G, Dr, tk, O⟩ := by
  subst hz
  exact o_compEnd U D k
theorem Rm.perm {c : Addr} {o : Obj} {μ μ' : List (Addr × Obj)} (U : Rm c o μ μ') : ((c, o) :: μ').Perm μ := by
  induction U with
  | head => exact List.Perm.refl _
  | tail _ ih => exact (List.Perm.swap ..).trans (ih.cons _)
/-- a def is left: the caller's frame is taken out of the ledger, what was made stays -/
theorem LeaveQ.ret' {L' : Addr} {oL : Obj} {v : Value} {Q : Value → Shared → Prop} (D : Led b L' al' h μ) (U : Rm L oL μ μ') (k : Led b L al h μ' → Q v ⟨h, G, Dr, tk, O⟩) : LeaveQ b L al oL Q (.ret v) ⟨h, G, Dr, tk, O⟩ :=
  LeaveQ.ret (D.perm U.perm) k
theorem o_mul {x y : Int} {t u : Tok} {Q : Value → Shared → Prop} (hm : IntMulOk x y) (k : ∀ t tk', Q (.int (x * y) t) ⟨h, G, Dr, tk', O⟩) : wpAny (model P0 w) A (binaryOp .Mult (.int x t) (.int y u)) Q E ⟨h, G, Dr, tk, O⟩ := mul_int (k _ _) hm
theorem o_letGoName {x : Str} {px : Pos} {it v : Value} {s : Shared} {Q : Unit → Shared → Prop} (k : Q () s) : wpAny (model P0 w) A (letOwnedTupleGo (.Name x px) it v) Q E s := wpAny_of_eq rfl k
end
def nmO (i : Int) : List Int := (List.range (i.fmod 4).toNat).map fun k => ((i.fdiv 4).fdiv ((256 : Int) ^ k)).fmod 256
def fbits (i : Int) : Int := (i.fdiv 4 * 40503).fmod 65536
theorem mod4 (i : Int) : i.fmod 4 = 0 ∨ i.fmod 4 = 1 ∨ i.fmod 4 = 2 ∨ i.fmod 4 = 3 := by
  have h1 := Int.fmod_nonneg_of_pos i (show (0:Int) < 4 by decide)
  have h2 := Int.fmod_lt_of_pos i (show (0:Int) < 4 by decide)
  omega
end Mine
end

section
open PySem PySem.W PyProof.Rows PySem.Spec PySem.Calls PyProof.V
set_option Elab.async false
set_option maxRecDepth 100000
set_option maxHeartbeats 4000000
namespace Mine
open Builtin Builtin.ObjectAttr
theorem f_slot_set : Slot "function" "__setattr__" "object.__setattr__" := .of (owner := "object") (n := "__setattr__") (by rw [typeLookup_type, builtinLookup_eq_fast]; kernel_rfl) (by decide +kernel) (by decide +kernel) (by decide +kernel)
  (by first | exact .inl (by decide +kernel) | exact .inr (by decide +kernel)) (by rw [isSubtype_type]; kernel_rfl)
theorem f_slot_get : Slot "function" "__getattribute__" "object.__getattribute__" := .of (owner := "object") (n := "__getattribute__") (by rw [typeLookup_type, builtinLookup_eq_fast]; kernel_rfl) (by decide +kernel) (by decide +kernel) (by decide +kernel)
  (by first | exact .inl (by decide +kernel) | exact .inr (by decide +kernel)) (by rw [isSubtype_type]; kernel_rfl)
theorem f_entry_set : entryFor table "object.__setattr__" = some Builtin.«object.__setattr__» := entryFor_of_tree (by kernel_rfl)
theorem f_args_set (a b c : Value) : argsOk "object.__setattr__" ⟨[a, b, c], []⟩ := by unfold argsOk; kernel_rfl
theorem f_entry_get : entryFor table "object.__getattribute__" = some Builtin.«object.__getattribute__» := entryFor_of_tree (by kernel_rfl)
theorem f_args_get (a b : Value) : argsOk "object.__getattribute__" ⟨[a, b], []⟩ := by unfold argsOk; kernel_rfl
theorem f_canon : (Manifest.canonical "object.__getattribute__" != "object.__getattribute__") = false := by decide +kernel
theorem f_noGetattr : typeLookup (.type "function") (Str.ofString "__getattr__") = pure none := by rw [typeLookup_type, builtinLookup_eq_fast]; kernel_rfl
theorem f_mro : mroOf (.type "function") = pure [.type "function", .type "object"] := by kernel_rfl
theorem f_noRead : typeLookup (.type "function") (Str.ofString "read") = pure none := by rw [typeLookup_type, builtinLookup_eq_fast]; kernel_rfl
theorem f_passes (self : Value) : refuseLoop self "__setattr__" [.type "function", .type "object"] = pure () := by kernel_rfl
/-- the object of a names' table that holds these names -/
def Ns1O (o : Obj) (m : Str → Option Value) : Prop := ∃ es ep, o.data = .dict es ep ∧ StrKeys es ∧ UniqKeys es ∧ ∀ y, nsFind es y = m y
section
variable {w : World} {A : Around} {b h : Heap} {L a : Addr} {al al' : List (Str × Value)} {μ μ' : List (Addr × Obj)} {mg mb : Str → Option Value} {G : Array GenState} {Dr : Drawn} {tk : Nat} {O : OsState} {E : Value → Shared → Prop} {env : Env}
theorem Rm.mid {c : Addr} {o : Obj} {pre post : List (Addr × Obj)} : Rm c o (pre ++ (c, o) :: post) (pre ++ post) := by
  induction pre with
  | nil => exact .head
  | cons p r ih => exact .tail ih
theorem Led.add {o : Obj} {c : Addr} (D : Led b L al h μ) (ho : h.get? c = some o) (hL : c ≠ L) (hb : b.get? c = none) (hk : c ∉ μ.map (·.1)) : Led b L al h ((c, o) :: μ) :=
  ⟨D.loc, fun p hp => by
    rcases List.mem_cons.mp hp with rfl | hp
    · exact ⟨ho, hL, hb⟩
    · exact D.nw p hp, D.nn, List.nodup_cons.mpr ⟨hk, D.nd⟩⟩
/-- an object of the ledger is another now, and more may have been made -/
theorem Led.upX {c : Addr} {o o' : Obj} {h' : Heap} (D : Led b L al h μ) (U : Up c o o' μ μ') (hs : Heap.ExtBut c h h') (ho : h'.get? c = some o') : Led b L al h' μ' := by
  have z := D.nw _ U.mem
  obtain ⟨pre, post, rfl, rfl⟩ := U.split
  have D1 := D.rm Rm.mid hs
  have nd := ((List.perm_middle (l₁ := pre) (a := (c, o)) (l₂ := post)).map (fun p : Addr × Obj => p.1)).nodup_iff.mp D.nd
  exact (D1.add ho z.2.1 z.2.2 (List.nodup_cons.mp nd).1).perm List.perm_middle
theorem f_setEntry {f : Addr} {fo : Obj} {fd : FuncData} {tn : Tok} {v : Value} {Q : Fin → Shared → Prop} (hf : h.get? f = some fo) (hc : fo.cls = .type "function") (hdn : fo.dict = none) (hdt : fo.data = .func fd)
    (k : ∀ oD h', Ns1O oD (fun y => if y = Str.ofString "read" then some v else none) → h'.get? h.objs.size = some oD → h'.get? f = some { fo with dict := some h.objs.size } → (∀ c o, c ≠ f → h.get? c = some o → h'.get? c = some o) → Q (.done (.ret .none)) ⟨h', G, Dr, tk + 1, O⟩) :
    wpAny (model P0 w) A (Builtin.«object.__setattr__» ⟨[.ref f, .str (Str.ofString "read") tn, v], []⟩) Q E ⟨h, G, Dr, tk, O⟩ := by
  have hpass := f_passes (.ref f)
  have hT : (⟨h, G, Dr, tk, O⟩ : Shared).TypeIs (.ref f) "function" := ⟨_, hf, hc⟩
  unfold Builtin.«object.__setattr__»
  repeat (first | rw [refuse_eq] | rw [hpass] | (with_reducible refine wpAny_typeOf hT ?_) | (rw [f_mro]) | (rw [f_noRead]) | wp_step)
  rw [hc, hdn, hdt]
  have hx₁ : (h.push { cls := .type "dict", data := .dict #[] }).get? f = some fo := Heap.get?_push_of_some _ hf
  have hxs : f ≠ h.objs.size := Nat.ne_of_lt (Heap.lt_size hf)
  show wpAny _ _ (do
    let d ← alloc { cls := Value.type "dict", data := Data.dict #[] }
    update f fun o => { cls := o.cls, dict := some d, data := o.data, slots := o.slots }
    dictMade (.type "function") f d) _ _ _
  refine wpAny_bind (wpAny_alloc' ?_)
  refine wpAny_bind (wpAny_update' hx₁ ?_)
  refine wpAny_pure ?_
  have hgd : ((h.push { cls := .type "dict", data := .dict #[] }).update f fun o => { cls := o.cls, dict := some h.objs.size, data := o.data, slots := o.slots }).get? h.objs.size
      = some { cls := .type "dict", data := .dict #[] } :=
    (Heap.get?_update_ne _ _ _ _ hxs.symm).trans (Heap.get?_push_at rfl rfl)
  have hnd : ((h.push { cls := .type "dict", data := .dict #[] }).update f fun o => { cls := o.cls, dict := some h.objs.size, data := o.data, slots := o.slots }).Ns h.objs.size (fun _ => none) :=
    ⟨_, #[], _, hgd, rfl, fun e he => absurd he (by simp), fun _ => rfl⟩
  show wpAny _ _ (storeInDict h.objs.size (.str _ tn) _ v) _ _ _
  unfold storeInDict newKeyGuard
  refine wpAny_bind (wpAny_pure (wpAny_bind (wpAny_nsSet1 (Heap.Ns1.of_empty hnd) fun h' hn' hs => ?_)))
  obtain ⟨oD, esD, epD, hoD, hdD, hcD⟩ := hn'.count (Within.cons _ v Within.nil)
  refine wpAny_bind (wpAny_lookBehind hoD (by rw [hdD]; exact pastItsLine_dict (Nat.le_trans hcD (by rw [List.length_cons, List.length_nil, sizeLine_eq]; omega))) ?_)
  wp_walk
  obtain ⟨o', es, ep, e1, e2, e3, eu, e4⟩ := hn'
  refine k o' h' ⟨es, ep, e2, e3, eu, e4⟩ e1 ?_ fun c o hcf e => (hs.2 c (Nat.ne_of_lt (Heap.lt_size e))).trans ((Heap.get?_update_ne _ _ _ _ hcf).trans (Heap.get?_push_of_some _ e))
  refine (hs.2 f hxs).trans (Heap.get?_update_self _ hx₁ ?_)
  have hfr := (Heap.get?_some_iff.mp hf).2
  obtain ⟨oc, od, odt, osl⟩ := fo
  cases odt <;> first | rfl | exact hfr
/-- a function of the ledger gets a name of its own -/
theorem o_setFn {f : Addr} {fo : Obj} {fd : FuncData} {v : Value} {Q : Unit → Shared → Prop} (D : Led b L al h μ) (hm : (f, fo) ∈ μ) (hc : fo.cls = .type "function") (hdn : fo.dict = none) (hdt : fo.data = .func fd)
    (k : ∀ d oD h' tk', Ns1O oD (fun y => if y = Str.ofString "read" then some v else none) → (∀ μ', Up f fo { fo with dict := some d } μ μ' → Led b L al h' ((d, oD) :: μ')) → Q () ⟨h', G, Dr, tk', O⟩) :
    wpAny (model P0 w) A (setAttr (.ref f) (Str.ofString "read") v) Q E ⟨h, G, Dr, tk, O⟩ := by
  have hf := D.get hm
  have hT : ∀ t, (⟨h, G, Dr, t, O⟩ : Shared).TypeIs (.ref f) "function" := fun _ => ⟨_, hf, hc⟩
  unfold setAttr
  refine wpAny_bind (wpAny_mkText (wpAny_bind (wpAny_callSpecial?_slot (name := Str.ofString "__setattr__") (hT _) f_slot_set (wpAny_call_entry f_slot_set (hT _) f_entry_set (f_setEntry hf hc hdn hdt fun oD h' hN h1 h2 h3 => ⟨_, rfl, ?_⟩) (f_args_set _ _ _)))))
  refine wpAny_pure (k h.objs.size oD h' _ hN fun μ' U => ?_)
  obtain ⟨m, F, _⟩ := D.loc
  have D1 := D.upX U (fun c o hcf e => h3 c o hcf e) h2
  refine D1.add h1 (Nat.ne_of_gt F.ns.lt) ?_ ?_
  · cases q : b.get? h.objs.size with
    | none => rfl
    | some o => exact absurd (Heap.lt_size (F.keep _ _ q)) (Nat.lt_irrefl _)
  · rw [U.keys]; exact D.fresh
theorem f_getEntry {f d : Addr} {fo oD : Obj} {fd : FuncData} {tn : Tok} {v : Value} {Q : Fin → Shared → Prop} (hf : h.get? f = some fo) (hc : fo.cls = .type "function") (hdn : fo.dict = some d) (hdt : fo.data = .func fd)
    (hd : h.get? d = some oD) (hN : Ns1O oD (fun y => if y = Str.ofString "read" then some v else none)) (k : Q (.done (.ret v)) ⟨h, G, Dr, tk, O⟩) :
    wpAny (model P0 w) A (Builtin.«object.__getattribute__» ⟨[.ref f, .str (Str.ofString "read") tn], []⟩) Q E ⟨h, G, Dr, tk, O⟩ := by
  have hT : (⟨h, G, Dr, tk, O⟩ : Shared).TypeIs (.ref f) "function" := ⟨_, hf, hc⟩
  obtain ⟨es, ep, e1, e2, e3, e4⟩ := hN
  have hns : h.Ns d (fun y => if y = Str.ofString "read" then some v else none) := ⟨_, es, ep, hd, e1, e2, e4⟩
  unfold Builtin.«object.__getattribute__»
  repeat (first | (with_reducible refine wpAny_typeOf hT ?_) | (rw [f_noRead]) | (with_reducible refine wpAny_nsGet hns ?_) | wp_step)
  rw [hdt]
  show wpAny _ _ (instanceDict f false) _ _ _
  unfold instanceDict
  refine wpAny_bind (wpAny_loadPart_at hf ?_)
  rw [hc, hdn]
  refine wpAny_pure ?_
  show wpAny _ _ (nsGet d (Str.ofString "read")) _ _ _
  refine wpAny_nsGet hns ?_
  rw [if_pos rfl]
  refine wpAny_bind (wpAny_rule (wpAny_pure ?_))
  exact wpAny_pure k
theorem o_methFn {f d : Addr} {fo oD : Obj} {fd : FuncData} {v : Addr} {pl : Sem Bool} {Q : Value × List Value → Shared → Prop} (D : Led b L al h μ) (hm : (f, fo) ∈ μ) (hmd : (d, oD) ∈ μ) (hN : Ns1O oD (fun y => if y = Str.ofString "read" then some (.ref v) else none)) (hc : fo.cls = .type "function") (hdn : fo.dict = some d) (hdt : fo.data = .func fd)
    (k : ∀ tk', Q (.ref v, []) ⟨h, G, Dr, tk', O⟩) : wpAny (model P0 w) A (getMethod (.ref f) (Str.ofString "read") pl) Q E ⟨h, G, Dr, tk, O⟩ := by
  have hf := D.get hm
  have hT : ∀ t, (⟨h, G, Dr, t, O⟩ : Shared).TypeIs (.ref f) "function" := fun _ => ⟨_, hf, hc⟩
  have hcan := f_canon
  unfold getMethod
  refine wpAny_bind (wpAny_specialOf (hT _) f_slot_get.lookup ?_)
  show wpAny _ _ (if (Manifest.canonical "object.__getattribute__" != "object.__getattribute__") = true then _ else _) _ _ _
  rw [if_neg (by rw [hcan]; exact Bool.false_ne_true)]
  refine wpAny_bind (wpAny_specialOf (hT _) f_noGetattr ?_)
  refine wpAny_bind (wpAny_specialOf (hT _) f_noRead ?_)
  unfold getAttr getAttrBy
  refine wpAny_bind (wpAny_bind (wpAny_mkText (wpAny_holding (wpAny_bind (wpAny_typeOf (hT _) (wpAny_bind (wpAny_of_eq f_slot_get.lookup ?_)))))))
  show wpAny _ _ (getAttrByItsOwn (.ref f) (.str (Str.ofString "read") tk) (.type "function") (.builtin "object.__getattribute__") true false) _ _ _
  unfold getAttrByItsOwn hookBefore callGetattribute boundAndCalled
  refine wpAny_bind (wpAny_of_eq (show (if onTheHeap (.type "function") then typeLookup (.type "function") "__getattr__" else pure none) = pure none from rfl) ?_)
  refine wpAny_bind (wpAny_attempt (wpAny_holding ?_))
  show wpAny _ _ (bindSpecial (.builtin "object.__getattribute__") (.ref f) >>= _) _ _ _
  refine wpAny_bind (wpAny_of_eq (f_slot_get.bind _) ?_)
  refine wpAny_mono (Q := fun x s' => x = .ref v ∧ s' = ⟨h, G, Dr, tk + 1, O⟩) (E := fun _ _ => False)
    (wpAny_call_entry f_slot_get (hT _) f_entry_get (f_getEntry hf hc hdn hdt (D.get hmd) hN ⟨_, rfl, rfl, rfl⟩) (f_args_get _ _)) (fun x s' hv => ?_) fun _ _ z => z.elim
  obtain ⟨rfl, rfl⟩ := hv
  exact wpAny_pure (wpAny_pure (k _))
end
end Mine
end

section
open PySem PySem.W PyProof.Rows PySem.Spec PySem.Calls PyProof.V
set_option Elab.async false
set_option maxRecDepth 100000
set_option maxHeartbeats 4000000
namespace Mine
structure BaseX (w : World) (mg mb : Str → Option Value) (b : Heap) : Prop where
  B : Base w mg mb b
  bm : ∃ bm ob, mg "__builtins__" = some (.ref bm) ∧ bm ≠ builtinsNs ∧ b.get? bm = some ob ∧ ob.cls = .type "module" ∧ ob.dict = some builtinsNs ∧ ob.data = .plain
  cd : CodeHd b 123 119
/-- the object is a code of this name -/
def CodeO (o : Obj) (qual : Str) : Prop := ∃ vs t, o.data = .fields vs ∧ vs[1]? = some (.str qual t)
section
variable {w : World} {A : Around} {b h : Heap} {L a : Addr} {al al' : List (Str × Value)} {μ μ' : List (Addr × Obj)} {mg mb : Str → Option Value} {G : Array GenState} {Dr : Drawn} {tk : Nat} {O : OsState} {E : Value → Shared → Prop}
  {params : Arguments} {body : Expr} {scope : Scope} {pos : Pos} {cn : Str} {cs : Scope} {cl clos : List (Str × Addr)} {ps : Array Value}
theorem BaseX.at {P : Addr} (B : BaseX w mg mb b) (hk : ∀ c o, b.get? c = some o → h.get? c = some o) (hP : h.get? P = some (tabObj ps)) : mainGlobals ≠ P ∧ h.BuiltinsAt mg P := by
  have hgs := B.B.g.keeps hk
  have T := B.B.g
  obtain ⟨bm, ob, b1, b2, b3, b4, b5, b6⟩ := B.bm
  have hgP : mainGlobals ≠ P := fun q => by
    obtain ⟨o, es, ep, e, hd, _⟩ := hgs
    rw [q, hP] at e; cases e; cases hd
  have hbP : bm ≠ P := fun q => by
    have e := hk _ _ b3
    rw [q, hP] at e; cases e; cases b4
  have hbG : bm ≠ mainGlobals := fun q => by
    obtain ⟨o, es, ep, e, hd, _⟩ := T
    rw [q, e] at b3; cases b3; rw [hd] at b6; cases b6
  exact ⟨hgP, bm, ob, b1, b2, hbG, hbP, hk _ _ b3, b4, b5, b6⟩
/-- a lambda of the stream's maker, laid for the first time -/
theorem o_lamNew {Q : Value → Shared → Prop} (B : BaseX w mg mb b) (D : Led b L al h μ) (hm : (119, tabObj ps) ∈ μ) (ht : TriplesOk ps.toList) (hnf : codeAmong pos ps.toList = none) (hdef : defaultsOf params (envX cn cs L a (.ref 123) cl) = ([], []))
    (hcl : closureFor scope (envX cn cs L a (.ref 123) cl) = pure clos)
    (k : ∀ f c' oc ctv h' tk', CodeO oc ((envX cn cs L a (.ref 123) cl).qual ++ "<lambda>") → (∀ μ', Up 119 (tabObj ps) (tabObj (ps ++ #[rawInt pos.line, rawInt pos.col, .ref c'])) μ μ' →
      Led b L al h' ((f, kla_obj "<lambda>" ((envX cn cs L a (.ref 123) cl).qual ++ "<lambda>") params body scope clos ((mg "__name__").getD .none) c' ctv) :: (c', oc) :: μ')) → Q (.ref f) ⟨h', G, Dr, tk', O⟩) :
    wpAny (model P0 w) A (eval (.Lambda params body scope pos) (envX cn cs L a (.ref 123) cl)) Q E ⟨h, G, Dr, tk, O⟩ := by
  obtain ⟨m, F, kn⟩ := D.loc
  have hP := D.get hm
  obtain ⟨hgP, hb⟩ := B.at F.keep hP
  refine kla_eval hdef (kla_makeFunction (s := ⟨h, G, Dr, tk, O⟩) (mg := mg) (c := 123) (P := 119) hcl rfl (B.B.g.keeps F.keep) rfl (B.cd.keeps F.keep) hP ht hnf hgP hb fun c' ctv h' tk' hx hge hlt hrec htb => ?_)
  obtain ⟨c₂, oc, vs, t, e2, hoc, hd, hv⟩ := hrec
  cases e2
  refine k _ c' oc ctv _ tk' ⟨vs, t, hd, hv⟩ fun μ' U => ?_
  have D1 := D.upX U hx htb
  have D2 := D1.add hoc (Nat.ne_of_gt (Nat.lt_of_lt_of_le F.ns.lt hge)) (by
    cases q : b.get? c' with
    | none => rfl
    | some o => exact absurd (Heap.lt_size (F.keep _ _ q)) (Nat.not_lt.mpr hge)) (fun q => by
    rw [U.keys] at q
    obtain ⟨p, hp, e⟩ := List.mem_map.mp q
    exact absurd (Heap.lt_size (D.nw p hp).1) (by rw [show p.1 = c' from e]; exact Nat.not_lt.mpr hge))
  exact D2.push _
/-- a lambda of the stream's maker whose code is known -/
theorem o_lamHit {c' : Addr} {Q : Value → Shared → Prop} (B : BaseX w mg mb b) (D : Led b L al h μ) (hm : (119, tabObj ps) ∈ μ) (ht : TriplesOk ps.toList) (hf : codeAmong pos ps.toList = some (.ref c')) (hdef : defaultsOf params (envX cn cs L a (.ref 123) cl) = ([], []))
    (hcl : closureFor scope (envX cn cs L a (.ref 123) cl) = pure clos)
    (k : ∀ f ctv h' tk', Led b L al h' ((f, kla_obj "<lambda>" ((envX cn cs L a (.ref 123) cl).qual ++ "<lambda>") params body scope clos ((mg "__name__").getD .none) c' ctv) :: μ) → Q (.ref f) ⟨h', G, Dr, tk', O⟩) :
    wpAny (model P0 w) A (eval (.Lambda params body scope pos) (envX cn cs L a (.ref 123) cl)) Q E ⟨h, G, Dr, tk, O⟩ := by
  obtain ⟨m, F, kn⟩ := D.loc
  have hP := D.get hm
  obtain ⟨hgP, hb⟩ := B.at F.keep hP
  refine kla_eval hdef (kla_makeFunctionHit (s := ⟨h, G, Dr, tk, O⟩) (mg := mg) (c := 123) (P := 119) hcl rfl (B.B.g.keeps F.keep) rfl (B.cd.keeps F.keep) hP ht hf hb fun ctv h' tk' hk hsz => ?_)
  exact k _ ctv _ tk' ((D.more hk).push _)
/-- a lambda of the ledger is called -/
theorem o_callLam {f c' : Addr} {oc : Obj} {args : List Value} {name qual : Str} {pm ctv : Value} {binds : List (Str × Value)} {Q : Value → Shared → Prop}
    (B : Base w mg mb b) (D : Led b L al h μ) (ho : (f, kla_obj name qual params body scope cl pm c' ctv) ∈ μ) (hc : (c', oc) ∈ μ) (hoc : CodeO oc qual) (hroom : A.depth < recursionLimit)
    (hbind : bindArgs (kla_fn name qual params body scope cl pm (.ref c') ctv) ⟨args, []⟩ = pure binds) (hloc : ∀ y ∈ binds, scope.names.lookup y.1 = some .local) (hnn : (binds.map (·.1)).Nodup)
    (k : ∀ A' E' L' h₁ oL tk₁, A'.handled = A.handled → A'.depth = A.depth + 1 → A'.units = A.units + 3 → Led b L' binds h₁ ((L, oL) :: μ) →
      wpAny (model P0 w) A' (eval body (envX qual scope L' f (.ref c') cl)) (fun v => LeaveQ b L al oL Q (.ret v)) E' ⟨h₁, G, Dr, tk₁, O⟩)
    (hco : scope.isCoroutine = false) (hgen : scope.isGenerator = false) (hk : scope.kind = .function) (hcell : ∀ x ∈ scope.names, x.2 ≠ .cell) :
    wpAny (model P0 w) A (call (.ref f) args) Q E ⟨h, G, Dr, tk, O⟩ := by
  obtain ⟨m, F, kn⟩ := D.loc
  obtain ⟨oL, es, ep, hL, hL2⟩ := F.ns
  obtain ⟨vs, t, hd, hv⟩ := hoc
  refine wpAny_call (kla_callFunE (s := ⟨h, G, Dr, tk, O⟩) hroom (D.get ho) rfl hco hgen rfl ⟨c', oc, vs, t, rfl, D.get hc, hd, hv⟩ ?_)
  rw [hbind]
  refine wpAny_pure (wpAny_newFunctionEnv (s := ⟨h, G, Dr, tk, O⟩) hcell hloc (fun h₁ hns hsb => ⟨((B.lim).keeps F.keep).fresh _ hsb, ?_⟩) hk)
  have hk₁ : ∀ c o, h.get? c = some o → h₁.get? c = some o := fun c o e => hsb.extBut c o (Nat.ne_of_lt (Heap.lt_size e)) (Heap.get?_push_of_some _ e)
  have D₁ : Led b h.objs.size binds h₁ ((L, oL) :: μ) := by
    refine ⟨⟨_, ⟨hns, fun a o e => hk₁ a o (F.keep a o e), ?_⟩, kn_of_binds hnn⟩, fun p hp => ?_, hnn, ?_⟩
    · exact Nat.le_of_lt (Nat.lt_of_le_of_lt F.above (Heap.lt_size hL))
    · rcases List.mem_cons.mp hp with rfl | hp
      · refine ⟨hk₁ _ _ hL, Nat.ne_of_lt (Heap.lt_size hL), ?_⟩
        cases q : b.get? L with
        | none => rfl
        | some o => exact absurd (Heap.lt_size q) (Nat.not_lt.mpr F.above)
      · exact ⟨hk₁ _ _ (D.nw p hp).1, Nat.ne_of_lt (Heap.lt_size (D.nw p hp).1), (D.nw p hp).2.2⟩
    · rw [List.map_cons]
      refine List.nodup_cons.mpr ⟨fun q => ?_, D.nd⟩
      obtain ⟨p, hp, e⟩ := List.mem_map.mp q
      exact (D.nw p hp).2.1 e
  show codeAny _ _ (.expr body (envX qual scope h.objs.size f (.ref c') cl)) _ _
  refine kla_codeExpr (wpAny_mono (k (A.deeper (envX qual scope h.objs.size f (.ref c') cl)) _ _ h₁ oL _ rfl rfl rfl D₁) (fun v s' hl => ?_) fun _ _ y => y)
  obtain ⟨L', al', μ', D', kk⟩ := hl
  exact kk (D.back ⟨m, ⟨es, ep, hL2⟩, kn⟩ D')
end
end Mine
end

section
open PySem PySem.W PyProof.Rows PySem.Spec PySem.Calls PyProof.V
set_option Elab.async false
set_option maxRecDepth 100000
set_option maxHeartbeats 4000000
namespace Mine
abbrev fr (l : List Env) : List Addr := l.filterMap (·.frame)
/-- the frames of the chain lie in the ledger, each a map of names -/
noncomputable def FF : List Env → List (Addr × Obj) → Prop
  | [], _ => True
  | env :: l, μ => (env.scope.kind ≠ .module ∧ ∃ Li oi es ep, env.frame = some Li ∧ (Li, oi) ∈ μ ∧ oi.data = .dict es ep) ∧ FF l μ
theorem FF.funs {h β : Heap} {μ : List (Addr × Obj)} : ∀ {l : List Env}, FF l μ → (∀ p ∈ μ, h.get? p.1 = some p.2) → (∀ c ∈ fr l, β.get? c = none) → h.FunFrames β l
  | [], _, _, _ => trivial
  | env :: l, ⟨⟨hk, Li, oi, es, ep, hf, hm, hd⟩, r⟩, hh, hb =>
    ⟨hk, ⟨Li, oi, hf, hb Li (by show Li ∈ List.filterMap (·.frame) (env :: l); rw [List.filterMap_cons, hf]; exact List.mem_cons_self), hh _ hm, fun vs q => by rw [hd] at q; cases q⟩,
      FF.funs r hh fun c hc => hb c (by show c ∈ List.filterMap (·.frame) (env :: l); rw [List.filterMap_cons]; cases env.frame with
        | none => exact hc
        | some _ => exact List.mem_cons_of_mem _ hc)⟩
theorem FF.data {μ : List (Addr × Obj)} : ∀ {l : List Env}, FF l μ → ∀ c ∈ fr l, ∃ o es ep, (c, o) ∈ μ ∧ o.data = .dict es ep
  | [], _, _, hc => nomatch hc
  | env :: l, ⟨⟨hk, Li, oi, es, ep, hf, hm, hd⟩, r⟩, c, hc => by
    have hc : c ∈ List.filterMap (·.frame) (env :: l) := hc
    rw [List.filterMap_cons, hf] at hc
    rcases List.mem_cons.mp hc with rfl | hc
    · exact ⟨oi, es, ep, hm, hd⟩
    · exact r.data c hc
theorem FF.more {μ : List (Addr × Obj)} {p : Addr × Obj} : ∀ {l : List Env}, FF l μ → FF l (p :: μ)
  | [], _ => trivial
  | _ :: _, ⟨⟨hk, Li, oi, es, ep, hf, hm, hd⟩, r⟩ => ⟨⟨hk, Li, oi, es, ep, hf, .tail _ hm, hd⟩, r.more⟩
abbrev tupO (args : List Value) : Obj := { cls := .type "tuple", data := .seq args.toArray }
/-- an exception flies: it is at the frame L, the ledger's rest stands -/
structure Fl (b : Heap) (L : Addr) (al : List (Str × Value)) (μ : List (Addr × Obj)) (l : List Env) (e t : Addr) (args : List Value) (h : Heap) : Prop where
  ex : ∃ β, Heap.FlyingW β l e (.type "ValueError") (.ref t) h ∧ (∀ c o, b.get? c = some o → β.get? c = some o) ∧ (∀ p ∈ μ, p.1 ∉ fr l → β.get? p.1 = some p.2) ∧ β.get? t = some (tupO args)
  frs : ∀ p ∈ μ, p.1 ∈ fr l → ∃ sl, h.get? p.1 = some { p.2 with slots := sl }
  loc : ∃ oL, h.get? L = some oL ∧ LocO oL al
  above : b.objs.size ≤ L
  apart : ∀ p ∈ μ, p.1 ≠ L ∧ b.get? p.1 = none
  nn : (al.map (·.1)).Nodup
  nd : (μ.map (·.1)).Nodup
  ekey : e ∉ μ.map (·.1) ∧ e ≠ L ∧ b.get? e = none ∧ e ≠ t
  tkey : t ∉ μ.map (·.1) ∧ t ≠ L ∧ b.get? t = none
section
variable {w : World} {A : Around} {b h : Heap} {L a : Addr} {al al' : List (Str × Value)} {μ μ' : List (Addr × Obj)} {mg mb : Str → Option Value} {G : Array GenState} {Dr : Drawn} {tk : Nat} {O : OsState} {E : Value → Shared → Prop}
theorem Fl.first {L' e : Addr} {oL : Obj} {env env' : Env} {l : List Env} {args : List Value} {h₁ : Heap} {Q : Unit → Shared → Prop} (D : Led b L' al' h ((L, oL) :: μ)) (hfr : A.frames = some (env :: l)) (hf' : env'.frame = some L') (hk' : env'.scope.kind = .function) (hf : env.frame = some L) (hk : env.scope.kind ≠ .module)
    (hl : FF l μ) (U : Outer b L al oL) (X : Heap.MadeExc h h₁ e "ValueError" args) (k : ∀ h' t, Fl b L al μ (env :: l) e t args h' → Q () ⟨h', G, Dr, tk, O⟩) :
    wpAny (model P0 w) (A.deeper env') (leaving env' (.ref e)) Q E ⟨h₁, G, Dr, tk, O⟩ := by
  obtain ⟨m, ⟨es, ep, u1, u2, u3⟩, kn⟩ := U.loc
  obtain ⟨m', F', kn'⟩ := D.loc
  obtain ⟨t, he, ht, hto⟩ := X.there
  have hL := D.get (List.mem_cons_self (a := (L, oL)))
  have Ff : FF (env :: l) ((L, oL) :: μ) := ⟨⟨hk, L, oL, es, ep, hf, .head _, u1⟩, hl.more⟩
  have hLt : h.get? L' ≠ none := by obtain ⟨o, es, ep, q, _⟩ := F'.ns; rw [q]; nofun
  have hin : ∀ c ∈ fr (env :: l), h.get? c ≠ none := fun c hc => by
    obtain ⟨o, _, _, hm, _⟩ := Ff.data c hc
    rw [D.get hm]; nofun
  let β := hideAll h₁ (e :: L' :: fr (env :: l))
  have hβ : ∀ c o, h₁.get? c = some o → c ≠ e → c ≠ L' → c ∉ fr (env :: l) → β.get? c = some o := fun c o q h1 h2 h3 => hideAll_get _ q fun hm => by
    rcases List.mem_cons.mp hm with q | hm
    · exact h1 q
    · rcases List.mem_cons.mp hm with q | hm
      · exact h2 q
      · exact h3 hm
  have hF : h₁.FunFrames β (env' :: env :: l) := by
    refine Heap.FunFrames.cons (L := L') (by rw [hk']; decide) hf' (F'.ns.keeps X.keeps) (hideAll_none _ (.tail _ (.head _))) (Ff.funs (fun p hp => X.keeps _ _ (D.nw p hp).1) fun c hc => hideAll_none _ (.tail _ (.tail _ hc)))
  refine wpAny_leaving_firstW (s := ⟨h₁, G, Dr, tk, O⟩) (base := β) (Around.frames_deeper hfr) hF hf' he (fun c o q => of_hideAll _ q) (hideAll_none _ (.head _)) rfl rfl rfl fun h₂ hL2 => ?_
  obtain ⟨k1, ⟨_, _, k2⟩, k3, k4⟩ := hL2
  have hbf : ∀ c o, b.get? c = some o → c ∉ fr (env :: l) := fun c o q hm => by
    obtain ⟨o', _, _, hm', _⟩ := Ff.data c hm
    rw [(D.nw _ hm').2.2] at q; cases q
  have hbn : ∀ c, h.get? c = none → b.get? c = none := fun c q => by
    cases r : b.get? c with
    | none => rfl
    | some o => rw [F'.keep _ _ r] at q; cases q
  have hkn : ∀ c, h.get? c = none → c ∉ μ.map (·.1) := fun c q hm => by
    obtain ⟨p, hp, q'⟩ := List.mem_map.mp hm
    have := (D.nw p (.tail _ hp)).1
    rw [show p.1 = c from q', q] at this; cases this
  have nd := List.nodup_cons.mp (show (((L, oL) :: μ).map (·.1)).Nodup from D.nd)
  refine k h₂ t ⟨⟨β, ⟨k1, hideAll_none _ (.head _), k2, k3⟩, fun c o q => ?_, fun p hp hn => ?_, ?_⟩, fun p hp hm => ?_, ?_, U.above, fun p hp => ⟨?_, (D.nw p (.tail _ hp)).2.2⟩, U.nn, nd.2, ⟨hkn _ X.new, fun q => ?_, hbn _ X.new, fun q => ?_⟩, ⟨hkn _ ht, fun q => ?_, hbn _ ht⟩⟩
  · refine hβ c o (X.keeps _ _ (F'.keep _ _ q)) (fun r => ?_) (fun r => ?_) (hbf c o q)
    · rw [r] at q; rw [hbn _ X.new] at q; cases q
    · rw [r] at q; exact absurd (Heap.lt_size q) (Nat.not_lt.mpr F'.above)
  · have z := D.nw p (.tail _ hp)
    exact hβ _ _ (X.keeps _ _ z.1) (fun r => by have := z.1; rw [r, X.new] at this; cases this) z.2.1 hn
  · refine hβ t _ hto (fun r => ?_) (fun r => hLt (r ▸ ht)) fun hm => hin t hm ht
    rw [r] at hto
    rw [he] at hto
    exact absurd (congrArg Obj.data (Option.some.inj hto)) (by nofun)
  · have z := D.nw p (.tail _ hp)
    obtain ⟨o, es, ep, hm', hd⟩ := Ff.data _ hm
    have e2 := D.get hm'
    rw [z.1] at e2
    refine k4 p.1 p.2 (X.keeps _ _ z.1) fun vs q => ?_
    rw [Option.some.inj e2, hd] at q; cases q
  · obtain ⟨sl, q⟩ := k4 L oL (X.keeps _ _ hL) fun vs q => by rw [u1] at q; cases q
    exact ⟨_, q, m, ⟨es, ep, u1, u2, u3⟩, kn⟩
  · exact fun q => nd.1 (List.mem_map.mpr ⟨p, hp, q⟩)
  · rw [q] at X; have := X.new; rw [hL] at this; cases this
  · have z := hto; rw [← q, he] at z
    exact absurd (congrArg Obj.data (Option.some.inj z)) (by nofun)
  · rw [q, hL] at ht; cases ht
theorem LocO.slots {oL : Obj} {sl : Array (Option Value)} (x : LocO oL al) : LocO { oL with slots := sl } al :=
  let ⟨m, ⟨es, ep, u1, u2, u3⟩, kn⟩ := x; ⟨m, ⟨es, ep, u1, u2, u3⟩, kn⟩
theorem fr_cons {env : Env} {l : List Env} {L : Addr} (hf : env.frame = some L) : fr (env :: l) = L :: fr l := by
  show List.filterMap (·.frame) (env :: l) = _
  rw [List.filterMap_cons, hf]
theorem Fl.next {L' e t : Addr} {oL : Obj} {env env' : Env} {l : List Env} {args : List Value} {Q : Unit → Shared → Prop} (F : Fl b L' al' ((L, oL) :: μ) (env' :: env :: l) e t args h) (hfr : A.frames = some (env :: l)) (hf' : env'.frame = some L') (hf : env.frame = some L)
    (U : Outer b L al oL) (k : ∀ h', Fl b L al μ (env :: l) e t args h' → Q () ⟨h', G, Dr, tk, O⟩) :
    wpAny (model P0 w) (A.deeper env') (leaving env' (.ref e)) Q E ⟨h, G, Dr, tk, O⟩ := by
  obtain ⟨β, hfl, x1, x2, x3⟩ := F.ex
  have hFF := hfl.2.2.1
  refine wpAny_leaves_onW (s := ⟨h, G, Dr, tk, O⟩) (Around.frames_deeper hfr) hf' hfl fun h' hfl' hup => k h' ?_
  have nd := List.nodup_cons.mp (show (((L, oL) :: μ).map (·.1)).Nodup from F.nd)
  have c1 := fr_cons (l := env :: l) hf'
  have c2 := fr_cons (l := l) hf
  have up : ∀ p ∈ (L, oL) :: μ, p.1 ∈ fr (env :: l) → ∃ sl, h'.get? p.1 = some { p.2 with slots := sl } := fun p hp hm => by
    have hm' : p.1 ∈ fr (env' :: env :: l) := by rw [c1]; exact .tail _ hm
    obtain ⟨sl, q⟩ := F.frs p hp hm'
    obtain ⟨_, o, q2, hn⟩ := hFF.mem hm'
    rw [q2] at q
    obtain ⟨sl', q3⟩ := hup p.1 o q2 hn
    rw [Option.some.inj q] at q3
    exact ⟨sl', q3⟩
  refine ⟨⟨β, hfl', x1, fun p hp hn => x2 p (.tail _ hp) ?_, x3⟩, fun p hp hm => up p (.tail _ hp) hm, ?_, U.above, fun p hp => ⟨fun q => nd.1 (List.mem_map.mpr ⟨p, hp, q⟩), (F.apart p (.tail _ hp)).2⟩, U.nn, nd.2, ?_, ?_⟩
  · rw [c1]
    intro hm
    rcases List.mem_cons.mp hm with q | hm
    · exact (F.apart p (.tail _ hp)).1 q
    · exact hn hm
  · obtain ⟨sl, q⟩ := up (L, oL) (.head _) (by rw [c2]; exact .head _)
    exact ⟨_, q, U.loc.slots⟩
  · obtain ⟨y1, y2, y3, y4⟩ := F.ekey
    exact ⟨fun q => y1 (.tail _ q), fun q => y1 (by rw [q]; exact .head _), y3, y4⟩
  · obtain ⟨y1, y2, y3⟩ := F.tkey
    exact ⟨fun q => y1 (.tail _ q), fun q => y1 (by rw [q]; exact .head _), y3⟩
/-- the object is a ValueError with these arguments -/
def ExcO (o : Obj) (t : Addr) : Prop := o.cls = .type "ValueError" ∧ ∃ vs T, o.data = .fields vs ∧ vs[0]? = some (.ref t) ∧ vs[1]? = some (.ref T)
theorem Fl.caught {L1 e t : Addr} {o1 : Obj} {env env1 : Env} {args : List Value} {Q : Unit → Shared → Prop} (F : Fl b L al μ [env, env1] e t args h) (hfr : A.frames = some [env, env1]) (hf : env.frame = some L) (hf1 : env1.frame = some L1) (hm1 : (L1, o1) ∈ μ)
    (k : ∀ h' oe sl, ExcO oe t → (∀ μ', Up L1 o1 { o1 with slots := sl } μ μ' → Led b L al h' ((e, oe) :: (t, tupO args) :: μ')) → Q () ⟨h', G, Dr, tk, O⟩) :
    wpAny (model P0 w) A (noteFrame (.ref e) env) (fun _ s₂ => wpAny (model P0 w) A (setFlight (.ref e) none) Q E s₂) E ⟨h, G, Dr, tk, O⟩ := by
  obtain ⟨β, hfl, x1, x2, x3⟩ := F.ex
  obtain ⟨f1, f2, f3, f4⟩ := hfl
  refine wpAny_noteFrame_onW (s := ⟨h, G, Dr, tk, O⟩) hfr f3 hf f4 f1 f2 fun h₁ hN => ?_
  obtain ⟨k1, k2, k3, k4⟩ := hN
  refine wpAny_setFlight_noneW (s := ⟨h₁, G, Dr, tk, O⟩) k1 k2 k3 fun h₂ q1 q2 q3 q4 => ?_
  have c1 := fr_cons (l := [env1]) hf
  have c2 := fr_cons (l := []) hf1
  have c3 : ∀ c, c ∈ fr [env, env1] → c = L ∨ c = L1 := fun c hc => by
    rw [c1, c2] at hc
    rcases List.mem_cons.mp hc with q | hc
    · exact .inl q
    · exact .inr (List.mem_singleton.mp hc)
  have up : ∀ c o, c ∈ fr [env, env1] → h.get? c = some o → ∃ sl, h₂.get? c = some { o with slots := sl } := fun c o hc ho => by
    obtain ⟨_, o', q2, hn⟩ := f3.mem hc
    have : h.get? c = some o' := q2
    rw [ho] at this
    obtain rfl := Option.some.inj this
    obtain ⟨sl, q⟩ := k4 c o ho hn
    exact ⟨sl, q4 c _ q hn⟩
  have hL1m : L1 ∈ fr [env, env1] := by rw [c1, c2]; exact .tail _ (.head _)
  obtain ⟨sl0, hs0⟩ := F.frs _ hm1 hL1m
  obtain ⟨sl, hs⟩ := up L1 _ hL1m hs0
  obtain ⟨oL, hL, hLo⟩ := F.loc
  obtain ⟨slL, hL2⟩ := up L oL (by rw [c1]; exact .head _) hL
  obtain ⟨oe, vs, T, oT, ts, he, ⟨hcl, h0⟩, hd, h1, _⟩ := q3
  obtain ⟨m, ⟨es, ep, u1, u2, u3⟩, kn⟩ := hLo
  refine k h₂ oe sl ⟨hcl, vs, T, hd, h0, h1⟩ fun μ' U => ?_
  have D : Led b L al h₂ μ' := by
    refine ⟨⟨m, ⟨⟨_, es, ep, hL2, u1, u2, u3⟩, fun c o q => q1 _ _ (x1 _ _ q), F.above⟩, kn⟩, fun p hp => ?_, F.nn, by rw [U.keys]; exact F.nd⟩
    rcases U.cases F.nd p hp with rfl | ⟨hp', hne⟩
    · exact ⟨hs, (F.apart _ hm1).1, (F.apart _ hm1).2⟩
    · exact ⟨q1 _ _ (x2 p hp' fun hc => (c3 _ hc).elim (F.apart p hp').1 hne), (F.apart p hp').1, (F.apart p hp').2⟩
  have D2 := D.add (q1 _ _ x3) F.tkey.2.1 F.tkey.2.2 (by rw [U.keys]; exact F.tkey.1)
  refine D2.add he F.ekey.2.1 F.ekey.2.2.1 fun q => ?_
  rcases List.mem_cons.mp q with q | q
  · exact F.ekey.2.2.2 q
  · rw [U.keys] at q; exact F.ekey.1 q
/-- the end of a called def: the caller's frame may have got slots -/
def LeaveR (b : Heap) (L : Addr) (al : List (Str × Value)) (oL : Obj) (Q : Value → Shared → Prop) (fl : Flow) (s' : Shared) : Prop :=
  ∃ L' al' μ' sl, Led b L' al' s'.heap ((L, { oL with slots := sl }) :: μ') ∧ (Led b L al s'.heap μ' → Q (match fl with | .ret v => v | _ => .none) s')
theorem LeaveR.ret {L' : Addr} {oL : Obj} {sl : Array (Option Value)} {v : Value} {Q : Value → Shared → Prop} (D : Led b L' al' h μ) (U : Rm L { oL with slots := sl } μ μ') (k : Led b L al h μ' → Q v ⟨h, G, Dr, tk, O⟩) : LeaveR b L al oL Q (.ret v) ⟨h, G, Dr, tk, O⟩ :=
  ⟨L', al', μ', sl, D.perm U.perm, k⟩
theorem LeaveR.ret0 {L' : Addr} {oL : Obj} {v : Value} {Q : Value → Shared → Prop} (D : Led b L' al' h μ) (U : Rm L oL μ μ') (k : Led b L al h μ' → Q v ⟨h, G, Dr, tk, O⟩) : LeaveR b L al oL Q (.ret v) ⟨h, G, Dr, tk, O⟩ :=
  ⟨L', al', μ', oL.slots, D.perm U.perm, k⟩
/-- a def of the text that may raise is called -/
theorem o_callR {f : Addr} {args : List Value} {oc : Value} {od : Option Addr} {name qual : Str} {params : Arguments} {body : List Stmt} {scope : Scope} {dV kV doc pm cdv ct : Value} {an : Option Addr} {osl : Array (Option Value)} {binds : List (Str × Value)} {kw : List (Str × Value)} {env : Env} {l : List Env} {Q : Value → Shared → Prop}
    (B : Base w mg mb b) (D : Led b L al h μ) (hfr : A.frames = some (env :: l)) (hf : env.frame = some L) (hke : env.scope.kind ≠ .module)
    (ho : (KK w).lookup f = some ⟨oc, od, .func (fnOf name qual params body scope dV kV doc pm an cdv ct), osl⟩) (hcd : codeIn (KK w) cdv qual = true) (hroom : A.depth < recursionLimit)
    (hbind : BindsTo ⟨h, G, Dr, tk, O⟩ (fnOf name qual params body scope dV kV doc pm an cdv ct) ⟨args, kw⟩ binds) (hloc : ∀ y ∈ binds, scope.names.lookup y.1 = some .local) (hnn : (binds.map (·.1)).Nodup)
    (k : ∀ A' E' L' h₁ oL tk₁, A'.handled = A.handled → A'.depth = A.depth + 1 → A'.units = A.units + 3 → A'.frames = some (envOf qual scope L' f cdv :: env :: l) → Outer b L al oL →
      (∀ e ags h h₁ al' μ₁ tk, Led b L' al' h ((L, oL) :: μ₁) → FF l μ₁ → Heap.MadeExc h h₁ e "ValueError" ags → (∀ h' t, Fl b L al μ₁ (env :: l) e t ags h' → E (.ref e) ⟨h', G, Dr, tk, O⟩) → E' (.ref e) ⟨h₁, G, Dr, tk, O⟩) →
      (∀ e t ags h al' μ₁ tk, Fl b L' al' ((L, oL) :: μ₁) (envOf qual scope L' f cdv :: env :: l) e t ags h → (∀ h', Fl b L al μ₁ (env :: l) e t ags h' → E (.ref e) ⟨h', G, Dr, tk, O⟩) → E' (.ref e) ⟨h, G, Dr, tk, O⟩) →
      Led b L' binds h₁ ((L, oL) :: μ) →
      wpAny (model P0 w) A' (execs body (envOf qual scope L' f cdv)) (LeaveR b L al oL Q) E' ⟨h₁, G, Dr, tk₁, O⟩)
    (hco : scope.isCoroutine = false) (hgen : scope.isGenerator = false) (hk : scope.kind = .function) (hcell : ∀ x ∈ scope.names, x.2 ≠ .cell) :
    wpAny (model P0 w) A (call (.ref f) args kw) Q E ⟨h, G, Dr, tk, O⟩ := by
  obtain ⟨m, F, kn⟩ := D.loc
  obtain ⟨oL, es, ep, hL, hL2⟩ := F.ns
  refine wpAny_call (codeAny_call_def (fd := fnOf name qual params body scope dV kV doc pm an cdv ct) (body := body) (binds := binds) hroom (F.keep _ _ (B.X _ _ ho)) rfl (B.lim.keeps F.keep) ((codeRec_of B.X hcd).keeps F.keep) rfl hbind hcell hloc (fun h₁ hns hk₁ => ?_) hco hgen hk)
  have U : Outer b L al oL := ⟨F.above, D.nn, m, ⟨es, ep, hL2⟩, kn⟩
  have D₁ : Led b h.objs.size binds h₁ ((L, oL) :: μ) := by
    refine ⟨⟨_, ⟨hns, fun a o e => hk₁ a o (F.keep a o e), ?_⟩, kn_of_binds hnn⟩, fun p hp => ?_, hnn, ?_⟩
    · exact Nat.le_of_lt (Nat.lt_of_le_of_lt F.above (Heap.lt_size hL))
    · rcases List.mem_cons.mp hp with rfl | hp
      · refine ⟨hk₁ _ _ hL, Nat.ne_of_lt (Heap.lt_size hL), ?_⟩
        cases q : b.get? L with
        | none => rfl
        | some o => exact absurd (Heap.lt_size q) (Nat.not_lt.mpr F.above)
      · exact ⟨hk₁ _ _ (D.nw p hp).1, Nat.ne_of_lt (Heap.lt_size (D.nw p hp).1), (D.nw p hp).2.2⟩
    · rw [List.map_cons]
      refine List.nodup_cons.mpr ⟨fun q => ?_, D.nd⟩
      obtain ⟨p, hp, e⟩ := List.mem_map.mp q
      exact (D.nw p hp).2.1 e
  refine wpAny_mono (k (A.deeper (envOf qual scope h.objs.size f cdv)) _ _ h₁ oL _ rfl rfl rfl (Around.frames_deeper hfr) U ?_ ?_ D₁) (fun fl s' hl => ?_) fun _ _ y => y
  · intro e ags h h₁ al' μ₁ tk D' hF X kE
    exact Fl.first D' hfr rfl hk hf hke hF U X kE
  · intro e t ags h al' μ₁ tk hF kE
    exact Fl.next hF hfr rfl hf U kE
  · obtain ⟨L', al', μ', sl, D', kk⟩ := hl
    exact kk (D.back (LocO.slots (oL := oL) ⟨m, ⟨es, ep, hL2⟩, kn⟩) D')
end
end Mine
end

section
open PySem PySem.W PyProof.Rows PySem.Spec PySem.Calls PyProof.V
set_option Elab.async false
set_option maxRecDepth 100000
set_option maxHeartbeats 4000000
namespace Mine
section
variable {w : World} {A : Around} {b h : Heap} {L a : Addr} {al al' : List (Str × Value)} {μ μ' : List (Addr × Obj)} {mg mb : Str → Option Value} {G : Array GenState} {Dr : Drawn} {tk : Nat} {O : OsState} {E : Value → Shared → Prop} {env : Env}
theorem o_popM {D' : Addr} {its : Array Value} {n : Nat} {pl : Sem Bool} {Q : Value × List Value → Shared → Prop} (D : Led b L al h μ) (hm : (D', listOf its n) ∈ μ)
    (k : Q (.builtin "list.pop", [.ref D']) ⟨h, G, Dr, tk, O⟩) : wpAny (model P0 w) A (getMethod (.ref D') (Str.ofString "pop") pl) Q E ⟨h, G, Dr, tk, O⟩ :=
  kl_method (s := ⟨h, G, Dr, tk, O⟩) D.nw hm PySem.F.slot_list_pop PySem.F.type_list_pop k
theorem o_pop0 {y : Value} {q : List Value} {n : Nat} {u : Tok} {c : Addr} {Q : Value → Shared → Prop} (D : Led b L al h μ) (U : Up c (listOf (y :: q).toArray n) (listOf q.toArray (n + 1)) μ μ') (hz : (y :: q).length ≤ sizeLine)
    (k : ∀ h', Led b L al h' μ' → Q y ⟨h', G, Dr, tk, O⟩) : wpAny (model P0 w) A (call (.builtin "list.pop") [.ref c, .int 0 u]) Q E ⟨h, G, Dr, tk, O⟩ := by
  have z := D.get U.mem
  refine call_meets PySem.F.slot_list_pop ⟨_, z, rfl⟩ PySem.F.entry_list_pop (PySem.F.args_list_pop_2 _ _) (PySem.MeetsSeq.list_pop_at c (y :: q).toArray n 0 u 0 y (by rfl) (by rw [List.size_toArray]; simp [seqIndex?]) (by simp) (by rw [List.size_toArray]; exact hz)) ⟨z, k _ (D.up U (Heap.SameBut.update ..) ?_)⟩
  have e := PySem.IsL.update z (fun v => v.eraseIdxIfInBounds 0)
  have he : (y :: q).toArray.eraseIdxIfInBounds 0 = q.toArray := kl_erase [] q y
  rw [he, if_neg (by simp)] at e
  exact e
theorem o_lenLst {its : Array Value} {n : Nat} {c : Addr} {Q : Value → Shared → Prop} (D : Led b L al h μ) (hm : (c, listOf its n) ∈ μ) (hz : (its.size : Int) < 2 ^ 63)
    (k : ∀ t tk', Q (.int its.size t) ⟨h, G, Dr, tk', O⟩) : wpAny (model P0 w) A (call (.builtin "len") [.ref c]) Q E ⟨h, G, Dr, tk, O⟩ :=
  call_len_list (s := ⟨h, G, Dr, tk, O⟩) ⟨_, D.get hm, rfl, _, rfl⟩ hz (k _ _)
theorem o_min {x y : Int} {t u : Tok} {Q : Value → Shared → Prop} (hh : A.handled = none) (D : Led b L al h μ) (k : ∀ h' t tk', Led b L al h' μ → Q (.int (if y < x then y else x) t) ⟨h', G, Dr, tk', O⟩) :
    wpAny (model P0 w) A (call (.builtin "min") [.int x t, .int y u]) Q E ⟨h, G, Dr, tk, O⟩ :=
  min_two_ints (s := ⟨h, G, Dr, tk, O⟩) hh fun h' tk' hk => by
    by_cases hc : y < x
    · rw [if_pos hc]; have := k h' u tk' (D.more hk); rwa [if_pos hc] at this
    · rw [if_neg hc]; have := k h' t tk' (D.more hk); rwa [if_neg hc] at this
theorem o_bytes {vs : List Value} {ns : List Int} {n : Nat} {c : Addr} {Q : Value → Shared → Prop} (hh : A.handled = none) (D : Led b L al h μ) (hm : (c, listOf vs.toArray n) ∈ μ) (hi : IntsAre vs ns) (hr : ∀ n ∈ ns, 0 ≤ n ∧ n < 256) (hz : vs.length ≤ sizeLine)
    (k : ∀ h' t tk', Led b L al h' μ → Q (.bytes (byteArr ns) t) ⟨h', G, Dr, tk', O⟩) : wpAny (model P0 w) A (call (.type "bytes") [.ref c]) Q E ⟨h, G, Dr, tk, O⟩ :=
  call_bytes_ints (s := ⟨h, G, Dr, tk, O⟩) ⟨_, D.get hm, rfl, _, rfl⟩ hi hr hz hh fun h' t tk' hk => k h' t tk' (D.more hk)
theorem o_newTup {vs : List Value} {Q : Value → Shared → Prop} (D : Led b L al h μ) (k : ∀ t h', Led b L al h' ((t, tupO vs) :: μ) → Q (.ref t) ⟨h', G, Dr, tk, O⟩) (hsz : vs.length ≤ sizeLine) :
    wpAny (model P0 w) A (newTuple vs) Q E ⟨h, G, Dr, tk, O⟩ := by
  refine wpAny_newObj_type ?_ (by show vs.toArray.size ≤ sizeLine; rw [List.size_toArray]; exact hsz)
  exact k _ _ (D.push _)
theorem o_unpackT {t : Addr} {vs : List Value} {n : Nat} {Q : List Value → Shared → Prop} (hh : A.handled = none) (D : Led b L al h μ) (hm : (t, tupO vs) ∈ μ) (hn : n = vs.length)
    (k : ∀ h', Led b L al h' μ → Q vs ⟨h', G, Dr, tk, O⟩) : wpAny (model P0 w) A (unpackItems (.ref t) n none) Q E ⟨h, G, Dr, tk, O⟩ := by
  have e : n = vs.toArray.size := by rw [List.size_toArray]; exact hn
  subst e
  exact unpackItems_tuple (s := ⟨h, G, Dr, tk, O⟩) hh ⟨_, D.get hm, rfl, _, rfl⟩ fun h' hx => k h' (D.more fun c o q => hx c o (Nat.ne_of_lt (Heap.lt_size q)) q)
end
end Mine
end

section
open PySem PySem.W PyProof.Rows PySem.Spec PySem.Calls PyProof.V
set_option Elab.async false
set_option maxRecDepth 100000
set_option maxHeartbeats 4000000
namespace Mine
section
variable {w : World} {A : Around} {b h : Heap} {L a : Addr} {al al' : List (Str × Value)} {μ μ' : List (Addr × Obj)} {G : Array GenState} {Dr : Drawn} {tk : Nat} {O : OsState} {E : Value → Shared → Prop} {s : Shared}
theorem bytesLen : typeLookup (.type "bytes") "__len__" = pure (some (.builtin "bytes.__len__")) := by rw [typeLookup_type, builtinLookup_eq_fast]; kernel_rfl
theorem extend_bytes {R : Result → Shared → Prop} (hh : A.handled = none) (x : Array UInt8) (t : Tok) (S : Addr) (res : Value) (c₀ : Nat) (hS : s.heap.get? S = some { cls := .type "list", data := .seq #[] c₀ })
    (hR : ∀ h' tk acc' c', (∀ b o, b ≠ S → s.heap.get? b = some o → h'.get? b = some o) → h'.get? S = some { cls := .type "list", dict := none, data := .seq acc' c', slots := #[] } →
      ItemsOf (fun i v => ∃ c u, x[i]? = some c ∧ v = .int (c.toNat : Int) u) acc' x.size → R (.ok (.ret res)) { s with heap := h', toks := tk }) (hn : x.size ≤ sizeLine) :
    wpAny (model P0 w) A.in1 (Builtin.List.listExtendWith (.ref S) (.bytes x t) res)
      (fun fin s' => match fin with | .done f => R (.ok f) s' | .again c' => c'.quiet = true ∧ codeAny (model P0 w) A c' R s') (fun e s' => R (.error e) s') s := by
  have hSI : S ≠ s.heap.objs.size := Nat.ne_of_lt (Heap.lt_size hS)
  have hSf : S ∉ [s.heap.objs.size] := fun hm => hSI (List.mem_singleton.mp hm)
  unfold Builtin.List.listExtendWith
  refine wpAny_bind (wpAny_typeOf (T := "bytes") (v := .bytes x t) rfl ?_)
  have h1 : Builtin.List.listSameRef (.ref S) (.bytes x t) = false := rfl
  have h2 : (Value.type "bytes" == Value.type "list") = false := by decide
  have h3 : (Value.type "bytes" == Value.type "tuple") = false := by decide
  simp only [h1, h2, h3, Bool.or_false, Bool.false_eq_true, if_false]
  refine wpAny_bind (KBw.pyIter_bytes ?_)
  refine wpAny_bind (wpAny_holding ?_)
  unfold Builtin.List.listLengthHint
  refine wpAny_bind (wpAny_specialOf (T := "bytes") (v := .bytes x t) rfl bytesLen ?_)
  wp_delta
  refine wpAny_bind (wpAny_isInstance (T := "bytes") (v := .bytes x t) (b := true) rfl (by rw [isSubtype_type]; kernel_rfl) ?_)
  show wpAny _ _ (typeOf (Value.bytes x t) >>= _) _ _ _
  refine wpAny_bind (wpAny_typeOf (T := "bytes") (v := .bytes x t) rfl ?_)
  refine wpAny_pure ?_
  rw [if_neg (by decide)]
  refine wpAny_pure ⟨plainId_quiet F.plain_extend_loop _, codeAny_extend_loopS (KBw.walks (A := A.in1) hh s.heap.objs.size x t).toS hn _ hSf _ x.size 0 _ _ _ rfl (Nat.zero_le _) ⟨_, Heap.get?_push_size _ rfl, rfl, rfl⟩ (Heap.get?_push_of_some _ hS) (ItemsOf.nil _) fun s' acc' c' hm hS' hacc => ?_⟩
  rw [Moved.eq_with hm]
  refine hR s'.heap s'.toks acc' c' (fun b ob hb e => hm.heap b ob (fun hmem => ?_) (Heap.get?_push_of_some _ e)) hS' hacc
  rcases List.mem_cons.mp hmem with e' | hmem
  · exact hb e'
  · exact absurd (Heap.lt_size e) (by rw [List.mem_singleton.mp hmem]; exact Nat.lt_irrefl _)
theorem list_init_bytes {R : Result → Shared → Prop} (hh : A.handled = none) (x : Array UInt8) (t : Tok) (S : Addr) (hS : s.heap.get? S = some { cls := .type "list", data := .seq #[] })
    (hR : ∀ h' tk acc' c', (∀ b o, b ≠ S → s.heap.get? b = some o → h'.get? b = some o) → h'.get? S = some { cls := .type "list", dict := none, data := .seq acc' c', slots := #[] } →
      ItemsOf (fun i v => ∃ c u, x[i]? = some c ∧ v = .int (c.toNat : Int) u) acc' x.size → R (.ok (.ret .none)) { s with heap := h', toks := tk }) (hn : x.size ≤ sizeLine) :
    wpAny (model P0 w) A.in1 (Builtin.«list.__init__» ⟨[.ref S, .bytes x t], []⟩)
      (fun fin s' => match fin with | .done f => R (.ok f) s' | .again c' => c'.quiet = true ∧ codeAny (model P0 w) A c' R s') (fun e s' => R (.error e) s') s := by
  show wpAny _ _ (do let old ← Builtin.List.listItems (.ref S); Builtin.List.listUpdate (.ref S) (fun _ => #[]); letGo old.toList.reverse; Builtin.List.listExtendWith (.ref S) (.bytes x t) .none) _ _ s
  refine wpAny_bind ?_
  unfold Builtin.List.listItems
  refine wpAny_bind (wpAny_seqItems hS rfl (wpAny_pure ?_))
  show wpAny _ _ (updateSeq S (fun _ => #[]) >>= fun _ => letGo (#[] : Array Value).toList.reverse >>= fun _ => Builtin.List.listExtendWith (.ref S) (.bytes x t) .none) _ _ s
  refine wpAny_bind (wpAny_updateSeq hS rfl ?_)
  have hS₂ := Heap.get?_update_self (Obj.mapSeq (fun _ => (#[] : Array Value))) hS rfl
  have oth : ∀ b o, b ≠ S → s.heap.get? b = some o → (s.heap.update S (Obj.mapSeq (fun _ => (#[] : Array Value)))).get? b = some o :=
    fun b o hb e => (Heap.get?_update_other _ _ (Ne.symm hb)).trans e
  refine wpAny_bind (wpAny_letGo ?_)
  refine extend_bytes (hn := hn) hh x t S .none _ hS₂ fun h' tk acc' c' hk hS' hacc => ?_
  exact hR h' tk acc' c' (fun b o hb e => hk b o hb (oth b o hb e)) hS' hacc
theorem list_bytes {Q : Value → Shared → Prop} (hh : A.handled = none) (x : Array UInt8) (t : Tok)
    (hQ : ∀ h' tk acc' c', (∀ b o, s.heap.get? b = some o → h'.get? b = some o) →
      h'.get? s.heap.objs.size = some { cls := .type "list", dict := none, data := .seq acc' c', slots := #[] } → ItemsOf (fun i v => ∃ c u, x[i]? = some c ∧ v = .int (c.toNat : Int) u) acc' x.size → Q (.ref s.heap.objs.size) { s with heap := h', toks := tk }) (hn : x.size ≤ sizeLine) :
    wpAny (model P0 w) A (call (.type "list") [.bytes x t]) Q E s := by
  refine callType_codes (Q₁ := fun obj s₁ => obj = .ref s.heap.objs.size ∧ s₁ = { s with heap := s.heap.push { cls := .type "list", data := .seq #[] } }) F.called_list (F.typeCall_list_1 _) F.entry_list_init
    (code_list_new _ ⟨rfl, rfl⟩) fun obj s₁ h₁ => ?_
  obtain ⟨rfl, rfl⟩ := h₁
  have hS : (s.heap.push { cls := .type "list", data := .seq #[] }).get? s.heap.objs.size = some { cls := .type "list", data := .seq #[] } := Heap.get?_push_size _ rfl
  refine ⟨⟨_, hS, rfl⟩, F.args_list_init_2 _ _, list_init_bytes (A := A.in1) (hn := hn) hh x t _ hS fun h' tk acc' c' hk hS' hacc => ?_⟩
  exact ⟨rfl, hQ h' tk acc' c' (fun b o e => hk b o (Nat.ne_of_lt (Heap.lt_size e)) (Heap.get?_push_of_some _ e)) hS' hacc⟩
theorem ints_of : ∀ (l : List UInt8) (vs : List Value), vs.length = l.length → (∀ (j : Nat) v, vs[j]? = some v → ∃ c u, l[j]? = some c ∧ v = Value.int ((c : UInt8).toNat : Int) u) → IntsAre vs (l.map fun c => (c.toNat : Int))
  | [], [], _, _ => .nil
  | [], _ :: _, h, _ => by cases h
  | _ :: _, [], h, _ => by cases h
  | c :: l, v :: vs, h, k => by
    obtain ⟨c', u, e1, e2⟩ := k 0 v rfl
    have e1' : c = c' := Option.some.inj e1
    subst e1'
    subst e2
    exact IntsAre.cons _ _ (ints_of l vs (Nat.succ.inj h) fun j v q => k (j + 1) v q)
theorem o_listBytes {x : Array UInt8} {t : Tok} {Q : Value → Shared → Prop} (hh : A.handled = none) (D : Led b L al h μ) (hn : x.size ≤ sizeLine)
    (k : ∀ l h' tk' vs c, IntsAre vs (KBw.bInts x) → Led b L al h' ((l, listOf vs.toArray c) :: μ) → Q (.ref l) ⟨h', G, Dr, tk', O⟩) : wpAny (model P0 w) A (call (.type "list") [.bytes x t]) Q E ⟨h, G, Dr, tk, O⟩ := by
  refine list_bytes (s := ⟨h, G, Dr, tk, O⟩) hh x t (fun h' tk' acc' c' hk hS hacc => ?_) hn
  obtain ⟨m, F, _⟩ := D.loc
  refine k _ h' tk' acc'.toList c' ?_ ((D.more hk).add (by rw [Array.toArray_toList]; exact hS) (Nat.ne_of_gt F.ns.lt) ?_ D.fresh)
  · refine ints_of x.toList acc'.toList (by rw [Array.length_toList, Array.length_toList]; exact hacc.1) fun j v q => ?_
    obtain ⟨c, u, e1, e2⟩ := hacc.2 j v (by rw [← Array.getElem?_toList]; exact q)
    exact ⟨c, u, by rw [Array.getElem?_toList]; exact e1, e2⟩
  · cases q : b.get? h.objs.size with
    | none => rfl
    | some o => exact absurd (Heap.lt_size (F.keep _ _ q)) (Nat.lt_irrefl _)
end
end Mine
end

section
open PySem PySem.W PyProof.Rows PySem.Spec PySem.Calls PyProof.V
set_option Elab.async false
set_option maxRecDepth 100000
set_option maxHeartbeats 4000000
set_option linter.unusedSimpArgs false
namespace Mine
section
variable {w : World} {A : Around} {b h : Heap} {L : Addr} {al al' : List (Str × Value)} {μ μ' : List (Addr × Obj)} {mg mb : Str → Option Value} {G : Array GenState} {Dr : Drawn} {tk : Nat} {O : OsState} {E : Value → Shared → Prop} {env : Env}
/-- a comprehension by an invariant -/
theorem o_compInv {elt target iter : PySem.Expr} {scope : Scope} {pos : Pos} {it acc : Value} {R : Result → Shared → Prop} {s : Shared} (I : Nat → Shared → Prop)
    (turn : ∀ n s, I n s → wpAny (model P0 w) A (pyNext it) (fun r s₁ => match r with
      | none => R (.ok .next) s₁
      | some v => wpAny (model P0 w) A (letOwnedTupleGo target it v) (fun _ s₁' => wpAny (model P0 w) A (assign target env v) (fun _ s₂ => wpAny (model P0 w) A (eval elt env) (fun x s₃ =>
          wpAny (model P0 w) A (call (.builtin "list.append") [acc, x]) (fun _ s₄ => ∃ m, m < n ∧ I m s₄) (notedBy (model P0 w) A env fun e s' => R (.error e) s') s₃)
          (notedBy (model P0 w) A env fun e s' => R (.error e) s') s₂) (notedBy (model P0 w) A env fun e s' => R (.error e) s') s₁') (notedBy (model P0 w) A env fun e s' => R (.error e) s') s₁) (notedBy (model P0 w) A env fun e s' => R (.error e) s') s)
    (n : Nat) (h : I n s) :
    codeAny (model P0 w) A (.compLoop (.ListComp elt [⟨target, iter, [], 0⟩] scope pos) 0 it acc env) R s := by
  refine codeAny_loop rfl I (fun n s hI => ?_) n h
  show wpAny _ _ ((compTurn (.ListComp elt [⟨target, iter, [], 0⟩] scope pos) 0 it acc env).onRaise (fun x => do noteFrame x env; theTreesLotGoes x)) _ _ s
  refine wpAny_noted ?_
  rw [compTurn_list1]
  refine wpAny_bind (wpAny_standAt (wpAny_bind (wpAny_mono (turn n s hI) (fun r s₁ h₁ => ?_) fun _ _ h' => h')))
  cases r with
  | none => exact wpAny_pure h₁
  | some v =>
    refine wpAny_bind (wpAny_mono h₁ (fun _ s₁' h₁' => ?_) fun _ _ h' => h')
    exact wpAny_bind (wpAny_mono h₁' (fun _ s₂ h₂ => wpAny_bind (wpAny_bind (wpAny_mono h₂ (fun x s₃ h₃ => wpAny_bind (wpAny_mono h₃
      (fun _ s₄ h₄ => wpAny_pure (wpAny_pure ⟨rfl, h₄⟩)) fun _ _ h' => h')) fun _ _ h' => h'))) fun _ _ h' => h')
/-- the loop's continuation is a variable -/
theorem o_cloop {c : Code} {R : Result → Shared → Prop} {s : Shared} (P : Heap → Nat → Prop) (fin : ∀ h tk, P h tk → R (.ok .next) ⟨h, G, Dr, tk, O⟩)
    (loop : ∀ R' : Result → Shared → Prop, (∀ h tk, P h tk → R' (.ok .next) ⟨h, G, Dr, tk, O⟩) → codeAny (model P0 w) A c R' s) : codeAny (model P0 w) A c R s := loop R fin
theorem Led.move {c : Addr} {o : Obj} (D : Led b L al h μ) (U : Rm c o μ μ') : Led b L al h ((c, o) :: μ') := D.perm U.perm
theorem o_iterRngN {r : Addr} {z : Int} {t u v : Tok} {Q : Value → Shared → Prop} (D : Led b L al h μ) (hm : (r, rngObj 0 z 1 t u v) ∈ μ) (h0 : 0 ≤ z) (h1 : z < 2 ^ 62)
    (k : ∀ it h', Led b L al h' ((it, rngIt 0 z 1) :: μ) → Q (.ref it) ⟨h', G, Dr, tk, O⟩) : wpAny (model P0 w) A (pyIter (.ref r)) Q E ⟨h, G, Dr, tk, O⟩ :=
  o_iterRng D hm (small_one (by decide) (by decide) (by omega) h1) (by rw [rangeSize_one]; split <;> omega) k
/-- some of the ledger's objects, in another order -/
inductive Pick : List (Addr × Obj) → List (Addr × Obj) → Prop
  | sub {l r} : r.Sublist l → Pick l r
  | cons {c o l l' r} : Rm c o l l' → Pick l' r → Pick l ((c, o) :: r)
theorem Pick.mem {l r : List (Addr × Obj)} (P : Pick l r) : ∀ p ∈ r, p ∈ l := by
  induction P with
  | sub h => exact fun p hp => h.subset hp
  | cons U _ ih =>
    intro p hp
    rcases List.mem_cons.mp hp with rfl | hp
    · exact U.mem
    · exact U.perm.subset (.tail _ (ih p hp))
theorem Pick.nd {l r : List (Addr × Obj)} (P : Pick l r) (nd : (l.map (·.1)).Nodup) : (r.map (·.1)).Nodup := by
  induction P with
  | sub h => exact (h.map _).nodup nd
  | cons U P ih =>
    have nd2 := (U.perm.map (·.1)).nodup_iff.mpr nd
    rw [List.map_cons, List.nodup_cons] at nd2 ⊢
    refine ⟨fun q => nd2.1 ?_, ih nd2.2⟩
    obtain ⟨p, hp, e⟩ := List.mem_map.mp q
    exact List.mem_map.mpr ⟨p, P.mem p hp, e⟩
theorem Led.pick (D : Led b L al h μ) (P : Pick μ μ') : Led b L al h μ' := ⟨D.loc, fun p hp => D.nw p (P.mem p hp), D.nn, P.nd D.nd⟩
theorem Up.same {c : Addr} {o : Obj} {l l' : List (Addr × Obj)} (U : Up c o o l l') : l' = l := by
  obtain ⟨pre, post, rfl, rfl⟩ := U.split; rfl
theorem Led.retab {c : Addr} {ps ps' : Array Value} (D : Led b L al h μ) (U : Up c (tabObj ps) (tabObj ps') μ μ') (e : ps = ps') : Led b L al h μ' := by
  subst e; rw [U.same]; exact D
theorem Led.retabK {c : Addr} {ps ps' : Array Value} {P : Prop} (D : Led b L al h μ) (U : Up c (tabObj ps) (tabObj ps') μ μ') (e : ps = ps') (k : Led b L al h μ' → P) : P := k (D.retab U e)
theorem IntsAre.drop {vs : List Value} {ns : List Int} (h : IntsAre vs ns) : ∀ k, IntsAre (vs.drop k) (ns.drop k)
  | 0 => h
  | k + 1 => by
    cases h with
    | nil => exact .nil
    | cons i t r => exact IntsAre.drop r k
theorem IntsAre.take {vs : List Value} {ns : List Int} (h : IntsAre vs ns) : ∀ k, IntsAre (vs.take k) (ns.take k)
  | 0 => .nil
  | k + 1 => by
    cases h with
    | nil => exact .nil
    | cons i t r => exact .cons _ _ (IntsAre.take r k)
end
end Mine
end

section
open PySem PySem.W PyProof.Rows PySem.Spec PySem.Calls PyProof.V
set_option Elab.async false
set_option maxRecDepth 100000
set_option maxHeartbeats 4000000
set_option linter.unusedSimpArgs false
namespace Mine
/-- a stream: its read takes octets off the list lf -/
def Strm (w : World) (b : Heap) (f1 lf : Addr) (S : List (Addr × Obj)) : Prop := ∃ f2 : Addr,
  (∀ (A : Around) (L : Addr) (al : List (Str × Value)) (h : Heap) (μ : List (Addr × Obj)) (G : Array GenState) (Dr : Drawn) (tk : Nat) (O : OsState) (pl : Sem Bool) (Q : Value × List Value → Shared → Prop) (E : Value → Shared → Prop),
    Led b L al h μ → (∀ p ∈ S, p ∈ μ) → (∀ tk', Q (.ref f2, []) ⟨h, G, Dr, tk', O⟩) → wpAny (model P0 w) A (getMethod (.ref f1) (Str.ofString "read") pl) Q E ⟨h, G, Dr, tk, O⟩) ∧
  (∀ (A : Around) (L : Addr) (al : List (Str × Value)) (h : Heap) (μ : List (Addr × Obj)) (G : Array GenState) (Dr : Drawn) (tk : Nat) (O : OsState) (Q : Value → Shared → Prop) (E : Value → Shared → Prop) (vs : List Value) (ns : List Int) (cv : Nat) (many : Int) (t : Tok),
    Led b L al h ((lf, listOf vs.toArray cv) :: μ) → (∀ p ∈ S, p ∈ μ) → IntsAre vs ns → (∀ n ∈ ns, 0 ≤ n ∧ n < 256) → A.handled = none → A.depth < recursionLimit → vs.length ≤ 1000 → 0 ≤ many →
    (∀ h' tk' t' cv', Led b L al h' ((lf, listOf (vs.drop many.toNat).toArray cv') :: μ) → Q (.bytes (byteArr (ns.take many.toNat)) t') ⟨h', G, Dr, tk', O⟩) → wpAny (model P0 w) A (call (.ref f2) [.int many t]) Q E ⟨h, G, Dr, tk, O⟩) ∧
  ∃ fo2 fd, (f2, fo2) ∈ S ∧ fo2.data = .func fd
theorem Strm.mono {w : World} {b : Heap} {f1 lf : Addr} {S S' : List (Addr × Obj)} (x : Strm w b f1 lf S) (k : ∀ p ∈ S, p ∈ S') : Strm w b f1 lf S' := by
  obtain ⟨f2, x1, x2, fo2, fd, x3, x4⟩ := x
  exact ⟨f2, fun A L al h μ G Dr tk O pl Q E D hS => x1 A L al h μ G Dr tk O pl Q E D fun p hp => hS p (k p hp),
    fun A L al h μ G Dr tk O Q E vs ns cv many t D hS => x2 A L al h μ G Dr tk O Q E vs ns cv many t D fun p hp => hS p (k p hp), fo2, fd, k _ x3, x4⟩
abbrev lamQ : Str := Str.ofString "_law_stream" ++ Str.ofString ".<locals>." ++ Str.ofString "<lambda>"
/-- the table of the stream's maker's codes: empty, or the two lambdas' -/
def TabL (τ : List (Addr × Obj)) : Prop := τ = [(119, tabObj #[])] ∨ ∃ c1 c2 o1 o2, τ = [(119, tabObj #[rawInt 104, rawInt 32, .ref c1, rawInt 105, rawInt 18, .ref c2]), (c1, o1), (c2, o2)] ∧ CodeO o1 lamQ ∧ CodeO o2 lamQ
theorem strm_of {w : World} {b h : Heap} {L f1 f2 d c c2 lf : Addr} {fo1 fo2 oD oc oc2 : Obj} {fd fd2 : FuncData} {al : List (Str × Value)} {μ : List (Addr × Obj)} {P : Prop} (_D : Led b L al h μ) (_m1 : (f1, fo1) ∈ μ) (_m2 : (f2, fo2) ∈ μ)
    (hN : Ns1O oD (fun y => if y = Str.ofString "read" then some (.ref f2) else none)) (hc : fo1.cls = .type "function") (hdn : fo1.dict = some d) (hdt : fo1.data = .func fd) (hdt2 : fo2.data = .func fd2)
    (hcall : ∀ (A : Around) (L : Addr) (al : List (Str × Value)) (h : Heap) (μ : List (Addr × Obj)) (G : Array GenState) (Dr : Drawn) (tk : Nat) (O : OsState) (Q : Value → Shared → Prop) (E : Value → Shared → Prop) (vs : List Value) (ns : List Int) (cv : Nat) (many : Int) (t : Tok),
      Led b L al h ((lf, listOf vs.toArray cv) :: μ) → (f2, fo2) ∈ μ → (c, oc) ∈ μ → (c2, oc2) ∈ μ → IntsAre vs ns → (∀ n ∈ ns, 0 ≤ n ∧ n < 256) → A.handled = none → A.depth < recursionLimit → vs.length ≤ 1000 → 0 ≤ many →
      (∀ h' tk' t' cv', Led b L al h' ((lf, listOf (vs.drop many.toNat).toArray cv') :: μ) → Q (.bytes (byteArr (ns.take many.toNat)) t') ⟨h', G, Dr, tk', O⟩) → wpAny (model P0 w) A (call (.ref f2) [.int many t]) Q E ⟨h, G, Dr, tk, O⟩)
    (k : Strm w b f1 lf [(f1, fo1), (d, oD), (f2, fo2), (c, oc), (c2, oc2)] → P) : P := by
  refine k ⟨f2, ?_, ?_, fo2, fd2, .tail _ (.tail _ (.head _)), hdt2⟩
  · intro A L al h μ G Dr tk O pl Q E D hS k
    exact o_methFn D (hS _ (.head _)) (hS _ (.tail _ (.head _))) hN hc hdn hdt k
  · intro A L al h μ G Dr tk O Q E vs ns cv many t D hS hi hr hh hdp hsz h0 k
    exact hcall A L al h μ G Dr tk O Q E vs ns cv many t D (hS _ (.tail _ (.tail _ (.head _)))) (hS _ (.tail _ (.tail _ (.tail _ (.head _))))) (hS _ (.tail _ (.tail _ (.tail _ (.tail _ (.head _)))))) hi hr hh hdp hsz h0 k
end Mine
end

section
open PySem PySem.W PyProof.Rows PySem.Spec PySem.Calls PyProof.V
set_option Elab.async false
set_option maxRecDepth 100000
set_option maxHeartbeats 4000000
set_option linter.unusedSimpArgs false
namespace Mine
section
variable {w : World} {A : Around} {b h : Heap} {L : Addr} {al al' : List (Str × Value)} {μ μ' : List (Addr × Obj)} {mg mb : Str → Option Value} {G : Array GenState} {Dr : Drawn} {tk : Nat} {O : OsState} {E : Value → Shared → Prop} {env : Env}
theorem o_callWithF {pos : Pos} {q : Addr} {fo : Obj} {fd : FuncData} {e : Expr} {rest : List Expr} {Q : Value → Shared → Prop} (D : Led b L al h μ) (hm : (q, fo) ∈ μ) (hd : fo.data = .func fd)
    (k : wpAny (model P0 w) A (spliced (backTo pos (starEach (e :: rest) env))) (fun vs s₁ => FnAt q s₁.heap ∧ wpAny (model P0 w) A (call (.ref q) vs) Q E s₁) E ⟨h, G, Dr, tk, O⟩)
    (he : starEach (e :: rest) env = (false, eval e env) :: starEach rest env) (hplain : (backTo pos (starEach rest env)).any (·.1) = false) :
    wpAny (model P0 w) A (callWith pos (.ref q) [] (backTo pos (starEach (e :: rest) env)) []) Q E ⟨h, G, Dr, tk, O⟩ := by
  refine callWith_F (first := []) ?_ k he hplain
  obtain ⟨oc, od, dt, sl⟩ := fo
  obtain rfl : dt = .func fd := hd
  exact ⟨_, _, _, _, D.get hm⟩
theorem o_fnAt {q : Addr} {fo : Obj} {fd : FuncData} {P : Prop} (D : Led b L al h μ) (hm : (q, fo) ∈ μ) (hd : fo.data = .func fd) (k : P) : FnAt q h ∧ P := by
  refine ⟨?_, k⟩
  obtain ⟨oc, od, dt, sl⟩ := fo
  obtain rfl : dt = .func fd := hd
  exact ⟨_, _, _, _, D.get hm⟩
theorem o_truthyB {ns : List Int} {t : Tok} {Q : Bool → Shared → Prop} (hr : ∀ n ∈ ns, 0 ≤ n ∧ n < 256) (hz : ns.length ≤ 1000) (k : ∀ tk', Q (decide (0 < ns.length)) ⟨h, G, Dr, tk', O⟩) :
    wpAny (model P0 w) A (truthy (.bytes (byteArr ns) t)) Q E ⟨h, G, Dr, tk, O⟩ := KBw.truthy_K (s := ⟨h, G, Dr, tk, O⟩) (KBa.ints_make hr) (by omega) (k _)
theorem o_lenB {ns : List Int} {t : Tok} {Q : Value → Shared → Prop} (hr : ∀ n ∈ ns, 0 ≤ n ∧ n < 256) (hz : ns.length ≤ 1000) (k : ∀ t' tk', Q (.int ns.length t') ⟨h, G, Dr, tk', O⟩) :
    wpAny (model P0 w) A (call (.builtin "len") [.bytes (byteArr ns) t]) Q E ⟨h, G, Dr, tk, O⟩ := KBw.len_K (s := ⟨h, G, Dr, tk, O⟩) (KBa.ints_make hr) (by omega) (k _ _)
theorem o_itemB {ns : List Int} {t ui : Tok} {i : Int} {value slice : Expr} {Q : Value → Shared → Prop} (hr : ∀ n ∈ ns, 0 ≤ n ∧ n < 256) (hz : ns.length ≤ 1000) (h0 : 0 ≤ i) (h1 : i < (ns.length : Int)) (k : ∀ t' tk', Q (.int (ns.getD i.toNat 0) t') ⟨h, G, Dr, tk', O⟩)
    (hs : subscripted slice false (.bytes (byteArr ns) t) (.int i ui) = operate [.bytes (byteArr ns) t, .int i ui] (getItem (.bytes (byteArr ns) t) (.int i ui)))
    (ht : ∀ r, letTemporaryGo value (.bytes (byteArr ns) t) r = pure ()) :
    wpAny (model P0 w) A (subscriptTail value slice (.bytes (byteArr ns) t) (.int i ui)) Q E ⟨h, G, Dr, tk, O⟩ := KBw.item_K (s := ⟨h, G, Dr, tk, O⟩) (KBa.ints_make hr) (by omega) h0 h1 (fun t' k' _ _ => k t' k') hs ht
end
abbrev msg1 : Str := Str.ofString "not enough data in stream to read uint1"
end Mine
end

section
open PySem PySem.W PyProof.Rows PySem.Spec PySem.Calls PyProof.V
set_option Elab.async false
set_option maxRecDepth 100000
set_option maxHeartbeats 4000000
set_option linter.unusedSimpArgs false
namespace Mine
section
variable {w : World} {A : Around} {b h : Heap} {L : Addr} {al al' : List (Str × Value)} {μ μ' : List (Addr × Obj)} {mg mb : Str → Option Value} {G : Array GenState} {Dr : Drawn} {tk : Nat} {O : OsState} {E : Value → Shared → Prop} {env : Env} {l : List Env}
theorem Pick.keys {c : Addr} (P : Pick μ μ') (h : c ∉ μ.map (·.1)) : c ∉ μ'.map (·.1) := fun q => by
  obtain ⟨p, hp, e⟩ := List.mem_map.mp q
  exact h (List.mem_map.mpr ⟨p, P.mem p hp, e⟩)
theorem Fl.pick {e t : Addr} {args : List Value} (F : Fl b L al μ l e t args h) (P : Pick μ μ') : Fl b L al μ' l e t args h := by
  obtain ⟨β, x1, x2, x3, x4⟩ := F.ex
  exact ⟨⟨β, x1, x2, fun p hp => x3 p (P.mem p hp), x4⟩, fun p hp => F.frs p (P.mem p hp), F.loc, F.above, fun p hp => F.apart p (P.mem p hp), F.nn, P.nd F.nd,
    ⟨P.keys F.ekey.1, F.ekey.2⟩, ⟨P.keys F.tkey.1, F.tkey.2⟩⟩
theorem FF.cons {oL : Obj} (U : Outer b L al oL) (hf : env.frame = some L) (hke : env.scope.kind ≠ .module) (hFF : FF l μ) : FF (env :: l) ((L, oL) :: μ) := by
  obtain ⟨m, ⟨es, ep, h1, _⟩, _⟩ := U.loc
  exact ⟨⟨hke, L, oL, es, ep, hf, .head _, h1⟩, hFF.more⟩
end
abbrev msg2 (n m : Int) : Str := Str.ofString "expected " ++ Str.ofString (toString n) ++ Str.ofString " bytes in a bytes1, but only " ++ Str.ofString (toString m) ++ Str.ofString " remain"
theorem o_mod2 {w : World} {A : Around} {b h : Heap} {L p : Addr} {al : List (Str × Value)} {μ : List (Addr × Obj)} {G : Array GenState} {Dr : Drawn} {tk : Nat} {O : OsState} {E : Value → Shared → Prop} {Q : Value → Shared → Prop} {n m : Int} {tn tm tx : Tok}
    (D : Led b L al h μ) (hp : (p, tupO [.int n tn, .int m tm]) ∈ μ) (h0 : 0 ≤ n) (h1 : n < 100000) (h2 : 0 ≤ m) (h3 : m < 100000) (k : ∀ t' tk', Q (.str (msg2 n m) t') ⟨h, G, Dr, tk', O⟩) :
    wpAny (model P0 w) A (binaryOp .Mod (.str (Str.ofString "expected %d bytes in a bytes1, but only %d remain") tx) (.ref p)) Q E ⟨h, G, Dr, tk, O⟩ := by
  refine' KPt.mod_tuple (s := ⟨h, G, Dr, tk, O⟩) D.nw hp ?f ?m ?_
  case f => kpt_eq
  case m => kpt_run
  intro t' k'
  exact k t' k'
end Mine
end

section
open PySem PySem.W PyProof.Rows PySem.Spec PySem.Calls PyProof.V
set_option Elab.async false
set_option maxRecDepth 100000
set_option maxHeartbeats 4000000
set_option linter.unusedSimpArgs false
namespace Mine
section
variable {w : World} {A : Around} {b h : Heap} {L : Addr} {al al' : List (Str × Value)} {μ μ' : List (Addr × Obj)} {mg mb : Str → Option Value} {G : Array GenState} {Dr : Drawn} {tk : Nat} {O : OsState} {E : Value → Shared → Prop} {env env1 : Env} {l : List Env}
theorem setFlight_heldW {M : Model} {s : Shared} {base : Heap} {l : List Env} {e L : Addr} {cls a0 : Value} {Q : Unit → Shared → Prop} (R : Heap.HeldW base l e cls a0 L s.heap)
    (h : ∀ h', Heap.HeldW base l e cls a0 L h' → s.heap.UpToSlots h' → Q () { s with heap := h' }) : wpAny M A (setFlight (.ref e) (some L)) Q E s := by
  obtain ⟨hkb, hen, hl, oe, vs, T, oT, ts, he, hcls, hd, h1, hnT, hTe, hT, hdT, h3⟩ := R
  have hsz3 : 3 < ts.size := (Array.getElem?_eq_some_iff.mp h3).1
  have other : ∀ b, b ≠ T → (s.heap.update T (Obj.mapFields (·.setIfInBounds 3 ((some L).elim Value.none fun f => rawInt f)))).get? b = s.heap.get? b :=
    fun b hb => Heap.get?_update_other _ _ (Ne.symm hb)
  have noRecord : ∀ b o, s.heap.get? b = some o → (∀ vs, o.data ≠ .fields vs) → b ≠ T := fun b o hb hnf q => by
    rw [q, hT] at hb; injection hb with hb; subst hb; exact hnf ts hdT
  unfold setFlight
  refine wpAny_bind (wpAny_field he hd h1 ?_)
  rw [if_pos (show (Value.ref T != Value.none) = true from by simp)]
  refine wpAny_setField hT hdT hsz3 (h _ ⟨fun b o hbo => (other b fun q => by rw [q, hnT] at hbo; cases hbo).trans (hkb b o hbo), hen,
    hl.of_keeps fun b o hb hnf => ⟨o, (other b (noRecord b o hb hnf)).trans hb, rfl⟩, ?_⟩ fun b o hb hnf => ⟨o.slots, (other b (noRecord b o hb hnf)).trans hb⟩)
  exact ⟨oe, vs, T, _, _, (other e (Ne.symm hTe)).trans he, hcls, hd, h1, hnT, hTe, Heap.get?_update_self _ hT (Obj.isFreed_of_fields (Obj.data_mapFields hdT _)), Obj.data_mapFields hdT _, by simp [hsz3]⟩
theorem Fl.landed {L1 e t : Addr} {o1 : Obj} {args : List Value} {h' β : Heap} (F : Fl b L al μ [env, env1] e t args h) (x1 : ∀ c o, b.get? c = some o → β.get? c = some o) (x2 : ∀ p ∈ μ, p.1 ∉ fr [env, env1] → β.get? p.1 = some p.2) (x3 : β.get? t = some (tupO args))
    (hfl : Heap.FlyingW β [env, env1] e (.type "ValueError") (.ref t) h') (up : h.UpToSlots h') (hf : env.frame = some L) (hf1 : env1.frame = some L1) (hm1 : (L1, o1) ∈ μ) (hd1 : ∀ vs, o1.data ≠ .fields vs) :
    ∃ oe sl, ExcO oe t ∧ ∀ μ', Up L1 o1 { o1 with slots := sl } μ μ' → Led b L al h' ((e, oe) :: (t, tupO args) :: μ') := by
  obtain ⟨f1, f2, f3, f4⟩ := hfl
  have c1 := fr_cons (l := [env1]) hf
  have c2 := fr_cons (l := []) hf1
  have c3 : ∀ c, c ∈ fr [env, env1] → c = L ∨ c = L1 := fun c hc => by
    rw [c1, c2] at hc
    rcases List.mem_cons.mp hc with q | hc
    · exact .inl q
    · exact .inr (List.mem_singleton.mp hc)
  have hL1m : L1 ∈ fr [env, env1] := by rw [c1, c2]; exact .tail _ (.head _)
  obtain ⟨sl0, hs0⟩ := F.frs _ hm1 hL1m
  obtain ⟨sl, hs⟩ := up L1 _ hs0 hd1
  obtain ⟨oL, hL, m, ⟨es, ep, u1, u2, u3⟩, kn⟩ := F.loc
  obtain ⟨slL, hL2⟩ := up L oL hL (fun vs q => by rw [u1] at q; cases q)
  obtain ⟨oe, vs, T, oT, ts, he, ⟨hcl, h0⟩, hd, h1, _⟩ := f4
  refine ⟨oe, sl, ⟨hcl, vs, T, hd, h0, h1⟩, fun μ' U => ?_⟩
  have D : Led b L al h' μ' := by
    refine ⟨⟨m, ⟨⟨_, es, ep, hL2, u1, u2, u3⟩, fun c o q => f1 _ _ (x1 _ _ q), F.above⟩, kn⟩, fun p hp => ?_, F.nn, by rw [U.keys]; exact F.nd⟩
    rcases U.cases F.nd p hp with rfl | ⟨hp', hne⟩
    · exact ⟨hs, (F.apart _ hm1).1, (F.apart _ hm1).2⟩
    · exact ⟨f1 _ _ (x2 p hp' fun hc => (c3 _ hc).elim (F.apart p hp').1 hne), (F.apart p hp').1, (F.apart p hp').2⟩
  have D2 := D.add (f1 _ _ x3) F.tkey.2.1 F.tkey.2.2 (by rw [U.keys]; exact F.tkey.1)
  refine D2.add he F.ekey.2.1 F.ekey.2.2.1 fun q => ?_
  rcases List.mem_cons.mp q with q | q
  · exact F.ekey.2.2.2 q
  · rw [U.keys] at q; exact F.ekey.1 q
/-- an exception that a loop of the frame's own try brings is caught -/
theorem Fl.caughtAs {L1 e t : Addr} {o1 : Obj} {args : List Value} {n : Str} {np pos : Pos} {b₀ : Stmt} {suite : List Stmt} {rest : List ExceptHandler} {Q : Flow → Shared → Prop} {K : Value → Shared → Prop} (f : Array (Option Value) → List (Addr × Obj)) (B : Base w mg mb b) (F : Fl b L al μ [env, env1] e t args h)
    (hfr : A.frames = some [env, env1]) (hf : env.frame = some L) (hf1 : env1.frame = some L1) (hm1 : (L1, o1) ∈ μ) (hd1 : ∀ vs, o1.data ≠ .fields vs)
    (hK : ∀ x s', cameBackBy (model P0 w) A env (fun e s₁ => wpAny (model P0 w) A (noteFrame e env) (fun _ s₂ => wpAny (model P0 w) A (setFlight e none) (fun _ s₃ =>
      wpAny (model P0 w) A (handleBy e env (.ExceptHandler (some (.Name (Str.ofString "ValueError") np)) (some n) (b₀ :: suite) pos :: rest)) Q E s₃) E s₂) E s₁) x s' → K x s')
    (hlo : env.locals = L) (hk : env.scope.kind = .function) (hg : env.globals = mainGlobals) (hb : env.builtins = builtinsNs) (hx : env.kindOf (Str.ofString "ValueError") = some .globalImplicit) (hfree : nsIn (KK w) mainGlobals (Str.ofString "ValueError") = some none) (hln : env.kindOf n = some .local) (hn : n ∉ al.map (·.1))
    (k : ∀ h' oe sl tk' E', ExcO oe t → Led b L (al ++ [(n, .ref e)]) h' ((e, oe) :: (t, tupO args) :: f sl) →
      wpAny (model P0 w) (A.mark (some (.ref e))) (execs (b₀ :: suite) env) (fun f s₄ => wpAny (model P0 w) A (do bindName env n .none; unbindBehindTheSuite env n pos) (fun _ s₅ => Q f s₅) E s₄) E' ⟨h', G, Dr, tk', O⟩)
    (up1 : ∀ sl, Up L1 o1 { o1 with slots := sl } μ (f sl)) :
    notedBy (model P0 w) A env K (.ref e) ⟨h, G, Dr, tk, O⟩ := by
  obtain ⟨β, hfl, x1, x2, x3⟩ := F.ex
  unfold notedBy
  refine wpAny_looks_onW (s := ⟨h, G, Dr, tk, O⟩) hfr hf hfl fun h₁ hH₁ hs₁ => hK _ _ ?_
  obtain ⟨_, _, _, oe₁, vs₁, T₁, oT₁, ts₁, he₁, hc₁, hd₁, hv₁, _⟩ := id hH₁
  unfold cameBackBy
  refine wpAny_bind (wpAny_field he₁ hd₁ hv₁ ?_)
  rw [if_neg (show ¬ ((Value.ref T₁ == Value.none) = true) from by simp), hf]
  refine setFlight_heldW (s := ⟨h₁, G, Dr, tk, O⟩) hH₁ fun h₂ hH₂ hs₂ => ?_
  refine wpAny_noteFrame_againW (s := ⟨h₂, G, Dr, tk, O⟩) hf hH₂.2.2.2 ?_
  refine wpAny_landsW (s := ⟨h₂, G, Dr, tk, O⟩) hH₂ fun h₃ hfl₃ hs₃ => ?_
  have hkb : ∀ c o, b.get? c = some o → h₃.get? c = some o := fun c o q => hfl₃.1 _ _ (x1 c o q)
  obtain ⟨ob, hob, hobc⟩ := hfl₃.there
  refine wpAny_handleBy_builtin_as (s := ⟨h₃, G, Dr, tk, O⟩) (X := "ValueError") (T := "ValueError") (b := true) PySem.F.isExc_ValueError PySem.F.notTuple_ValueError (by rw [isSubtype_type]; kernel_rfl) ?_
  refine Calls.Name_function_global hk hx (Calls.loadGlobal_builtin (s := ⟨h₃, G, Dr, tk, O⟩) (by rw [hg]; exact B.g.keeps hkb) (mg_none_of B.X B.g hfree) (by rw [hb]; exact B.bn.keeps hkb) ((B.bi _ (by decide)).trans PyProof.Rows.Boot.«ValueError») ⟨rfl, ⟨ob, hob, hobc⟩, ?_⟩) (by decide)
  refine lands_againW (s := ⟨h₃, G, Dr, tk, O⟩) hfl₃ fun h₄ hfl₄ hs₄ => ?_
  obtain ⟨oe, sl, hoe, hD⟩ := F.landed x1 x2 x3 hfl₄ (((hs₁.trans hs₂).trans hs₃).trans hs₄) hf hf1 hm1 hd1
  have D := hD _ (up1 sl)
  exact o_stN D hn (fun h' tk' D' => k h' oe sl tk' _ hoe D') hlo hk hln
end
end Mine
end

section
open PySem PySem.W PyProof.Rows PySem.Spec PySem.Calls PyProof.V
set_option Elab.async false
set_option maxRecDepth 100000
set_option maxHeartbeats 4000000
set_option linter.unusedSimpArgs false
namespace Mine
/-- the values are lists of a name's octets and a mode -/
inductive FilesIn (μ : List (Addr × Obj)) : List Value → List (List Int × Int) → Prop
  | nil : FilesIn μ [] []
  | cons {le ln : Addr} {bits : Int} {t : Tok} {n r : Nat} {vs ws : List Value} {ns : List Int} {fs : List (List Int × Int)} : (le, listOf #[.ref ln, .int bits t] n) ∈ μ → (ln, listOf vs.toArray r) ∈ μ → IntsAre vs ns → FilesIn μ ws fs → FilesIn μ (.ref le :: ws) ((ns, bits) :: fs)
theorem FilesIn.mono {μ μ' : List (Addr × Obj)} {vs : List Value} {fs : List (List Int × Int)} (h : FilesIn μ vs fs) (k : ∀ p ∈ μ, p ∈ μ') : FilesIn μ' vs fs := by
  induction h with
  | nil => exact .nil
  | cons h1 h2 h3 _ ih => exact .cons (k _ h1) (k _ h2) h3 ih
theorem FilesIn.snoc {μ : List (Addr × Obj)} {vs : List Value} {fs : List (List Int × Int)} {v : Value} {f : List Int × Int} (h : FilesIn μ vs fs) (h1 : FilesIn μ [v] [f]) : FilesIn μ (vs ++ [v]) (fs ++ [f]) := by
  induction h with
  | nil => exact h1
  | cons h1 h2 h3 _ ih => exact .cons h1 h2 h3 ih
theorem FilesIn.length {μ : List (Addr × Obj)} {vs : List Value} {fs : List (List Int × Int)} (h : FilesIn μ vs fs) : vs.length = fs.length := by
  induction h with
  | nil => rfl
  | cons _ _ _ _ ih => rw [List.length_cons, List.length_cons, ih]
/-- what the reader makes of octets -/
noncomputable def rd : Nat → List Int → List (List Int × Int) × Str
  | 0, _ => ([], msg1)
  | _ + 1, [] => ([], msg1)
  | k + 1, n :: r => if (r.length : Int) < n then ([], msg2 n r.length) else match r.drop n.toNat with
    | lo :: hi :: r' => ((r.take n.toNat, lo + 256 * hi) :: (rd k r').1, (rd k r').2)
    | _ => ([], msg1)
theorem sub_mid (S τ μ ρ : List (Addr × Obj)) : (ρ ++ (τ ++ μ)).Sublist (ρ ++ (S ++ (τ ++ μ))) := (List.Sublist.refl ρ).append (List.sublist_append_right S (τ ++ μ))
section
variable {w : World} {A : Around} {b h : Heap} {L : Addr} {al al' : List (Str × Value)} {μ μ' : List (Addr × Obj)} {mg mb : Str → Option Value} {G : Array GenState} {Dr : Drawn} {tk : Nat} {O : OsState} {E : Value → Shared → Prop} {env : Env} {l : List Env}
theorem Fl.names {e t : Addr} {args : List Value} (F : Fl b L al μ l e t args h) (hs : al'.Sublist al) : Fl b L al' μ l e t args h := by
  obtain ⟨oL, h1, m, h2, kn⟩ := F.loc
  exact ⟨F.ex, F.frs, ⟨oL, h1, m, h2, fun p hp => kn p (hs.subset hp)⟩, F.above, F.apart, (hs.map _).nodup F.nn, F.nd, F.ekey, F.tkey⟩
/-- the while's continuation is a variable; it ends by an exception -/
theorem o_wloop {test : Expr} {body orelse : List Stmt} {R : Result → Shared → Prop} {s : Shared} (_hfr : A.frames = some l) (P : List Env → Heap → Nat → Addr → Prop) (fin : ∀ h tk e, P l h tk e → notedBy (model P0 w) A env (fun e s' => R (.error e) s') (.ref e) ⟨h, G, Dr, tk, O⟩)
    (loop : ∀ R' : Result → Shared → Prop, (∀ h tk e, P l h tk e → notedBy (model P0 w) A env (fun e s' => R' (.error e) s') (.ref e) ⟨h, G, Dr, tk, O⟩) → codeAny (model P0 w) A (.whileLoop test body orelse env) R' s) : codeAny (model P0 w) A (.whileLoop test body orelse env) R s := loop R fin
theorem o_nameGoes {n : Str} {pos : Pos} {Q : Unit → Shared → Prop} (D : Led b L al h μ) (hL : env.locals = L) (hk : env.scope.kind = .function) (hl : env.kindOf n = some .local) (k : ∀ h' tk', Led b L [] h' μ → Q () ⟨h', G, Dr, tk', O⟩) :
    wpAny (model P0 w) A (do bindName env n .none; unbindBehindTheSuite env n pos) Q E ⟨h, G, Dr, tk, O⟩ := by
  subst hL
  obtain ⟨m, F, kn⟩ := D.loc
  refine wpAny_nameGoes (s := ⟨h, G, Dr, tk, O⟩) hl F.ns (by rw [hk]; rfl) fun h' m' hn hs => k h' _ ⟨⟨m', ⟨hn, fun c o q => ?_, F.above⟩, fun p hp => (nomatch hp)⟩, D.nw.set hs, List.nodup_nil, D.nd⟩
  exact (hs.2 c (Nat.ne_of_lt (Nat.lt_of_lt_of_le (Heap.lt_size q) F.above))).trans (F.keep c o q)
theorem o_strExc {e t : Addr} {oe : Obj} {m : Str} {tm : Tok} {Q : Value → Shared → Prop} (D : Led b L al h μ) (he : (e, oe) ∈ μ) (hx : ExcO oe t) (ht : (t, tupO [.str m tm]) ∈ μ) (hu : A.units + 2 < cLine) (k : Q (.str m tm) ⟨h, G, Dr, tk, O⟩) :
    wpAny (model P0 w) A (call (.type "str") [.ref e]) Q E ⟨h, G, Dr, tk, O⟩ := by
  obtain ⟨h1, vs, T, h2, h3, _⟩ := hx
  exact P.str_of_exc_one (s := ⟨h, G, Dr, tk, O⟩) PySem.F.excStr_ValueError hu ⟨oe, vs, D.get he, h1, h2, h3⟩ ⟨_, _, D.get ht, rfl, rfl⟩ k
end
end Mine
end

section
open PySem PySem.W PyProof.Rows PySem.Spec PySem.Calls PyProof.V
set_option Elab.async false
set_option maxRecDepth 100000
set_option maxHeartbeats 4000000
set_option linter.unusedSimpArgs false
namespace Mine
/-- what is due of files cut at a place -/
noncomputable def due : List (List Int × Int) → Int → List (List Int × Int) × Str
  | [], _ => ([], msg1)
  | f :: fs, e => if 0 < e ∧ e - 1 < f.1.length then ([], msg2 f.1.length (e - 1)) else if e < f.1.length + 3 then ([], msg1)
    else (f :: (due fs (e - f.1.length - 3)).1, (due fs (e - f.1.length - 3)).2)
theorem FilesIn.at {μ : List (Addr × Obj)} {vs : List Value} {fs : List (List Int × Int)} (h : FilesIn μ vs fs) : ∀ {j : Nat} {f : List Int × Int}, fs[j]? = some f →
    ∃ le ln t n r ws, vs[j]? = some (.ref le) ∧ (le, listOf [Value.ref ln, .int f.2 t].toArray n) ∈ μ ∧ (ln, listOf ws.toArray r) ∈ μ ∧ IntsAre ws f.1 := by
  induction h with
  | nil => intro j f hj; simp at hj
  | cons h1 h2 h3 _ ih =>
    intro j f hj
    cases j with
    | zero =>
      simp only [List.getElem?_cons_zero, Option.some.injEq] at hj
      subst hj
      exact ⟨_, _, _, _, _, _, rfl, h1, h2, h3⟩
    | succ j => exact ih (by simpa using hj)
section
variable {w : World} {A : Around} {b h : Heap} {L : Addr} {al al' : List (Str × Value)} {μ μ' : List (Addr × Obj)} {mg mb : Str → Option Value} {G : Array GenState} {Dr : Drawn} {tk : Nat} {O : OsState} {E : Value → Shared → Prop} {env : Env} {l : List Env}
theorem o_addLst {l r : Addr} {vs ws : List Value} {m n : Nat} {Q : Value → Shared → Prop} (D : Led b L al h μ) (hl : (l, listOf vs.toArray m) ∈ μ) (hr : (r, listOf ws.toArray n) ∈ μ) (hz : vs.length + ws.length ≤ sizeLine)
    (k : ∀ c h', Led b L al h' ((c, listOf (vs ++ ws).toArray 0) :: μ) → Q (.ref c) ⟨h', G, Dr, tk, O⟩) : wpAny (model P0 w) A (binaryOp .Add (.ref l) (.ref r)) Q E ⟨h, G, Dr, tk, O⟩ := by
  obtain ⟨x, F, kn⟩ := D.loc
  exact add_lists (s := ⟨h, G, Dr, tk, O⟩) F D.nw ⟨_, D.get hl, rfl, _, rfl⟩ ⟨_, D.get hr, rfl, _, rfl⟩ (fun h' F' N' => k _ h' ⟨⟨x, F', kn⟩, N', D.nn, List.nodup_cons.mpr ⟨D.fresh, D.nd⟩⟩) hz
theorem o_lenL {vs : List Value} {n : Nat} {c : Addr} {Q : Value → Shared → Prop} (D : Led b L al h μ) (hm : (c, listOf vs.toArray n) ∈ μ) (hz : vs.length ≤ 100000)
    (k : ∀ t tk', Q (.int vs.length t) ⟨h, G, Dr, tk', O⟩) : wpAny (model P0 w) A (call (.builtin "len") [.ref c]) Q E ⟨h, G, Dr, tk, O⟩ :=
  o_lenLst D hm (by rw [List.size_toArray]; omega) fun t tk' => by rw [List.size_toArray]; exact k t tk'
theorem o_strInt {a : Int} {t : Tok} {Q : Value → Shared → Prop} (h0 : 0 ≤ a) (h1 : a < 100000) (k : ∀ t' tk', (Str.ofString (toString a)).length ≤ 10 → Q (.str (Str.ofString (toString a)) t') ⟨h, G, Dr, tk', O⟩) : wpAny (model P0 w) A (call (.type "str") [.int a t]) Q E ⟨h, G, Dr, tk, O⟩ :=
  str_of_int_fit (s := ⟨h, G, Dr, tk, O⟩) (N := 100000) (by split <;> omega) (by decide) fun _ => k _ _ (toString_length_le (k := 10) h0 (by decide) (by omega))
theorem o_floop {c : Code} {R : Result → Shared → Prop} {s : Shared} (P : Heap → Nat → Prop) (PR : Value → Heap → Nat → Prop) (fin : ∀ h tk, P h tk → R (.ok .next) ⟨h, G, Dr, tk, O⟩) (finR : ∀ v h tk, PR v h tk → R (.ok (.ret v)) ⟨h, G, Dr, tk, O⟩)
    (loop : ∀ R' : Result → Shared → Prop, (∀ h tk, P h tk → R' (.ok .next) ⟨h, G, Dr, tk, O⟩) → (∀ v h tk, PR v h tk → R' (.ok (.ret v)) ⟨h, G, Dr, tk, O⟩) → codeAny (model P0 w) A c R' s) : codeAny (model P0 w) A c R s := loop R fin finR
end
end Mine
end

section
open PySem PySem.W PyProof.Rows PySem.Spec PySem.Calls PyProof.V
set_option Elab.async false
set_option maxRecDepth 100000
set_option maxHeartbeats 4000000
set_option linter.unusedSimpArgs false
namespace Mine
theorem strOk_iff {x : Str} : PyData.strOk x = true ↔ ∀ c ∈ x.cps.toList, c < 0x110000 := by
  unfold PyData.strOk
  rw [← Array.all_toList, List.all_eq_true]
  simp
theorem strOk_of (s : String) : PyData.strOk (Str.ofString s) = true := by
  rw [strOk_iff, Str.ofString_eq_toList]
  intro c hc
  obtain ⟨d, _, rfl⟩ := List.mem_map.mp (show c ∈ s.toList.map Char.toNat from hc)
  have := d.valid
  unfold Char.toNat
  rcases this with h | h
  · omega
  · exact h.2
theorem strOk_app {x y : Str} (hx : PyData.strOk x = true) (hy : PyData.strOk y = true) : PyData.strOk (x ++ y) = true := by
  rw [strOk_iff] at *
  intro c hc
  have : c ∈ x.cps.toList ++ y.cps.toList := by
    have e : (x ++ y).cps = x.cps ++ y.cps := rfl
    rw [e, Array.toList_append] at hc
    exact hc
  rcases List.mem_append.mp this with q | q
  · exact hx c q
  · exact hy c q
/-- a file as data -/
def fileD (f : List Int × Int) : PyData := .list [.list (f.1.map PyData.int), .int f.2]
def outD (r : List (List Int × Int) × Str) : PyData := .list [.list (r.1.map fileD), .str r.2]
theorem fileD_lay : ∀ fs : List (List Int × Int), PyData.canLayAll0 (fs.map fileD) = true ∧ PyData.depthAll (fs.map fileD) ≤ 2
  | [] => ⟨rfl, by decide⟩
  | f :: fs => by
    have ih := fileD_lay fs
    simp only [List.map_cons, PyData.canLayAll0, PyData.depthAll, fileD, PyData.canLay0, ke_canLayAll0, PyData.depth, ke_depthAll, ih.1]
    exact ⟨rfl, by omega⟩
theorem outD_shaped {r : List (List Int × Int) × Str} (h : PyData.strOk r.2 = true) : SeqAt.shaped (outD r) = true := by
  have ih := fileD_lay r.1
  unfold SeqAt.shaped outD
  simp only [PyData.canLayAll0, PyData.depthAll, PyData.canLay0, PyData.depth, ih.1, h]
  simp
  omega
theorem FilesIn.reads {b h : Heap} {L : Addr} {al : List (Str × Value)} {μ : List (Addr × Obj)} {vs : List Value} {fs : List (List Int × Int)} (D : Led b L al h μ) (x : FilesIn μ vs fs) : ∃ as, ReadsAll h vs (fs.map fileD) as := by
  induction x with
  | nil => exact ⟨_, .nil⟩
  | cons h1 h2 h3 _ ih =>
    obtain ⟨as, q⟩ := ih
    exact ⟨_, .cons (reads_list_at (D.get h1) rfl rfl (.cons (reads_newData ⟨_, D.get h2, rfl, _, rfl⟩ (ke_carried h3)) (.cons (.int _ _) .nil))) q⟩
section
variable {w : World} {A : Around} {b h : Heap} {L : Addr} {al al' : List (Str × Value)} {μ μ' : List (Addr × Obj)} {mg mb : Str → Option Value} {G : Array GenState} {Dr : Drawn} {tk : Nat} {O : OsState} {E : Value → Shared → Prop}
/-- two answers of the same data are not unequal -/
theorem o_neOut {a c fa fc : Addr} {va vc : List Value} {n1 n2 n3 n4 : Nat} {ta tc : Tok} {r : List (List Int × Int) × Str} {Q : Value → Shared → Prop} (D : Led b L al h μ) (ma : (a, listOf #[.ref fa, .str r.2 ta] n1) ∈ μ) (mfa : (fa, listOf va.toArray n2) ∈ μ) (xa : FilesIn μ va r.1)
    (mc : (c, listOf #[.ref fc, .str r.2 tc] n3) ∈ μ) (mfc : (fc, listOf vc.toArray n4) ∈ μ) (xc : FilesIn μ vc r.1) (hs : PyData.strOk r.2 = true) (hu : A.units + 64 < cLine) (k : Q (.bool false) ⟨h, G, Dr, tk, O⟩) :
    wpAny (model P0 w) A (compareOp .NotEq (.ref a) (.ref c)) Q E ⟨h, G, Dr, tk, O⟩ := by
  obtain ⟨as, qa⟩ := xa.reads D
  obtain ⟨bs, qc⟩ := xc.reads D
  have hsh := outD_shaped hs
  refine ne_dataH (s := ⟨h, G, Dr, tk, O⟩) (da := outD r) (db := outD r) (reads_list_at (D.get ma) rfl rfl (.cons (reads_list_at (D.get mfa) rfl rfl qa) (.cons (.str _ _) .nil))) (reads_list_at (D.get mc) rfl rfl (.cons (reads_list_at (D.get mfc) rfl rfl qc) (.cons (.str _ _) .nil))) hsh hsh hu ?_
  rw [PySem.SeqAt.eqv_refl _ (SeqAt.canLay_of_shaped hsh)]
  exact k
/-- two lists of the same texts are equal -/
theorem o_eqStrs {a c : Addr} {va vc : List Value} {n1 n2 : Nat} {ss : List Str} {Q : Value → Shared → Prop} (D : Led b L al h μ) (ma : (a, listOf va.toArray n1) ∈ μ) (xa : StrsAre va ss) (mc : (c, listOf vc.toArray n2) ∈ μ) (xc : StrsAre vc ss) (hs : ∀ s ∈ ss, PyData.strOk s = true)
    (hu : A.units + 64 < cLine) (k : Q (.bool true) ⟨h, G, Dr, tk, O⟩) :
    wpAny (model P0 w) A (compareOp .Eq (.ref a) (.ref c)) Q E ⟨h, G, Dr, tk, O⟩ := by
  have rd : ∀ {vs : List Value} {ss : List Str}, StrsAre vs ss → ∃ as, ReadsAll h vs (ss.map PyData.str) as := by
    intro vs ss x
    induction x with
    | nil => exact ⟨_, .nil⟩
    | cons y t _ ih => obtain ⟨as, q⟩ := ih; exact ⟨_, .cons (.str _ _) q⟩
  obtain ⟨as, qa⟩ := rd xa
  obtain ⟨bs, qc⟩ := rd xc
  have hd : ∀ ss : List Str, PyData.depthAll (ss.map PyData.str) = 0 := by
    intro ss
    induction ss with
    | nil => rfl
    | cons s ss ih => simp [PyData.depthAll, PyData.depth, ih]
  have hsh : SeqAt.shaped (.list (ss.map PyData.str)) = true := by
    unfold SeqAt.shaped
    rw [PyData.canLay0, canLayAll_strs', List.all_eq_true.mpr hs, PyData.depth, hd]
    rfl
  refine eq_dataH (s := ⟨h, G, Dr, tk, O⟩) (da := .list (ss.map PyData.str)) (db := .list (ss.map PyData.str)) (reads_list_at (D.get ma) rfl rfl qa) (reads_list_at (D.get mc) rfl rfl qc) hsh hsh hu ?_
  rw [PySem.SeqAt.eqv_refl _ (SeqAt.canLay_of_shaped hsh)]
  exact k
end
end Mine
end

section
open PySem PySem.W PyProof.Rows PySem.Spec PySem.Calls PyProof.V
set_option Elab.async false
set_option maxRecDepth 100000
set_option maxHeartbeats 4000000
set_option linter.unusedSimpArgs false
namespace Mine
def BytItO (o : Obj) (x : Array UInt8) (t : Tok) (i : Nat) : Prop := o.cls = .type "bytes_iterator" ∧ o.data = .fields #[.bytes x t, .int i 0]
section
variable {w : World} {A : Around} {b h : Heap} {L : Addr} {al al' : List (Str × Value)} {μ μ' : List (Addr × Obj)} {mg mb : Str → Option Value} {G : Array GenState} {Dr : Drawn} {tk : Nat} {O : OsState} {E : Value → Shared → Prop} {env : Env}
theorem o_whileStep {R : Result → Shared → Prop} {test : Expr} {body orelse : List Stmt} {s : Shared}
    (turn : wpAny (model P0 w) A (isTrue test env (eval test env)) (fun c s₂ =>
        if c then wpAny (model P0 w) A (execs body env) (fun f s₃ => match f with
            | .next | .cont => codeAny (model P0 w) A (.whileLoop test body orelse env) R s₃
            | .brk => R (.ok .next) s₃
            | .ret v => R (.ok (.ret v)) s₃) (notedBy (model P0 w) A env fun e s' => R (.error e) s') s₂
        else wpAny (model P0 w) A (execs orelse env) (fun f s₃ => R (.ok f) s₃) (notedBy (model P0 w) A env fun e s' => R (.error e) s') s₂)
        (notedBy (model P0 w) A env fun e s' => R (.error e) s') s) : codeAny (model P0 w) A (.whileLoop test body orelse env) R s := by
  refine codeAny_of_tree ?_
  show wpAny _ A ((whileTurn test body orelse env).onRaise (fun x => do noteFrame x env; theTreesLotGoes x)) _ _ s
  refine wpAny_noted ?_
  simp only [whileTurn]
  refine wpAny_bind (wpAny_mono turn (fun c s₂ h₂ => ?_) fun _ _ x => x)
  cases c with
  | true =>
    simp only [if_true] at h₂ ⊢
    refine wpAny_bind (wpAny_mono h₂ (fun f s₃ h₃ => ?_) fun _ _ x => x)
    cases f with
    | next => exact wpAny_pure ⟨rfl, h₃⟩
    | cont => exact wpAny_pure ⟨rfl, h₃⟩
    | brk => exact wpAny_pure h₃
    | ret v => exact wpAny_pure h₃
  | false =>
    simp only [Bool.false_eq_true, if_false] at h₂ ⊢
    exact wpAny_bind (wpAny_mono h₂ (fun f s₃ h₃ => wpAny_pure h₃) fun _ _ h' => h')
theorem o_iterB {x : Array UInt8} {t : Tok} {Q : Value → Shared → Prop} (D : Led b L al h μ) (k : ∀ it o h', BytItO o x t 0 → Led b L al h' ((it, o) :: μ) → Q (.ref it) ⟨h', G, Dr, tk, O⟩) : wpAny (model P0 w) A (pyIter (.bytes x t)) Q E ⟨h, G, Dr, tk, O⟩ :=
  KBw.pyIter_bytes (s := ⟨h, G, Dr, tk, O⟩) (k _ _ _ ⟨rfl, rfl⟩ (D.push _))
theorem o_nextB {it : Addr} {o : Obj} {x : Array UInt8} {t : Tok} {i : Nat} {c : UInt8} {Q : Option Value → Shared → Prop} (D : Led b L al h μ) (hm : (it, o) ∈ μ) (ho : BytItO o x t i) (hx : x[i]? = some c)
    (k : ∀ o' h' t' tk', BytItO o' x t (i + 1) → (∀ μ', Up it o o' μ μ' → Led b L al h' μ') → Q (some (.int (c.toNat : Int) t')) ⟨h', G, Dr, tk', O⟩) : wpAny (model P0 w) A (pyNext (.ref it)) Q E ⟨h, G, Dr, tk, O⟩ := by
  refine KBw.next_item (s := ⟨h, G, Dr, tk, O⟩) (it := it) (b := x) (t := t) (i := i) ⟨_, D.get hm, ho.1, ho.2⟩ hx fun h' hit hs => ?_
  obtain ⟨o', ho', q1, q2⟩ := hit
  exact k o' h' _ _ ⟨q1, q2⟩ fun μ' U => D.up U hs ho'
theorem o_endB {it : Addr} {o : Obj} {x : Array UInt8} {t : Tok} {i : Nat} {Q : Option Value → Shared → Prop} (hh : A.handled = none) (D : Led b L al h μ) (U : Rm it o μ μ') (ho : BytItO o x t i) (hx : x[i]? = none)
    (k : ∀ h', Led b L al h' μ' → Q none ⟨h', G, Dr, tk, O⟩) : wpAny (model P0 w) A (pyNext (.ref it)) Q E ⟨h, G, Dr, tk, O⟩ :=
  KBw.next_end (s := ⟨h, G, Dr, tk, O⟩) hh (it := it) (b := x) (t := t) (i := i) ⟨_, D.get U.mem, ho.1, ho.2⟩ hx fun h' hs => k h' (D.rm U hs)
theorem o_shl {a n : Int} {t u : Tok} {Q : Value → Shared → Prop} (h0 : 0 ≤ n) (h1 : n ≤ 1000) (ha : a.natAbs < 2 ^ 64) (k : ∀ t' tk', Q (.int (a * 2 ^ n.toNat) t') ⟨h, G, Dr, tk', O⟩) : wpAny (model P0 w) A (binaryOp .LShift (.int a t) (.int n u)) Q E ⟨h, G, Dr, tk, O⟩ :=
  lshift_int_small (s := ⟨h, G, Dr, tk, O⟩) h0 (by omega) ha (k _ _)
theorem o_shr {a n : Int} {t u : Tok} {Q : Value → Shared → Prop} (h0 : 0 ≤ n) (k : ∀ t' tk', Q (.int (a.fdiv (2 ^ n.toNat)) t') ⟨h, G, Dr, tk', O⟩) : wpAny (model P0 w) A (binaryOp .RShift (.int a t) (.int n u)) Q E ⟨h, G, Dr, tk, O⟩ :=
  rshift_int (s := ⟨h, G, Dr, tk, O⟩) h0 (k _ _)
end
def b64ks : List Int := [65,66,67,68,69,70,71,72,73,74,75,76,77,78,79,80,81,82,83,84,85,86,87,88,89,90,97,98,99,100,101,102,103,104,105,106,107,108,109,110,111,112,113,114,115,116,117,118,119,120,121,122,48,49,50,51,52,53,54,55,56,57,43,47]
abbrev b64c (i : Int) : Int := b64ks.getD i.toNat 0
end Mine
end

section
open PySem PySem.W PyProof.Rows PySem.Spec PySem.Calls PyProof.V
set_option Elab.async false
set_option maxRecDepth 100000
set_option maxHeartbeats 4000000
set_option linter.unusedSimpArgs false
namespace Mine
section
variable {w : World} {A : Around} {b h : Heap} {L : Addr} {al al' : List (Str × Value)} {μ μ' : List (Addr × Obj)} {mg mb : Str → Option Value} {G : Array GenState} {Dr : Drawn} {tk : Nat} {O : OsState} {E : Value → Shared → Prop} {env : Env}
theorem o_callWithKW {pos : Pos} {f : Value} {e : Expr} {rest : List Expr} {kws : List Keyword} {s : Shared} {Q : Value → Shared → Prop} (_B : Base w mg mb b) (hk : keepIn (KK w) f = true) (hall : (backToKw pos (keywordEach kws env)).all (·.1.isSome) = true)
    (k : wpAny (model P0 w) A (spliced (backTo pos (starEach (e :: rest) env))) (fun vs s₁ => wpAny (model P0 w) A (evalAll ((backToKw pos (keywordEach kws env)).map (·.2)))
      (fun ks s₂ => (KK w).In s₂.heap ∧ wpAny (model P0 w) A (call f vs (((backToKw pos (keywordEach kws env)).filterMap (·.1)).zip ks)) Q E s₂) E s₁) E s)
    (hplain : ((backTo pos (starEach (e :: rest) env)).any (·.1) || (backToKw pos (keywordEach kws env)).any (·.1.isNone)) = false) (he : starEach (e :: rest) env = (false, eval e env) :: starEach rest env) :
    wpAny (model P0 w) A (callWith pos f [] (backTo pos (starEach (e :: rest) env)) (backToKw pos (keywordEach kws env))) Q E s := callWith_KW (first := []) _B.X hk hall k hplain he
end
def txt (es : List Int) : Str := ⟨(es.map Int.toNat).toArray⟩
section
open Builtin
set_option maxRecDepth 100000
theorem dc_road {id : String} {x : Array UInt8} : _codecs.decodeRoad id x (PySem.Str.ofString "ascii") none [] = (_codecs.runDecoder id _codecs.asciiDecoder none true x 0 [] >>= fun r => mkStr ⟨r.1⟩) := by kernel_rfl
theorem dc_text {x : Array UInt8} {t t1 t2 : Tok} {y d : PySem.Str} {n : Nat} (hd : ∀ id, _codecs.runDecoder id _codecs.asciiDecoder none true x 0 [] = pure (y.cps, n)) :
    Meets («_codecs.decode.text» ⟨[.bytes x t, .str (PySem.Str.ofString "ascii") t1, .none, .str d t2], []⟩) (fun _ R s => y.length ≤ sizeLine ∧ R (.ok (.ret (.str y s.toks))) { s with toks := s.toks + 1 }) := by
  refine .of_wp fun prog w A R s hS => ?_
  obtain ⟨hsz, h⟩ := hS
  show wpAny _ _ (Bytes.bytesLike _ (.bytes x t) >>= fun r => _) _ _ s
  refine wpAny_bind (wpAny_of_eq KBd.like_eq ?_)
  refine wpAny_bind (wpAny_of_eq KBd.held_eq ?_)
  show wpAny _ _ (_codecs.decodeRoad _ x (PySem.Str.ofString "ascii") none [] >>= fun v => _) _ _ s
  rw [dc_road, hd]
  refine wpAny_bind (wpAny_bind (wpAny_pure ?_))
  exact wpAny_mkStr (wpAny_pure ⟨_, rfl, h⟩) hsz
theorem dc_args (a b : Value) : argsOk "bytes.decode" ⟨[a, b], []⟩ := by unfold argsOk; kernel_rfl
theorem dc_entry {c : UInt8} {cs : List UInt8} {t u : Tok} : «bytes.decode» ⟨[.bytes (c :: cs).toArray t, .str (PySem.Str.ofString "ascii") u], []⟩ = (mkStr (PySem.Str.ofString "utf-8") >>= fun _ => mkStr (PySem.Str.ofString "ascii") >>= fun e => mkStr (PySem.Str.ofString "bytes.decode") >>= fun d =>
    call (.builtin "_codecs.decode.text") [.bytes (c :: cs).toArray t, e, .none, d] >>= fun v => ret v) := by kernel_rfl
theorem dc_empty {t u : Tok} : «bytes.decode» ⟨[.bytes #[] t, .str (PySem.Str.ofString "ascii") u], []⟩ = (rule "bytes.decode.empty" >>= fun _ => retStr PySem.Str.empty) := by kernel_rfl
theorem asc4 {id : String} {a b c d : UInt8} (ha : a.toNat < 128) (hb : b.toNat < 128) (hc : c.toNat < 128) (hd : d.toNat < 128) :
    _codecs.runDecoder id _codecs.asciiDecoder none true #[a, b, c, d] 0 [] = pure (#[a.toNat, b.toNat, c.toNat, d.toNat], 4) := by
  unfold _codecs.runDecoder
  simp [_codecs.asciiDecoder, _codecs.Found.char, ha, hb, hc, hd, sizeLine_eq, Std.Legacy.Range.forIn_eq_forIn_range', List.range']
theorem dc_meets {x : Array UInt8} {es : List Int} {t u : Tok} (hx : byteArr es = x) (hs : es = [] ∨ ∃ a b c d, es = [a, b, c, d] ∧ (0 ≤ a ∧ a < 128) ∧ (0 ≤ b ∧ b < 128) ∧ (0 ≤ c ∧ c < 128) ∧ (0 ≤ d ∧ d < 128)) :
    Meets («bytes.decode» ⟨[.bytes x t, .str (PySem.Str.ofString "ascii") u], []⟩) (fun _ R s => ∀ t' k, R (.ok (.ret (.str (txt es) t'))) { s with toks := k }) := by
  refine .of_wp fun prog w A R s h => ?_
  subst hx
  rcases hs with rfl | ⟨a, b, c, d, rfl, ha, hb, hc, hd⟩
  · rw [show byteArr [] = #[] from rfl, dc_empty]
    exact wpAny_bind (wpAny_rule (wpAny_bind (wpAny_mkStr (wpAny_pure ⟨_, rfl, h _ _⟩) (by decide))))
  · rw [show byteArr [a, b, c, d] = (a.toNat.toUInt8 :: [b.toNat.toUInt8, c.toNat.toUInt8, d.toNat.toUInt8]).toArray from rfl, dc_entry]
    refine wpAny_bind (wpAny_mkStr ?_ (by decide))
    refine wpAny_bind (wpAny_mkStr ?_ (by decide))
    refine wpAny_bind (wpAny_mkStr ?_ (by decide))
    have q : ∀ n : Int, 0 ≤ n ∧ n < 128 → n.toNat.toUInt8.toNat = n.toNat := by
      intro n hn
      have := byte_back (n := n) hn.1 (by omega)
      omega
    have e := fun id => asc4 (id := id) (a := a.toNat.toUInt8) (b := b.toNat.toUInt8) (c := c.toNat.toUInt8) (d := d.toNat.toUInt8) (by rw [q a ha]; omega) (by rw [q b hb]; omega) (by rw [q c hc]; omega) (by rw [q d hd]; omega)
    rw [q a ha, q b hb, q c hc, q d hd] at e
    exact wpAny_bind (call_function_meets KBd.kind_text KBd.plain_text KBd.entry_text (KBd.args_text _ _ _ _) (dc_text (y := txt [a, b, c, d]) (n := 4) e) ⟨by rw [sizeLine_eq]; exact (by decide : 4 ≤ 16777216), wpAny_pure ⟨_, rfl, h _ _⟩⟩)
end
section
variable {w : World} {A : Around} {h : Heap} {G : Array GenState} {Dr : Drawn} {tk : Nat} {O : OsState} {E : Value → Shared → Prop}
theorem o_decodeM {x : Array UInt8} {t : Tok} {pl : Sem Bool} {Q : Value × List Value → Shared → Prop} (k : Q (.builtin "bytes.decode", [.bytes x t]) ⟨h, G, Dr, tk, O⟩) : wpAny (model P0 w) A (getMethod (.bytes x t) (Str.ofString "decode") pl) Q E ⟨h, G, Dr, tk, O⟩ := KBd.method k
theorem o_decode {es : List Int} {t u : Tok} {Q : Value → Shared → Prop} (hs : es = [] ∨ ∃ a b c d, es = [a, b, c, d] ∧ (0 ≤ a ∧ a < 128) ∧ (0 ≤ b ∧ b < 128) ∧ (0 ≤ c ∧ c < 128) ∧ (0 ≤ d ∧ d < 128)) (k : ∀ t' tk', Q (.str (txt es) t') ⟨h, G, Dr, tk', O⟩) :
    wpAny (model P0 w) A (call (.builtin "bytes.decode") [.bytes (byteArr es) t, .str (PySem.Str.ofString "ascii") u]) Q E ⟨h, G, Dr, tk, O⟩ :=
  call_meets FB.slot_bytes_decode (typeIs_bytes _ _ _) FB.entry_bytes_decode (dc_args _ _) (dc_meets rfl hs) fun t' k' => k t' k'
end
end Mine
end

section
open PySem PySem.W PyProof.Rows PySem.Spec PySem.Calls PyProof.V
set_option Elab.async false
set_option maxRecDepth 100000
set_option maxHeartbeats 4000000
set_option linter.unusedSimpArgs false
namespace Mine
section
variable {w : World} {A : Around} {b h : Heap} {L : Addr} {al al' : List (Str × Value)} {μ μ' : List (Addr × Obj)} {mg mb : Str → Option Value} {G : Array GenState} {Dr : Drawn} {tk : Nat} {O : OsState} {E : Value → Shared → Prop} {env : Env}
/-- a def of the text with two names of its own that are captured -/
theorem o_callC2 {f : Addr} {args : List Value} {oc : Value} {od : Option Addr} {name qual : Str} {params : Arguments} {body : List Stmt} {scope : Scope} {dV kV doc pm cdv ct : Value} {an : Option Addr} {osl : Array (Option Value)} {binds : List (Str × Value)} {x y : Str} {al₀ : List (Str × Value)} {Q : Value → Shared → Prop}
    (B : Base w mg mb b) (D : Led b L al h μ)
    (ho : (KK w).lookup f = some ⟨oc, od, .func (fnOf name qual params body scope dV kV doc pm an cdv ct), osl⟩) (hcd : codeIn (KK w) cdv qual = true) (hroom : A.depth < recursionLimit)
    (hbind : bindArgs (fnOf name qual params body scope dV kV doc pm an cdv ct) ⟨args, []⟩ = pure binds)
    (hcs : ∀ n, cellsFrom n scope.names [] = [(x, n + 1), (y, n)]) (hxy : (y == x) = false)
    (hkind : ∀ z ∈ binds, scope.names.lookup z.1 = some .local)
    (hal : Kn (bindL (fun y => scope.names.lookup y) binds fun _ => none) al₀) (hnn : (al₀.map (·.1)).Nodup)
    (hcx : bindC (fun y => scope.names.lookup y) binds (fun _ => none) x = none) (hcy : bindC (fun y => scope.names.lookup y) binds (fun _ => none) y = none)
    (k : ∀ A' E' L' c o c2 o2 h₁ oL tk₁, A'.handled = A.handled → A'.depth = A.depth + 1 → A'.units = A.units + 3 → CellO o none → CellO o2 none → Led b L' al₀ h₁ ((c, o) :: (c2, o2) :: (L, oL) :: μ) →
      wpAny (model P0 w) A' (execs body (envX qual scope L' f cdv [(x, c), (y, c2)])) (LeaveQ b L al oL Q) E' ⟨h₁, G, Dr, tk₁, O⟩)
    (hco : scope.isCoroutine = false) (hgen : scope.isGenerator = false) (hk : scope.kind = .function) :
    wpAny (model P0 w) A (call (.ref f) args) Q E ⟨h, G, Dr, tk, O⟩ := by
  obtain ⟨m, F, kn⟩ := D.loc
  obtain ⟨oL, es, ep, hL, hL2⟩ := F.ns
  refine wpAny_call (codeAny_call_cells (s := ⟨h, G, Dr, tk, O⟩) (fd := fnOf name qual params body scope dV kV doc pm an cdv ct) (body := body) (binds := binds) hroom (F.keep _ _ (B.X _ _ ho)) rfl (B.lim.keeps F.keep) ((codeRec_of B.X hcd).keeps F.keep) rfl hbind rfl
    (fun y hy => .inl (hkind y hy)) (fun s₁ X => ?_) hco hgen hk)
  have hcells : (callEnvC (fnOf name qual params body scope dV kV doc pm an cdv ct) h.objs.size f).cells = [(x, h.objs.size + 2), (y, h.objs.size + 1)] := hcs _
  have henv : callEnvC (fnOf name qual params body scope dV kV doc pm an cdv ct) h.objs.size f = envX qual scope h.objs.size f cdv [(x, h.objs.size + 2), (y, h.objs.size + 1)] := by
    show newEnv scope h.objs.size mainGlobals (cellsFrom (h.objs.size + 1) scope.names []) (qual ++ ".<locals>.") (some f) cdv none builtinsNs = _
    rw [hcs]; rfl
  obtain ⟨⟨⟨h₁, tk₁, rfl⟩, hns, hkeep, hfresh⟩, hcell, hap, hab⟩ := X
  rw [henv]
  obtain ⟨co, hco1, hco2⟩ := hcell x (h.objs.size + 2) (by rw [hcells]; simp)
  obtain ⟨co', hco1', hco2'⟩ := hcell y (h.objs.size + 1) (by rw [hcells, List.lookup_cons, hxy]; simp)
  have hcv' : co.data = .cell none := by rw [hco2]; exact congrArg _ hcx
  have hcv'' : co'.data = .cell none := by rw [hco2']; exact congrArg _ hcy
  have D₁ : Led b h.objs.size al₀ h₁ ((h.objs.size + 2, co) :: (h.objs.size + 1, co') :: (L, oL) :: μ) := by
    have hbs : b.objs.size ≤ h.objs.size := Nat.le_of_lt (Nat.lt_of_le_of_lt F.above (Heap.lt_size hL))
    have hnb : ∀ c, h.objs.size ≤ c → b.get? c = none := fun c hc => by
      cases q : b.get? c with
      | none => rfl
      | some o => exact absurd (Heap.lt_size q) (Nat.not_lt.mpr (Nat.le_trans hbs hc))
    have hLt : L < h.objs.size := Heap.lt_size hL
    have hμt : ∀ p ∈ μ, p.1 < h.objs.size := fun p hp => Heap.lt_size (D.nw p hp).1
    refine ⟨⟨_, ⟨hns, fun a o e => hkeep a o (F.keep a o e), hbs⟩, hal⟩, fun p hp => ?_, hnn, ?_⟩
    · rcases List.mem_cons.mp hp with rfl | hp
      · exact ⟨hco1, Nat.ne_of_gt (Nat.lt_succ_of_lt (Nat.lt_succ_self _)), hnb _ (Nat.le_add_right _ 2)⟩
      · rcases List.mem_cons.mp hp with rfl | hp
        · exact ⟨hco1', Nat.ne_of_gt (Nat.lt_succ_self _), hnb _ (Nat.le_succ _)⟩
        · rcases List.mem_cons.mp hp with rfl | hp
          · refine ⟨hkeep _ _ hL, Nat.ne_of_lt hLt, ?_⟩
            cases q : b.get? L with
            | none => rfl
            | some o => exact absurd (Heap.lt_size q) (Nat.not_lt.mpr F.above)
          · exact ⟨hkeep _ _ (D.nw p hp).1, Nat.ne_of_lt (hμt p hp), (D.nw p hp).2.2⟩
    · rw [List.map_cons, List.map_cons, List.map_cons]
      have nm : ∀ c, h.objs.size ≤ c → c ∉ L :: μ.map (·.1) := fun c hc q => by
        rcases List.mem_cons.mp q with e | q
        · exact absurd hLt (by rw [← (show c = L from e)]; exact Nat.not_lt.mpr hc)
        · obtain ⟨p, hp, e⟩ := List.mem_map.mp q
          exact absurd (hμt p hp) (by rw [show p.1 = c from e]; exact Nat.not_lt.mpr hc)
      refine List.nodup_cons.mpr ⟨fun q => ?_, List.nodup_cons.mpr ⟨nm _ (Nat.le_succ _), List.nodup_cons.mpr ⟨fun q => ?_, D.nd⟩⟩⟩
      · rcases List.mem_cons.mp q with e | q
        · exact absurd (show h.objs.size + 2 = h.objs.size + 1 from e) (Nat.ne_of_gt (Nat.lt_succ_self _))
        · exact nm _ (Nat.le_add_right _ 2) q
      · obtain ⟨p, hp, e⟩ := List.mem_map.mp q
        exact (D.nw p hp).2.1 e
  refine wpAny_mono (k (A.deeper (envX qual scope h.objs.size f cdv [(x, h.objs.size + 2), (y, h.objs.size + 1)])) _ _ _ co _ co' h₁ oL tk₁ rfl rfl rfl hcv' hcv'' D₁) (fun fl s' hl => ?_) fun _ _ y => y
  obtain ⟨L', al', μ', D', kk⟩ := hl
  exact kk (D.back ⟨m, ⟨es, ep, hL2⟩, kn⟩ D')
theorem o_range3 {x z c : Int} {t u v : Tok} {Q : Value → Shared → Prop} (D : Led b L al h μ) (hc : c ≠ 0) (hp : Builtin.divisionGoesByPylong (z - x) c = false) (k : ∀ r h', Led b L al h' ((r, rngObj x z c t u v) :: μ) → Q (.ref r) ⟨h', G, Dr, tk, O⟩) :
    wpAny (model P0 w) A (call (.type "range") [.int x t, .int z u, .int c v]) Q E ⟨h, G, Dr, tk, O⟩ := call_range_3 (s := ⟨h, G, Dr, tk, O⟩) hc (k _ _ (D.push _)) (.inl hp)
theorem o_neg {x : Int} {t : Tok} {Q : Value → Shared → Prop} (k : ∀ t' tk', Q (.int (-x) t') ⟨h, G, Dr, tk', O⟩) : wpAny (model P0 w) A (unaryOp .USub (.int x t)) Q E ⟨h, G, Dr, tk, O⟩ := PyProof.Rows.neg_int (s := ⟨h, G, Dr, tk, O⟩) (k _ _)
theorem o_joinL {c : Addr} {vs : List Value} {n : Nat} {ys : List Str} {t : Tok} {Q : Value → Shared → Prop} (D : Led b L al h μ) (hm : (c, listOf vs.toArray n) ∈ μ) (hi : StrsAre vs ys) (hw : (ys.map (·.length)).sum + ys.length ≤ 1048576)
    (k : ∀ t' tk', Q (.str (Txt.join (Str.ofString "") ys) t') ⟨h, G, Dr, tk', O⟩) : wpAny (model P0 w) A (call (.builtin "str.join") [.str (Str.ofString "") t, .ref c]) Q E ⟨h, G, Dr, tk, O⟩ :=
  join_listW (s := ⟨h, G, Dr, tk, O⟩) (items := vs.toArray) ⟨_, D.get hm, rfl, _, rfl⟩ hi (by decide) hw fun t' k' => k t' k'
theorem o_mulS {n : Int} {t u : Tok} {Q : Value → Shared → Prop} (h0 : 0 ≤ n) (h1 : n ≤ 100) (k : ∀ t' tk', Q (.str (Txt.mul (Str.ofString "=") n) t') ⟨h, G, Dr, tk', O⟩) : wpAny (model P0 w) A (binaryOp .Mult (.str (Str.ofString "=") t) (.int n u)) Q E ⟨h, G, Dr, tk, O⟩ :=
  KXi.mul (s := ⟨h, G, Dr, tk, O⟩) (n := 1) (by decide) (by decide) (by omega) (by omega) fun t' k' _ _ => k t' k'
abbrev alpha : Str := Str.ofString "ABCDEFGHIJKLMNOPQRSTUVWXYZabcdefghijklmnopqrstuvwxyz0123456789+/"
theorem alpha_len : alpha.length = 64 := by decide +kernel
theorem alpha_at : ∀ k : Nat, k < 64 → Txt.item alpha (k : Int) = txt [b64ks.getD k 0] := by decide +kernel
theorem o_itemS {t ui : Tok} {i j : Int} {value slice : Expr} {Q : Value → Shared → Prop} (e : i = j) (h0 : 0 ≤ j) (h1 : j < 64) (k : ∀ t' tk', Q (.str (txt [b64c j]) t') ⟨h, G, Dr, tk', O⟩)
    (hs : subscripted slice false (.str alpha t) (.int i ui) = operate [.str alpha t, .int i ui] (getItem (.str alpha t) (.int i ui)))
    (ht : ∀ r, letTemporaryGo value (.str alpha t) r = pure ()) :
    wpAny (model P0 w) A (subscriptTail value slice (.str alpha t) (.int i ui)) Q E ⟨h, G, Dr, tk, O⟩ := by
  subst e
  refine KXi.item (s := ⟨h, G, Dr, tk, O⟩) alpha_len (by omega) (by omega) (by decide) (fun _ => ?_) hs ht
  have q := alpha_at i.toNat (by omega)
  rw [Int.toNat_of_nonneg h0] at q
  rw [q]
  exact k _ _
end
theorem ints_at {vs : List Value} {ns : List Int} (h : IntsAre vs ns) : ∀ {j : Nat} {n : Int}, ns[j]? = some n → ∃ t, vs[j]? = some (.int n t) := by
  induction h with
  | nil => intro j n hj; simp at hj
  | cons i t _ ih =>
    intro j n hj
    cases j with
    | zero => exact ⟨t, by simpa using hj⟩
    | succ j => exact ih (by simpa using hj)
end Mine
end

section
open PySem PySem.W PyProof.Rows PySem.Spec PySem.Calls PyProof.V
set_option Elab.async false
set_option maxRecDepth 100000
set_option maxHeartbeats 4000000
set_option linter.unusedSimpArgs false
namespace Mine
section
variable {w : World} {A : Around} {b h : Heap} {L : Addr} {al al' : List (Str × Value)} {μ μ' : List (Addr × Obj)} {mg mb : Str → Option Value} {G : Array GenState} {Dr : Drawn} {tk : Nat} {O : OsState} {E : Value → Shared → Prop} {env : Env}
/-! slices -/
theorem o_upto {l : Addr} {vs : List Value} {ns : List Int} {y : Int} {u : Tok} {value slice : PySem.Expr} {Q : Value → Shared → Prop} (D : Led b L al h μ) (hl : h.IsList l vs.toArray) (hi : IntsAre vs ns) (h0 : 0 ≤ y) (hz : vs.length ≤ 1000)
    (k : ∀ c ws h', IntsAre ws (ns.take y.toNat) → Led b L al h' ((c, listOf ws.toArray 0) :: μ) → Q (.ref c) ⟨h', G, Dr, tk, O⟩)
    (hs : subscripted slice false (.ref l) (.ref h.objs.size) = operate [.ref h.objs.size, .ref l] (getItem (.ref l) (.ref h.objs.size))) (ht : ∀ r, letTemporaryGo value (.ref l) r = pure ()) :
    wpAny (model P0 w) A (subscriptTail value slice (.ref l) (.ref h.objs.size)) Q E ⟨h.push { cls := .type "slice", data := .fields #[.none, .int y u, .none] }, G, Dr, tk, O⟩ := by
  obtain ⟨x, F, kn⟩ := D.loc
  refine kmk_slice_ints (s := ⟨h, G, Dr, tk, O⟩) F D.nw hl .none (.int y u) hi (kmk_upto hi h0) rfl (fun c ws h' F' N' hlt hw _ _ => k c ws h' hw ⟨⟨x, F', kn⟩, N', D.nn, ?_⟩) hs ht (by rw [List.size_toArray, sizeLine_eq]; omega)
  refine List.nodup_cons.mpr ⟨fun q => ?_, D.nd⟩
  obtain ⟨p, hp, e⟩ := List.mem_map.mp q
  exact absurd (hlt p hp) (by rw [show p.1 = c from e]; exact Nat.lt_irrefl _)
theorem byteArr_back (x : Array UInt8) : byteArr (KBw.bInts x) = x := by
  unfold byteArr KBw.bInts
  apply Array.toList_inj.mp
  simp only [List.map_map]
  refine (List.map_congr_left (g := id) fun c _ => ?_).trans (List.map_id _)
  simp
theorem o_cutB {ns : List Int} {y : Int} {t u : Tok} {value slice : PySem.Expr} {Q : Value → Shared → Prop} (D : Led b L al h μ) (hr : ∀ n ∈ ns, 0 ≤ n ∧ n < 256) (hz : ns.length ≤ 1000) (h0 : 0 ≤ y) (h1 : y ≤ ns.length)
    (k : ∀ h' t' tk', Led b L al h' μ → Q (.bytes (byteArr (ns.take y.toNat)) t') ⟨h', G, Dr, tk', O⟩)
    (hs : subscripted slice false (.bytes (byteArr ns) t) (.ref h.objs.size) = operate [.ref h.objs.size, .bytes (byteArr ns) t] (getItem (.bytes (byteArr ns) t) (.ref h.objs.size))) (ht : ∀ r, letTemporaryGo value (.bytes (byteArr ns) t) r = pure ()) :
    wpAny (model P0 w) A (subscriptTail value slice (.bytes (byteArr ns) t) (.ref h.objs.size)) Q E ⟨h.push { cls := .type "slice", data := .fields #[.none, .int y u, .none] }, G, Dr, tk, O⟩ := by
  obtain ⟨x, F, kn⟩ := D.loc
  refine KBc.slice_K (s := ⟨h, G, Dr, tk, O⟩) F D.nw (KBa.ints_make hr) .none (.int y u) (by omega) (fun h' t' tk' F' N' e => ?_) hs ht
  have e2 : KBy.picked (byteArr ns) none (some y) = byteArr (ns.take y.toNat) := by
    rw [← byteArr_back (KBy.picked (byteArr ns) none (some y)), e]
    congr 1
    simp only [Option.elim, List.drop_zero, Nat.sub_zero]
    have : clipAt ns.length y = y.toNat := by unfold clipAt; split <;> omega
    rw [this]
  rw [e2]
  exact k h' t' tk' ⟨⟨x, F', kn⟩, N', D.nn, D.nd⟩
/-! comprehensions over lists -/
theorem o_startLst {elt target iter : PySem.Expr} {ifs : List PySem.Expr} {rest : List Comprehension} {scope : Scope} {pos : Pos} {it t : Addr} {o : Obj} {i : Nat} {acc : Value} {R : Result → Shared → Prop} (D : Led b L al h μ) (hm : (it, o) ∈ μ) (ho : LstItO o t i)
    (k : codeAny (model P0 w) A (.compLoop (.ListComp elt (⟨target, iter, ifs, 0⟩ :: rest) scope pos) 0 (.ref it) acc env) R ⟨h, G, Dr, tk, O⟩) :
    codeAny (model P0 w) A (.compStart (.ListComp elt (⟨target, iter, ifs, 0⟩ :: rest) scope pos) 0 (.ref it) acc env) R ⟨h, G, Dr, tk, O⟩ :=
  codeAny_compStart_list k (wpAny_pyIter_listiter (s := ⟨h, G, Dr, tk, O⟩) (it := it) (l := t) (i := i) ⟨o, D.get hm, ho⟩ k)
abbrev two (elt t0 i0 t1 i1 : PySem.Expr) (scope : Scope) (pos : Pos) : PySem.Expr := .ListComp elt [⟨t0, i0, [], 0⟩, ⟨t1, i1, [], 0⟩] scope pos
theorem compTurn_two0 (elt t0 i0 t1 i1 : PySem.Expr) (scope : Scope) (pos : Pos) (it acc : Value) (env : Env) :
    compTurn (two elt t0 i0 t1 i1 scope pos) 0 it acc env = (standAt i0.pos >>= fun _ => pyNext it >>= fun r => match r with
      | none => pure (.done .next)
      | some v => letOwnedTupleGo t0 it v >>= fun _ => assign t0 env v >>= fun _ =>
        eval i1 env >>= fun x => standAt i1.pos >>= fun _ => foldedSetIterable i1 env x >>= fun x => (holding [x] (pyIter x)) >>= fun it1 => runOwn (.compStart (two elt t0 i0 t1 i1 scope pos) 1 it1 acc env) env >>= fun _ =>
          again (.compLoop (two elt t0 i0 t1 i1 scope pos) 0 it acc env)) := by rfl
theorem compTurn_two1 (elt t0 i0 t1 i1 : PySem.Expr) (scope : Scope) (pos : Pos) (it acc : Value) (env : Env) :
    compTurn (two elt t0 i0 t1 i1 scope pos) 1 it acc env = (standAt i1.pos >>= fun _ => pyNext it >>= fun r => match r with
      | none => pure (.done .next)
      | some v => letOwnedTupleGo t1 it v >>= fun _ => assign t1 env v >>= fun _ =>
        (eval elt env >>= fun x => call (.builtin "list.append") [acc, x] >>= fun _ => pure ()) >>= fun _ =>
          again (.compLoop (two elt t0 i0 t1 i1 scope pos) 1 it acc env)) := by rfl
theorem o_two0 {elt t0 i0 t1 i1 : PySem.Expr} {scope : Scope} {pos : Pos} {it acc : Value} {R : Result → Shared → Prop} {s : Shared} (I : Nat → Shared → Prop) (hf : ∀ x, foldedSetIterable i1 env x = pure x)
    (turn : ∀ n s, I n s → wpAny (model P0 w) A (pyNext it) (fun r s₁ => match r with
      | none => R (.ok .next) s₁
      | some v => wpAny (model P0 w) A (letOwnedTupleGo t0 it v) (fun _ s₁' => wpAny (model P0 w) A (assign t0 env v) (fun _ s₂ => wpAny (model P0 w) A (eval i1 env) (fun x s₃ => wpAny (model P0 w) A (pyIter x) (fun it1 s₄ =>
          codeAny (model P0 w) A (.compStart (two elt t0 i0 t1 i1 scope pos) 1 it1 acc env) (fun r s' => match r with | .ok _ => ∃ m, m < n ∧ I m s' | .error e => cameBackBy (model P0 w) A env (notedBy (model P0 w) A env fun e s' => R (.error e) s') e s') s₄)
          (notedBy (model P0 w) A env fun e s' => R (.error e) s') s₃) (notedBy (model P0 w) A env fun e s' => R (.error e) s') s₂) (notedBy (model P0 w) A env fun e s' => R (.error e) s') s₁') (notedBy (model P0 w) A env fun e s' => R (.error e) s') s₁) (notedBy (model P0 w) A env fun e s' => R (.error e) s') s)
    (n : Nat) (h : I n s) :
    codeAny (model P0 w) A (.compLoop (two elt t0 i0 t1 i1 scope pos) 0 it acc env) R s := by
  refine codeAny_loop rfl I (fun n s hI => ?_) n h
  show wpAny _ _ ((compTurn (two elt t0 i0 t1 i1 scope pos) 0 it acc env).onRaise (fun x => do noteFrame x env; theTreesLotGoes x)) _ _ s
  refine wpAny_noted ?_
  rw [compTurn_two0]
  refine wpAny_bind (wpAny_standAt (wpAny_bind (wpAny_mono (turn n s hI) (fun r s₁ h₁ => ?_) fun _ _ h' => h')))
  cases r with
  | none => exact wpAny_pure h₁
  | some v =>
    refine wpAny_bind (wpAny_mono h₁ (fun _ s₁' h₁' => ?_) fun _ _ h' => h')
    refine wpAny_bind (wpAny_mono h₁' (fun _ s₂ h₂ => ?_) fun _ _ h' => h')
    refine wpAny_bind (wpAny_mono h₂ (fun x s₃ h₃ => ?_) fun _ _ h' => h')
    refine wpAny_bind (wpAny_standAt (wpAny_bind (wpAny_of_eq (hf x) ?_)))
    refine wpAny_bind (wpAny_holding (wpAny_mono h₃ (fun it1 s₄ h₄ => ?_) fun _ _ h' => h'))
    exact wpAny_bind (wpAny_runOwn (Q := fun _ s' => wpAny (model P0 w) A (again (.compLoop (two elt t0 i0 t1 i1 scope pos) 0 it acc env)) _ _ s') (codeAny_mono h₄ fun r s' hr => by
      cases r with
      | ok f => exact wpAny_pure ⟨rfl, hr⟩
      | error e => exact hr))
theorem o_two1 {elt t0 i0 t1 i1 : PySem.Expr} {scope : Scope} {pos : Pos} {it acc : Value} {R : Result → Shared → Prop} {s : Shared} (I : Nat → Shared → Prop)
    (turn : ∀ n s, I n s → wpAny (model P0 w) A (pyNext it) (fun r s₁ => match r with
      | none => R (.ok .next) s₁
      | some v => wpAny (model P0 w) A (letOwnedTupleGo t1 it v) (fun _ s₁' => wpAny (model P0 w) A (assign t1 env v) (fun _ s₂ => wpAny (model P0 w) A (eval elt env) (fun x s₃ =>
          wpAny (model P0 w) A (call (.builtin "list.append") [acc, x]) (fun _ s₄ => ∃ m, m < n ∧ I m s₄) (notedBy (model P0 w) A env fun e s' => R (.error e) s') s₃)
          (notedBy (model P0 w) A env fun e s' => R (.error e) s') s₂) (notedBy (model P0 w) A env fun e s' => R (.error e) s') s₁') (notedBy (model P0 w) A env fun e s' => R (.error e) s') s₁) (notedBy (model P0 w) A env fun e s' => R (.error e) s') s)
    (n : Nat) (h : I n s) :
    codeAny (model P0 w) A (.compLoop (two elt t0 i0 t1 i1 scope pos) 1 it acc env) R s := by
  refine codeAny_loop rfl I (fun n s hI => ?_) n h
  show wpAny _ _ ((compTurn (two elt t0 i0 t1 i1 scope pos) 1 it acc env).onRaise (fun x => do noteFrame x env; theTreesLotGoes x)) _ _ s
  refine wpAny_noted ?_
  rw [compTurn_two1]
  refine wpAny_bind (wpAny_standAt (wpAny_bind (wpAny_mono (turn n s hI) (fun r s₁ h₁ => ?_) fun _ _ h' => h')))
  cases r with
  | none => exact wpAny_pure h₁
  | some v =>
    refine wpAny_bind (wpAny_mono h₁ (fun _ s₁' h₁' => ?_) fun _ _ h' => h')
    exact wpAny_bind (wpAny_mono h₁' (fun _ s₂ h₂ => wpAny_bind (wpAny_bind (wpAny_mono h₂ (fun x s₃ h₃ => wpAny_bind (wpAny_mono h₃
      (fun _ s₄ h₄ => wpAny_pure (wpAny_pure ⟨rfl, h₄⟩)) fun _ _ h' => h')) fun _ _ h' => h'))) fun _ _ h' => h')
theorem o_startLst1 {elt t0 i0 t1 i1 : PySem.Expr} {scope : Scope} {pos : Pos} {it t : Addr} {o : Obj} {i : Nat} {acc : Value} {R : Result → Shared → Prop} (D : Led b L al h μ) (hm : (it, o) ∈ μ) (ho : LstItO o t i)
    (k : codeAny (model P0 w) A (.compLoop (two elt t0 i0 t1 i1 scope pos) 1 (.ref it) acc env) R ⟨h, G, Dr, tk, O⟩) :
    codeAny (model P0 w) A (.compStart (two elt t0 i0 t1 i1 scope pos) 1 (.ref it) acc env) R ⟨h, G, Dr, tk, O⟩ := by
  refine codeAny_of_tree ?_
  show wpAny _ _ ((compStart (two elt t0 i0 t1 i1 scope pos) 1 (.ref it) acc env).onRaise (fun x => do noteFrame x env; standAt theWindowsPlace)) _ _ _
  refine wpAny_notedAt ?_
  unfold compStart
  show wpAny _ _ (ask >>= _) _ _ _
  refine wpAny_bind (wpAny_askSetting (wpAny_ite ?_))
  have hp : wpAny (model P0 w) A (pyIter (.ref it)) (fun it' s' => codeAny (model P0 w) A (.compLoop (two elt t0 i0 t1 i1 scope pos) 1 it' acc env) R s') (notedBy (model P0 w) A env fun x s' => R (.error x) s') ⟨h, G, Dr, tk, O⟩ :=
    wpAny_pyIter_listiter (s := ⟨h, G, Dr, tk, O⟩) (it := it) (l := t) (i := i) ⟨o, D.get hm, ho⟩ k
  split
  · first
      | exact wpAny_bind (wpAny_pure (wpAny_pure (And.intro rfl k)))
      | exact wpAny_pure (And.intro rfl k)
  · first
      | exact wpAny_bind (wpAny_rule (wpAny_bind (wpAny_standAt (wpAny_bind (wpAny_mono hp (fun it' s' h' => wpAny_pure (And.intro rfl h')) fun _ _ x => x)))))
      | (refine wpAny_bind (wpAny_rule ?_); show wpAny _ _ (standAt i1.pos >>= _) _ _ _; exact wpAny_bind (wpAny_standAt (wpAny_bind (wpAny_mono hp (fun it' s' h' => wpAny_pure (And.intro rfl h')) fun _ _ x => x))))
/-! a comprehension whose list is stored -/
theorem o_assignComp {elt target iter : PySem.Expr} {ifs : List PySem.Expr} {rest : List Comprehension} {scope : Scope} {pos spos py : Pos} {y : Str} {cl : List (Str × Addr)} {Q : Flow → Shared → Prop} {s : Shared}
    (hsw : swapsWith (.ListComp elt (⟨target, iter, ifs, 0⟩ :: rest) scope pos) (some (.Name y py)) spos.line env = pure true)
    (hclos : closureFor scope env = pure cl) (hkind : scope.kind = .function) (hnames : ∀ x ∈ scope.names, x.2 = .local → scope.names.lookup x.1 = some .local) (hs : ∀ x, foldedSetIterable iter env x = pure x)
    (k : wpAny (model P0 w) A (eval iter env) (fun x s₁ => wpAny (model P0 w) A (pyIter x) (fun it s₂ => wpAny (model P0 w) A (newList []) (fun acc s₃ =>
      wpAny (model P0 w) A (newFunctionEnv scope env.globals cl [] env.qual none .none (some env)) (fun cenv s₄ =>
        codeAny (model P0 w) A (.compStart (.ListComp elt (⟨target, iter, ifs, 0⟩ :: rest) scope pos) 0 it acc { cenv with scope := relabel scope env }) (compPost (model P0 w) A E (some (assign (.Name y py) env)) (fun _ s' => Q .next s') acc cenv.locals) s₄) E s₃) E s₂) E s₁) E s) :
    wpAny (model P0 w) A (exec (.Assign [.Name y py] (.ListComp elt (⟨target, iter, ifs, 0⟩ :: rest) scope pos) spos) env) Q E s := by
  rw [exec_Assign_Name_used _ _ _ _ hsw]
  refine wpAny_bind (wpAny_standAt (wpAny_bind ?_))
  show wpAny _ A (do let _ ← comprehension (.ListComp elt (⟨target, iter, ifs, 0⟩ :: rest) scope pos) scope env _ (newList []) false (eval iter env) (some (assign (.Name y py) env))) _ _ s
  exact wpAny_bind (wpAny_mono (wpAny_comprehension_free (use := some (assign (.Name y py) env)) (Q := fun _ s' => Q .next s') rfl hs hclos hkind hnames k) (fun _ s' hq => wpAny_pure (wpAny_pure hq)) fun _ _ e => e)
theorem o_compEndUse {C Z : Addr} {oL : Obj} {acc : Value} {f : Flow} {y : Str} {py : Pos} {Q : Value → Shared → Prop} (U : Outer b L al oL) (D : Led b C al' h ((L, oL) :: μ')) (hz : Z = C) (hy : y ∉ al.map (·.1)) (hL : env.locals = L) (hk : env.scope.kind = .function) (hl : env.kindOf y = some .local)
    (k : ∀ h' tk', Led b L (al ++ [(y, acc)]) h' μ' → Q .none ⟨h', G, Dr, tk', O⟩) :
    compPost (model P0 w) A E (some (assign (.Name y py) env)) Q acc Z (.ok f) ⟨h, G, Dr, tk, O⟩ := by
  subst hz
  obtain ⟨m, F, _⟩ := D.loc
  obtain ⟨oC, es, ep, hC, u1, u2, u3⟩ := F.ns
  have zL := D.nw (L, oL) (.head _)
  have D2 := (D.back' U).add hC (Ne.symm zL.2.1) (by
    cases q : b.get? Z with
    | none => rfl
    | some o => exact absurd (Heap.lt_size q) (Nat.not_lt.mpr F.above)) (fun q => by
    obtain ⟨p, hp, e⟩ := List.mem_map.mp q
    exact (D.nw p (.tail _ hp)).2.1 e)
  show wpAny _ A (assign (.Name y py) env acc) _ _ _
  refine wpAny_assign_Name (o_stN D2 hy (fun h' tk' D3 => ⟨m, ⟨oC, es, ep, D3.get (.head _), u1, u2, u3⟩, fun h'' hs => ?_⟩) hL hk hl)
  exact k h'' tk' (D3.rm .head hs.extBut)
/-! an item of a list -/
theorem o_itemL {l : Addr} {its : Array Value} {n : Nat} {i : Int} {t : Tok} {x : Value} {value slice : PySem.Expr} {Q : Value → Shared → Prop} (D : Led b L al h μ) (hm : (l, listOf its n) ∈ μ) (h0 : 0 ≤ i) (h1 : i < 2 ^ 63) (hx : its[i.toNat]? = some x) (k : Q x ⟨h, G, Dr, tk, O⟩)
    (hs : subscripted slice false (.ref l) (.int i t) = operate [.ref l, .int i t] (getItem (.ref l) (.int i t))) :
    wpAny (model P0 w) A (subscriptTail value slice (.ref l) (.int i t)) Q E ⟨h, G, Dr, tk, O⟩ :=
  tail_any (s := ⟨h, G, Dr, tk, O⟩) (T := "list") ⟨_, D.get hm, rfl⟩ slot_list_getitem.lookup (wpAny_getItem_list (s := ⟨h, G, Dr, tk, O⟩) ⟨_, D.get hm, rfl, _, rfl⟩ h0 h1 hx k) hs
end
end Mine
end

section
open PySem PySem.W PyProof.Rows PySem.Spec PySem.Calls PyProof.V
set_option Elab.async false
set_option maxRecDepth 100000
set_option maxHeartbeats 4000000
set_option linter.unusedSimpArgs false
namespace Mine
def IsI (n : Int) (v : Value) : Prop := ∃ t, v = .int n t
def IsS (x : Str) (v : Value) : Prop := ∃ t, v = .str x t
def IsB (c : Bool) (v : Value) : Prop := v = .bool c
/-- what an expression of names, figures and texts comes to: one derivation, no turn of the state in it -/
def Ev (w : World) (A : Around) (E : Value → Shared → Prop) (env : Env) (h : Heap) (G : Array GenState) (Dr : Drawn) (O : OsState) (e : Expr) (P : Value → Prop) : Prop :=
  ∀ (Q : Value → Shared → Prop) (tk : Nat), (∀ v tk', P v → Q v ⟨h, G, Dr, tk', O⟩) → wpAny (model P0 w) A (eval e env) Q E ⟨h, G, Dr, tk, O⟩
structure EnvOk (env : Env) (L : Addr) : Prop where
  hL : env.locals = L
  hk : env.scope.kind = .function
  hg : env.globals = mainGlobals
  hb : env.builtins = builtinsNs
section
variable {w : World} {A : Around} {b h : Heap} {L a : Addr} {al al' : List (Str × Value)} {μ μ' : List (Addr × Obj)} {mg mb : Str → Option Value} {G : Array GenState} {Dr : Drawn} {tk : Nat} {O : OsState} {E : Value → Shared → Prop} {env : Env} {Q : Value → Shared → Prop}
theorem len_global : nsIn (KK w) mainGlobals (Str.ofString "len") = some none := by show nsIn (hd.heap_39 _) _ _ = _; k_is
theorem len_boot : bootBuiltins (Str.ofString "len") = some (.builtin "len") := by boot_fact
namespace Ev
section
variable {x : Str} {pos : Pos} {n : Nat} {l r : Expr} {i j : Int} {t : Tok}
theorem nmI (D : Led b L al h μ) (N : EnvOk env L) (m : (x, .int i t) ∈ al) (hk : env.kindOf x = some .local) (hd : (x == ("__debug__" : Str)) = false) : Ev w A E env h G Dr O (.Name x pos) (IsI i) := fun _ _ k => o_ld D m (k _ _ ⟨_, rfl⟩) N.hL N.hk hk hd
theorem nmS {y : Str} (D : Led b L al h μ) (N : EnvOk env L) (m : (x, .str y t) ∈ al) (hk : env.kindOf x = some .local) (hd : (x == ("__debug__" : Str)) = false) : Ev w A E env h G Dr O (.Name x pos) (IsS y) := fun _ _ k => o_ld D m (k _ _ ⟨_, rfl⟩) N.hL N.hk hk hd
theorem nmC {c : Addr} {o : Obj} (D : Led b L al h μ) (N : EnvOk env L) (hk : env.kindOf x = some .cell) (hc : env.cells.lookup x = some c) (m : (c, o) ∈ μ) (ho : CellO o (some (.int i t))) (hd : (x == ("__debug__" : Str)) = false) : Ev w A E env h G Dr O (.Name x pos) (IsI i) := fun _ _ k => o_ldCell D N.hk hk hc m ho (k _ _ ⟨_, rfl⟩) hd
theorem nmF {c : Addr} {o : Obj} (D : Led b L al h μ) (N : EnvOk env L) (hk : env.kindOf x = some .free) (hc : env.cells.lookup x = some c) (m : (c, o) ∈ μ) (ho : CellO o (some (.int i t))) (hd : (x == ("__debug__" : Str)) = false) (hn : (x == ("__classdict__" : Str)) = false) : Ev w A E env h G Dr O (.Name x pos) (IsI i) := fun _ _ k => o_ldFree D N.hk hk hc m ho (k _ _ ⟨_, rfl⟩) hd hn
theorem int : Ev w A E env h G Dr O (.Constant (.int i) n pos) (IsI i) := fun _ _ k => o_int fun _ _ => k _ _ ⟨_, rfl⟩
theorem str : Ev w A E env h G Dr O (.Constant (.str x) n pos) (IsS x) := fun _ _ k => o_str fun _ _ => k _ _ ⟨_, rfl⟩
theorem bin {op : Operator} {z : Int} (vl : Ev w A E env h G Dr O l (IsI i)) (vr : Ev w A E env h G Dr O r (IsI j)) (o : ∀ (Q : Value → Shared → Prop) t u tk, (∀ t tk', Q (.int z t) ⟨h, G, Dr, tk', O⟩) → wpAny (model P0 w) A (binaryOp op (.int i t) (.int j u)) Q E ⟨h, G, Dr, tk, O⟩) : Ev w A E env h G Dr O (.BinOp l op r pos) (IsI z) := fun _ _ k =>
  wpAny_BinOp (vl _ _ fun _ _ ⟨_, e⟩ => vr _ _ fun _ _ ⟨_, e'⟩ => e ▸ e' ▸ o _ _ _ _ fun _ _ => k _ _ ⟨_, rfl⟩)
theorem add (vl : Ev w A E env h G Dr O l (IsI i)) (vr : Ev w A E env h G Dr O r (IsI j)) : Ev w A E env h G Dr O (.BinOp l .Add r pos) (IsI (i + j)) := bin vl vr fun _ _ _ _ k => o_add k
theorem sub (vl : Ev w A E env h G Dr O l (IsI i)) (vr : Ev w A E env h G Dr O r (IsI j)) : Ev w A E env h G Dr O (.BinOp l .Sub r pos) (IsI (i - j)) := bin vl vr fun _ _ _ _ k => o_sub k
theorem and (vl : Ev w A E env h G Dr O l (IsI i)) (vr : Ev w A E env h G Dr O r (IsI j)) : Ev w A E env h G Dr O (.BinOp l .BitAnd r pos) (IsI (Builtin.bitAnd i j)) := bin vl vr fun _ _ _ _ k => o_and k
theorem or (vl : Ev w A E env h G Dr O l (IsI i)) (vr : Ev w A E env h G Dr O r (IsI j)) : Ev w A E env h G Dr O (.BinOp l .BitOr r pos) (IsI (Builtin.bitOr i j)) := bin vl vr fun _ _ _ _ k => o_or k
theorem mod (vl : Ev w A E env h G Dr O l (IsI i)) (vr : Ev w A E env h G Dr O r (IsI j)) (h1 : j ≠ 0) : Ev w A E env h G Dr O (.BinOp l .Mod r pos) (IsI (i.fmod j)) := bin vl vr fun _ _ _ _ k => o_mod h1 k
theorem div (vl : Ev w A E env h G Dr O l (IsI i)) (vr : Ev w A E env h G Dr O r (IsI j)) (h1 : j ≠ 0 ∧ j.natAbs < 1073741824) : Ev w A E env h G Dr O (.BinOp l .FloorDiv r pos) (IsI (i.fdiv j)) := bin vl vr fun _ _ _ _ k => o_div h1.1 h1.2 k
theorem mul (vl : Ev w A E env h G Dr O l (IsI i)) (vr : Ev w A E env h G Dr O r (IsI j)) (h1 : IntMulOk i j) : Ev w A E env h G Dr O (.BinOp l .Mult r pos) (IsI (i * j)) := bin vl vr fun _ _ _ _ k => o_mul h1 k
theorem pow {z : Int} (vl : Ev w A E env h G Dr O l (IsI i)) (vr : Ev w A E env h G Dr O r (IsI j)) (h1 : 0 ≤ j ∧ j ≤ 1000000 ∧ i.natAbs < 2 ^ 64) (hz : i ^ j.toNat = z) : Ev w A E env h G Dr O (.BinOp l .Pow r pos) (IsI z) := hz ▸ bin vl vr fun _ _ _ _ k => o_pow h1.1 h1.2.1 h1.2.2 k
theorem shl (vl : Ev w A E env h G Dr O l (IsI i)) (vr : Ev w A E env h G Dr O r (IsI j)) (h1 : 0 ≤ j ∧ j ≤ 1000) (h2 : i.natAbs < 2 ^ 64) : Ev w A E env h G Dr O (.BinOp l .LShift r pos) (IsI (i * 2 ^ j.toNat)) := bin vl vr fun _ _ _ _ k => o_shl h1.1 h1.2 h2 k
theorem shr (vl : Ev w A E env h G Dr O l (IsI i)) (vr : Ev w A E env h G Dr O r (IsI j)) (h1 : 0 ≤ j) : Ev w A E env h G Dr O (.BinOp l .RShift r pos) (IsI (i.fdiv (2 ^ j.toNat))) := bin vl vr fun _ _ _ _ k => o_shr h1 k
theorem neg (vl : Ev w A E env h G Dr O l (IsI i)) : Ev w A E env h G Dr O (.UnaryOp .USub l pos) (IsI (-i)) := fun _ _ k => UnaryOp_ (vl _ _ fun _ _ ⟨_, e⟩ => e ▸ o_neg fun _ _ => k _ _ ⟨_, rfl⟩)
theorem cat {x y : Str} (vl : Ev w A E env h G Dr O l (IsS x)) (vr : Ev w A E env h G Dr O r (IsS y)) (hz : x.length + y.length ≤ sizeLine) : Ev w A E env h G Dr O (.BinOp l .Add r pos) (IsS (x ++ y)) := fun _ _ k =>
  wpAny_BinOp (vl _ _ fun _ _ ⟨_, e⟩ => vr _ _ fun _ _ ⟨_, e'⟩ => e ▸ e' ▸ o_cat hz fun _ _ => k _ _ ⟨_, rfl⟩)
theorem len {p₁ p₂ : Pos} {l : Addr} {vs : List Value} (B : Base w mg mb b) (D : Led b L al h μ) (N : EnvOk env L) (m : (x, .ref l) ∈ al) (hm : (l, listOf vs.toArray n) ∈ μ) (hz : vs.length ≤ 100000) (hk : env.kindOf x = some .local) (hd : (x == ("__debug__" : Str)) = false) (hg : env.kindOf (Str.ofString "len") = some .globalImplicit) :
    Ev w A E env h G Dr O (.Call (.Name (Str.ofString "len") p₁) [.Name x p₂] [] pos) (IsI vs.length) := fun _ _ k =>
  Call_ (o_boot B D len_global len_boot (by decide) (callWith_method1 (first := []) (spliced_more (o_ld D m (spliced_none (o_lenL D hm hz fun _ _ => k _ _ ⟨_, rfl⟩)) N.hL N.hk hk hd) rfl) rfl rfl) N.hg N.hb N.hk hg (by decide)) rfl
end
end Ev
/-- a comparison of two figures -/
def Cm (w : World) (A : Around) (E : Value → Shared → Prop) (env : Env) (h : Heap) (G : Array GenState) (Dr : Drawn) (O : OsState) (e : Expr) (c : Bool) : Prop :=
  ∃ l op r pos, e = .Compare l [op] [r] pos ∧ behindInMarks op r = false ∧ ∀ (Q : Value → Shared → Prop) (tk : Nat), (∀ tk', Q (.bool c) ⟨h, G, Dr, tk', O⟩) →
    wpAny (model P0 w) A (eval l env) (fun a s₁ => wpAny (model P0 w) A (eval r env) (fun b s₂ => wpAny (model P0 w) A (compareOp op a b) Q E s₂) E s₁) E ⟨h, G, Dr, tk, O⟩
namespace Cm
section
variable {pos : Pos} {l r : Expr} {i j : Int}
theorem of {op : CmpOp} {c : Bool} (vl : Ev w A E env h G Dr O l (IsI i)) (vr : Ev w A E env h G Dr O r (IsI j)) (hm : behindInMarks op r = false) (o : ∀ (Q : Value → Shared → Prop) t u tk, Q (.bool c) ⟨h, G, Dr, tk, O⟩ → wpAny (model P0 w) A (compareOp op (.int i t) (.int j u)) Q E ⟨h, G, Dr, tk, O⟩) : Cm w A E env h G Dr O (.Compare l [op] [r] pos) c :=
  ⟨l, op, r, pos, rfl, hm, fun _ _ k => vl _ _ fun _ _ ⟨_, e⟩ => vr _ _ fun _ _ ⟨_, e'⟩ => e ▸ e' ▸ o _ _ _ _ (k _)⟩
theorem eq (vl : Ev w A E env h G Dr O l (IsI i)) (vr : Ev w A E env h G Dr O r (IsI j)) (hm : behindInMarks .Eq r = false) : Cm w A E env h G Dr O (.Compare l [.Eq] [r] pos) (i == j) := of vl vr hm fun _ _ _ _ k => o_eq k
theorem lt (vl : Ev w A E env h G Dr O l (IsI i)) (vr : Ev w A E env h G Dr O r (IsI j)) (hm : behindInMarks .Lt r = false) : Cm w A E env h G Dr O (.Compare l [.Lt] [r] pos) (decide (i < j)) := of vl vr hm fun _ _ _ _ k => o_lt k
theorem gt (vl : Ev w A E env h G Dr O l (IsI i)) (vr : Ev w A E env h G Dr O r (IsI j)) (hm : behindInMarks .Gt r = false) : Cm w A E env h G Dr O (.Compare l [.Gt] [r] pos) (decide (j < i)) := of vl vr hm fun _ _ _ _ k => o_gt k
theorem ge (vl : Ev w A E env h G Dr O l (IsI i)) (vr : Ev w A E env h G Dr O r (IsI j)) (hm : behindInMarks .GtE r = false) : Cm w A E env h G Dr O (.Compare l [.GtE] [r] pos) (decide (j ≤ i)) := of vl vr hm fun _ _ _ _ k => o_ge k
theorem test {e : Expr} {c : Bool} {whole : Sem Value} {Q : Bool → Shared → Prop} (V : Cm w A E env h G Dr O e c) (k : ∀ tk', Q c ⟨h, G, Dr, tk', O⟩) : wpAny (model P0 w) A (isTrue e env whole) Q E ⟨h, G, Dr, tk, O⟩ := by
  obtain ⟨l, op, r, pos, rfl, hm, o⟩ := V
  exact wpAny_isTrue_Compare1 (o _ _ fun tk' => wpAny_truthy_bool (k tk')) hm
theorem ife {e e₁ e₂ : Expr} {c : Bool} {x y : Str} (V : Cm w A E env h G Dr O e c) (v₁ : Ev w A E env h G Dr O e₁ (IsS x)) (v₂ : Ev w A E env h G Dr O e₂ (IsS y)) : Ev w A E env h G Dr O (.IfExp e e₁ e₂ pos) (IsS (if c = true then x else y)) := fun _ _ k =>
  IfExp_ (V.test fun _ => match c, k with | true, k => v₁ _ _ k | false, k => v₂ _ _ k)
end
end Cm
theorem o_evI {e : Expr} {n : Int} (V : Ev w A E env h G Dr O e (IsI n)) (k : ∀ t tk', Q (.int n t) ⟨h, G, Dr, tk', O⟩) : wpAny (model P0 w) A (eval e env) Q E ⟨h, G, Dr, tk, O⟩ := V _ _ fun _ tk' ⟨t, e⟩ => e ▸ k t tk'
theorem o_evS {e : Expr} {n : Str} (V : Ev w A E env h G Dr O e (IsS n)) (k : ∀ t tk', Q (.str n t) ⟨h, G, Dr, tk', O⟩) : wpAny (model P0 w) A (eval e env) Q E ⟨h, G, Dr, tk, O⟩ := V _ _ fun _ tk' ⟨t, e⟩ => e ▸ k t tk'
section
variable {e : Expr} {x : Str} {px pos : Pos} {rest : List Stmt} {Q : Flow → Shared → Prop} {f : Value → List (Str × Value)}
theorem o_asI {n : Int} (D : Led b L al h μ) (N : EnvOk env L) (V : Ev w A E env h G Dr O e (IsI n)) (U : ∀ v, Us x v al (f v)) (k : ∀ t h' tk', Led b L (f (.int n t)) h' μ → wpAny (model P0 w) A (execs rest env) Q E ⟨h', G, Dr, tk', O⟩) (hl : env.kindOf x = some .local) (hs : swapsWith e (some (.Name x px)) pos.line env = pure false) :
    wpAny (model P0 w) A (execs (.Assign [.Name x px] e pos :: rest) env) Q E ⟨h, G, Dr, tk, O⟩ :=
  wpAny_execs_cons (wpAny_Assign_Name (o_evI V fun t _ => o_st D (U _) (fun h' tk' D' => k t h' tk' D') N.hL N.hk hl) hs)
theorem o_asS {n : Str} (D : Led b L al h μ) (N : EnvOk env L) (V : Ev w A E env h G Dr O e (IsS n)) (U : ∀ v, Us x v al (f v)) (k : ∀ t h' tk', Led b L (f (.str n t)) h' μ → wpAny (model P0 w) A (execs rest env) Q E ⟨h', G, Dr, tk', O⟩) (hl : env.kindOf x = some .local) (hs : swapsWith e (some (.Name x px)) pos.line env = pure false) :
    wpAny (model P0 w) A (execs (.Assign [.Name x px] e pos :: rest) env) Q E ⟨h, G, Dr, tk, O⟩ :=
  wpAny_execs_cons (wpAny_Assign_Name (o_evS V fun t _ => o_st D (U _) (fun h' tk' D' => k t h' tk' D') N.hL N.hk hl) hs)
theorem o_asIN {n : Int} (D : Led b L al h μ) (N : EnvOk env L) (V : Ev w A E env h G Dr O e (IsI n)) (U : x ∉ al.map (·.1)) (k : ∀ t h' tk', Led b L (al ++ [(x, .int n t)]) h' μ → wpAny (model P0 w) A (execs rest env) Q E ⟨h', G, Dr, tk', O⟩) (hl : env.kindOf x = some .local) (hs : swapsWith e (some (.Name x px)) pos.line env = pure false) :
    wpAny (model P0 w) A (execs (.Assign [.Name x px] e pos :: rest) env) Q E ⟨h, G, Dr, tk, O⟩ :=
  wpAny_execs_cons (wpAny_Assign_Name (o_evI V fun t _ => o_stN D U (fun h' tk' D' => k t h' tk' D') N.hL N.hk hl) hs)
theorem o_asSN {n : Str} (D : Led b L al h μ) (N : EnvOk env L) (V : Ev w A E env h G Dr O e (IsS n)) (U : x ∉ al.map (·.1)) (k : ∀ t h' tk', Led b L (al ++ [(x, .str n t)]) h' μ → wpAny (model P0 w) A (execs rest env) Q E ⟨h', G, Dr, tk', O⟩) (hl : env.kindOf x = some .local) (hs : swapsWith e (some (.Name x px)) pos.line env = pure false) :
    wpAny (model P0 w) A (execs (.Assign [.Name x px] e pos :: rest) env) Q E ⟨h, G, Dr, tk, O⟩ :=
  wpAny_execs_cons (wpAny_Assign_Name (o_evS V fun t _ => o_stN D U (fun h' tk' D' => k t h' tk' D') N.hL N.hk hl) hs)
end
end
end Mine
end

section
open PySem PySem.W PyProof.Rows PySem.Spec PySem.Calls
set_option Elab.async false
set_option maxRecDepth 100000
set_option maxHeartbeats 4000000
set_option linter.unusedSimpArgs false
namespace Mine
/-- the sign that a table has for the mode i: by its kind (z) or by its bits -/
noncomputable def sgOf (z : Bool) (i : Int) : List (Int × Str) → Str
  | [] => match z with | true => Str.ofString "?" | false => Str.ofString "-"
  | (m, c) :: r => if Builtin.bitAnd i (match z with | true => 61440 | false => m) == m then c else sgOf z i r
def tabs : List (List (Int × Str)) := [[(40960, Str.ofString "l"), (49152, Str.ofString "s"), (32768, Str.ofString "-"), (24576, Str.ofString "b"), (16384, Str.ofString "d"), (8192, Str.ofString "c"), (4096, Str.ofString "p")],
  [(256, Str.ofString "r")], [(128, Str.ofString "w")], [(2112, Str.ofString "s"), (2048, Str.ofString "S"), (64, Str.ofString "x")],
  [(32, Str.ofString "r")], [(16, Str.ofString "w")], [(1032, Str.ofString "s"), (1024, Str.ofString "S"), (8, Str.ofString "x")],
  [(4, Str.ofString "r")], [(2, Str.ofString "w")], [(513, Str.ofString "t"), (512, Str.ofString "T"), (1, Str.ofString "x")]]
noncomputable def sg (n : Nat) (i : Int) : Str := sgOf ((n : Int) == 0) i (tabs.getD n [])
noncomputable def sgs (n : Nat) (i : Int) : List Str := (List.range n).map fun j => sg j i
theorem sgs_succ {n : Nat} {i : Int} {its : Array Value} {x : Str} {t : Tok} (h : StrsAre its.toList (sgs n i)) (e : sg n i = x) : StrsAre (its.push (.str x t)).toList (sgs (n + 1) i) := by
  subst e
  rw [Array.toList_push]
  unfold sgs at h ⊢
  rw [List.range_succ, List.map_append]
  generalize its.toList = l at h
  generalize (List.range n).map (fun j => sg j i) = m at h
  induction h with
  | nil => exact .cons _ _ .nil
  | cons y t _ ih => exact .cons _ _ ih

theorem sgOf_all (P : Str → Prop) (hq : P (Str.ofString "?")) (hm : P (Str.ofString "-")) (z : Bool) (i : Int) : ∀ es : List (Int × Str), (∀ x ∈ es, P x.2) → P (sgOf z i es)
  | [], _ => match z with | true => hq | false => hm
  | x :: r, h => by
    show P (if _ = true then x.2 else sgOf z i r)
    exact iteInduction (motive := P) (fun _ => h x (.head _)) fun _ => sgOf_all P hq hm z i r fun y hy => h y (.tail _ hy)
theorem sg_all (P : Str → Prop) (h : ∀ x ∈ [Str.ofString "?", Str.ofString "-", Str.ofString "l", Str.ofString "s", Str.ofString "b", Str.ofString "d", Str.ofString "c", Str.ofString "p", Str.ofString "r", Str.ofString "w", Str.ofString "S", Str.ofString "x", Str.ofString "t", Str.ofString "T"], P x) (n : Nat) (i : Int) : P (sg n i) := by
  refine sgOf_all P (h _ (by decide +kernel)) (h _ (by decide +kernel)) _ i _ fun x hx => h _ ?_
  have hd : ∀ es ∈ tabs, ∀ x ∈ es, x.2 ∈ [Str.ofString "?", Str.ofString "-", Str.ofString "l", Str.ofString "s", Str.ofString "b", Str.ofString "d", Str.ofString "c", Str.ofString "p", Str.ofString "r", Str.ofString "w", Str.ofString "S", Str.ofString "x", Str.ofString "t", Str.ofString "T"] := by decide +kernel
  rw [List.getD_eq_getElem?_getD] at hx
  cases e : tabs[n]? with
  | none => rw [e] at hx; cases hx
  | some es => rw [e] at hx; exact hd es (List.mem_of_getElem? e) x hx
theorem sg_len (n : Nat) (i : Int) : (sg n i).length ≤ 1 := sg_all (fun x => x.length ≤ 1) (by decide +kernel) n i
theorem sgs_len (n : Nat) (i : Int) : ((sgs n i).map (·.length)).sum ≤ n := by
  unfold sgs
  induction n with
  | zero => exact Nat.le_refl _
  | succ n ih =>
    rw [List.range_succ, List.map_append, List.map_append, List.sum_append]
    have := sg_len n i
    simp only [List.map_cons, List.map_nil, List.sum_cons, List.sum_nil]
    omega
/-- the entries of a table of signs, as the base heap has them -/
inductive Ents (b : Heap) : List Value → List (Int × Str) → Prop
  | nil : Ents b [] []
  | cons {c : Addr} {i : Int} {x : Str} {t u : Tok} {vs : List Value} {es : List (Int × Str)} : IsTup b c #[.int i t, .str x u] → Ents b vs es → Ents b (.ref c :: vs) ((i, x) :: es)
def TabB (b : Heap) (a : Addr) (es : List (Int × Str)) : Prop := ∃ vs : List Value, IsTup b a vs.toArray ∧ Ents b vs es
inductive Tabs (b : Heap) : List Value → List (List (Int × Str)) → Prop
  | nil : Tabs b [] []
  | cons {a : Addr} {es : List (Int × Str)} {vs : List Value} {ts : List (List (Int × Str))} : TabB b a es → Tabs b vs ts → Tabs b (.ref a :: vs) (es :: ts)
theorem Tabs.pick {b : Heap} {vs : List Value} {ts : List (List (Int × Str))} (T : Tabs b vs ts) : ∀ (n : Nat) (es : List (Int × Str)), ts[n]? = some es → ∃ a, vs[n]? = some (Value.ref a) ∧ TabB b a es := by
  induction T with
  | nil => intro n es h; cases h
  | cons t _ ih =>
    intro n es h
    cases n with
    | zero => cases h; exact ⟨_, rfl, t⟩
    | succ n => exact ih n es h
theorem Tabs.len {b : Heap} {vs : List Value} {ts : List (List (Int × Str))} (T : Tabs b vs ts) : vs.length = ts.length := by
  induction T with
  | nil => rfl
  | cons _ _ ih => exact congrArg (· + 1) ih
theorem sg_tab (i : Int) (n : Nat) (h : n < 10) : ∃ es, tabs[n]? = some es ∧ sg n i = sgOf ((n : Int) == 0) i es := by
  have hz : n < tabs.length := h
  refine ⟨tabs[n], List.getElem?_eq_getElem hz, ?_⟩
  unfold sg
  rw [List.getD_eq_getElem?_getD, List.getElem?_eq_getElem hz]
  rfl
theorem tupBb {w : World} {mg mb : Str → Option Value} {b : Heap} {a : Addr} {l : List Value} {n : Nat} {dd : Option Addr} {sl : Array (Option Value)} (B : Base w mg mb b) (e : (KK w).lookup a = some ⟨.type "tuple", dd, .seq l.toArray n, sl⟩) : IsTup b a l.toArray :=
  tupK B.X e
theorem tabs_top {w : World} {mg mb : Str → Option Value} {b : Heap} (B : Base w mg mb b) : ∃ vs : List Value, IsTup b 105 vs.toArray ∧ Tabs b vs tabs := by
  refine ⟨_, tupBb B (by show List.lookup _ (hd.heap_39 _) = _; k_is), ?_⟩
  repeat (first
    | exact Tabs.nil
    | exact Ents.nil
    | refine Tabs.cons ⟨_, tupBb B (by show List.lookup _ (hd.heap_39 _) = _; k_is), ?_⟩ ?_
    | refine Ents.cons (tupBb B (by show List.lookup _ (hd.heap_39 _) = _; k_is)) ?_)
  all_goals (repeat (first
    | exact Tabs.nil
    | exact Ents.nil
    | refine Tabs.cons ⟨_, tupBb B (by show List.lookup _ (hd.heap_39 _) = _; k_is), ?_⟩ ?_
    | refine Ents.cons (tupBb B (by show List.lookup _ (hd.heap_39 _) = _; k_is)) ?_))
theorem Led.neB {b h : Heap} {L : Addr} {al : List (Str × Value)} {μ : List (Addr × Obj)} (D : Led b L al h μ) {t e : Addr} {o : Obj} {its : Array Value} (hm : (e, o) ∈ μ) (ht : IsTup b t its) : t ≠ e := by
  rintro rfl
  obtain ⟨ot, hot, _⟩ := ht
  have := (D.nw _ hm).2.2
  rw [hot] at this
  cases this
theorem Led.tup {b h : Heap} {L : Addr} {al : List (Str × Value)} {μ : List (Addr × Obj)} (D : Led b L al h μ) {t : Addr} {its : Array Value} (ht : IsTup b t its) : IsTup h t its := ht.keeps fun _ _ e => D.keep e
end Mine
end

section
open PySem PySem.W PyProof.Rows PySem.Spec PySem.Calls PyProof.V
set_option Elab.async false
set_option maxRecDepth 100000
set_option maxHeartbeats 4000000
set_option linter.unusedSimpArgs false
namespace Mine
def tyS (n : Int) : Str := if n = 10 then Str.ofString "l" else if n = 12 then Str.ofString "s" else if n = 8 then Str.ofString "-" else if n = 6 then Str.ofString "b" else if n = 4 then Str.ofString "d" else if n = 2 then Str.ofString "c" else if n = 1 then Str.ofString "p" else Str.ofString "?"
def part (d8 d2 : Int) (more : Str) (i : Int) (T : Str) : Str :=
  ((T ++ (if decide (3 < (i.fdiv d8).fmod 8) then Str.ofString "r" else Str.ofString "-")) ++ (if (((i.fdiv d8).fmod 8).fdiv 2).fmod 2 == 1 then Str.ofString "w" else Str.ofString "-")) ++
    (if ((i.fdiv 512).fdiv d2).fmod 2 == 1 then (if ((i.fdiv d8).fmod 8).fmod 2 == 1 then more else Txt.upper more) else if ((i.fdiv d8).fmod 8).fmod 2 == 1 then Str.ofString "x" else Str.ofString "-")
def lsT (i : Int) : Str := part 1 1 (Str.ofString "t") i (part 8 2 (Str.ofString "s") i (part 64 4 (Str.ofString "s") i (tyS (i.fdiv 4096))))
theorem tyS_get (n : Int) : (lookup (.int n) [(PyData.int 10, PyData.str (Str.ofString "l")), (.int 12, .str (Str.ofString "s")), (.int 8, .str (Str.ofString "-")), (.int 6, .str (Str.ofString "b")), (.int 4, .str (Str.ofString "d")), (.int 2, .str (Str.ofString "c")), (.int 1, .str (Str.ofString "p"))]).getD (.str (Str.ofString "?")) = .str (tyS n) := by
  unfold tyS
  by_cases h1 : n = 10
  · subst h1; rfl
  by_cases h2 : n = 12
  · subst h2; rfl
  by_cases h3 : n = 8
  · subst h3; rfl
  by_cases h4 : n = 6
  · subst h4; rfl
  by_cases h5 : n = 4
  · subst h5; rfl
  by_cases h6 : n = 2
  · subst h6; rfl
  by_cases h7 : n = 1
  · subst h7; rfl
  rw [if_neg h1, if_neg h2, if_neg h3, if_neg h4, if_neg h5, if_neg h6, if_neg h7]
  simp [PySem.Spec.lookup, PySem.Spec.same, Ne.symm h1, Ne.symm h2, Ne.symm h3, Ne.symm h4, Ne.symm h5, Ne.symm h6, Ne.symm h7]
end Mine
end

section
open PySem PySem.W PyProof.Rows PySem.Spec PySem.Calls PyProof.V
set_option Elab.async false
set_option maxRecDepth 100000
set_option maxHeartbeats 8000000
set_option linter.unusedSimpArgs false
namespace Mine
local macro_rules | `(tactic| walk_at "ow mem") => `(tactic| first | with_reducible exact List.mem_cons_self | ((with_reducible refine List.mem_cons_of_mem _ ?_); walk_at "ow mem") | with_reducible assumption)
local macro_rules | `(tactic| walk_at "ow up") => `(tactic| first | with_reducible exact Up.head | ((with_reducible refine' Up.tail ?x); (case x => walk_at "ow up")))
local macro_rules | `(tactic| walk_at "ow rm") => `(tactic| first | with_reducible exact Rm.head | ((with_reducible refine' Rm.tail ?x); (case x => walk_at "ow rm")))
local macro_rules | `(tactic| walk_at "ow us") => `(tactic| first | with_reducible exact Us.head | ((with_reducible refine' Us.tail ?x); (case x => walk_at "ow us")))
local macro_rules | `(tactic| walk_at "ow sub") => `(tactic| first | with_reducible exact List.Sublist.slnil | with_reducible exact List.Sublist.refl _ | ((with_reducible refine List.Sublist.cons_cons _ ?_); walk_at "ow sub") | ((with_reducible refine List.Sublist.cons _ ?_); walk_at "ow sub"))
local macro_rules | `(tactic| walk_at "ow pick") => `(tactic| first | ((with_reducible refine' Pick.cons ?x ?y); (case x => walk_at "ow rm"); (case y => walk_at "ow pick")) | ((with_reducible refine' Pick.sub ?x); (case x => walk_at "ow sub")))
local macro_rules | `(tactic| walk_at "ow a") => `(tactic| with_reducible assumption)
local macro_rules | `(tactic| walk_at "ow env") => `(tactic| first | with_reducible assumption | exact ⟨rfl, rfl, rfl, rfl⟩)
local macro_rules | `(tactic| walk_at "ow ev") => `(tactic| first
  | with_reducible exact Ev.int
  | with_reducible exact Ev.str
  | ((with_reducible refine' Ev.nmI ?d ?n ?m ?k ?b); (case d => walk_at "ow a"); (case n => walk_at "ow env"); (case m => walk_at "ow mem"); (case k => rfl); (case b => decide))
  | ((with_reducible refine' Ev.nmS ?d ?n ?m ?k ?b); (case d => walk_at "ow a"); (case n => walk_at "ow env"); (case m => walk_at "ow mem"); (case k => rfl); (case b => decide))
  | ((with_reducible refine' Ev.add ?l ?r); (case l => walk_at "ow ev"); (case r => walk_at "ow ev"))
  | ((with_reducible refine' Ev.sub ?l ?r); (case l => walk_at "ow ev"); (case r => walk_at "ow ev"))
  | ((with_reducible refine' Ev.and ?l ?r); (case l => walk_at "ow ev"); (case r => walk_at "ow ev"))
  | ((with_reducible refine' Ev.or ?l ?r); (case l => walk_at "ow ev"); (case r => walk_at "ow ev"))
  | ((with_reducible refine' Ev.mod ?l ?r ?h); (case l => walk_at "ow ev"); (case r => walk_at "ow ev"); (case h => decide))
  | ((with_reducible refine' Ev.div ?l ?r ?h); (case l => walk_at "ow ev"); (case r => walk_at "ow ev"); (case h => decide))
  | ((with_reducible refine' Ev.pow ?l ?r ?h ?z); (case l => walk_at "ow ev"); (case r => walk_at "ow ev"); (case h => decide); (case z => (simp only [Int.reduceToNat, Int.reducePow, Int.reduceSub, Int.reduceAdd, Int.reduceNeg]; rfl)))
  | ((with_reducible refine' Ev.mul ?l ?r ?h); (case l => walk_at "ow ev"); (case r => walk_at "ow ev"); (case h => first | with_reducible assumption | exact IntMulOk.of_right (by decide +kernel) | exact IntMulOk.of_left (by decide +kernel)))
  | ((with_reducible refine' Ev.cat ?l ?r ?h); (case l => walk_at "ow ev"); (case r => walk_at "ow ev"); (case h => walk_at "ow size"))
  | ((with_reducible refine' Ev.shr ?l ?r ?h); (case l => walk_at "ow ev"); (case r => walk_at "ow ev"); (case h => decide))
  | ((with_reducible refine' Ev.shl ?l ?r ?h ?z); (case l => walk_at "ow ev"); (case r => walk_at "ow ev"); (case h => decide); (case z => omega))
  | ((with_reducible refine' Ev.neg ?l); (case l => walk_at "ow ev"))
  | ((with_reducible refine' Cm.ife ?c ?l ?r); (case c => walk_at "ow cm"); (case l => walk_at "ow ev"); (case r => walk_at "ow ev"))
  | ((with_reducible refine' Ev.len ?b ?d ?n ?m ?v ?z ?k ?q ?g); (case b => walk_at "ow a"); (case d => walk_at "ow a"); (case n => walk_at "ow env"); (case m => walk_at "ow mem"); (case v => walk_at "ow mem"); (case z => omega); (case k => rfl); (case q => decide); (case g => rfl))
  | ((with_reducible refine' Ev.nmC ?d ?n ?k ?c ?m ?o ?b); (case d => walk_at "ow a"); (case n => walk_at "ow env"); (case k => rfl); (case c => rfl); (case m => walk_at "ow mem"); (case o => walk_at "ow a"); (case b => decide))
  | ((with_reducible refine' Ev.nmF ?d ?n ?k ?c ?m ?o ?b ?q); (case d => walk_at "ow a"); (case n => walk_at "ow env"); (case k => rfl); (case c => rfl); (case m => walk_at "ow mem"); (case o => walk_at "ow a"); (case b => decide); (case q => decide)))
local macro_rules | `(tactic| walk_at "ow cm") => `(tactic| first
  | ((with_reducible refine' Cm.eq ?l ?r ?h); (case l => walk_at "ow ev"); (case r => walk_at "ow ev"); (case h => with_unfolding_all rfl))
  | ((with_reducible refine' Cm.lt ?l ?r ?h); (case l => walk_at "ow ev"); (case r => walk_at "ow ev"); (case h => with_unfolding_all rfl))
  | ((with_reducible refine' Cm.gt ?l ?r ?h); (case l => walk_at "ow ev"); (case r => walk_at "ow ev"); (case h => with_unfolding_all rfl))
  | ((with_reducible refine' Cm.ge ?l ?r ?h); (case l => walk_at "ow ev"); (case r => walk_at "ow ev"); (case h => with_unfolding_all rfl)))
local macro_rules | `(tactic| walk_at "ow as") => `(tactic| first
  | ((with_reducible refine' o_asI ?d ?n ?v ?u ?_ ?hl ?hs); (case d => walk_at "ow a"); (case n => walk_at "ow env"); (case v => walk_at "ow ev"); (case u => (intro v; walk_at "ow us")); (case hl => rfl); (case hs => rfl); intro _ _ _ _)
  | ((with_reducible refine' o_asIN ?d ?n ?v ?u ?_ ?hl ?hs); (case d => walk_at "ow a"); (case n => walk_at "ow env"); (case v => walk_at "ow ev"); (case u => (dsimp only [List.map]; decide)); (case hl => rfl); (case hs => rfl); intro _ _ _ _; (try dsimp only [List.cons_append, List.nil_append] at *))
  | ((with_reducible refine' o_asS ?d ?n ?v ?u ?_ ?hl ?hs); (case d => walk_at "ow a"); (case n => walk_at "ow env"); (case v => walk_at "ow ev"); (case u => (intro v; walk_at "ow us")); (case hl => rfl); (case hs => rfl); intro _ _ _ _)
  | ((with_reducible refine' o_asSN ?d ?n ?v ?u ?_ ?hl ?hs); (case d => walk_at "ow a"); (case n => walk_at "ow env"); (case v => walk_at "ow ev"); (case u => (dsimp only [List.map]; decide)); (case hl => rfl); (case hs => rfl); intro _ _ _ _; (try dsimp only [List.cons_append, List.nil_append] at *)))
local macro_rules | `(tactic| walk_at "ow top") => `(tactic| first
  | ((with_reducible refine' o_glob ?b ?d ?e ?_ ?hg ?hk ?hx ?hd); (case hg => rfl); (case b => with_reducible assumption); (case d => with_reducible assumption); (case hk => rfl); (case hx => rfl); (case hd => decide); (case e => (show nsIn (hd.heap_39 _) _ _ = _; k_is)))
  | ((with_reducible refine' o_boot ?b ?d ?e ?v ?n ?_ ?hg ?hb ?hk ?hx ?hd); (case hg => rfl); (case hb => rfl); (case b => with_reducible assumption); (case d => with_reducible assumption); (case hk => rfl); (case hx => rfl); (case hd => decide); (case e => (show nsIn (hd.heap_39 _) _ _ = _; k_is)); (case n => decide); (case v => boot_fact)))
local macro_rules | `(tactic| walk_at "ow enter") => `(tactic| (
  (case k1 => (show List.lookup _ (hd.heap_39 _) = _; k_is))
  (case k2 => (show codeIn (hd.heap_39 _) _ _ = _; k_is))
  (case k3 => exact BindsTo.of_eq rfl)
  (case k4 => exact locs rfl)
  (case k5 => (dsimp only [List.map]; decide))
  (case c1 => rfl)
  (case c2 => rfl)
  (case c3 => rfl)
  (case c4 => decide)))
local macro_rules | `(tactic| walk_at "ow eval") => `(tactic| first
  | ((with_reducible show wpAny _ _ (eval (Expr.Name _ _) _) _ _ _); first
    | ((with_reducible refine' o_ld ?d ?m ?_ ?hL ?hk ?hl ?hd); (case d => with_reducible assumption); (case hL => rfl); (case m => walk_at "ow mem"); (case hk => rfl); (case hl => rfl); (case hd => decide))
    | ((with_reducible refine' o_ldCell ?d ?hk ?hl ?hc ?m ?o ?_ ?hd); (case d => with_reducible assumption); (case hk => rfl); (case hl => rfl); (case hc => rfl); (case m => walk_at "ow mem"); (case o => with_reducible assumption); (case hd => decide))
    | ((with_reducible refine' o_ldFree ?d ?hk ?hl ?hc ?m ?o ?_ ?hd ?hn); (case d => with_reducible assumption); (case hk => rfl); (case hl => rfl); (case hc => rfl); (case m => walk_at "ow mem"); (case o => with_reducible assumption); (case hd => decide); (case hn => decide))
    | walk_at "ow top")
  | ((with_reducible refine o_int ?_); intro _ _)
  | ((with_reducible refine o_str ?_); intro _ _)
  | ((with_reducible show wpAny _ _ (eval (Expr.BinOp _ _ _ _) _) _ _ _); first
    | ((with_reducible refine' o_evI ?v ?_); (case v => walk_at "ow ev"); intro _ _)
    | ((with_reducible refine' o_evS ?v ?_); (case v => walk_at "ow ev"); intro _ _)
    | (refine wpAny_BinOp ?_))
  | ((with_reducible show wpAny _ _ (eval (Expr.Call (Expr.Name _ _) _ [] _) _) _ _ _); refine Call_ ?_)
  | ((with_reducible show wpAny _ _ (eval (Expr.Call (Expr.Attribute _ _ _) _ [] _) _) _ _ _); refine MethodCall_ ?_)
  | ((with_reducible show wpAny _ _ (eval (Expr.Compare _ [_] [_] _) _) _ _ _); refine wpAny_Compare1 ?_)
  | (with_reducible refine IfExp_ ?_)
  | (with_reducible refine List_ ?_)
  | (with_reducible refine Tuple_ ?_)
  | (with_reducible refine UnaryOp_ ?_)
  | (with_reducible refine Constant_bool ?_)
  | (with_reducible refine Constant_none ?_)
  | (with_reducible refine Subscript_ ?_))
local macro_rules | `(tactic| walk_at "ow exec") => `(tactic| first
  | ((with_reducible show wpAny _ _ (exec (Stmt.Assign [Expr.Name _ _] _ _) _) _ _ _); refine wpAny_Assign_Name ?_)
  | with_reducible refine wpAny_Return_some ?_
  | with_reducible refine wpAny_If ?_
  | ((with_reducible show wpAny _ _ (exec (Stmt.Expr _ _) _) _ _ _); refine wpAny_Expr_any ?_)
  | with_reducible refine wpAny_Break ?_
  | with_reducible refine wpAny_Assert_holds ?_
  | ((with_reducible show wpAny _ _ (exec (Stmt.For _ _ _ _ _) _) _ _ _); refine wpAny_For ?_))
local macro_rules | `(tactic| walk_at "ow len") => `(tactic| first
  | with_reducible assumption
  | ((with_reducible refine' len_app ?x ?y); (case x => walk_at "ow len"); (case y => walk_at "ow len"))
  | ((with_reducible refine' len_ite ?x ?y); (case x => walk_at "ow len"); (case y => walk_at "ow len"))
  | exact Nat.le_refl _)
local macro_rules | `(tactic| walk_at "ow size") => `(tactic| ((refine' Nat.le_trans (Nat.add_le_add ?a ?b) ?c); (case a => walk_at "ow len"); (case b => walk_at "ow len"); (case c => (rw [sizeLine_eq]; decide +kernel))))
local macro_rules | `(tactic| walk_at "ow callWith") => `(tactic| first
  | ((with_reducible show wpAny _ _ (callWith _ (Value.type _) [] (backTo _ (starEach (_ :: _) _)) []) _ _ _); refine PyProof.Rows.callWith_type1 ?_)
  | ((with_reducible show wpAny _ _ (callWith _ (Value.builtin _) _ (backTo _ (starEach (_ :: _) _)) []) _ _ _); refine callWith_method1 ?_)
  | ((with_reducible show wpAny _ _ (callWith _ (Value.builtin _) _ (backTo _ (starEach [] _)) []) _ _ _); refine callWith_method0 ?_)
  | ((with_reducible refine' o_callWithKW ?b ?hk ?ha ?_ ?hp ?he); (case b => with_reducible assumption); (case hk => (show keepIn (hd.heap_39 _) _ = _; k_is)); (case ha => rfl); (case hp => rfl); (case he => rfl))
  | ((with_reducible refine' o_callWith ?b ?hk ?_ ?he ?hp); (case b => with_reducible assumption); (case hk => (show keepIn (hd.heap_39 _) _ = _; k_is)); (case he => rfl); (case hp => rfl)))
local macro_rules | `(tactic| walk_at "ow op") => `(tactic| first
  | ((with_reducible refine o_add ?_); intro _ _)
  | ((with_reducible refine o_sub ?_); intro _ _)
  | ((with_reducible refine o_and ?_); intro _ _)
  | ((with_reducible refine o_or ?_); intro _ _)
  | ((with_reducible refine o_mod ?n ?_); (case n => decide); intro _ _)
  | ((with_reducible refine o_mul ?n ?_); (case n => first | with_reducible assumption | exact IntMulOk.of_right (by decide +kernel) | exact IntMulOk.of_left (by decide +kernel)); intro _ _)
  | ((with_reducible refine o_div ?n ?z ?_); (case n => decide); (case z => decide); intro _ _)
  | ((with_reducible refine o_pow ?n ?z ?x ?_); (case n => decide); (case z => decide); (case x => decide); intro _ _; (try simp only [Int.reduceToNat, Int.reducePow, Int.reduceSub, Int.reduceAdd, Int.reduceNeg]))
  | ((with_reducible refine o_cat ?z ?_); (case z => walk_at "ow size"); intro _ _)
  | ((with_reducible refine o_shl ?n ?z ?x ?_); (case n => decide); (case z => decide); (case x => omega); intro _ _)
  | ((with_reducible refine o_shr ?n ?_); (case n => decide); intro _ _))
local macro_rules | `(tactic| walk_at "ow cmp") => `(tactic| first
  | (with_reducible refine o_eq ?_)
  | (with_reducible refine o_lt ?_)
  | (with_reducible refine o_gt ?_)
  | (with_reducible refine o_ge ?_)
  | ((with_reducible show wpAny _ _ (compareOp CmpOp.Is (Value.type _) (Value.type _)) _ _ _); first | refine wpAny_is_self rfl ?_ | refine wpAny_is_other rfl (by decide) ?_)
  | ((with_reducible show wpAny _ _ (compareOp CmpOp.IsNot Value.none Value.none) _ _ _); refine wpAny_isNot_self rfl ?_)
  | ((with_reducible show wpAny _ _ (compareOp CmpOp.Is (Value.bool _) Value.none) _ _ _); refine is_bool_none ?_))
local macro_rules | `(tactic| walk_at "ow st") => `(tactic| first
  | ((with_reducible refine' o_st ?d ?u ?_ ?hL ?hk ?hl); (case d => with_reducible assumption); (case hL => rfl); (case u => walk_at "ow us"); (case hk => rfl); (case hl => rfl); intro _ _ _)
  | ((with_reducible refine' o_stN ?d ?u ?_ ?hL ?hk ?hl); (case d => with_reducible assumption); (case hL => rfl); (case u => (dsimp only [List.map]; decide)); (case hk => rfl); (case hl => rfl); intro _ _ _; (try dsimp only [List.cons_append, List.nil_append] at *)))
local macro_rules | `(tactic| walk_at "ow call") => `(tactic| first
  | ((with_reducible refine' o_lenL ?d ?m ?z ?_); (case d => with_reducible assumption); (case m => walk_at "ow mem"); (case z => omega); intro _ _)
  | ((with_reducible show wpAny _ _ (call (Value.type "type") [Value.bytes _ _]) _ _ _); refine call_type_of (Tx := "bytes") rfl (by decide) ?_)
  | ((with_reducible show wpAny _ _ (call (Value.type "type") [Value.bool _]) _ _ _); refine call_type_of (Tx := "bool") rfl (by decide) ?_)
  | ((with_reducible refine o_upper ?z ?_); (case z => (rw [sizeLine_eq]; decide +kernel)); intro _ _)
  | ((with_reducible refine' o_append' ?d ?u ?z ?_); (case d => with_reducible assumption); (case u => walk_at "ow up"); (case z => first | with_reducible assumption | size_fits); intro _ _))
local macro_rules | `(tactic| walk_at "ow meth") => `(tactic| first
  | (with_reducible refine o_upperM ?_)
  | ((with_reducible refine' o_appendM ?d ?m ?_); (case d => with_reducible assumption); (case m => walk_at "ow mem")))
local macro_rules | `(tactic| walk_at "ow") => `(tactic| first
  | ((with_reducible show wpAny _ _ (eval _ _) _ _ _); walk_at "ow eval")
  | ((with_reducible show wpAny _ _ (execs (Stmt.Assign [Expr.Name _ _] _ _ :: _) _) _ _ _); walk_at "ow as")
  | (with_reducible refine wpAny_execs_cons ?_)
  | (with_reducible refine wpAny_execs_nil ?_)
  | ((with_reducible show wpAny _ _ (exec _ _) _ _ _); walk_at "ow exec")
  | ((with_reducible show wpAny _ _ (spliced (backTo _ (starEach (_ :: _) _))) _ _ _); refine spliced_more ?_)
  | ((with_reducible refine spliced_none ?_); (try dsimp only [List.cons_append, List.nil_append]))
  | ((with_reducible show wpAny _ _ (callWith _ _ _ _ _) _ _ _); walk_at "ow callWith")
  | ((with_reducible show wpAny _ _ (binaryOp _ _ _) _ _ _); walk_at "ow op")
  | ((with_reducible show wpAny _ _ (compareOp _ _ _) _ _ _); walk_at "ow cmp")
  | ((with_reducible show wpAny _ _ (storeName _ _ _) _ _ _); walk_at "ow st")
  | ((with_reducible show wpAny _ _ (call _ _) _ _ _); walk_at "ow call")
  | ((with_reducible show wpAny _ _ (getMethod _ _ _) _ _ _); walk_at "ow meth")
  | ((with_reducible refine' Cm.test ?v ?_); (case v => walk_at "ow cm"); intro _)
  | ((with_reducible show wpAny _ _ (isTrue (Expr.Compare _ [_] [_] _) _ _) _ _ _); refine wpAny_isTrue_Compare1 ?_)
  | (with_reducible refine isTrue_and ?_)
  | (with_reducible refine isTrue_and_nil ?_)
  | ((with_reducible show wpAny _ _ (isTrue (Expr.Name _ _) _ _) _ _ _); refine isTrue_plain ?_)
  | ((with_reducible show wpAny _ _ (isTrue (Expr.Constant _ _ _) _ _) _ _ _); refine isTrue_plain ?_)
  | (with_reducible refine isTrue_or ?_)
  | (with_reducible refine isTrue_or_nil ?_)
  | (with_reducible refine wpAny_truthy_bool ?_)
  | ((with_reducible refine' o_newList ?d ?_ ?z); (case d => with_reducible assumption); (case z => size_fits); intro _ _ _)
  | ((with_reducible refine' o_join ?h1 ?h2 ?_); (case h1 => (intro q1 k1; (repeat walk_at "ow"); with_reducible exact k1 _ _)); (case h2 => (intro q1 k1; (repeat walk_at "ow"); with_reducible exact k1 _ _)); intro _ _)
  | ((with_reducible refine' o_calling ?b ?d ?_); (case b => with_reducible assumption); (case d => with_reducible assumption))
  | ((with_reducible refine o_neg ?_); intro _ _)
  | (with_reducible refine o_ifT rfl ?_)
  | (with_reducible refine o_ifF rfl ?_)
  )
local macro_rules | `(tactic| walk_at "ow iterLst") => `(tactic| (
  (with_reducible refine' o_iterLst ?d ?t ?_)
  (case d => with_reducible assumption)
  (case t => walk_at "ow mem")))
local macro_rules | `(tactic| walk_at "ow nextLst") => `(tactic| (
  (refine o_forStep ?_)
  (with_reducible refine' o_nextLst ?d ?m ?o ?t ?x ?_)
  (case o => with_reducible assumption)
  (case d => with_reducible assumption)
  (case m => walk_at "ow mem")
  (case t => walk_at "ow mem")
  (case x => rfl)
  intro o' h' ho' hU
  (have D' := hU _ (by walk_at "ow up"))
  clear hU
  dsimp only
  (with_reducible refine' o_letGoLst ?d ?m ?o ?_)
  (case d => with_reducible assumption)
  (case m => walk_at "ow mem")
  (case o => with_reducible assumption)
  (with_reducible refine' o_unpackLst ?hh ?d ?t ?q1 ?q2 ?_)
  (case hh => with_reducible assumption)
  (case d => with_reducible assumption)
  (case t => walk_at "ow mem")
  (case q1 => rfl)
  (case q2 => rfl)
  intro h'' D''
  (show wpAny _ _ (assignInOrder [assign _ _, assign _ _] [_, _]) _ _ _)
  (refine o_asgCons (wpAny_assign_Name ?_))
  walk_at "ow"
  (refine o_asgCons (wpAny_assign_Name ?_))
  walk_at "ow"
  (refine o_asgNil ?_)))
local macro_rules | `(tactic| walk_at "ow endLst") => `(tactic| (
  (refine o_forStep ?_)
  (with_reducible refine' o_endLst ?hh ?d ?m ?o ?t ?x ?u ?_)
  (case hh => with_reducible assumption)
  (case o => with_reducible assumption)
  (case d => with_reducible assumption)
  (case m => walk_at "ow mem")
  (case t => walk_at "ow mem")
  (case x => rfl)
  (case u => walk_at "ow rm")))
local macro_rules | `(tactic| walk_at "ow rng1") => `(tactic| ((with_reducible refine' o_range1 ?d ?_); (case d => with_reducible assumption); intro _ _ _ _ _ _))
local macro_rules | `(tactic| walk_at "ow iterRng") => `(tactic| ((with_reducible refine' o_iterRng ?d ?m ?s ?n ?_); (case d => with_reducible assumption); (case m => walk_at "ow mem"); (case s => decide); (case n => rfl); intro _ _ _))
local macro_rules | `(tactic| walk_at "ow cenv") => `(tactic| ((with_reducible refine' o_cenv' ?d ?l ?c ?k ?g ?q ?_); (case d => with_reducible assumption); (case l => rfl); (case c => decide); (case k => rfl); (case g => rfl); (case q => rfl); intro _ _ _ _ _ _))
local macro_rules | `(tactic| walk_at "ow startRng") => `(tactic| ((refine' o_startRng (by with_reducible assumption) ?m ?_); (case m => walk_at "ow mem")))
local macro_rules | `(tactic| walk_at "ow compRng") => `(tactic| (
  (refine o_compStep ?_)
  (with_reducible refine' o_nextRng ?d ?l ?u ?_)
  (case d => with_reducible assumption)
  (case u => walk_at "ow up")
  (case l => decide)
  intro _ _ _ _
  dsimp only
  (refine o_letGoName ?_)
  (refine wpAny_assign_Name ?_)
  (repeat walk_at "ow")))
local macro_rules | `(tactic| walk_at "ow compEnd") => `(tactic| ((with_reducible refine' o_compEnd' ?u ?d ?z ?_); (case u => with_reducible assumption); (case d => with_reducible assumption); (case z => rfl); intro _ _))
local macro_rules | `(tactic| walk_at "ow compRngEnd") => `(tactic| (
  (refine o_compStep ?_)
  (with_reducible refine' o_endRng ?hh ?d ?l ?u ?_)
  (case hh => with_reducible assumption)
  (case d => with_reducible assumption)
  (case u => walk_at "ow rm")
  (case l => decide)
  intro _ _
  dsimp only))

section
section
variable {w : World} {A : Around} {b h : Heap} {L : Addr} {al : List (Str × Value)} {μ : List (Addr × Obj)} {mg mb : Str → Option Value} {G : Array GenState} {Dr : Drawn} {tk : Nat} {O : OsState} {Q : Value → Shared → Prop} {E : Value → Shared → Prop}
theorem ct_fmt {i : Int} {ti : Tok} (B : Base w mg mb b) (D : Led b L al h μ) (hdp : A.depth < recursionLimit)
    (k : ∀ h' tk' t, Led b L al h' μ → Q (.int (Builtin.bitAnd i 61440) t) ⟨h', G, Dr, tk', O⟩) :
    wpAny (model P0 w) A (call (.ref 72) [.int i ti]) Q E ⟨h, G, Dr, tk, O⟩ := by
  refine' o_callN (f := 72) (binds := [(Str.ofString "mode", .int i ti)]) B D ?k1 ?k2 hdp ?k3 ?k4 ?k5 ?_ ?c1 ?c2 ?c3 ?c4
  walk_at "ow enter"
  intro A' E' L' h₁ oL tk₁ hA1 hA2 hA3 D₁
  repeat walk_at "ow"
  exact LeaveQ.ret (by assumption) fun D' => k _ _ _ D'
theorem ct_mode {i : Int} {ti : Tok} (B : Base w mg mb b) (D : Led b L al h μ) (hh : A.handled = none) (hdp : A.depth + 1 < recursionLimit)
    (k : ∀ h' tk' t, Led b L al h' μ → Q (.str (Txt.join (Str.ofString "") (sgs 10 i)) t) ⟨h', G, Dr, tk', O⟩) :
    wpAny (model P0 w) A (call (.ref 112) [.int i ti]) Q E ⟨h, G, Dr, tk, O⟩ := by
  refine' o_callN (f := 112) (binds := [(Str.ofString "mode", .int i ti)]) B D ?k1 ?k2 (by omega) ?k3 ?k4 ?k5 ?_ ?c1 ?c2 ?c3 ?c4
  walk_at "ow enter"
  intro A' E' L' h₁ oL tk₁ hA1 hA2 hA3 D₁
  rw [hh] at hA1
  obtain ⟨vs, hv, hT⟩ := tabs_top B
  repeat walk_at "ow"
  rename_i p h₂ _ h₃ tk₃ D₃
  with_reducible refine' o_enumTup D₃ (D₃.tup hv) ?_
  intro e it o h₄ ho ht D₄
  refine' o_iterEnum D₄ (by walk_at "ow mem") ?_
  have hne : e ≠ it := D₄.ne01
  clear ht
  refine o_loop (G := G) (Dr := Dr) (O := O) (fun h tk => ∃ its nn, StrsAre its.toList (sgs 10 i) ∧ Led b L' [(Str.ofString "mode", .int i ti), (Str.ofString "perm", .ref p)] h ((p, listOf its nn) :: (L, oL) :: μ)) ?fin ?loop
  case fin =>
    clear ho D₄ D₃ D₁
    rintro h tk ⟨its, nn, hs, D⟩
    dsimp only
    repeat walk_at "ow"
    with_reducible refine GM.join ?_
    repeat walk_at "ow"
    refine join_listW (s := ⟨_, _, _, _, _⟩) ⟨_, D.get (by walk_at "ow mem"), rfl, _, rfl⟩ hs (by decide) ?_ ?_
    · refine Nat.le_trans (Nat.add_le_add_right (sgs_len 10 i) _) ?_
      unfold sgs; simp
    · intro t' tk'
      exact LeaveQ.ret (D.sub (by walk_at "ow sub")) fun D' => k _ _ _ D'
  case loop =>
    intro R fin
    refine codeAny_forLoop_any (fun d s => ∃ n h tk its nn o old, n + d = 10 ∧ s = ⟨h, G, Dr, tk, O⟩ ∧ StrsAre its.toList (sgs n i) ∧ TupItO o 105 n ∧
      Led b L' [(Str.ofString "mode", .int i ti), (Str.ofString "perm", .ref p)] h ((e, enumObj it n old) :: (it, o) :: (p, listOf its nn) :: (L, oL) :: μ)) ?turn 10 ⟨0, _, _, _, _, _, _, rfl, rfl, .nil, ho, D₄⟩
    clear ho D₄ D₃ D₁
    rintro d _ ⟨n, h, tk, its, nn, o, old, hn, rfl, hs, ho, D⟩
    have hti : 105 ≠ it := D.neB (by walk_at "ow mem") hv
    have hte : 105 ≠ e := D.neB (by walk_at "ow mem") hv
    have hl : vs.length = 10 := hT.len
    rcases Nat.lt_or_ge n 10 with hn9 | hn10
    · obtain ⟨es, hes, hsg⟩ := sg_tab i n hn9
      obtain ⟨a, ha, va, hva, hE⟩ := hT.pick n es hes
      have hz : its.size ≤ sizeLine := by
        have := hs.length
        rw [Array.length_toList] at this
        rw [this, sizeLine_eq]; unfold sgs; simp; omega
      refine' o_nextEnum hA1 D (by walk_at "ow mem") (by walk_at "ow mem") ho (D.tup hv) (x := .ref a) ?hx hne hte hti ?_
      case hx => rw [List.getElem?_toArray]; exact ha
      intro o' c h' tk' u hce ho' ht' hc hU
      have D' := hU _ _ (by walk_at "ow up") (by walk_at "ow up")
      clear hU D
      dsimp only
      refine' o_letGoEnum (by with_reducible assumption) ?u ?_
      case u => walk_at "ow up"
      intro h2 D2 hk2
      refine' o_unpackTup hA1 D2 (its := #[_, _]) (let ⟨oc, q, r⟩ := hc; ⟨oc, hk2 _ _ hce q, r⟩) rfl rfl ?_
      intro h3 D3 hk3
      clear hk3 hk2 hc D2 D' ht' ho
      show wpAny _ _ (assignInOrder [assign _ _, assign _ _] [_, _]) _ _ _
      refine o_asgCons (wpAny_assign_Name ?_)
      walk_at "ow"
      refine o_asgCons (wpAny_assign_Name ?_)
      walk_at "ow"
      refine o_asgNil ?_
      clear D3
      rename Led b L' _ _ _ => D3
      repeat walk_at "ow"
      refine' o_iterTup D3 (D3.tup hva) ?_
      intro it2 o2 h4 ho2 ht2 D4
      clear ht2
      refine o_loop (G := G) (Dr := Dr) (O := O) (fun h tk => ∃ its' nn' old', StrsAre its'.toList (sgs (n + 1) i) ∧ Led b L' [(Str.ofString "mode", .int i ti), (Str.ofString "perm", .ref p)] h ((e, enumObj it ((n : Int) + 1) old') :: (it, o') :: (p, listOf its' nn') :: (L, oL) :: μ)) ?fin2 ?loop2
      case fin2 =>
        clear D4
        rintro h tk ⟨its', nn', old', hs', D⟩
        dsimp only
        repeat walk_at "ow"
        exact ⟨d - 1, by omega, _, h, tk, its', nn', o', old', by omega, rfl, hs', ho', D⟩
      case loop2 =>
        clear fin
        intro R2 fin2
        refine codeAny_forLoop_any (fun d s => ∃ j vs1 es1 h tk o2, d = es1.length ∧ s = ⟨h, G, Dr, tk, O⟩ ∧ va.drop j = vs1 ∧ Ents b vs1 es1 ∧ sg n i = sgOf ((n : Int) == 0) i es1 ∧ TupItO o2 a j ∧
          Led b L' [(Str.ofString "mode", .int i ti), (Str.ofString "perm", .ref p), (Str.ofString "index", .int n u), (Str.ofString "table", .ref a)] h ((it2, o2) :: (e, enumObj it ((n : Int) + 1) (.ref a)) :: (it, o') :: (p, listOf its nn) :: (L, oL) :: μ)) ?turn2 es.length ⟨0, va, es, _, _, _, rfl, rfl, rfl, hE, hsg, ho2, D4⟩
        clear D4 D3 ho2 hsg hE
        rintro d _ ⟨j, vs1, es1, h, tk, o2, rfl, rfl, hdr, hE, hsg, ho2, D⟩
        cases hE with
        | nil =>
          have hx : va.toArray[j]? = none := by
            rw [List.getElem?_toArray, List.getElem?_eq_none]
            exact List.drop_eq_nil_iff.mp hdr
          refine' o_endTup hA1 D (by walk_at "ow mem") ho2 (D.tup hva) hx ?u ?_
          case u => walk_at "ow rm"
          intro h5 D5
          dsimp only
          repeat walk_at "ow"
          refine split_bool (fun hb => ?_) (fun hb => ?_)
          all_goals (
            simp only [hb, sgOf] at hsg
            (repeat walk_at "ow")
            (try dsimp only)
            (repeat walk_at "ow")
            refine' fin2 _ _ ⟨_, _, _, sgs_succ hs hsg, Led.sub (Led.names (by with_reducible assumption) ?_) ?_⟩
            all_goals (try walk_at "ow sub"))
        | @cons c m x t u' vs' es' hc hE' =>
          have hx : va.toArray[j]? = some (.ref c) := by
            rw [List.getElem?_toArray, ← List.head?_drop, hdr]; rfl
          have hdr' : va.drop (j + 1) = vs' := by rw [← List.tail_drop, hdr]; rfl
          refine' o_nextTup D (by walk_at "ow mem") ho2 (D.tup hva) hx (D.neB (by walk_at "ow mem") hva) ?_
          intro o3 h5 ho3 ht3 hU
          have D5 := hU _ (by walk_at "ow up")
          clear hU D ht3
          dsimp only
          with_reducible refine' o_letGoTup D5 ?m ho3 ?_
          case m => walk_at "ow mem"
          refine' o_unpackTup hA1 D5 (D5.tup hc) rfl rfl ?_
          intro h6 D6 _
          show wpAny _ _ (assignInOrder [assign _ _, assign _ _] [_, _]) _ _ _
          refine o_asgCons (wpAny_assign_Name ?_)
          walk_at "ow"
          refine o_asgCons (wpAny_assign_Name ?_)
          walk_at "ow"
          refine o_asgNil ?_
          repeat walk_at "ow"
          refine split_bool (fun hb => ?_) (fun hb => ?_)
          all_goals (
            rw [hb] at hsg
            (repeat walk_at "ow")
            (try (refine' ct_fmt (by with_reducible assumption) (by with_reducible assumption) (by omega) ?_; intro _ _ _ _; repeat walk_at "ow"))
            refine split_bool (fun hm => ?_) (fun hm => ?_)
            · have hsg' : sg n i = x := by rw [hsg, sgOf]; exact if_pos hm
              (repeat walk_at "ow")
              (try dsimp only)
              refine' fin2 _ _ ⟨_, _, _, sgs_succ hs hsg', Led.sub (Led.names (by with_reducible assumption) ?_) ?_⟩
              all_goals (try walk_at "ow sub")
            · have hsg' : sg n i = sgOf ((n : Int) == 0) i es' := by rw [hb, hsg, sgOf]; exact if_neg (by rw [hm]; exact Bool.false_ne_true)
              (repeat walk_at "ow")
              (try dsimp only)
              exact ⟨_, Nat.lt_succ_self _, j + 1, _, _, _, _, _, rfl, rfl, hdr', hE', hsg', ho3, Led.names (by with_reducible assumption) (by walk_at "ow sub")⟩)
    · refine' o_endEnum hA1 D (by walk_at "ow mem") (by walk_at "ow mem") ho (D.tup hv) ?hx hti ?u ?_
      case hx => rw [List.size_toArray]; omega
      case u => walk_at "ow rm"
      obtain rfl : n = 10 := by omega
      intro h' D'
      dsimp only
      repeat walk_at "ow"
      exact fin _ _ ⟨its, nn, hs, D'.sub (by walk_at "ow sub")⟩
end
end

section
section
variable {w : World} {A : Around} {b h : Heap} {L : Addr} {al : List (Str × Value)} {μ : List (Addr × Obj)} {mg mb : Str → Option Value} {G : Array GenState} {Dr : Drawn} {tk : Nat} {O : OsState} {Q : Value → Shared → Prop} {E : Value → Shared → Prop}
theorem ct_signs {i : Int} {ti : Tok} (B : Base w mg mb b) (D : Led b L al h μ) (hh : A.handled = none) (hdp : A.depth < recursionLimit)
    (k : ∀ h' tk' t, Led b L al h' μ → Q (.str (lsT i) t) ⟨h', G, Dr, tk', O⟩) :
    wpAny (model P0 w) A (call (.ref 145) [.int i ti]) Q E ⟨h, G, Dr, tk, O⟩ := by
  refine' o_callN (f := 145) (binds := [(Str.ofString "bits", .int i ti)]) B D ?k1 ?k2 (by omega) ?k3 ?k4 ?k5 ?_ ?c1 ?c2 ?c3 ?c4
  walk_at "ow enter"
  intro A' E' L' h₁ oL tk₁ hA1 hA2 hA3 D₁
  rw [hh] at hA1
  repeat walk_at "ow"
  with_reducible refine' o_dict B D₁ ?t1 ?t2 ?t3 ?t4 ?t5 ?t6 ?t7 ?_
  case t1 => rfl
  case t2 => rfl
  case t3 => decide
  case t4 => rfl
  case t5 => rfl
  case t6 => exact List.cons_ne_nil _ _
  case t7 => exact Nat.le_of_ble_eq_true rfl
  intro d h₂ tk₂ D₂ hT
  refine o_getM hT ?_
  repeat walk_at "ow"
  refine o_get (y := tyS (i.fdiv 4096)) hT ?_ ?_
  · exact tyS_get _
  intro t₃ tk₃
  have hl1 : (tyS (i.fdiv 4096)).length ≤ 1 := by unfold tyS; (repeat' split) <;> decide
  repeat walk_at "ow"
  walk_at "ow iterLst"
  intro it o h4 ho D4
  walk_at "ow nextLst"
  repeat walk_at "ow"
  dsimp only
  walk_at "ow nextLst"
  repeat walk_at "ow"
  dsimp only
  walk_at "ow nextLst"
  repeat walk_at "ow"
  dsimp only
  walk_at "ow endLst"
  intro h5 D5
  dsimp only
  repeat walk_at "ow"
  dsimp only
  repeat walk_at "ow"
  refine LeaveQ.ret (D5.sub (by walk_at "ow sub")) fun D' => k _ _ _ D'
end
end

section
section
variable {w : World} {A : Around} {b h : Heap} {L : Addr} {al : List (Str × Value)} {μ : List (Addr × Obj)} {mg mb : Str → Option Value} {G : Array GenState} {Dr : Drawn} {tk : Nat} {O : OsState} {Q : Value → Shared → Prop} {E : Value → Shared → Prop}
theorem ct_file {i : Int} {ti : Tok} (B : Base w mg mb b) (D : Led b L al h μ) (hh : A.handled = none) (hdp : A.depth < recursionLimit) (hm : IntMulOk (i.fdiv 4) 40503)
    (k : ∀ h' tk' t le ln vs r, IntsAre vs (nmO i) → Led b L al h' ((le, listOf #[.ref ln, .int (fbits i) t] 0) :: (ln, listOf vs.toArray r) :: μ) → Q (.ref le) ⟨h', G, Dr, tk', O⟩) :
    wpAny (model P0 w) A (call (.ref 117) [.int i ti]) Q E ⟨h, G, Dr, tk, O⟩ := by
  refine' o_callC1 (f := 117) (x := Str.ofString "x") (al₀ := []) (cv := some (.int i ti)) (binds := [(Str.ofString "x", .int i ti)]) B D ?k1 ?k2 (by omega) ?k3 ?kcs ?kk ?kal ?knn ?kcv ?_ ?c1 ?c2 ?c3
  case k1 => (show List.lookup _ (hd.heap_39 _) = _; k_is)
  case k2 => (show codeIn (hd.heap_39 _) _ _ = _; k_is)
  case k3 => rfl
  case kcs => (intro n; rfl)
  case kk => (intro y hy; rw [List.mem_singleton.mp hy]; exact .inr ⟨rfl, rfl⟩)
  case kal => (intro p hp; cases hp)
  case knn => exact List.nodup_nil
  case kcv => rfl
  case c1 => rfl
  case c2 => rfl
  case c3 => rfl
  intro A' E' L' c o h₁ oL tk₁ hA1 hA2 hA3 ho D₁
  rw [hh] at hA1
  repeat walk_at "ow"
  refine' o_listComp (cl := [(Str.ofString "x", c)]) ?q1 ?q2 ?q3 ?q4 ?_
  case q1 => rfl
  case q2 => rfl
  case q3 => decide
  case q4 => (intro _; rfl)
  repeat walk_at "ow"
  rcases mod4 i with h4 | h4 | h4 | h4 <;> rw [h4]
  · walk_at "ow rng1"
    walk_at "ow iterRng"
    repeat walk_at "ow"
    walk_at "ow cenv"
    walk_at "ow startRng"
    walk_at "ow compRngEnd"
    walk_at "ow compEnd"
    repeat walk_at "ow"
    refine LeaveQ.ret' (by with_reducible assumption) (by walk_at "ow rm") fun D' => ?_
    have D2 := D'.sub (μ' := _ :: _ :: μ) (by walk_at "ow sub")
    refine k _ _ _ _ _ [] _ ?_ D2
    rw [nmO, h4]
    exact IntsAre.nil
  · walk_at "ow rng1"
    walk_at "ow iterRng"
    repeat walk_at "ow"
    walk_at "ow cenv"
    walk_at "ow startRng"
    walk_at "ow compRng"
    walk_at "ow compRngEnd"
    walk_at "ow compEnd"
    repeat walk_at "ow"
    refine LeaveQ.ret' (by with_reducible assumption) (by walk_at "ow rm") fun D' => ?_
    have D2 := D'.sub (μ' := _ :: _ :: μ) (by walk_at "ow sub")
    refine k _ _ _ _ _ [_] _ ?_ D2
    rw [nmO, h4]
    exact IntsAre.cons _ _ IntsAre.nil
  · walk_at "ow rng1"
    walk_at "ow iterRng"
    repeat walk_at "ow"
    walk_at "ow cenv"
    walk_at "ow startRng"
    walk_at "ow compRng"
    walk_at "ow compRng"
    walk_at "ow compRngEnd"
    walk_at "ow compEnd"
    repeat walk_at "ow"
    refine LeaveQ.ret' (by with_reducible assumption) (by walk_at "ow rm") fun D' => ?_
    have D2 := D'.sub (μ' := _ :: _ :: μ) (by walk_at "ow sub")
    refine k _ _ _ _ _ [_, _] _ ?_ D2
    rw [nmO, h4]
    exact IntsAre.cons _ _ (IntsAre.cons _ _ IntsAre.nil)
  · walk_at "ow rng1"
    walk_at "ow iterRng"
    repeat walk_at "ow"
    walk_at "ow cenv"
    walk_at "ow startRng"
    walk_at "ow compRng"
    walk_at "ow compRng"
    walk_at "ow compRng"
    walk_at "ow compRngEnd"
    walk_at "ow compEnd"
    repeat walk_at "ow"
    refine LeaveQ.ret' (by with_reducible assumption) (by walk_at "ow rm") fun D' => ?_
    have D2 := D'.sub (μ' := _ :: _ :: μ) (by walk_at "ow sub")
    refine k _ _ _ _ _ [_, _, _] _ ?_ D2
    rw [nmO, h4]
    exact IntsAre.cons _ _ (IntsAre.cons _ _ (IntsAre.cons _ _ IntsAre.nil))
end
end

section
section
variable {w : World} {A : Around} {b h : Heap} {L : Addr} {al : List (Str × Value)} {μ : List (Addr × Obj)} {mg mb : Str → Option Value} {G : Array GenState} {Dr : Drawn} {tk : Nat} {O : OsState} {Q : Value → Shared → Prop} {E : Value → Shared → Prop}
theorem ct_streamN {ns : List Int} {tt : Tok} (B : BaseX w mg mb b)
    (D : Led b L al h ((119, tabObj #[]) :: μ))
    (hh : A.handled = none) (hdp : A.depth + 1 < recursionLimit) (hr : ∀ n ∈ ns, 0 ≤ n ∧ n < 256) (hsz : ns.length ≤ 1000)
    (k : ∀ h' tk' f1 d f2 c fo1 oD fo2 o lf vs cv c1 c2 oc1 oc2, CodeO oc1 lamQ → CodeO oc2 lamQ → Strm w b f1 lf [(f1, fo1), (d, oD), (f2, fo2), (c, o), (c2, oc2)] → IntsAre vs ns →
      Led b L al h' ((lf, listOf vs.toArray cv) :: (f1, fo1) :: (d, oD) :: (f2, fo2) :: (c, o) :: (119, tabObj #[rawInt 104, rawInt 32, .ref c1, rawInt 105, rawInt 18, .ref c2]) :: (c1, oc1) :: (c2, oc2) :: μ) → Q (.ref f1) ⟨h', G, Dr, tk', O⟩) :
    wpAny (model P0 w) A (call (.ref 124) [.bytes (byteArr ns) tt]) Q E ⟨h, G, Dr, tk, O⟩ := by
  refine' o_callC1 (f := 124) (x := Str.ofString "left") (al₀ := [(Str.ofString "tape", .bytes (byteArr ns) tt)]) (cv := none) (binds := [(Str.ofString "tape", .bytes (byteArr ns) tt)]) B.B D ?k1 ?k2 (by omega) ?k3 ?kcs ?kk ?kal ?knn ?kcv ?_ ?c1 ?c2 ?c3
  case k1 => (show List.lookup _ (hd.heap_39 _) = _; k_is)
  case k2 => (show codeIn (hd.heap_39 _) _ _ = _; k_is)
  case k3 => rfl
  case kcs => (intro n; rfl)
  case kk => (intro y hy; rw [List.mem_singleton.mp hy]; exact .inl rfl)
  case kal => (intro p hp; rw [List.mem_singleton.mp hp]; rfl)
  case knn => (dsimp only [List.map]; decide)
  case kcv => rfl
  case c1 => rfl
  case c2 => rfl
  case c3 => rfl
  intro A' E' L' c o h₁ oL tk₁ hA1 hA2 hA3 ho D₁
  rw [hh] at hA1
  have B0 := B.B
  repeat walk_at "ow"
  refine Assign_Tuple ?_ (hs := rfl) (hw := rfl)
  repeat walk_at "ow"
  refine' o_listBytes (by with_reducible assumption) (by with_reducible assumption) ?hn ?_
  case hn => rw [sizeLine_eq]; simp [byteArr]; omega
  intro lf h₂ tk₂ vs cv hvs D₂
  rw [KBa.ints_make hr] at hvs
  repeat walk_at "ow"
  refine' o_lamNew B (by with_reducible assumption) ?hm ?ht ?hnf ?hdef ?hcl ?_
  case hm => walk_at "ow mem"
  case ht => exact True.intro
  case hnf => rfl
  case hdef => rfl
  case hcl => rfl
  intro f1 c1 oc1 ct1 h₃ tk₃ hc1 hU
  have D₃ := hU _ (by walk_at "ow up")
  clear hU
  repeat walk_at "ow"
  refine' o_newTup D₃ ?_ (by size_fits)
  intro tp h₄ D₄
  refine' o_unpackTup hA1 D₄ ⟨_, D₄.get List.mem_cons_self, rfl, _, rfl⟩ ?q1 ?q2 ?_
  case q1 => rfl
  case q2 => rfl
  intro h₅ D₅ _
  (show wpAny _ _ (assignInOrder [assign _ _, assign _ _] [_, _]) _ _ _)
  refine o_asgCons (wpAny_assign_Name ?_)
  refine' o_stCell D₅ ?s1 ?s2 ?s3 ?s4 ho ?_
  case s1 => rfl
  case s2 => rfl
  case s3 => rfl
  case s4 => walk_at "ow mem"
  intro o' h₆ ho' hU
  have D₆ := hU _ (by walk_at "ow up")
  clear hU
  refine o_asgCons (wpAny_assign_Name ?_)
  walk_at "ow"
  refine o_asgNil ?_
  repeat walk_at "ow"
  refine plainObj_wpAny_Assign_Attribute ?_ (hs := rfl)
  refine' o_lamNew B (by with_reducible assumption) ?hm ?ht ?hnf ?hdef ?hcl ?_
  case hm => walk_at "ow mem"
  case ht => kn_triples
  case hnf => kn_among
  case hdef => rfl
  case hcl => rfl
  intro f2 c2 oc2 ct2 h₇ tk₇ hc2 hU
  have D₇ := hU _ (by walk_at "ow up")
  clear hU
  repeat walk_at "ow"
  refine' o_setFn D₇ ?hm ?z1 ?z2 ?z3 ?_
  case hm => walk_at "ow mem"
  case z1 => rfl
  case z2 => rfl
  case z3 => rfl
  intro d oD h₈ tk₈ hN hU
  have D₈ := hU _ (by walk_at "ow up")
  clear hU
  repeat walk_at "ow"
  refine' strm_of (b := b) (lf := lf) (f1 := f1) (f2 := f2) (c := c) (c2 := c2) (oc := o') (oc2 := oc2) D₈ ?m1 ?m2 hN ?z1 ?z2 ?z3 ?z4 ?hcall ?_
  case m1 => walk_at "ow mem"
  case m2 => walk_at "ow mem"
  case z1 => rfl
  case z2 => rfl
  case z3 => rfl
  case z4 => rfl
  case hcall =>
      intro A L al h μ G Dr tk O Q E vs ns cv many t D m1 m2 m3 hi hr hh hdp hsz h0 k
      refine' o_callLam (binds := [(Str.ofString "many", .int many t)]) B0 D (List.mem_cons_of_mem _ m1) (List.mem_cons_of_mem _ m3) hc2 hdp ?k1 ?k2 ?k3 ?_ ?c1 ?c2 ?c3 ?c4
      case k1 => rfl
      case k2 => exact locs rfl
      case k3 => (dsimp only [List.map]; decide)
      case c1 => rfl
      case c2 => rfl
      case c3 => rfl
      case c4 => decide
      intro A' E' L' h₁ oL tk₁ hA1 hA2 hA3 D₁
      rw [hh] at hA1
      repeat walk_at "ow"
      refine' o_listComp (cl := [(Str.ofString "left", c)]) ?q1 ?q2 ?q3 ?q4 ?_
      case q1 => rfl
      case q2 => rfl
      case q3 => decide
      case q4 => (intro _; rfl)
      repeat walk_at "ow"
      refine' o_min hA1 (by with_reducible assumption) ?_
      intro h₃ t₃ tk₃ D₃
      obtain ⟨N, hN1, hN2⟩ : ∃ N : Nat, (if (vs.length : Int) < many then (vs.length : Int) else many) = (N : Int) ∧ N = min many.toNat vs.length := by
        refine ⟨min many.toNat vs.length, ?_, rfl⟩
        split <;> omega
      rw [hN1]
      repeat walk_at "ow"
      (with_reducible refine' o_range1 ?d ?_); (case d => with_reducible assumption)
      intro rg h₄ tk₄ t₄ t₅ D₄
      (with_reducible refine' o_iterRngN ?d ?m ?s ?n ?_)
      (case d => with_reducible assumption)
      (case m => walk_at "ow mem")
      (case s => omega)
      (case n => omega)
      intro it h₅ D₅
      (with_reducible refine' o_newList ?d ?_ ?z); (case d => with_reducible assumption); (case z => size_fits)
      intro ac h₆ D₆
      (with_reducible refine' o_cenv' ?d ?l ?c ?k ?g ?q ?_); (case d => with_reducible assumption); (case l => rfl); (case c => decide); (case k => rfl); (case g => rfl); (case q => rfl)
      intro C h₇ tk₇ oL' U₇ D₇
      walk_at "ow startRng"
      refine o_cloop (G := G) (Dr := Dr) (O := O) (fun h tk => ∃ nn cv', Led b C [] h ((L', oL') :: (ac, listOf (vs.take N).toArray nn) :: (rg, rngObj 0 N 1 t₄ t₃ t₅) :: (L, oL) :: (lf, listOf (vs.drop N).toArray cv') :: μ)) ?fin ?loop
      case fin =>
        clear D₁ D₃ D₄ D₅ D₆ D₇
        rintro h tk ⟨nn, cv', D₈⟩
        walk_at "ow compEnd"
        repeat walk_at "ow"
        refine' o_bytes hA1 (by with_reducible assumption) ?m (hi.take N) (fun n hn => hr n (List.mem_of_mem_take hn)) ?z ?_
        case m => walk_at "ow mem"
        case z => rw [sizeLine_eq, List.length_take]; omega
        intro h₉ t₉ tk₉ D₉
        have e1 : ns.take N = ns.take many.toNat := by
          have := hi.length
          rw [hN2]
          by_cases hc : many.toNat ≤ vs.length
          · rw [Nat.min_eq_left hc]
          · rw [Nat.min_eq_right (by omega), List.take_of_length_le (by omega), List.take_of_length_le (by omega)]
        have e2 : vs.drop N = vs.drop many.toNat := by
          rw [hN2]
          by_cases hc : many.toNat ≤ vs.length
          · rw [Nat.min_eq_left hc]
          · rw [Nat.min_eq_right (by omega), List.drop_of_length_le (by omega), List.drop_of_length_le (by omega)]
        rw [e1]
        refine LeaveQ.ret' (D₉.sub (μ' := (L, oL) :: (lf, listOf (vs.drop N).toArray cv') :: μ) (by walk_at "ow sub")) .head fun D' => k _ _ _ cv' ?_
        rw [← e2]
        exact D'
      case loop =>
        intro R fin
        refine o_compInv (fun d s => ∃ j h tk nn cv', d + j = N ∧ s = ⟨h, G, Dr, tk, O⟩ ∧ Led b C [] h ((L', oL') :: (ac, listOf (vs.take j).toArray nn) :: (it, rngIt (j : Int) (N - j : Int) 1) :: (rg, rngObj 0 N 1 t₄ t₃ t₅) :: (L, oL) :: (lf, listOf (vs.drop j).toArray cv') :: μ)) ?turn N ⟨0, _, _, _, cv, rfl, rfl, D₇⟩
        clear D₁ D₃ D₄ D₅ D₆ D₇
        rintro d _ ⟨j, h, tk, nn, cv', hd, rfl, D⟩
        by_cases hj : j = N
        · subst hj
          (with_reducible refine' o_endRng ?hh ?d ?l ?u ?_); (case hh => with_reducible assumption); (case d => with_reducible assumption); (case u => walk_at "ow rm"); (case l => omega)
          intro h₂ D₂
          exact fin _ _ ⟨nn, cv', D₂⟩
        · (with_reducible refine' o_nextRng ?d ?l ?u ?_); (case d => with_reducible assumption); (case u => walk_at "ow up"); (case l => omega)
          intro h₂ t₂ tk₂ D₂
          dsimp only
          refine o_letGoName ?_
          refine wpAny_assign_Name ?_
          repeat walk_at "ow"
          rename_i h₃ tk₃ D₃
          obtain ⟨y, hy1, hy2⟩ : ∃ y, vs.drop j = y :: vs.drop (j + 1) ∧ vs.take (j + 1) = vs.take j ++ [y] :=
            ⟨vs[j]'(by omega), List.drop_eq_getElem_cons (by omega), (List.take_append_getElem (by omega)).symm⟩
          rw [hy1] at D₃
          refine' o_popM D₃ ?m ?_
          case m => walk_at "ow mem"
          repeat walk_at "ow"
          refine' o_pop0 D₃ ?u ?z ?_
          case u => walk_at "ow up"
          case z => rw [← hy1, List.length_drop, sizeLine_eq]; omega
          intro h₄ D₄
          refine' o_append' D₄ ?u ?z ?_
          case u => walk_at "ow up"
          case z => rw [List.size_toArray, List.length_take, sizeLine_eq]; omega
          intro h₅ D₅
          rw [List.push_toArray, ← hy2] at D₅
          exact ⟨d - 1, by omega, j + 1, h₅, _, _, _, by omega, rfl, by
            have e : ((j + 1 : Nat) : Int) = (j : Int) + 1 := by omega
            rw [e, show (N : Int) - ((j : Int) + 1) = (N : Int) - j - 1 by omega]
            exact D₅.names (List.nil_sublist _)⟩
  intro hS
  dsimp only
  refine LeaveQ.ret' (by with_reducible assumption) (by walk_at "ow rm") fun D' => ?_
  refine' Led.retabK (c := 119) (ps' := #[rawInt 104, rawInt 32, .ref c1, rawInt 105, rawInt 18, .ref c2]) D' ?u ?e ?_
  case u => walk_at "ow up"
  case e => rfl
  clear D'
  intro D'
  refine' k _ _ _ _ _ _ _ _ _ _ lf vs cv c1 c2 oc1 oc2 hc1 hc2 hS hvs (D'.pick ?_)

  walk_at "ow pick"
theorem ct_streamH {ns : List Int} {tt : Tok} (B : BaseX w mg mb b)
    {c1 c2 : Addr} {oc1 oc2 : Obj} (hc1 : CodeO oc1 lamQ) (hc2 : CodeO oc2 lamQ) (D : Led b L al h ((119, tabObj #[rawInt 104, rawInt 32, .ref c1, rawInt 105, rawInt 18, .ref c2]) :: (c1, oc1) :: (c2, oc2) :: μ))
    (hh : A.handled = none) (hdp : A.depth + 1 < recursionLimit) (hr : ∀ n ∈ ns, 0 ≤ n ∧ n < 256) (hsz : ns.length ≤ 1000)
    (k : ∀ h' tk' f1 d f2 c fo1 oD fo2 o lf vs cv c1 c2 oc1 oc2, CodeO oc1 lamQ → CodeO oc2 lamQ → Strm w b f1 lf [(f1, fo1), (d, oD), (f2, fo2), (c, o), (c2, oc2)] → IntsAre vs ns →
      Led b L al h' ((lf, listOf vs.toArray cv) :: (f1, fo1) :: (d, oD) :: (f2, fo2) :: (c, o) :: (119, tabObj #[rawInt 104, rawInt 32, .ref c1, rawInt 105, rawInt 18, .ref c2]) :: (c1, oc1) :: (c2, oc2) :: μ) → Q (.ref f1) ⟨h', G, Dr, tk', O⟩) :
    wpAny (model P0 w) A (call (.ref 124) [.bytes (byteArr ns) tt]) Q E ⟨h, G, Dr, tk, O⟩ := by
  refine' o_callC1 (f := 124) (x := Str.ofString "left") (al₀ := [(Str.ofString "tape", .bytes (byteArr ns) tt)]) (cv := none) (binds := [(Str.ofString "tape", .bytes (byteArr ns) tt)]) B.B D ?k1 ?k2 (by omega) ?k3 ?kcs ?kk ?kal ?knn ?kcv ?_ ?c1 ?c2 ?c3
  case k1 => (show List.lookup _ (hd.heap_39 _) = _; k_is)
  case k2 => (show codeIn (hd.heap_39 _) _ _ = _; k_is)
  case k3 => rfl
  case kcs => (intro n; rfl)
  case kk => (intro y hy; rw [List.mem_singleton.mp hy]; exact .inl rfl)
  case kal => (intro p hp; rw [List.mem_singleton.mp hp]; rfl)
  case knn => (dsimp only [List.map]; decide)
  case kcv => rfl
  case c1 => rfl
  case c2 => rfl
  case c3 => rfl
  intro A' E' L' c o h₁ oL tk₁ hA1 hA2 hA3 ho D₁
  rw [hh] at hA1
  have B0 := B.B
  repeat walk_at "ow"
  refine Assign_Tuple ?_ (hs := rfl) (hw := rfl)
  repeat walk_at "ow"
  refine' o_listBytes (by with_reducible assumption) (by with_reducible assumption) ?hn ?_
  case hn => rw [sizeLine_eq]; simp [byteArr]; omega
  intro lf h₂ tk₂ vs cv hvs D₂
  rw [KBa.ints_make hr] at hvs
  repeat walk_at "ow"
  refine' o_lamHit B (by with_reducible assumption) ?hm ?ht ?hnf ?hdef ?hcl ?_
  case hm => walk_at "ow mem"
  case ht => kn_triples
  case hnf => exact rfl
  case hdef => rfl
  case hcl => rfl
  intro f1 ct1 h₃ tk₃ D₃
  repeat walk_at "ow"
  refine' o_newTup D₃ ?_ (by size_fits)
  intro tp h₄ D₄
  refine' o_unpackTup hA1 D₄ ⟨_, D₄.get List.mem_cons_self, rfl, _, rfl⟩ ?q1 ?q2 ?_
  case q1 => rfl
  case q2 => rfl
  intro h₅ D₅ _
  (show wpAny _ _ (assignInOrder [assign _ _, assign _ _] [_, _]) _ _ _)
  refine o_asgCons (wpAny_assign_Name ?_)
  refine' o_stCell D₅ ?s1 ?s2 ?s3 ?s4 ho ?_
  case s1 => rfl
  case s2 => rfl
  case s3 => rfl
  case s4 => walk_at "ow mem"
  intro o' h₆ ho' hU
  have D₆ := hU _ (by walk_at "ow up")
  clear hU
  refine o_asgCons (wpAny_assign_Name ?_)
  walk_at "ow"
  refine o_asgNil ?_
  repeat walk_at "ow"
  refine plainObj_wpAny_Assign_Attribute ?_ (hs := rfl)
  refine' o_lamHit B (by with_reducible assumption) ?hm ?ht ?hnf ?hdef ?hcl ?_
  case hm => walk_at "ow mem"
  case ht => kn_triples
  case hnf => exact rfl
  case hdef => rfl
  case hcl => rfl
  intro f2 ct2 h₇ tk₇ D₇
  repeat walk_at "ow"
  refine' o_setFn D₇ ?hm ?z1 ?z2 ?z3 ?_
  case hm => walk_at "ow mem"
  case z1 => rfl
  case z2 => rfl
  case z3 => rfl
  intro d oD h₈ tk₈ hN hU
  have D₈ := hU _ (by walk_at "ow up")
  clear hU
  repeat walk_at "ow"
  refine' strm_of (b := b) (lf := lf) (f1 := f1) (f2 := f2) (c := c) (c2 := c2) (oc := o') (oc2 := oc2) D₈ ?m1 ?m2 hN ?z1 ?z2 ?z3 ?z4 ?hcall ?_
  case m1 => walk_at "ow mem"
  case m2 => walk_at "ow mem"
  case z1 => rfl
  case z2 => rfl
  case z3 => rfl
  case z4 => rfl
  case hcall =>
      intro A L al h μ G Dr tk O Q E vs ns cv many t D m1 m2 m3 hi hr hh hdp hsz h0 k
      refine' o_callLam (binds := [(Str.ofString "many", .int many t)]) B0 D (List.mem_cons_of_mem _ m1) (List.mem_cons_of_mem _ m3) hc2 hdp ?k1 ?k2 ?k3 ?_ ?c1 ?c2 ?c3 ?c4
      case k1 => rfl
      case k2 => exact locs rfl
      case k3 => (dsimp only [List.map]; decide)
      case c1 => rfl
      case c2 => rfl
      case c3 => rfl
      case c4 => decide
      intro A' E' L' h₁ oL tk₁ hA1 hA2 hA3 D₁
      rw [hh] at hA1
      repeat walk_at "ow"
      refine' o_listComp (cl := [(Str.ofString "left", c)]) ?q1 ?q2 ?q3 ?q4 ?_
      case q1 => rfl
      case q2 => rfl
      case q3 => decide
      case q4 => (intro _; rfl)
      repeat walk_at "ow"
      refine' o_min hA1 (by with_reducible assumption) ?_
      intro h₃ t₃ tk₃ D₃
      obtain ⟨N, hN1, hN2⟩ : ∃ N : Nat, (if (vs.length : Int) < many then (vs.length : Int) else many) = (N : Int) ∧ N = min many.toNat vs.length := by
        refine ⟨min many.toNat vs.length, ?_, rfl⟩
        split <;> omega
      rw [hN1]
      repeat walk_at "ow"
      (with_reducible refine' o_range1 ?d ?_); (case d => with_reducible assumption)
      intro rg h₄ tk₄ t₄ t₅ D₄
      (with_reducible refine' o_iterRngN ?d ?m ?s ?n ?_)
      (case d => with_reducible assumption)
      (case m => walk_at "ow mem")
      (case s => omega)
      (case n => omega)
      intro it h₅ D₅
      (with_reducible refine' o_newList ?d ?_ ?z); (case d => with_reducible assumption); (case z => size_fits)
      intro ac h₆ D₆
      (with_reducible refine' o_cenv' ?d ?l ?c ?k ?g ?q ?_); (case d => with_reducible assumption); (case l => rfl); (case c => decide); (case k => rfl); (case g => rfl); (case q => rfl)
      intro C h₇ tk₇ oL' U₇ D₇
      walk_at "ow startRng"
      refine o_cloop (G := G) (Dr := Dr) (O := O) (fun h tk => ∃ nn cv', Led b C [] h ((L', oL') :: (ac, listOf (vs.take N).toArray nn) :: (rg, rngObj 0 N 1 t₄ t₃ t₅) :: (L, oL) :: (lf, listOf (vs.drop N).toArray cv') :: μ)) ?fin ?loop
      case fin =>
        clear D₁ D₃ D₄ D₅ D₆ D₇
        rintro h tk ⟨nn, cv', D₈⟩
        walk_at "ow compEnd"
        repeat walk_at "ow"
        refine' o_bytes hA1 (by with_reducible assumption) ?m (hi.take N) (fun n hn => hr n (List.mem_of_mem_take hn)) ?z ?_
        case m => walk_at "ow mem"
        case z => rw [sizeLine_eq, List.length_take]; omega
        intro h₉ t₉ tk₉ D₉
        have e1 : ns.take N = ns.take many.toNat := by
          have := hi.length
          rw [hN2]
          by_cases hc : many.toNat ≤ vs.length
          · rw [Nat.min_eq_left hc]
          · rw [Nat.min_eq_right (by omega), List.take_of_length_le (by omega), List.take_of_length_le (by omega)]
        have e2 : vs.drop N = vs.drop many.toNat := by
          rw [hN2]
          by_cases hc : many.toNat ≤ vs.length
          · rw [Nat.min_eq_left hc]
          · rw [Nat.min_eq_right (by omega), List.drop_of_length_le (by omega), List.drop_of_length_le (by omega)]
        rw [e1]
        refine LeaveQ.ret' (D₉.sub (μ' := (L, oL) :: (lf, listOf (vs.drop N).toArray cv') :: μ) (by walk_at "ow sub")) .head fun D' => k _ _ _ cv' ?_
        rw [← e2]
        exact D'
      case loop =>
        intro R fin
        refine o_compInv (fun d s => ∃ j h tk nn cv', d + j = N ∧ s = ⟨h, G, Dr, tk, O⟩ ∧ Led b C [] h ((L', oL') :: (ac, listOf (vs.take j).toArray nn) :: (it, rngIt (j : Int) (N - j : Int) 1) :: (rg, rngObj 0 N 1 t₄ t₃ t₅) :: (L, oL) :: (lf, listOf (vs.drop j).toArray cv') :: μ)) ?turn N ⟨0, _, _, _, cv, rfl, rfl, D₇⟩
        clear D₁ D₃ D₄ D₅ D₆ D₇
        rintro d _ ⟨j, h, tk, nn, cv', hd, rfl, D⟩
        by_cases hj : j = N
        · subst hj
          (with_reducible refine' o_endRng ?hh ?d ?l ?u ?_); (case hh => with_reducible assumption); (case d => with_reducible assumption); (case u => walk_at "ow rm"); (case l => omega)
          intro h₂ D₂
          exact fin _ _ ⟨nn, cv', D₂⟩
        · (with_reducible refine' o_nextRng ?d ?l ?u ?_); (case d => with_reducible assumption); (case u => walk_at "ow up"); (case l => omega)
          intro h₂ t₂ tk₂ D₂
          dsimp only
          refine o_letGoName ?_
          refine wpAny_assign_Name ?_
          repeat walk_at "ow"
          rename_i h₃ tk₃ D₃
          obtain ⟨y, hy1, hy2⟩ : ∃ y, vs.drop j = y :: vs.drop (j + 1) ∧ vs.take (j + 1) = vs.take j ++ [y] :=
            ⟨vs[j]'(by omega), List.drop_eq_getElem_cons (by omega), (List.take_append_getElem (by omega)).symm⟩
          rw [hy1] at D₃
          refine' o_popM D₃ ?m ?_
          case m => walk_at "ow mem"
          repeat walk_at "ow"
          refine' o_pop0 D₃ ?u ?z ?_
          case u => walk_at "ow up"
          case z => rw [← hy1, List.length_drop, sizeLine_eq]; omega
          intro h₄ D₄
          refine' o_append' D₄ ?u ?z ?_
          case u => walk_at "ow up"
          case z => rw [List.size_toArray, List.length_take, sizeLine_eq]; omega
          intro h₅ D₅
          rw [List.push_toArray, ← hy2] at D₅
          exact ⟨d - 1, by omega, j + 1, h₅, _, _, _, by omega, rfl, by
            have e : ((j + 1 : Nat) : Int) = (j : Int) + 1 := by omega
            rw [e, show (N : Int) - ((j : Int) + 1) = (N : Int) - j - 1 by omega]
            exact D₅.names (List.nil_sublist _)⟩
  intro hS
  dsimp only
  refine LeaveQ.ret' (by with_reducible assumption) (by walk_at "ow rm") fun D' => ?_
  refine' k _ _ _ _ _ _ _ _ _ _ lf vs cv c1 c2 oc1 oc2 hc1 hc2 hS hvs (D'.pick ?_)

  walk_at "ow pick"
theorem ct_stream {ns : List Int} {tt : Tok} {τ : List (Addr × Obj)} (B : BaseX w mg mb b) (T : TabL τ) (D : Led b L al h (τ ++ μ))
    (hh : A.handled = none) (hdp : A.depth + 1 < recursionLimit) (hr : ∀ n ∈ ns, 0 ≤ n ∧ n < 256) (hsz : ns.length ≤ 1000)
    (k : ∀ h' tk' f1 lf vs cv S τ', TabL τ' → Strm w b f1 lf (S ++ τ') → IntsAre vs ns →
      Led b L al h' ((lf, listOf vs.toArray cv) :: S ++ τ' ++ μ) → Q (.ref f1) ⟨h', G, Dr, tk', O⟩) :
    wpAny (model P0 w) A (call (.ref 124) [.bytes (byteArr ns) tt]) Q E ⟨h, G, Dr, tk, O⟩ := by
  have K : ∀ h' tk' f1 d f2 c fo1 oD fo2 o lf vs cv c1 c2 oc1 oc2, CodeO oc1 lamQ → CodeO oc2 lamQ → Strm w b f1 lf [(f1, fo1), (d, oD), (f2, fo2), (c, o), (c2, oc2)] → IntsAre vs ns →
      Led b L al h' ((lf, listOf vs.toArray cv) :: (f1, fo1) :: (d, oD) :: (f2, fo2) :: (c, o) :: (119, tabObj #[rawInt 104, rawInt 32, .ref c1, rawInt 105, rawInt 18, .ref c2]) :: (c1, oc1) :: (c2, oc2) :: μ) → Q (.ref f1) ⟨h', G, Dr, tk', O⟩ := by
    intro h' tk' f1 d f2 c fo1 oD fo2 o lf vs cv c1 c2 oc1 oc2 hc1 hc2 hS hvs D
    refine k h' tk' f1 lf vs cv [(f1, fo1), (d, oD), (f2, fo2), (c, o)] [(119, tabObj #[rawInt 104, rawInt 32, .ref c1, rawInt 105, rawInt 18, .ref c2]), (c1, oc1), (c2, oc2)] (.inr ⟨c1, c2, oc1, oc2, rfl, hc1, hc2⟩) ?_ hvs D
    refine hS.mono fun p hp => ?_
    simp only [List.mem_cons, List.not_mem_nil, or_false] at hp
    rcases hp with rfl | rfl | rfl | rfl | rfl <;> simp
  rcases T with rfl | ⟨c1, c2, o1, o2, rfl, h1, h2⟩
  · exact ct_streamN B D hh hdp hr hsz K
  · exact ct_streamH B h1 h2 D hh hdp hr hsz K
end
end

section
section
variable {w : World} {A : Around} {b h : Heap} {L : Addr} {al : List (Str × Value)} {μ : List (Addr × Obj)} {mg mb : Str → Option Value} {G : Array GenState} {Dr : Drawn} {tk : Nat} {O : OsState} {Q : Value → Shared → Prop} {E : Value → Shared → Prop} {env : Env} {l : List Env}
theorem ct_uint1 {f1 lf : Addr} {S : List (Addr × Obj)} {vs : List Value} {ns : List Int} {cv : Nat} (B : Base w mg mb b) (X : Strm w b f1 lf S) (D : Led b L al h ((lf, listOf vs.toArray cv) :: μ)) (hS : ∀ p ∈ S, p ∈ μ) (hi : IntsAre vs ns) (hr : ∀ n ∈ ns, 0 ≤ n ∧ n < 256) (hz : vs.length ≤ 1000)
    (hh : A.handled = none) (hdp : A.depth + 1 < recursionLimit) (hfr : A.frames = some (env :: l)) (hf : env.frame = some L) (hke : env.scope.kind ≠ .module) (hFF : FF l μ)
    (k : ∀ n ns' vs' h' tk' t cv', ns = n :: ns' → IntsAre vs' ns' → Led b L al h' ((lf, listOf vs'.toArray cv') :: μ) → Q (.int n t) ⟨h', G, Dr, tk', O⟩)
    (ke : ∀ h' tk' e t tm cv', ns = [] → Fl b L al ((lf, listOf #[] cv') :: μ) (env :: l) e t [.str msg1 tm] h' → E (.ref e) ⟨h', G, Dr, tk', O⟩) :
    wpAny (model P0 w) A (call (.ref 28) [.ref f1]) Q E ⟨h, G, Dr, tk, O⟩ := by
  refine' o_callR (f := 28) (binds := [(Str.ofString "f", .ref f1)]) B D hfr hf hke ?k1 ?k2 (by omega) ?k3 ?k4 ?k5 ?_ ?c1 ?c2 ?c3 ?c4
  walk_at "ow enter"
  intro A' E' L' h₁ oL tk₁ hA1 hA2 hA3 hA4 U kE1 kE2 D₁
  rw [hh] at hA1
  obtain ⟨f2, X1, X2, fo2, fd2, X3, X4⟩ := X
  have hS1 : ∀ p ∈ S, p ∈ (L, oL) :: (lf, listOf vs.toArray cv) :: μ := fun p hp => .tail _ (.tail _ (hS p hp))
  repeat walk_at "ow"
  refine X1 _ _ _ _ _ _ _ _ _ _ _ _ D₁ hS1 ?_
  intro tk₂
  dsimp only
  refine' o_callWithF D₁ (hS1 _ X3) X4 ?_ ?he ?hp
  case he => rfl
  case hp => rfl
  repeat walk_at "ow"
  refine o_fnAt D₁ (hS1 _ X3) X4 ?_
  refine X2 _ _ _ _ ((L, oL) :: μ) _ _ _ _ _ _ vs ns cv _ _ (D₁.pick (by walk_at "ow pick")) (fun p hp => .tail _ (hS p hp)) hi hr hA1 (by omega) hz (by decide) ?_
  intro h₃ tk₃ t₃ cv₃ D₃
  repeat walk_at "ow"
  rename_i h₃' tk₃' D₃'
  have hr1 : ∀ n ∈ ns.take (1 : Int).toNat, 0 ≤ n ∧ n < 256 := fun n hn => hr n (List.mem_of_mem_take hn)
  have hz1 : (ns.take (1 : Int).toNat).length ≤ 1000 := by rw [List.length_take]; omega
  refine o_truthyB hr1 hz1 fun tk₄ => ?_
  cases hi with
  | nil =>
    refine o_ifF (by rfl) ?_
    repeat walk_at "ow"
    try dsimp only
    repeat walk_at "ow"
    refine Raise_madeB PySem.F.excCall_ValueError PySem.F.excRaise_ValueError hA1 ?_
    repeat walk_at "ow"
    refine ⟨rfl, ?_⟩
    repeat walk_at "ow"
    refine ⟨by size_fits, fun h₅ e hX => ?_⟩
    have D₄ : Led b L' _ h₃' ((lf, listOf #[] cv₃) :: (L, oL) :: μ) := D₃'
    refine kE1 _ _ _ _ _ ((lf, listOf #[] cv₃) :: μ) _ (D₄.pick (by walk_at "ow pick")) hFF.more hX fun h' t hF => ke _ _ _ _ _ _ rfl hF
  | cons n t hi' =>
    refine o_ifT (by rfl) ?_
    repeat walk_at "ow"
    refine' o_itemB hr1 hz1 (by decide) ?z ?_ ?s1 ?s2
    case z => simp
    case s1 => with_unfolding_all rfl
    case s2 => (intro _; with_unfolding_all rfl)
    intro t₅ tk₅
    dsimp only
    refine LeaveR.ret0 (by with_reducible assumption) (by walk_at "ow rm") fun D' => ?_
    exact k _ _ _ _ _ _ _ rfl hi' D'
end
end

section
section
variable {w : World} {A : Around} {b h : Heap} {L : Addr} {al : List (Str × Value)} {μ : List (Addr × Obj)} {mg mb : Str → Option Value} {G : Array GenState} {Dr : Drawn} {tk : Nat} {O : OsState} {Q : Value → Shared → Prop} {E : Value → Shared → Prop} {env : Env} {l : List Env}
theorem ct_bytes1 {f1 lf : Addr} {S : List (Addr × Obj)} {vs : List Value} {ns : List Int} {cv : Nat} (B : Base w mg mb b) (X : Strm w b f1 lf S) (D : Led b L al h ((lf, listOf vs.toArray cv) :: μ)) (hS : ∀ p ∈ S, p ∈ μ) (hi : IntsAre vs ns) (hr : ∀ n ∈ ns, 0 ≤ n ∧ n < 256) (hz : vs.length ≤ 1000)
    (hh : A.handled = none) (hdp : A.depth + 2 < recursionLimit) (hfr : A.frames = some (env :: l)) (hf : env.frame = some L) (hke : env.scope.kind ≠ .module) (hFF : FF l μ)
    (k : ∀ n ns' vs' h' tk' t cv', ns = n :: ns' → 0 ≤ n → n ≤ ns'.length → IntsAre vs' (ns'.drop n.toNat) → Led b L al h' ((lf, listOf vs'.toArray cv') :: μ) → Q (.bytes (byteArr (ns'.take n.toNat)) t) ⟨h', G, Dr, tk', O⟩)
    (ke : ∀ h' tk' e t tm cv' vs', ns = [] → Fl b L al ((lf, listOf vs' cv') :: μ) (env :: l) e t [.str msg1 tm] h' → E (.ref e) ⟨h', G, Dr, tk', O⟩)
    (ke2 : ∀ h' tk' e t tm cv' vs' n ns', ns = n :: ns' → (ns'.length : Int) < n → Fl b L al ((lf, listOf vs' cv') :: μ) (env :: l) e t [.str (msg2 n ns'.length) tm] h' → E (.ref e) ⟨h', G, Dr, tk', O⟩) :
    wpAny (model P0 w) A (call (.ref 35) [.ref f1]) Q E ⟨h, G, Dr, tk, O⟩ := by
  refine' o_callR (f := 35) (binds := [(Str.ofString "f", .ref f1)]) B D hfr hf hke ?k1 ?k2 (by omega) ?k3 ?k4 ?k5 ?_ ?c1 ?c2 ?c3 ?c4
  walk_at "ow enter"
  intro A' E' L' h₁ oL tk₁ hA1 hA2 hA3 hA4 U kE1 kE2 D₁
  rw [hh] at hA1
  repeat walk_at "ow"
  refine' ct_uint1 (S := S) (ns := ns) (μ := (L, oL) :: μ) B X (D₁.pick ?pk) (fun p hp => .tail _ (hS p hp)) hi hr hz hA1 (by omega) hA4 rfl ?hk (FF.cons U hf hke hFF) ?kq ?ke
  case pk => walk_at "ow pick"
  case hk => exact fun q => nomatch q
  case ke =>
    intro h₂ tk₂ e t tm cv' hns hF
    exact kE2 _ _ _ _ _ ((lf, listOf #[] cv') :: μ) _ (hF.pick (by walk_at "ow pick")) fun h' hF' => ke _ _ _ _ _ _ _ hns hF'
  intro n ns' vs' h₂ tk₂ t₂ cv₂ hns hi₂ D₂
  subst hns
  have hn := hr n (.head _)
  have hr2 : ∀ m ∈ ns', 0 ≤ m ∧ m < 256 := fun m hm => hr m (.tail _ hm)
  have hz2 : vs'.length ≤ 1000 := by
    have h1 := hi.length
    have h2 := hi₂.length
    rw [List.length_cons] at h1
    omega
  repeat walk_at "ow"
  refine ⟨decide_eq_true hn.1, ?_⟩
  repeat walk_at "ow"
  obtain ⟨f2, X1, X2, fo2, fd2, X3, X4⟩ := X
  rename Led b L' _ _ _ => D₃
  have hS3 : ∀ p ∈ S, p ∈ (lf, listOf vs'.toArray cv₂) :: (L, oL) :: μ := fun p hp => .tail _ (.tail _ (hS p hp))
  refine X1 _ _ _ _ _ _ _ _ _ _ _ _ D₃ hS3 ?_
  intro tk₄
  dsimp only
  refine' o_callWithF D₃ (hS3 _ X3) X4 ?_ ?he ?hp
  case he => rfl
  case hp => rfl
  repeat walk_at "ow"
  refine o_fnAt D₃ (hS3 _ X3) X4 ?_
  refine X2 _ _ _ _ ((L, oL) :: μ) _ _ _ _ _ _ vs' ns' cv₂ _ _ D₃ (fun p hp => .tail _ (hS p hp)) hi₂ hr2 hA1 (by omega) hz2 hn.1 ?_
  intro h₅ tk₅ t₅ cv₅ D₅
  repeat walk_at "ow"
  have hl2 := hi₂.length
  have hr3 : ∀ m ∈ ns'.take n.toNat, 0 ≤ m ∧ m < 256 := fun m hm => hr2 m (List.mem_of_mem_take hm)
  have hz3 : (ns'.take n.toNat).length ≤ 1000 := by rw [List.length_take]; omega
  refine o_lenB hr3 hz3 ?_
  intro t₆ tk₆
  repeat walk_at "ow"
  rename Led b L' _ _ _ => D₆
  by_cases hc : n ≤ ns'.length
  · have e : (ns'.take n.toNat).length = n.toNat := by rw [List.length_take]; omega
    refine o_ifT (by rw [e]; exact beq_iff_eq.mpr (by omega)) ?_
    repeat walk_at "ow"
    dsimp only
    refine LeaveR.ret0 (by with_reducible assumption) (by walk_at "ow rm") fun D' => ?_
    exact k _ _ _ _ _ _ _ rfl hn.1 hc (hi₂.drop _) D'
  · have e : (ns'.take n.toNat).length = ns'.length := by rw [List.length_take]; omega
    rw [List.take_of_length_le (by omega)] at *
    refine o_ifF (beq_eq_false_iff_ne.mpr (by omega)) ?_
    repeat walk_at "ow"
    refine Raise_madeB PySem.F.excCall_ValueError PySem.F.excRaise_ValueError hA1 ?_
    repeat walk_at "ow"
    refine ⟨rfl, ?_⟩
    repeat walk_at "ow"
    refine o_lenB hr3 hz3 ?_
    intro t₇ tk₈
    repeat walk_at "ow"
    refine o_newTup D₆ (fun tp h₉ D₉ => ?_) (by size_fits)
    refine o_mod2 D₉ (.head _) (by omega) (by omega) (by omega) (by omega) ?_
    intro t₉ tk₉
    repeat walk_at "ow"
    refine ⟨by size_fits, fun h' e hX => ?_⟩
    refine kE1 _ _ _ _ _ ((lf, listOf (vs'.drop n.toNat).toArray cv₅) :: μ) _ (D₉.pick (by walk_at "ow pick")) hFF.more hX fun h' t hF => ke2 _ _ _ _ _ _ _ n ns' rfl (by omega) hF
end
end

section
section
variable {w : World} {A : Around} {b h : Heap} {L : Addr} {al : List (Str × Value)} {μ : List (Addr × Obj)} {mg mb : Str → Option Value} {G : Array GenState} {Dr : Drawn} {tk : Nat} {O : OsState} {Q : Value → Shared → Prop} {E : Value → Shared → Prop} {env : Env}
theorem ct_read {ns : List Int} {tt : Tok} {τ : List (Addr × Obj)} (B : BaseX w mg mb b) (T : TabL τ) (D : Led b L al h (τ ++ μ)) (hr : ∀ n ∈ ns, 0 ≤ n ∧ n < 256) (hz : ns.length ≤ 1000)
    (hh : A.handled = none) (hdp : A.depth + 4 < recursionLimit) (hu : A.units + 10 < cLine) (hfr : A.frames = some [env]) (hf : env.frame = some L) (hke : env.scope.kind ≠ .module)
    (k : ∀ h' tk' tm lr fl n1 n2 vs ρ τ', TabL τ' → FilesIn ρ vs (rd (ns.length + 1) ns).1 → Led b L al h' ((lr, listOf #[.ref fl, .str (rd (ns.length + 1) ns).2 tm] n1) :: (fl, listOf vs.toArray n2) :: ρ ++ τ' ++ μ) → Q (.ref lr) ⟨h', G, Dr, tk', O⟩) :
    wpAny (model P0 w) A (call (.ref 131) [.bytes (byteArr ns) tt]) Q E ⟨h, G, Dr, tk, O⟩ := by
  have B0 := B.B
  refine' o_callR (f := 131) (binds := [(Str.ofString "tape", .bytes (byteArr ns) tt)]) B0 D hfr hf hke ?k1 ?k2 (by omega) ?k3 ?k4 ?k5 ?_ ?c1 ?c2 ?c3 ?c4
  walk_at "ow enter"
  intro A' E' L' h₁ oL tk₁ hA1 hA2 hA3 hA4 U kE1 kE2 D₁
  rw [hh] at hA1
  repeat walk_at "ow"
  refine Assign_Tuple_swapped (names := [Str.ofString "stream", Str.ofString "files"]) ?_ (hs := rfl) (hw := rfl)
  repeat walk_at "ow"
  refine ct_stream (μ := (L, oL) :: μ) B T (D₁.perm List.perm_middle) hA1 (by omega) hr hz ?_
  intro h₂ tk₂ f1 lf vs cv S τ' T' X hi D₂
  clear D₁
  repeat walk_at "ow"
  rename_i fl h₃ D₃
  refine' o_newTup D₃ ?_ (by size_fits)
  intro tp h₄ D₄
  refine' o_unpackT hA1 D₄ List.mem_cons_self rfl ?_
  intro h₅ D₅
  (show wpAny _ _ (assignInOrder [bindName _ _, bindName _ _] [_, _]) _ _ _)
  refine o_asgCons (wpAny_bindName ?_)
  walk_at "ow"
  refine o_asgCons (wpAny_bindName ?_)
  walk_at "ow"
  refine o_asgNil ?_
  repeat walk_at "ow"
  refine wpAny_Try_except ?_
  repeat walk_at "ow"
  refine wpAny_While ?_
  rename Led b L' _ _ _ => D₆
  generalize hN : [(Str.ofString "tape", Value.bytes (byteArr ns) tt), (Str.ofString "files", Value.ref fl), (Str.ofString "stream", Value.ref f1)] = N₀ at D₆
  have D₇ := (D₆.sub (List.sublist_cons_self _ _)).perm (μ' := (lf, listOf vs.toArray cv) :: (fl, listOf #[] 0) :: (L, oL) :: (S ++ τ' ++ μ)) ((List.Perm.swap _ _ _).trans ((List.perm_middle.symm.cons _).cons _))
  clear D₆ D₃ D₄ D₅ D₂
  generalize hR : rd (ns.length + 1) ns = res at k
  refine o_wloop (G := G) (Dr := Dr) (O := O) hA4 (fun l h tk e => ∃ t tm vs' cv' fvs nn ρ, FilesIn ρ fvs res.1 ∧ Fl b L' N₀ ((lf, listOf vs' cv') :: (fl, listOf fvs.toArray nn) :: (L, oL) :: (ρ ++ (S ++ τ' ++ μ))) l e t [.str res.2 tm] h) ?fin ?loop
  case fin =>
    rintro h tk e ⟨t, tm, vs', cv', fvs, nn, ρ, hfi, hF⟩
    refine' Fl.caughtAs (fun sl => (lf, listOf vs' cv') :: (fl, listOf fvs.toArray nn) :: (L, { oL with slots := sl }) :: (ρ ++ (S ++ τ' ++ μ))) B0 hF hA4 rfl hf (o1 := oL) ?m1 ?d1 (fun x s' q => q) rfl rfl rfl rfl rfl ?fr rfl ?nn ?_ ?up
    case m1 => walk_at "ow mem"
    case d1 => (obtain ⟨m, ⟨es, ep, u1, _⟩, _⟩ := U.loc; intro vs q; rw [u1] at q; cases q)
    case fr => (show nsIn (hd.heap_39 _) _ _ = _; k_is)
    case nn => (subst hN; dsimp only [List.map]; decide)
    case up => exact fun sl => .tail (.tail .head)
    intro h' oe sl tk' E₂ hoe D
    subst hN
    clear hF
    dsimp only [List.cons_append, List.nil_append] at D
    repeat walk_at "ow"
    refine' o_strExc D ?m1 hoe ?m2 ?u ?_
    case m1 => walk_at "ow mem"
    case m2 => walk_at "ow mem"
    case u => (show A'.units + 2 < cLine; omega)
    repeat walk_at "ow"
    rename_i lr h₈ D₈
    refine' o_nameGoes D₈ rfl rfl rfl ?_
    intro h₉ tk₉ D₉
    try dsimp only
    refine' LeaveR.ret D₉ ?u ?_
    case u => walk_at "ow rm"
    intro D'
    refine k h₉ _ tm lr fl 0 nn fvs ρ τ' T' hfi (D'.sub ?_)
    refine List.Sublist.cons_cons _ (List.Sublist.cons _ (List.Sublist.cons _ (List.Sublist.cons _ (List.Sublist.cons_cons _ ?_))))
    rw [List.append_assoc, List.append_assoc]
    exact sub_mid S τ' μ ρ
  case loop =>
    clear k
    intro R fin
    refine codeAny_whileLoop (fun n s => ∃ h tk vs' cv' rem fvs done nn ρ, rem.length < n ∧ res = (done ++ (rd n rem).1, (rd n rem).2) ∧ done.length + rem.length ≤ ns.length ∧ s = ⟨h, G, Dr, tk, O⟩ ∧ IntsAre vs' rem ∧ (∀ x ∈ rem, 0 ≤ x ∧ x < 256) ∧ FilesIn ρ fvs done ∧
      Led b L' N₀ h ((lf, listOf vs'.toArray cv') :: (fl, listOf fvs.toArray nn) :: (L, oL) :: (ρ ++ (S ++ τ' ++ μ)))) ?turn (ns.length + 1)
      ⟨_, _, vs, cv, ns, [], [], 0, [], Nat.lt_succ_self _, by rw [hR]; simp, by simp, rfl, hi, hr, .nil, D₇⟩
    clear D₇ hR
    rintro n _ ⟨h, tk, vs', cv', rem, fvs, done, nn, ρ, hn, hres, hlen, rfl, hi', hr', hfi, D⟩
    subst hN
    obtain ⟨n, rfl⟩ : ∃ m, n = m + 1 := ⟨n - 1, by omega⟩
    have hl1 := hi'.length
    have hS1 : ∀ p ∈ S ++ τ', p ∈ (fl, listOf fvs.toArray nn) :: (L, oL) :: (ρ ++ (S ++ τ' ++ μ)) := fun p hp => .tail _ (.tail _ (List.mem_append.mpr (.inr (List.mem_append.mpr (.inl hp)))))
    have hFF : FF [env] ((fl, listOf fvs.toArray nn) :: (L, oL) :: (ρ ++ (S ++ τ' ++ μ))) := (FF.cons (l := []) U hf hke trivial).more
    repeat walk_at "ow"
    refine' ct_bytes1 (ns := rem) B0 X D hS1 hi' hr' (by omega) hA1 (by omega) hA4 rfl ?hk hFF ?kq ?ke ?ke2
    case hk => exact fun q => nomatch q
    case ke =>
      intro h' tk' e t tm cv' vs' hns hF
      subst hns
      exact fin _ _ _ ⟨t, tm, vs', cv', fvs, nn, ρ, by rw [hres]; simpa [rd] using hfi, by rw [hres]; exact hF.names (by walk_at "ow sub")⟩
    case ke2 =>
      intro h' tk' e t tm cv' vs' m r hns hm hF
      subst hns
      have e1 : rd (n + 1) (m :: r) = ([], msg2 m r.length) := by unfold rd; rw [if_pos hm]
      exact fin _ _ _ ⟨t, tm, vs', cv', fvs, nn, ρ, by rw [hres, e1]; simpa using hfi, by rw [hres, e1]; exact hF.names (by walk_at "ow sub")⟩
    intro m r vs₂ h₂ tk₂ t₂ cv₂ hrem hm0 hm1 hi₂ D₂
    subst hrem
    clear D
    repeat walk_at "ow"
    rename Led b L' _ _ _ => D₃
    have hrr : ∀ x ∈ r, 0 ≤ x ∧ x < 256 := fun x hx => hr' x (.tail _ hx)
    have hl2 := hi₂.length
    rw [List.length_drop] at hl2
    rw [List.length_cons] at hl1 hlen hn
    have hno : r.drop m.toNat = [] ∨ (∃ x, r.drop m.toNat = [x]) → rd (n + 1) (m :: r) = ([], msg1) := by
      intro hq
      unfold rd
      rw [if_neg (by omega)]
      rcases hq with q | ⟨x, q⟩ <;> rw [q]
    refine' ct_uint1 (ns := r.drop m.toNat) B0 X D₃ hS1 hi₂ (fun x hx => hrr x (List.mem_of_mem_drop hx)) (by omega) hA1 (by omega) hA4 rfl ?hk2 hFF ?kq2 ?ke3
    case hk2 => exact fun q => nomatch q
    case ke3 =>
      intro h' tk' e t tm cv' hns hF
      rw [hno (.inl hns)] at hres
      exact fin _ _ _ ⟨t, tm, _, cv', fvs, nn, ρ, by rw [hres]; simpa using hfi, by rw [hres]; exact hF.names (by walk_at "ow sub")⟩
    intro lo r₂ vs₃ h₃ tk₃ t₃ cv₃ hr₂ hi₃ D₄
    clear D₂ D₃
    have hlr : r₂.length + 1 + m.toNat = r.length := by
      have := congrArg List.length hr₂
      rw [List.length_drop, List.length_cons] at this
      omega
    have hl3 := hi₃.length
    have hrr2 : ∀ x ∈ lo :: r₂, 0 ≤ x ∧ x < 256 := fun x hx => hrr x (List.mem_of_mem_drop (by rw [hr₂]; exact hx))
    repeat walk_at "ow"
    refine' o_listBytes hA1 (by with_reducible assumption) ?hn ?_
    case hn => (rw [byteArr_size, List.length_take, sizeLine_eq]; omega)
    intro nl h₅ tk₅ nvs nc hnv D₅
    rw [KBa.ints_make (fun x hx => hrr x (List.mem_of_mem_take hx))] at hnv
    repeat walk_at "ow"
    refine' ct_uint1 (ns := r₂) (μ := (nl, listOf nvs.toArray nc) :: (fl, listOf fvs.toArray nn) :: (L, oL) :: (ρ ++ (S ++ τ' ++ μ))) B0 X (D₅.pick ?pk) (fun p hp => .tail _ (hS1 p hp)) hi₃ (fun x hx => hrr2 x (.tail _ hx)) (by omega) hA1 (by omega) hA4 rfl ?hk3 hFF.more ?kq3 ?ke4
    case pk => walk_at "ow pick"
    case hk3 => exact fun q => nomatch q
    case ke4 =>
      intro h' tk' e t tm cv' hns hF
      rw [hno (.inr ⟨lo, by rw [hr₂, hns]⟩)] at hres
      exact fin _ _ _ ⟨t, tm, _, cv', fvs, nn, ρ, by rw [hres]; simpa using hfi, by rw [hres]; exact (hF.pick (by walk_at "ow pick")).names (by walk_at "ow sub")⟩
    intro hi₄ r₃ vs₄ h₆ tk₆ t₆ cv₆ hr₃ hi₅ D₆
    clear D₅
    subst hr₃
    rw [List.length_cons] at hlr hl3
    have hl5 := hi₅.length
    have hfl := hfi.length
    repeat walk_at "ow"
    rename_i ne h₇ D₇ h₈ D₈
    clear D₆ D₇
    dsimp only
    have hrd : rd (n + 1) (m :: r) = ((r.take m.toNat, lo + 256 * hi₄) :: (rd n r₃).1, (rd n r₃).2) := by
      rw [rd, if_neg (by omega), hr₂]
    rw [List.push_toArray] at D₈
    have D₉ := (D₈.names (al' := [(Str.ofString "tape", Value.bytes (byteArr ns) tt), (Str.ofString "files", Value.ref fl), (Str.ofString "stream", Value.ref f1)]) (by walk_at "ow sub")).pick (μ' := (lf, _) :: (fl, _) :: (L, oL) :: (ne, _) :: (nl, _) :: (ρ ++ (S ++ τ' ++ μ))) (by walk_at "ow pick")
    refine ⟨n, Nat.lt_succ_self _, h₈, _, vs₄, cv₆, r₃, fvs ++ [.ref ne], done ++ [(r.take m.toNat, lo + 256 * hi₄)], _, (ne, _) :: (nl, _) :: ρ, by omega, ?_, ?_, rfl, hi₅, fun x hx => hrr2 x (.tail _ (.tail _ hx)), ?_, D₉⟩
    · rw [hres, hrd]; simp
    · rw [List.length_append, List.length_singleton]; omega
    · exact (hfi.mono fun p hp => .tail _ (.tail _ hp)).snoc (.cons (.head _) (.tail _ (.head _)) hnv .nil)

end
end

section
section
variable {w : World} {A : Around} {b h : Heap} {L : Addr} {al : List (Str × Value)} {μ : List (Addr × Obj)} {mg mb : Str → Option Value} {G : Array GenState} {Dr : Drawn} {tk : Nat} {O : OsState} {Q : Value → Shared → Prop} {E : Value → Shared → Prop} {env : Env}
theorem ct_due {fl : Addr} {fvs : List Value} {fn : Nat} {fs : List (List Int × Int)} {e : Int} {te : Tok} (B : Base w mg mb b) (D : Led b L al h μ) (hfl : (fl, listOf fvs.toArray fn) ∈ μ) (hfs : FilesIn μ fvs fs) (hz : ∀ f ∈ fs, f.1.length ≤ 1000) (hn : fs.length ≤ 1000) (he : 0 ≤ e) (he2 : e < 100000)
    (hh : A.handled = none) (hdp : A.depth + 1 < recursionLimit)
    (k : ∀ h' tk' tm lr wl n1 n2 vs ρ, FilesIn (ρ ++ μ) vs (due fs e).1 → Led b L al h' ((lr, listOf #[.ref wl, .str (due fs e).2 tm] n1) :: (wl, listOf vs.toArray n2) :: (ρ ++ μ)) → Q (.ref lr) ⟨h', G, Dr, tk', O⟩) :
    wpAny (model P0 w) A (call (.ref 138) [.ref fl, .int e te]) Q E ⟨h, G, Dr, tk, O⟩ := by
  refine' o_callN (f := 138) (binds := [(Str.ofString "files", .ref fl), (Str.ofString "end", .int e te)]) B D ?k1 ?k2 (by omega) ?k3 ?k4 ?k5 ?_ ?c1 ?c2 ?c3 ?c4
  walk_at "ow enter"
  intro A' E' L' h₁ oL tk₁ hA1 hA2 hA3 D₁
  rw [hh] at hA1
  repeat walk_at "ow"
  rename_i wl h₂ D₂ h₃ tk₃ D₃
  refine' o_iterLst D₃ ?m ?_
  case m => walk_at "ow mem"
  intro it o h₄ ho D₄
  clear D₁ D₂ D₃
  generalize hR : due fs e = res at k
  have hl0 := hfs.length
  refine o_floop (G := G) (Dr := Dr) (O := O) (fun h tk => ∃ wl wn wvs ρ e te, FilesIn (ρ ++ μ) wvs res.1 ∧ res.2 = msg1 ∧ Led b L' [(Str.ofString "files", .ref fl), (Str.ofString "end", .int e te), (Str.ofString "whole", .ref wl)] h ((wl, listOf wvs.toArray wn) :: (L, oL) :: (ρ ++ μ)))
    (fun v h tk => ∃ lr wl wn wvs ρ tm, v = .ref lr ∧ FilesIn (ρ ++ μ) wvs res.1 ∧ Led b L' [] h ((lr, listOf #[.ref wl, .str res.2 tm] 0) :: (wl, listOf wvs.toArray wn) :: (L, oL) :: (ρ ++ μ))) ?fin ?finR ?loop
  case fin =>
    clear D₄
    rintro h tk ⟨wl, wn, wvs, ρ, e, te, hfi, hm, D⟩
    dsimp only
    repeat walk_at "ow"
    rename_i t₅ tk₅ lr h₅ D₅
    refine LeaveQ.ret' D₅ (by walk_at "ow rm") fun D' => k _ _ t₅ lr wl 0 wn wvs ρ hfi ?_
    rw [hm]
    exact D'
  case finR =>
    clear D₄
    rintro v h tk ⟨lr, wl, wn, wvs, ρ, tm, rfl, hfi, D⟩
    dsimp only
    refine LeaveQ.ret' D (by walk_at "ow rm") fun D' => k _ _ tm lr wl 0 wn wvs ρ hfi ?_
    exact D'
  case loop =>
    intro R fin finR
    clear k
    refine codeAny_forLoop_any (fun d s => ∃ j h tk e te wl wn wvs done ρ o, d + j = fs.length ∧ res = (done ++ (due (fs.drop j) e).1, (due (fs.drop j) e).2) ∧ done.length ≤ j ∧ 0 ≤ e ∧ e < 100000 ∧ s = ⟨h, G, Dr, tk, O⟩ ∧ LstItO o fl j ∧ FilesIn (ρ ++ μ) wvs done ∧
      Led b L' [(Str.ofString "files", .ref fl), (Str.ofString "end", .int e te), (Str.ofString "whole", .ref wl)] h ((it, o) :: (wl, listOf wvs.toArray wn) :: (L, oL) :: (ρ ++ μ))) ?turn fs.length
      ⟨0, _, _, e, te, wl, 0, [], [], [], o, rfl, by rw [List.drop_zero, hR]; simp, Nat.le_refl _, he, he2, rfl, ho, .nil, D₄⟩
    clear D₄ ho hR he he2
    rintro d _ ⟨j, h, tk, e, te, wl, wn, wvs, done, ρ, o, hd, hres, hdl, he, he2, rfl, ho, hfi, D⟩
    have hfl' : (fl, listOf fvs.toArray fn) ∈ (it, o) :: (wl, listOf wvs.toArray wn) :: (L, oL) :: (ρ ++ μ) := .tail _ (.tail _ (.tail _ (List.mem_append.mpr (.inr hfl))))
    by_cases hj : j = fs.length
    · refine' o_endLst (μ' := (wl, listOf wvs.toArray wn) :: (L, oL) :: (ρ ++ μ)) hA1 D List.mem_cons_self ho hfl' ?x .head ?_
      case x => (apply List.getElem?_eq_none; omega)
      intro h₂ D₂
      dsimp only
      repeat walk_at "ow"
      rw [List.drop_of_length_le (by omega)] at hres
      exact fin _ _ ⟨wl, wn, wvs, ρ, e, te, by rw [hres]; simpa [due] using hfi, by rw [hres, due], D₂⟩
    · obtain ⟨f, hf⟩ : ∃ f, fs[j]? = some f := ⟨fs[j]'(by omega), List.getElem?_eq_getElem (by omega)⟩
      obtain ⟨le, ln, t₁, n₁, r₁, ws, hv, hle, hln, hws⟩ := hfs.at hf
      have hdr : fs.drop j = f :: fs.drop (j + 1) := by
        rw [List.drop_eq_getElem_cons (by omega)]
        rw [List.getElem?_eq_getElem (by omega)] at hf
        rw [Option.some.inj hf]
      have hfz := hz f (List.mem_of_getElem? hf)
      have hwl := hws.length
      refine' o_nextLst D List.mem_cons_self ho hfl' hv ?_
      intro o' h₂ ho' hU
      have D₂ := hU _ .head
      clear hU D hfl'
      dsimp only
      refine o_letGoLst D₂ List.mem_cons_self ho' ?_
      refine' o_unpackLst hA1 D₂ (List.mem_cons_of_mem _ (List.mem_cons_of_mem _ (List.mem_cons_of_mem _ (List.mem_append.mpr (.inr hle))))) ?q1 ?q2 ?_
      case q1 => rfl
      case q2 => rfl
      intro h₃ D₃
      clear D₂
      (show wpAny _ _ (assignInOrder [assign _ _, assign _ _] [_, _]) _ _ _)
      (refine o_asgCons (wpAny_assign_Name ?_))
      walk_at "ow"
      (refine o_asgCons (wpAny_assign_Name ?_))
      walk_at "ow"
      (refine o_asgNil ?_)
      rename Led b L' _ _ _ => D₄
      clear D₃
      have hln' : (ln, listOf ws.toArray r₁) ∈ ρ ++ μ := List.mem_append.mpr (.inr hln)
      repeat walk_at "ow"
      have hm1 : e < ws.length + 3 → ¬ (0 < e ∧ e - 1 < ws.length) → res = (done, msg1) := by
        intro h1 h2
        rw [hres, hdr, due, if_neg (by rw [← hwl]; exact h2), if_pos (by rw [← hwl]; exact h1)]
        simp
      by_cases h1 : 0 < e
      · refine o_ifT (decide_eq_true h1) ?_
        repeat walk_at "ow"
        by_cases h2 : e - 1 < ws.length
        · refine o_ifT (decide_eq_true h2) ?_
          repeat walk_at "ow"
          refine o_strInt (by omega) (by omega) ?_
          intro t₅ tk₅ hs₅
          repeat walk_at "ow"
          refine o_strInt (by omega) (by omega) ?_
          intro t₆ tk₆ hs₆
          repeat walk_at "ow"
          rename_i t₇ tk₇ lr h₇ D₇
          have hr2 : res = (done, msg2 ws.length (e - 1)) := by
            rw [hres, hdr, due, if_pos (by rw [← hwl]; exact ⟨h1, h2⟩), ← hwl]
            simp
          refine finR _ _ _ ⟨lr, wl, wn, wvs, ρ, t₇, rfl, by rw [hr2]; exact hfi, ?_⟩
          rw [hr2]
          exact (D₇.names (List.nil_sublist _)).pick (by walk_at "ow pick")
        · refine o_ifF (decide_eq_false h2) ?_
          repeat walk_at "ow"
          by_cases h3 : e < ws.length + 3
          · refine o_ifT (decide_eq_true h3) ?_
            repeat walk_at "ow"
            rename_i t₇ tk₇ lr h₇ D₇
            have hr2 := hm1 h3 (fun q => h2 q.2)
            refine finR _ _ _ ⟨lr, wl, wn, wvs, ρ, t₇, rfl, by rw [hr2]; exact hfi, ?_⟩
            rw [hr2]
            exact (D₇.names (List.nil_sublist _)).pick (by walk_at "ow pick")
          · refine o_ifF (decide_eq_false h3) ?_
            repeat walk_at "ow"
            refine Assign_Tuple_swapped (names := [Str.ofString "whole", Str.ofString "end"]) ?_ (hs := rfl) (hw := rfl)
            repeat walk_at "ow"
            rename_i ne h₅ D₅ nw h₆ D₆
            have hfw := hfi.length
            refine' o_addLst D₆ ?ml ?mr ?mz ?_
            case ml => walk_at "ow mem"
            case mr => exact (List.mem_cons_self : (nw, listOf [Value.ref ne].toArray 0) ∈ _)
            case mz => (rw [sizeLine_eq, List.length_singleton]; omega)
            intro wl' h₇ D₇
            clear D₄ D₅ D₆
            repeat walk_at "ow"
            refine' o_newTup D₇ ?_ (by size_fits)
            intro tp h₈ D₈
            refine' o_unpackT hA1 D₈ List.mem_cons_self rfl ?_
            intro h₉ D₉
            clear D₇ D₈
            (show wpAny _ _ (assignInOrder [bindName _ _, bindName _ _] [_, _]) _ _ _)
            refine o_asgCons (wpAny_bindName ?_)
            walk_at "ow"
            refine o_asgCons (wpAny_bindName ?_)
            walk_at "ow"
            refine o_asgNil ?_
            try dsimp only
            repeat walk_at "ow"
            try dsimp only
            rename Led b L' _ _ _ => D₆
            have D₇ := (D₆.names (al' := [(Str.ofString "files", .ref fl), (Str.ofString "end", _), (Str.ofString "whole", .ref wl')]) (by walk_at "ow sub")).pick (μ' := (it, o') :: (wl', _) :: (L, oL) :: (ne, _) :: (ρ ++ μ)) (by walk_at "ow pick")
            refine ⟨d - 1, by omega, j + 1, _, _, e - ws.length - 3, _, wl', _, wvs ++ [.ref ne], done ++ [f], (ne, _) :: ρ, o', by omega, ?_, ?_, by omega, by omega, rfl, ho', ?_, D₇⟩
            · rw [hres, hdr, due, if_neg (by rw [← hwl]; exact fun q => h2 q.2), if_neg (by rw [← hwl]; exact h3), ← hwl]
              simp
            · rw [List.length_append, List.length_singleton]; omega
            · refine (hfi.mono fun p hp => .tail _ hp).snoc ?_
              exact .cons (.head _) (.tail _ hln') hws .nil
      · refine o_ifF (decide_eq_false h1) ?_
        repeat walk_at "ow"
        refine o_ifT (decide_eq_true (by omega)) ?_
        repeat walk_at "ow"
        rename_i t₇ tk₇ lr h₇ D₇
        have hr2 := hm1 (by omega) (fun q => h1 q.1)
        refine finR _ _ _ ⟨lr, wl, wn, wvs, ρ, t₇, rfl, by rw [hr2]; exact hfi, ?_⟩
        rw [hr2]
        exact (D₇.names (List.nil_sublist _)).pick (by walk_at "ow pick")
end
end

section
section
variable {w : World} {A : Around} {b h : Heap} {L : Addr} {al : List (Str × Value)} {μ : List (Addr × Obj)} {mg mb : Str → Option Value} {G : Array GenState} {Dr : Drawn} {tk : Nat} {O : OsState} {Q : Value → Shared → Prop} {E : Value → Shared → Prop}
theorem ct_buffer {x : Array UInt8} {t : Tok} (B : Base w mg mb b) (D : Led b L al h μ) (hdp : A.depth < recursionLimit)
    (k : ∀ h' tk', Led b L al h' μ → Q (.bytes x t) ⟨h', G, Dr, tk', O⟩) :
    wpAny (model P0 w) A (call (.ref 42) [.bytes x t]) Q E ⟨h, G, Dr, tk, O⟩ := by
  refine' o_callN (f := 42) (binds := [(Str.ofString "data", .bytes x t)]) B D ?k1 ?k2 hdp ?k3 ?k4 ?k5 ?_ ?c1 ?c2 ?c3 ?c4
  walk_at "ow enter"
  intro A' E' L' h₁ oL tk₁ hA1 hA2 hA3 D₁
  repeat walk_at "ow"
  exact LeaveQ.ret (by assumption) fun D' => k _ _ D'
theorem ct_truth {c : Bool} (B : Base w mg mb b) (D : Led b L al h μ) (hdp : A.depth < recursionLimit)
    (k : ∀ h' tk', Led b L al h' μ → Q (.bool c) ⟨h', G, Dr, tk', O⟩) :
    wpAny (model P0 w) A (call (.ref 49) [.bool c]) Q E ⟨h, G, Dr, tk, O⟩ := by
  refine' o_callN (f := 49) (binds := [(Str.ofString "x", .bool c)]) B D ?k1 ?k2 hdp ?k3 ?k4 ?k5 ?_ ?c1 ?c2 ?c3 ?c4
  walk_at "ow enter"
  intro A' E' L' h₁ oL tk₁ hA1 hA2 hA3 D₁
  repeat walk_at "ow"
  cases c
  · repeat walk_at "ow"
    exact LeaveQ.ret (by assumption) fun D' => k _ _ D'
  · repeat walk_at "ow"
    exact LeaveQ.ret (by assumption) fun D' => k _ _ D'
def stp (s : List Int × Int × Int) (n : Int) : List Int × Int × Int :=
  if s.2.1 = 4 then (s.1 ++ [b64c ((s.2.2 * 256 + n) % 65536 / 64 % 64), b64c ((s.2.2 * 256 + n) % 65536 % 64)], 0, (s.2.2 * 256 + n) % 65536)
  else if s.2.1 = 2 then (s.1 ++ [b64c ((s.2.2 * 256 + n) % 65536 / 16 % 64)], 4, (s.2.2 * 256 + n) % 65536) else (s.1 ++ [b64c ((s.2.2 * 256 + n) % 65536 / 4 % 64)], 2, (s.2.2 * 256 + n) % 65536)
def fin6 (s : List Int × Int × Int) : List Int := if s.2.1 = 2 then s.1 ++ [b64c (s.2.2 % 4 * 16), 61, 61] else if s.2.1 = 4 then s.1 ++ [b64c (s.2.2 % 16 * 4), 61] else s.1
def enc (ns : List Int) : List Int := fin6 (ns.foldl stp ([], 0, 0))
theorem b64c_ok (i : Int) : 0 ≤ b64c i ∧ b64c i < 256 := by
  have hd : ∀ k < 64, 0 ≤ b64ks.getD k 0 ∧ b64ks.getD k 0 < 256 := by decide
  by_cases h : i.toNat < 64
  · exact hd _ h
  · have : b64ks.getD i.toNat 0 = 0 := by
      rw [List.getD_eq_getElem?_getD, List.getElem?_eq_none (by rw [show b64ks.length = 64 from rfl]; omega)]; rfl
    show 0 ≤ b64ks.getD i.toNat 0 ∧ b64ks.getD i.toNat 0 < 256
    rw [this]; decide
def Ok6 (s : List Int × Int × Int) (m : Nat) : Prop := (s.2.1 = 0 ∨ s.2.1 = 2 ∨ s.2.1 = 4) ∧ (0 ≤ s.2.2 ∧ s.2.2 < 65536) ∧ s.1.length ≤ 2 * m ∧ ∀ n ∈ s.1, 0 ≤ n ∧ n < 256
theorem Ok6.stp {s : List Int × Int × Int} {m : Nat} {n : Int} (h : Ok6 s m) : Ok6 (stp s n) (m + 1) := by
  obtain ⟨h1, h2, h3, h4⟩ := h
  unfold Mine.stp
  split
  · refine ⟨.inl rfl, ⟨Int.emod_nonneg _ (by decide), Int.emod_lt_of_pos _ (by decide)⟩, ?_, ?_⟩
    · simp only [List.length_append, List.length_cons, List.length_nil]; omega
    · intro k hk
      rcases List.mem_append.mp hk with q | q
      · exact h4 k q
      · simp only [List.mem_cons, List.not_mem_nil, or_false] at q
        rcases q with rfl | rfl <;> exact b64c_ok _
  · split
    · refine ⟨.inr (.inr rfl), ⟨Int.emod_nonneg _ (by decide), Int.emod_lt_of_pos _ (by decide)⟩, ?_, ?_⟩
      · simp only [List.length_append, List.length_cons, List.length_nil]; omega
      · intro k hk
        rcases List.mem_append.mp hk with q | q
        · exact h4 k q
        · rw [List.mem_singleton.mp q]; exact b64c_ok _
    · refine ⟨.inr (.inl rfl), ⟨Int.emod_nonneg _ (by decide), Int.emod_lt_of_pos _ (by decide)⟩, ?_, ?_⟩
      · simp only [List.length_append, List.length_cons, List.length_nil]; omega
      · intro k hk
        rcases List.mem_append.mp hk with q | q
        · exact h4 k q
        · rw [List.mem_singleton.mp q]; exact b64c_ok _
theorem or_low {a n : Int} (h0 : 0 ≤ n) (h1 : n < 256) : Builtin.bitAnd (a * 256) n = 0 := by
  rw [show a * 256 = a * 2 * 2 * 2 * 2 * 2 * 2 * 2 * 2 by omega]
  have st : ∀ (x m : Int), Builtin.bitAnd (x * 2) m = 2 * Builtin.bitAnd x (m / 2) := by
    intro x m
    rw [kbt_halves, if_neg (by omega), show x * 2 / 2 = x by omega]; omega
  rw [st, st, st, st, st, st, st, st, show n / 2 / 2 / 2 / 2 / 2 / 2 / 2 / 2 = 0 by omega, bitAnd_comm]
  have : Builtin.bitAnd 0 a = 0 := by
    have := bitAnd_range a (y := 0) (Int.le_refl 0)
    rw [bitAnd_comm]; omega
  rw [this]; rfl
theorem lc_eq {a n : Int} (h0 : 0 ≤ n) (h1 : n < 256) : Builtin.bitAnd (Builtin.bitOr (a * 2 ^ (8 : Int).toNat) n) 65535 = (a * 256 + n) % 65536 := by
  rw [bitAnd_m16, bitOr_and, show (2 : Int) ^ (8 : Int).toNat = 256 from rfl, or_low h0 h1]
  congr 1; omega
theorem o_itemG {x : Array UInt8} {t ui : Tok} {i j : Int} {value slice : Expr} {Q : Value → Shared → Prop} (e : i = j) (hx : KBw.bInts x = b64ks) (h0 : 0 ≤ j) (h1 : j < 64) (k : ∀ t' tk', Q (.int (b64c j) t') ⟨h, G, Dr, tk', O⟩)
    (hs : subscripted slice false (.bytes x t) (.int i ui) = operate [.bytes x t, .int i ui] (getItem (.bytes x t) (.int i ui)))
    (ht : ∀ r, letTemporaryGo value (.bytes x t) r = pure ()) :
    wpAny (model P0 w) A (subscriptTail value slice (.bytes x t) (.int i ui)) Q E ⟨h, G, Dr, tk, O⟩ := by
  subst e
  exact KBw.item_K (s := ⟨h, G, Dr, tk, O⟩) hx (by decide) h0 h1 (fun t' k' _ _ => k t' k') hs ht
theorem ct_b2a {ns : List Int} {t : Tok} (B : Base w mg mb b) (D : Led b L al h μ) (hh : A.handled = none) (hdp : A.depth + 1 < recursionLimit) (hr : ∀ n ∈ ns, 0 ≤ n ∧ n < 256) (hz : ns.length ≤ 1000)
    (k : ∀ h' tk' t', Led b L al h' μ → Q (.bytes (byteArr (enc ns)) t') ⟨h', G, Dr, tk', O⟩) :
    wpAny (model P0 w) A (call (.ref 57) [.bytes (byteArr ns) t] [(Str.ofString "newline", .bool false)]) Q E ⟨h, G, Dr, tk, O⟩ := by
  refine' o_callN (f := 57) (binds := [(Str.ofString "data", .bytes (byteArr ns) t), (Str.ofString "newline", .bool false)]) B D ?k1 ?k2 (by omega) ?k3 ?k4 ?k5 ?_ ?c1 ?c2 ?c3 ?c4
  walk_at "ow enter"
  intro A' E' L' h₁ oL tk₁ hA1 hA2 hA3 D₁
  rw [hh] at hA1
  repeat walk_at "ow"
  refine ct_buffer B D₁ (by omega) ?_
  intro h₂ tk₂ D₂
  repeat walk_at "ow"
  refine ct_truth B (by assumption) (by omega) ?_
  intro h₃ tk₃ D₃
  repeat walk_at "ow"
  rename Led b L' _ _ _ => D₅
  refine o_iterB D₅ ?_
  intro it o h₆ ho D₆
  obtain ⟨ou, t1, t2, D₇⟩ : ∃ ou t1 t2, Led b L' [(Str.ofString "newline", .bool false), (Str.ofString "out", .ref ou), (Str.ofString "leftbits", .int 0 t1), (Str.ofString "leftchar", .int 0 t2)] h₆ ((it, o) :: (ou, listOf ([] : List Value).toArray 0) :: (L, oL) :: μ) := ⟨_, _, _, D₆.names (by walk_at "ow sub")⟩
  clear D₂ D₃ D₅ D₆ D₁
  generalize hst : ns.foldl stp ([], 0, 0) = st at *
  refine o_cloop (G := G) (Dr := Dr) (O := O) (fun h tk => ∃ ovs nn t1 t2, Ok6 st ns.length ∧ IntsAre ovs st.1 ∧ Led b L' [(Str.ofString "newline", .bool false), (Str.ofString "out", .ref ou), (Str.ofString "leftbits", .int st.2.1 t1), (Str.ofString "leftchar", .int st.2.2 t2)] h ((ou, listOf ovs.toArray nn) :: (L, oL) :: μ)) ?fin ?loop
  case fin =>
    clear D₇
    rintro h tk ⟨ovs, nn, t1, t2, hok, hi, D⟩
    obtain ⟨os, lb, lc⟩ := st
    obtain ⟨h1, h2, h3, h4⟩ := hok
    dsimp only at h1 h2 h3 h4 D hi ⊢
    have hl := hi.length
    rcases h1 with rfl | rfl | rfl
    · repeat walk_at "ow"
      refine' o_bytes hA1 D ?m1 hi h4 ?z1 ?_
      case m1 => walk_at "ow mem"
      case z1 => (rw [sizeLine_eq]; omega)
      intro h₈ t₈ tk₈ D₈
      refine LeaveQ.ret' (D₈.sub (by walk_at "ow sub")) .head fun D' => ?_
      have e : enc ns = os := by unfold enc; rw [hst]; rfl
      rw [← e]
      exact k _ _ _ D'
    · repeat walk_at "ow"
      refine o_shl (by decide) (by decide) (by rw [bitAnd_m2]; omega) fun t₃ tk₃ => ?_
      refine' o_itemG (j := lc % 4 * 16) ?e1 ?x1 (by omega) (by omega) ?_ ?s1 ?s2
      case e1 => (rw [bitAnd_m2]; rfl)
      case x1 => rfl
      case s1 => with_unfolding_all rfl
      case s2 => (intro _; with_unfolding_all rfl)
      intro t₅ tk₅
      repeat walk_at "ow"
      rename Led b L' _ _ _ => D₈
      simp only [List.push_toArray] at D₈
      have e : enc ns = os ++ [b64c (lc % 4 * 16)] ++ [61] ++ [61] := by unfold enc; rw [hst]; simp [fin6]
      refine' o_bytes (ns := enc ns) hA1 D₈ ?m1 ?i1 ?r1 ?z1 ?_
      case m1 => walk_at "ow mem"
      case i1 => (rw [e]; exact ((hi.append (.cons _ _ .nil)).append (.cons _ _ .nil)).append (.cons _ _ .nil))
      case r1 =>
        intro n hn
        rw [e] at hn
        simp only [List.mem_append, List.mem_singleton] at hn
        rcases hn with ((q | rfl) | rfl) | rfl
        · exact h4 n q
        · exact b64c_ok _
        · decide
        · decide
      case z1 => (simp only [List.length_append, List.length_singleton]; rw [sizeLine_eq]; omega)
      intro h₉ t₉ tk₉ D₉
      refine LeaveQ.ret' (D₉.sub (by walk_at "ow sub")) .head fun D' => k _ _ _ D'
    · repeat walk_at "ow"
      refine o_shl (by decide) (by decide) (by rw [bitAnd_m4]; omega) fun t₃ tk₃ => ?_
      refine' o_itemG (j := lc % 16 * 4) ?e1 ?x1 (by omega) (by omega) ?_ ?s1 ?s2
      case e1 => (rw [bitAnd_m4]; rfl)
      case x1 => rfl
      case s1 => with_unfolding_all rfl
      case s2 => (intro _; with_unfolding_all rfl)
      intro t₅ tk₅
      repeat walk_at "ow"
      rename Led b L' _ _ _ => D₈
      simp only [List.push_toArray] at D₈
      have e : enc ns = os ++ [b64c (lc % 16 * 4)] ++ [61] := by unfold enc; rw [hst]; simp [fin6]
      refine' o_bytes (ns := enc ns) hA1 D₈ ?m1 ?i1 ?r1 ?z1 ?_
      case m1 => walk_at "ow mem"
      case i1 => (rw [e]; exact (hi.append (.cons _ _ .nil)).append (.cons _ _ .nil))
      case r1 =>
        intro n hn
        rw [e] at hn
        simp only [List.mem_append, List.mem_singleton] at hn
        rcases hn with (q | rfl) | rfl
        · exact h4 n q
        · exact b64c_ok _
        · decide
      case z1 => (simp only [List.length_append, List.length_singleton]; rw [sizeLine_eq]; omega)
      intro h₉ t₉ tk₉ D₉
      refine LeaveQ.ret' (D₉.sub (by walk_at "ow sub")) .head fun D' => k _ _ _ D'
  case loop =>
    intro R fin
    clear k
    refine codeAny_forLoop_any (fun d s => ∃ j st' h tk ovs nn o t1 t2, d + j = ns.length ∧ st = (ns.drop j).foldl stp st' ∧ Ok6 st' j ∧ IntsAre ovs st'.1 ∧ s = ⟨h, G, Dr, tk, O⟩ ∧ BytItO o (byteArr ns) t j ∧
      Led b L' [(Str.ofString "newline", .bool false), (Str.ofString "out", .ref ou), (Str.ofString "leftbits", .int st'.2.1 t1), (Str.ofString "leftchar", .int st'.2.2 t2)] h ((it, o) :: (ou, listOf ovs.toArray nn) :: (L, oL) :: μ)) ?turn ns.length
      ⟨0, ([], 0, 0), _, _, [], 0, o, t1, t2, rfl, hst.symm, ⟨.inl rfl, by decide, by decide, fun n hn => nomatch hn⟩, .nil, rfl, ho, D₇⟩
    clear D₇ ho hst
    rintro d _ ⟨j, ⟨os, lb, lc⟩, h, tk, ovs, nn, o, t1, t2, hd, hst, hok, hi, rfl, ho, D⟩
    have hl := hi.length
    dsimp only at D hi hl
    by_cases hj : j = ns.length
    · refine' o_endB (μ' := (ou, listOf ovs.toArray nn) :: (L, oL) :: μ) hA1 D .head ho ?x2 ?_
      case x2 => (apply Array.getElem?_eq_none; rw [byteArr_size]; omega)
      intro h₂ D₂
      dsimp only
      repeat walk_at "ow"
      rw [List.drop_of_length_le (by omega)] at hst
      have hst' : st = (os, lb, lc) := hst
      subst hst'
      subst hj
      exact fin _ _ ⟨ovs, nn, t1, t2, hok, hi, D₂⟩
    · obtain ⟨n, hn⟩ : ∃ n, ns[j]? = some n := ⟨ns[j]'(by omega), List.getElem?_eq_getElem (by omega)⟩
      obtain ⟨c, hc1, hc2⟩ : ∃ c : UInt8, (byteArr ns)[j]? = some c ∧ (c.toNat : Int) = n := by
        have q := hn
        rw [← KBa.ints_make hr] at q
        unfold KBw.bInts at q
        rw [List.getElem?_map] at q
        obtain ⟨c, q1, q2⟩ := Option.map_eq_some_iff.mp q
        exact ⟨c, by rw [← Array.getElem?_toList]; exact q1, q2⟩
      have hnr := hr n (List.mem_of_getElem? hn)
      have hdr : ns.drop j = n :: ns.drop (j + 1) := by
        rw [List.drop_eq_getElem_cons (by omega)]
        rw [List.getElem?_eq_getElem (by omega)] at hn
        rw [Option.some.inj hn]
      rw [hdr, List.foldl_cons] at hst
      have hok' := hok.stp (n := n)
      obtain ⟨h1, h2, h3, h4⟩ := hok
      dsimp only at h1 h2 h3 h4
      refine' o_nextB D List.mem_cons_self ho hc1 ?_
      intro o' h₂ t₂ tk₂ ho' hU
      rw [hc2]
      have D₂ := hU _ .head
      clear hU D
      dsimp only
      refine o_letGoName ?_
      refine wpAny_assign_Name ?_
      repeat walk_at "ow"
      refine wpAny_While ?_
      rename Led b L' _ _ _ => D₃
      rw [lc_eq hnr.1 hnr.2] at D₃
      clear D₂
      obtain ⟨c', hc'⟩ : ∃ c', (lc * 256 + n) % 65536 = c' := ⟨_, rfl⟩
      unfold stp at hst hok'
      dsimp only at hst hok'
      rw [hc'] at D₃ hst hok'
      have hc0 : 0 ≤ c' ∧ c' < 65536 := by omega
      clear hc'
      rcases h1 with rfl | rfl | rfl
      · rw [if_neg (by decide), if_neg (by decide)] at hst hok'
        refine o_whileStep ?_
        repeat walk_at "ow"
        try (refine o_ifT (by decide) ?_)
        repeat walk_at "ow"
        refine' o_itemG (j := c' / 4 % 64) ?e1 ?x1 (by omega) (by omega) ?_ ?s1 ?s2
        case e1 => (rw [bitAnd_m6, Int.fdiv_eq_ediv_of_nonneg _ (by decide)]; rfl)
        case x1 => rfl
        case s1 => with_unfolding_all rfl
        case s2 => (intro _; with_unfolding_all rfl)
        intro t₅ tk₅
        repeat walk_at "ow"
        try dsimp only
        refine o_whileStep ?_
        repeat walk_at "ow"
        try (refine o_ifF (by decide) ?_)
        repeat walk_at "ow"
        try dsimp only
        rename Led b L' _ _ _ => D₅
        simp only [List.push_toArray, List.append_assoc, List.cons_append, List.nil_append, Int.reduceAdd, Int.reduceSub] at D₅
        have D₆ := D₅.names (al' := [(Str.ofString "newline", .bool false), (Str.ofString "out", .ref ou), (Str.ofString "leftbits", .int 2 _), (Str.ofString "leftchar", .int c' _)]) (by walk_at "ow sub")
        exact ⟨d - 1, by omega, j + 1, _, _, _, _, _, o', _, _, by omega, hst, hok', hi.append (.cons _ _ .nil), rfl, ho', D₆⟩
      · rw [if_neg (by decide), if_pos (by decide)] at hst hok'
        refine o_whileStep ?_
        repeat walk_at "ow"
        try (refine o_ifT (by decide) ?_)
        repeat walk_at "ow"
        refine' o_itemG (j := c' / 16 % 64) ?e1 ?x1 (by omega) (by omega) ?_ ?s1 ?s2
        case e1 => (rw [bitAnd_m6, Int.fdiv_eq_ediv_of_nonneg _ (by decide)]; rfl)
        case x1 => rfl
        case s1 => with_unfolding_all rfl
        case s2 => (intro _; with_unfolding_all rfl)
        intro t₅ tk₅
        repeat walk_at "ow"
        try dsimp only
        refine o_whileStep ?_
        repeat walk_at "ow"
        try (refine o_ifF (by decide) ?_)
        repeat walk_at "ow"
        try dsimp only
        rename Led b L' _ _ _ => D₅
        simp only [List.push_toArray, List.append_assoc, List.cons_append, List.nil_append, Int.reduceAdd, Int.reduceSub] at D₅
        have D₆ := D₅.names (al' := [(Str.ofString "newline", .bool false), (Str.ofString "out", .ref ou), (Str.ofString "leftbits", .int 4 _), (Str.ofString "leftchar", .int c' _)]) (by walk_at "ow sub")
        exact ⟨d - 1, by omega, j + 1, _, _, _, _, _, o', _, _, by omega, hst, hok', hi.append (.cons _ _ .nil), rfl, ho', D₆⟩
      · rw [if_pos (by decide)] at hst hok'
        refine o_whileStep ?_
        repeat walk_at "ow"
        try (refine o_ifT (by decide) ?_)
        repeat walk_at "ow"
        refine' o_itemG (j := c' / 64 % 64) ?e1 ?x1 (by omega) (by omega) ?_ ?s1 ?s2
        case e1 => (rw [bitAnd_m6, Int.fdiv_eq_ediv_of_nonneg _ (by decide)]; rfl)
        case x1 => rfl
        case s1 => with_unfolding_all rfl
        case s2 => (intro _; with_unfolding_all rfl)
        intro t₅ tk₅
        repeat walk_at "ow"
        try dsimp only
        refine o_whileStep ?_
        repeat walk_at "ow"
        try (refine o_ifT (by decide) ?_)
        repeat walk_at "ow"
        refine' o_itemG (j := c' % 64) ?e3 ?x3 (by omega) (by omega) ?_ ?s3 ?s4
        case e3 => (rw [bitAnd_m6, Int.fdiv_eq_ediv_of_nonneg _ (by decide)]; exact congrArg (· % 64) (Int.ediv_one c'))
        case x3 => rfl
        case s3 => with_unfolding_all rfl
        case s4 => (intro _; with_unfolding_all rfl)
        intro t₅ tk₅
        repeat walk_at "ow"
        try dsimp only
        refine o_whileStep ?_
        repeat walk_at "ow"
        try (refine o_ifF (by decide) ?_)
        repeat walk_at "ow"
        try dsimp only
        rename Led b L' _ _ _ => D₅
        simp only [List.push_toArray, List.append_assoc, List.cons_append, List.nil_append, Int.reduceAdd, Int.reduceSub] at D₅
        have D₆ := D₅.names (al' := [(Str.ofString "newline", .bool false), (Str.ofString "out", .ref ou), (Str.ofString "leftbits", .int 0 _), (Str.ofString "leftchar", .int c' _)]) (by walk_at "ow sub")
        exact ⟨d - 1, by omega, j + 1, _, _, _, _, _, o', _, _, by omega, hst, hok', hi.append (.cons _ _ (.cons _ _ .nil)), rfl, ho', D₆⟩
end
end

section
section
variable {w : World} {A : Around} {b h : Heap} {L : Addr} {al : List (Str × Value)} {μ : List (Addr × Obj)} {mg mb : Str → Option Value} {G : Array GenState} {Dr : Drawn} {tk : Nat} {O : OsState} {Q : Value → Shared → Prop} {E : Value → Shared → Prop}
theorem ct_b64 {ns : List Int} {t : Tok} (B : Base w mg mb b) (D : Led b L al h μ) (hh : A.handled = none) (hdp : A.depth + 2 < recursionLimit) (hr : ∀ n ∈ ns, 0 ≤ n ∧ n < 256) (hz : ns.length ≤ 1000)
    (k : ∀ h' tk' t', Led b L al h' μ → Q (.bytes (byteArr (enc ns)) t') ⟨h', G, Dr, tk', O⟩) :
    wpAny (model P0 w) A (call (.ref 65) [.bytes (byteArr ns) t]) Q E ⟨h, G, Dr, tk, O⟩ := by
  refine' o_callN (f := 65) (binds := [(Str.ofString "s", .bytes (byteArr ns) t), (Str.ofString "altchars", .none)]) B D ?k1 ?k2 (by omega) ?k3 ?k4 ?k5 ?_ ?c1 ?c2 ?c3 ?c4
  case k1 => (show List.lookup _ (hd.heap_39 _) = _; k_is)
  case k2 => (show codeIn (hd.heap_39 _) _ _ = _; k_is)
  case k4 => exact locs rfl
  case k5 => (dsimp only [List.map]; decide)
  case c1 => rfl
  case c2 => rfl
  case c3 => rfl
  case c4 => decide
  case k3 => exact binds_K (K := KK w) (B.X.keeps fun _ _ e => D.keep e) rfl (by (show List.lookup _ (hd.heap_39 _) = _; k_is)) rfl rfl rfl
  intro A' E' L' h₁ oL tk₁ hA1 hA2 hA3 D₁
  rw [hh] at hA1
  repeat walk_at "ow"
  refine wpAny_Call_Name_kw ?_
  repeat walk_at "ow"
  refine kwAll_cons ?_
  repeat walk_at "ow"
  refine kwAll_nil ?_
  repeat walk_at "ow"
  (show wpAny _ _ (call (Value.ref 57) [_] [(Str.ofString "newline", Value.bool false)]) _ _ _)
  refine ct_b2a B D₁ hA1 (by omega) hr hz ?_
  intro h₂ tk₂ t₂ D₂
  repeat walk_at "ow"
  exact LeaveQ.ret (by assumption) fun D' => k _ _ _ D'
end
end

section
section
variable {w : World} {A : Around} {b h : Heap} {L : Addr} {al : List (Str × Value)} {μ : List (Addr × Obj)} {mg mb : Str → Option Value} {G : Array GenState} {Dr : Drawn} {tk : Nat} {O : OsState} {Q : Value → Shared → Prop} {E : Value → Shared → Prop}
theorem ct_written {ln : Addr} {ns : List Int} {vs : List Value} {r : Nat} (B : Base w mg mb b) (D : Led b L al h μ) (hm : (ln, listOf vs.toArray r) ∈ μ) (hi : IntsAre vs ns) (hh : A.handled = none) (hdp : A.depth + 2 < recursionLimit) (hr : ∀ n ∈ ns, 0 ≤ n ∧ n < 256) (hz : ns.length ≤ 3)
    (k : ∀ h' tk' t', Led b L al h' μ → Q (.str (txt (enc ns)) t') ⟨h', G, Dr, tk', O⟩) :
    wpAny (model P0 w) A (call (.ref 150) [.ref ln]) Q E ⟨h, G, Dr, tk, O⟩ := by
  refine' o_callC2 (f := 150) (x := Str.ofString "number") (y := Str.ofString "signs") (al₀ := [(Str.ofString "name", .ref ln)]) (binds := [(Str.ofString "name", .ref ln)]) B D ?k1 ?k2 (by omega) ?k3 ?kcs ?kxy ?kk ?kal ?knn ?kcx ?kcy ?_ ?c1 ?c2 ?c3
  case k1 => (show List.lookup _ (hd.heap_39 _) = _; k_is)
  case k2 => (show codeIn (hd.heap_39 _) _ _ = _; k_is)
  case k3 => rfl
  case kcs => (intro n; rfl)
  case kxy => decide
  case kk => (intro y hy; rw [List.mem_singleton.mp hy]; rfl)
  case kal => (intro p hp; rw [List.mem_singleton.mp hp]; rfl)
  case knn => (dsimp only [List.map]; decide)
  case kcx => rfl
  case kcy => rfl
  case c1 => rfl
  case c2 => rfl
  case c3 => rfl
  intro A' E' L' c1 o1 c2 o2 h₁ oL tk₁ hA1 hA2 hA3 ho1 ho2 D₁
  rw [hh] at hA1
  have hl := hi.length
  repeat walk_at "ow"
  refine Assign_Tuple ?_ (hs := rfl) (hw := rfl)
  repeat walk_at "ow"
  refine' o_newTup (by with_reducible assumption) ?_ (by size_fits)
  intro tp h₄ D₄
  refine' o_unpackTup hA1 D₄ ⟨_, D₄.get List.mem_cons_self, rfl, _, rfl⟩ ?q1 ?q2 ?_
  case q1 => rfl
  case q2 => rfl
  intro h₅ D₅ _
  (show wpAny _ _ (assignInOrder [assign _ _, assign _ _, assign _ _] [_, _, _]) _ _ _)
  refine o_asgCons (wpAny_assign_Name ?_)
  refine' o_stCell D₅ ?s1 ?s2 ?s3 ?s4 ho2 ?_
  case s1 => rfl
  case s2 => rfl
  case s3 => rfl
  case s4 => walk_at "ow mem"
  intro o2' h₆ ho2' hU
  have D₆ := hU _ (by walk_at "ow up")
  clear hU
  refine o_asgCons (wpAny_assign_Name ?_)
  refine' o_stCell D₆ ?s5 ?s6 ?s7 ?s8 ho1 ?_
  case s5 => rfl
  case s6 => rfl
  case s7 => rfl
  case s8 => walk_at "ow mem"
  intro o1' h₇ ho1' hU
  have D₇ := hU _ (by walk_at "ow up")
  clear hU
  refine o_asgCons (wpAny_assign_Name ?_)
  walk_at "ow"
  refine o_asgNil ?_
  repeat walk_at "ow"
  refine' o_iterLst (by with_reducible assumption) ?mi ?_
  case mi => walk_at "ow mem"
  intro it o h₈ ho D₈
  obtain ⟨tm, D₉⟩ : ∃ tm, Led b L' [(Str.ofString "name", .ref ln), (Str.ofString "many", .int ((8 * (vs.length : Int) + 5).fdiv 6) tm)] h₈ ((it, o) :: (c1, o1') :: (c2, o2') :: (L, oL) :: μ) := ⟨_, D₈.pick (by walk_at "ow pick")⟩
  clear D₄ D₅ D₆ D₇ D₈ D₁ ho1 ho2
  obtain ⟨t0, ho1'⟩ : ∃ t0, CellO o1' (some (.int 0 t0)) := ⟨_, ho1'⟩
  obtain ⟨N, hN⟩ : ∃ N, ns.foldl (fun a o => a * 256 + o) 0 = N := ⟨_, rfl⟩
  refine o_cloop (G := G) (Dr := Dr) (O := O) (fun h tk => ∃ oc ta, CellO oc (some (.int N ta)) ∧ Led b L' [(Str.ofString "name", .ref ln), (Str.ofString "many", .int ((8 * (vs.length : Int) + 5).fdiv 6) tm)] h ((c1, oc) :: (c2, o2') :: (L, oL) :: μ)) ?fin ?loop
  case loop =>
    intro R fin
    clear k
    refine codeAny_forLoop_any (fun d s => ∃ j a h tk o oc ta, d + j = ns.length ∧ N = (ns.drop j).foldl (fun a o => a * 256 + o) a ∧ s = ⟨h, G, Dr, tk, O⟩ ∧ LstItO o ln j ∧ CellO oc (some (.int a ta)) ∧
      Led b L' [(Str.ofString "name", .ref ln), (Str.ofString "many", .int ((8 * (vs.length : Int) + 5).fdiv 6) tm)] h ((it, o) :: (c1, oc) :: (c2, o2') :: (L, oL) :: μ)) ?turn ns.length
      ⟨0, 0, _, _, o, o1', t0, rfl, hN.symm, rfl, ho, ho1', D₉⟩
    clear D₉ ho hN ho1'
    rintro d _ ⟨j, a, h, tk, o, oc, ta, hd, hst, rfl, ho, hoc, D⟩
    by_cases hj : j = ns.length
    · refine' o_endLst (μ' := (c1, oc) :: (c2, o2') :: (L, oL) :: μ) hA1 D List.mem_cons_self ho ?m2 ?x2 .head ?_
      case m2 => walk_at "ow mem"
      case x2 => (apply List.getElem?_eq_none; omega)
      intro h₂ D₂
      dsimp only
      repeat walk_at "ow"
      rw [List.drop_of_length_le (by omega)] at hst
      have hst' : N = a := hst
      subst hst'
      exact fin _ _ ⟨oc, ta, hoc, D₂⟩
    · obtain ⟨n, hn⟩ : ∃ n, ns[j]? = some n := ⟨ns[j]'(by omega), List.getElem?_eq_getElem (by omega)⟩
      obtain ⟨tn, hv⟩ : ∃ tn, vs[j]? = some (.int n tn) := ints_at hi hn
      have hdr : ns.drop j = n :: ns.drop (j + 1) := by
        rw [List.drop_eq_getElem_cons (by omega)]
        rw [List.getElem?_eq_getElem (by omega)] at hn
        rw [Option.some.inj hn]
      rw [hdr, List.foldl_cons] at hst
      refine' o_nextLst D List.mem_cons_self ho ?m2 hv ?_
      case m2 => walk_at "ow mem"
      intro o' h₂ ho' hU
      have D₂ := hU _ .head
      clear hU D
      dsimp only
      refine o_letGoName ?_
      refine wpAny_assign_Name ?_
      repeat walk_at "ow"
      refine' o_stCell (by with_reducible assumption) ?s1 ?s2 ?s3 ?s4 hoc ?_
      case s1 => rfl
      case s2 => rfl
      case s3 => rfl
      case s4 => walk_at "ow mem"
      intro oc' h₃ hoc' hU
      have D₃ := hU _ (by walk_at "ow up")
      clear hU D₂
      repeat walk_at "ow"
      try dsimp only
      exact ⟨d - 1, by omega, j + 1, _, h₃, _, o', oc', _, by omega, hst, rfl, ho', hoc', D₃.names (by walk_at "ow sub")⟩
  case fin =>
    clear D₉ ho ho1'
    rintro h tk ⟨oc, ta, hoc, D⟩
    dsimp only
    rcases ns with _ | ⟨a, _ | ⟨b', _ | ⟨c, _ | ⟨_, _⟩⟩⟩⟩
    · rw [List.length_nil] at hl
      rw [hl, show (8 * ((0 : Nat) : Int) + 5).fdiv 6 = 0 from rfl] at D
      repeat walk_at "ow"
      rw [hl, show 6 * 0 - 8 * ((0 : Nat) : Int) = 0 from rfl]
      repeat walk_at "ow"
      refine' o_stCell D ?s10 ?s20 ?s30 ?s40 hoc ?_
      case s10 => rfl
      case s20 => rfl
      case s30 => rfl
      case s40 => walk_at "ow mem"
      intro oc' h₃ hoc' hU
      have D₃ := hU _ (by walk_at "ow up")
      clear hU D hoc
      repeat walk_at "ow"
      with_reducible refine GM.join ?_
      repeat walk_at "ow"
      refine' o_listComp (cl := [(Str.ofString "signs", c2), (Str.ofString "number", c1)]) ?q30 ?q40 ?q50 ?q60 ?_
      case q30 => rfl
      case q40 => rfl
      case q50 => decide
      case q60 => (intro _; rfl)
      repeat walk_at "ow"
      refine' o_range3 (by with_reducible assumption) (by decide) ?pp0 ?_
      case pp0 => rfl
      intro rg h₄ D₄
      walk_at "ow iterRng"
      repeat walk_at "ow"
      walk_at "ow cenv"
      walk_at "ow startRng"
      walk_at "ow compRngEnd"
      walk_at "ow compEnd"
      repeat walk_at "ow"
      rename Led b L' _ _ _ => D₉
      try simp only [List.push_toArray, List.cons_append, List.nil_append] at D₉
      refine' o_joinL D₉ ?m0 ?st0 ?w0 ?_
      case m0 => walk_at "ow mem"
      case st0 => exact .nil
      case w0 => exact Nat.le_of_ble_eq_true rfl
      intro t₁ tk₁
      repeat walk_at "ow"
      refine o_mulS (by decide) (by decide) ?_
      intro t₂ tk₂
      refine o_cat (by rw [sizeLine_eq]; exact Nat.le_of_ble_eq_true rfl) ?_
      intro t₃ tk₃
      refine LeaveQ.ret' (D₉.sub (μ' := (L, oL) :: μ) (by walk_at "ow sub")) .head fun D' => ?_
      have hN' : N = 0 := hN.symm
      have q := k _ tk₃ t₃ D'
      exact q
    · rw [List.length_cons, List.length_nil] at hl
      rw [hl, show (8 * ((0 + 1 : Nat) : Int) + 5).fdiv 6 = 2 from rfl] at D
      repeat walk_at "ow"
      rw [hl, show 6 * 2 - 8 * ((0 + 1 : Nat) : Int) = 4 from rfl]
      repeat walk_at "ow"
      refine' o_stCell D ?s11 ?s21 ?s31 ?s41 hoc ?_
      case s11 => rfl
      case s21 => rfl
      case s31 => rfl
      case s41 => walk_at "ow mem"
      intro oc' h₃ hoc' hU
      have D₃ := hU _ (by walk_at "ow up")
      clear hU D hoc
      repeat walk_at "ow"
      with_reducible refine GM.join ?_
      repeat walk_at "ow"
      refine' o_listComp (cl := [(Str.ofString "signs", c2), (Str.ofString "number", c1)]) ?q31 ?q41 ?q51 ?q61 ?_
      case q31 => rfl
      case q41 => rfl
      case q51 => decide
      case q61 => (intro _; rfl)
      repeat walk_at "ow"
      refine' o_range3 (by with_reducible assumption) (by decide) ?pp1 ?_
      case pp1 => rfl
      intro rg h₄ D₄
      walk_at "ow iterRng"
      repeat walk_at "ow"
      walk_at "ow cenv"
      walk_at "ow startRng"
      walk_at "ow compRng"
      refine' o_itemS (j := N * 16 / 64 % 64) ?e10 (by omega) (by omega) ?_ ?u10 ?v10
      case e10 => rw [Int.fdiv_eq_ediv_of_nonneg _ (by decide), Int.fmod_eq_emod_of_nonneg _ (by decide)]
      case u10 => with_unfolding_all rfl
      case v10 => (intro _; with_unfolding_all rfl)
      intro _ _
      repeat walk_at "ow"
      walk_at "ow compRng"
      refine' o_itemS (j := N * 16 % 64) ?e11 (by omega) (by omega) ?_ ?u11 ?v11
      case e11 => rw [Int.fdiv_eq_ediv_of_nonneg _ (by decide), Int.fmod_eq_emod_of_nonneg _ (by decide), Int.ediv_one]
      case u11 => with_unfolding_all rfl
      case v11 => (intro _; with_unfolding_all rfl)
      intro _ _
      repeat walk_at "ow"
      walk_at "ow compRngEnd"
      walk_at "ow compEnd"
      repeat walk_at "ow"
      rename Led b L' _ _ _ => D₉
      try simp only [List.push_toArray, List.cons_append, List.nil_append] at D₉
      refine' o_joinL D₉ ?m1 ?st1 ?w1 ?_
      case m1 => walk_at "ow mem"
      case st1 => exact (.cons _ _ (.cons _ _ .nil))
      case w1 => exact Nat.le_of_ble_eq_true rfl
      intro t₁ tk₁
      repeat walk_at "ow"
      refine o_mulS (by decide) (by decide) ?_
      intro t₂ tk₂
      refine o_cat (by rw [sizeLine_eq]; exact Nat.le_of_ble_eq_true rfl) ?_
      intro t₃ tk₃
      refine LeaveQ.ret' (D₉.sub (μ' := (L, oL) :: μ) (by walk_at "ow sub")) .head fun D' => ?_
      have hN' : N = 0 * 256 + a := hN.symm
      have ha := hr a (.head _)
      have e0 : ((0 * 256 + a) % 65536) / 4 % 64 = N * 16 / 64 % 64 := by omega
      have e1 : ((0 * 256 + a) % 65536) % 4 * 16 = N * 16 % 64 := by omega
      have ee : enc [a] = [b64c (N * 16 / 64 % 64), b64c (N * 16 % 64), 61, 61] := by
        rw [show enc [a] = [b64c (((0 * 256 + a) % 65536) / 4 % 64), b64c (((0 * 256 + a) % 65536) % 4 * 16), 61, 61] from rfl, e0, e1]
      have q := k _ tk₃ t₃ D'
      rw [ee] at q
      exact q
    · rw [List.length_cons, List.length_cons, List.length_nil] at hl
      rw [hl, show (8 * ((0 + 1 + 1 : Nat) : Int) + 5).fdiv 6 = 3 from rfl] at D
      repeat walk_at "ow"
      rw [hl, show 6 * 3 - 8 * ((0 + 1 + 1 : Nat) : Int) = 2 from rfl]
      repeat walk_at "ow"
      refine' o_stCell D ?s12 ?s22 ?s32 ?s42 hoc ?_
      case s12 => rfl
      case s22 => rfl
      case s32 => rfl
      case s42 => walk_at "ow mem"
      intro oc' h₃ hoc' hU
      have D₃ := hU _ (by walk_at "ow up")
      clear hU D hoc
      repeat walk_at "ow"
      with_reducible refine GM.join ?_
      repeat walk_at "ow"
      refine' o_listComp (cl := [(Str.ofString "signs", c2), (Str.ofString "number", c1)]) ?q32 ?q42 ?q52 ?q62 ?_
      case q32 => rfl
      case q42 => rfl
      case q52 => decide
      case q62 => (intro _; rfl)
      repeat walk_at "ow"
      refine' o_range3 (by with_reducible assumption) (by decide) ?pp2 ?_
      case pp2 => rfl
      intro rg h₄ D₄
      walk_at "ow iterRng"
      repeat walk_at "ow"
      walk_at "ow cenv"
      walk_at "ow startRng"
      walk_at "ow compRng"
      refine' o_itemS (j := N * 4 / 4096 % 64) ?e20 (by omega) (by omega) ?_ ?u20 ?v20
      case e20 => rw [Int.fdiv_eq_ediv_of_nonneg _ (by decide), Int.fmod_eq_emod_of_nonneg _ (by decide)]
      case u20 => with_unfolding_all rfl
      case v20 => (intro _; with_unfolding_all rfl)
      intro _ _
      repeat walk_at "ow"
      walk_at "ow compRng"
      refine' o_itemS (j := N * 4 / 64 % 64) ?e21 (by omega) (by omega) ?_ ?u21 ?v21
      case e21 => rw [Int.fdiv_eq_ediv_of_nonneg _ (by decide), Int.fmod_eq_emod_of_nonneg _ (by decide)]
      case u21 => with_unfolding_all rfl
      case v21 => (intro _; with_unfolding_all rfl)
      intro _ _
      repeat walk_at "ow"
      walk_at "ow compRng"
      refine' o_itemS (j := N * 4 % 64) ?e22 (by omega) (by omega) ?_ ?u22 ?v22
      case e22 => rw [Int.fdiv_eq_ediv_of_nonneg _ (by decide), Int.fmod_eq_emod_of_nonneg _ (by decide), Int.ediv_one]
      case u22 => with_unfolding_all rfl
      case v22 => (intro _; with_unfolding_all rfl)
      intro _ _
      repeat walk_at "ow"
      walk_at "ow compRngEnd"
      walk_at "ow compEnd"
      repeat walk_at "ow"
      rename Led b L' _ _ _ => D₉
      try simp only [List.push_toArray, List.cons_append, List.nil_append] at D₉
      refine' o_joinL D₉ ?m2 ?st2 ?w2 ?_
      case m2 => walk_at "ow mem"
      case st2 => exact (.cons _ _ (.cons _ _ (.cons _ _ .nil)))
      case w2 => exact Nat.le_of_ble_eq_true rfl
      intro t₁ tk₁
      repeat walk_at "ow"
      refine o_mulS (by decide) (by decide) ?_
      intro t₂ tk₂
      refine o_cat (by rw [sizeLine_eq]; exact Nat.le_of_ble_eq_true rfl) ?_
      intro t₃ tk₃
      refine LeaveQ.ret' (D₉.sub (μ' := (L, oL) :: μ) (by walk_at "ow sub")) .head fun D' => ?_
      have hN' : N = (0 * 256 + a) * 256 + b' := hN.symm
      have ha := hr a (.head _)
      have hb := hr b' (.tail _ (.head _))
      have e0 : ((0 * 256 + a) % 65536) / 4 % 64 = N * 4 / 4096 % 64 := by omega
      have e1 : ((((0 * 256 + a) % 65536) * 256 + b') % 65536) / 16 % 64 = N * 4 / 64 % 64 := by omega
      have e2 : ((((0 * 256 + a) % 65536) * 256 + b') % 65536) % 16 * 4 = N * 4 % 64 := by omega
      have ee : enc [a, b'] = [b64c (N * 4 / 4096 % 64), b64c (N * 4 / 64 % 64), b64c (N * 4 % 64), 61] := by
        rw [show enc [a, b'] = [b64c (((0 * 256 + a) % 65536) / 4 % 64), b64c (((((0 * 256 + a) % 65536) * 256 + b') % 65536) / 16 % 64), b64c (((((0 * 256 + a) % 65536) * 256 + b') % 65536) % 16 * 4), 61] from rfl, e0, e1, e2]
      have q := k _ tk₃ t₃ D'
      rw [ee] at q
      exact q
    · rw [List.length_cons, List.length_cons, List.length_cons, List.length_nil] at hl
      rw [hl, show (8 * ((0 + 1 + 1 + 1 : Nat) : Int) + 5).fdiv 6 = 4 from rfl] at D
      repeat walk_at "ow"
      rw [hl, show 6 * 4 - 8 * ((0 + 1 + 1 + 1 : Nat) : Int) = 0 from rfl]
      repeat walk_at "ow"
      refine' o_stCell D ?s13 ?s23 ?s33 ?s43 hoc ?_
      case s13 => rfl
      case s23 => rfl
      case s33 => rfl
      case s43 => walk_at "ow mem"
      intro oc' h₃ hoc' hU
      have D₃ := hU _ (by walk_at "ow up")
      clear hU D hoc
      repeat walk_at "ow"
      with_reducible refine GM.join ?_
      repeat walk_at "ow"
      refine' o_listComp (cl := [(Str.ofString "signs", c2), (Str.ofString "number", c1)]) ?q33 ?q43 ?q53 ?q63 ?_
      case q33 => rfl
      case q43 => rfl
      case q53 => decide
      case q63 => (intro _; rfl)
      repeat walk_at "ow"
      refine' o_range3 (by with_reducible assumption) (by decide) ?pp3 ?_
      case pp3 => rfl
      intro rg h₄ D₄
      walk_at "ow iterRng"
      repeat walk_at "ow"
      walk_at "ow cenv"
      walk_at "ow startRng"
      walk_at "ow compRng"
      refine' o_itemS (j := N * 1 / 262144 % 64) ?e30 (by omega) (by omega) ?_ ?u30 ?v30
      case e30 => rw [Int.fdiv_eq_ediv_of_nonneg _ (by decide), Int.fmod_eq_emod_of_nonneg _ (by decide)]
      case u30 => with_unfolding_all rfl
      case v30 => (intro _; with_unfolding_all rfl)
      intro _ _
      repeat walk_at "ow"
      walk_at "ow compRng"
      refine' o_itemS (j := N * 1 / 4096 % 64) ?e31 (by omega) (by omega) ?_ ?u31 ?v31
      case e31 => rw [Int.fdiv_eq_ediv_of_nonneg _ (by decide), Int.fmod_eq_emod_of_nonneg _ (by decide)]
      case u31 => with_unfolding_all rfl
      case v31 => (intro _; with_unfolding_all rfl)
      intro _ _
      repeat walk_at "ow"
      walk_at "ow compRng"
      refine' o_itemS (j := N * 1 / 64 % 64) ?e32 (by omega) (by omega) ?_ ?u32 ?v32
      case e32 => rw [Int.fdiv_eq_ediv_of_nonneg _ (by decide), Int.fmod_eq_emod_of_nonneg _ (by decide)]
      case u32 => with_unfolding_all rfl
      case v32 => (intro _; with_unfolding_all rfl)
      intro _ _
      repeat walk_at "ow"
      walk_at "ow compRng"
      refine' o_itemS (j := N * 1 % 64) ?e33 (by omega) (by omega) ?_ ?u33 ?v33
      case e33 => rw [Int.fdiv_eq_ediv_of_nonneg _ (by decide), Int.fmod_eq_emod_of_nonneg _ (by decide), Int.ediv_one]
      case u33 => with_unfolding_all rfl
      case v33 => (intro _; with_unfolding_all rfl)
      intro _ _
      repeat walk_at "ow"
      walk_at "ow compRngEnd"
      walk_at "ow compEnd"
      repeat walk_at "ow"
      rename Led b L' _ _ _ => D₉
      try simp only [List.push_toArray, List.cons_append, List.nil_append] at D₉
      refine' o_joinL D₉ ?m3 ?st3 ?w3 ?_
      case m3 => walk_at "ow mem"
      case st3 => exact (.cons _ _ (.cons _ _ (.cons _ _ (.cons _ _ .nil))))
      case w3 => exact Nat.le_of_ble_eq_true rfl
      intro t₁ tk₁
      repeat walk_at "ow"
      refine o_mulS (by decide) (by decide) ?_
      intro t₂ tk₂
      refine o_cat (by rw [sizeLine_eq]; exact Nat.le_of_ble_eq_true rfl) ?_
      intro t₃ tk₃
      refine LeaveQ.ret' (D₉.sub (μ' := (L, oL) :: μ) (by walk_at "ow sub")) .head fun D' => ?_
      have hN' : N = ((0 * 256 + a) * 256 + b') * 256 + c := hN.symm
      have ha := hr a (.head _)
      have hb := hr b' (.tail _ (.head _))
      have hc := hr c (.tail _ (.tail _ (.head _)))
      have e0 : ((0 * 256 + a) % 65536) / 4 % 64 = N * 1 / 262144 % 64 := by omega
      have e1 : ((((0 * 256 + a) % 65536) * 256 + b') % 65536) / 16 % 64 = N * 1 / 4096 % 64 := by omega
      have e2 : ((((((0 * 256 + a) % 65536) * 256 + b') % 65536) * 256 + c) % 65536) / 64 % 64 = N * 1 / 64 % 64 := by omega
      have e3 : ((((((0 * 256 + a) % 65536) * 256 + b') % 65536) * 256 + c) % 65536) % 64 = N * 1 % 64 := by omega
      have ee : enc [a, b', c] = [b64c (N * 1 / 262144 % 64), b64c (N * 1 / 4096 % 64), b64c (N * 1 / 64 % 64), b64c (N * 1 % 64)] := by
        rw [show enc [a, b', c] = [b64c (((0 * 256 + a) % 65536) / 4 % 64), b64c (((((0 * 256 + a) % 65536) * 256 + b') % 65536) / 16 % 64), b64c (((((((0 * 256 + a) % 65536) * 256 + b') % 65536) * 256 + c) % 65536) / 64 % 64), b64c (((((((0 * 256 + a) % 65536) * 256 + b') % 65536) * 256 + c) % 65536) % 64)] from rfl, e0, e1, e2, e3]
      have q := k _ tk₃ t₃ D'
      rw [ee] at q
      exact q
    · exact absurd hz (by simp [List.length_cons])
end
end

section
theorem fd (i : Int) {d : Int} (h : 0 ≤ d) : i.fdiv d = i / d := Int.fdiv_eq_ediv_of_nonneg i h
theorem fm (i : Int) {d : Int} (h : 0 ≤ d) : i.fmod d = i % d := Int.fmod_eq_emod_of_nonneg i h
theorem half0 (i m : Int) : Builtin.bitAnd i (2 * m) = 2 * Builtin.bitAnd (i / 2) m := by
  rw [kbt_halves, Int.mul_ediv_cancel_left m (by decide), if_neg (fun q => absurd q.2 (by rw [Int.mul_emod_right]; decide)), Int.add_zero]
theorem half1 (i m : Int) : Builtin.bitAnd i (2 * m + 1) = 2 * Builtin.bitAnd (i / 2) m + i % 2 := by
  rw [kbt_halves, show (2 * m + 1) / 2 = m by omega, show (2 * m + 1) % 2 = 1 by omega]
  rcases Int.emod_two_eq i with q | q <;> rw [q] <;> rfl
theorem and_up (m : Int) : ∀ (k : Nat) (i : Int), Builtin.bitAnd i (2 ^ k * m) = 2 ^ k * Builtin.bitAnd (i / 2 ^ k) m
  | 0, i => by rw [Int.pow_zero, Int.one_mul, Int.one_mul, Int.ediv_one]
  | k + 1, i => by rw [Int.pow_succ, Int.mul_comm (2 ^ k) 2, Int.mul_assoc, half0, and_up m k, Int.mul_assoc, Int.ediv_ediv_of_nonneg (by decide)]
theorem pow_pos (k : Nat) : (0 : Int) < 2 ^ k := Int.pow_pos (by decide)
theorem beq_iff {x y u v : Int} (h : x = y ↔ u = v) : (x == y) = (u == v) := by rw [Bool.eq_iff_iff, beq_iff_eq, beq_iff_eq]; exact h
theorem bit1 (i : Int) (k : Nat) : (Builtin.bitAnd i (2 ^ k) == 2 ^ k) = (i / 2 ^ k % 2 == 1) := by
  refine beq_iff ?_
  have := pow_pos k
  rw [kbt_bit]
  rcases Int.emod_two_eq (i / 2 ^ k) with q | q <;> rw [q] <;> omega
theorem bit2 (i : Int) (k l : Nat) : (Builtin.bitAnd i (2 ^ k * (2 * 2 ^ l + 1)) == 2 ^ k * (2 * 2 ^ l + 1)) = ((i / 2 ^ (k + 1 + l) % 2 == 1) && (i / 2 ^ k % 2 == 1)) := by
  have h1 := pow_pos k
  have h2 := pow_pos l
  rw [and_up, half1, kbt_bit, Int.ediv_ediv_of_nonneg (by decide), Int.ediv_ediv_of_nonneg (Int.le_of_lt (by omega)), show (2 : Int) ^ k * (2 * 2 ^ l) = 2 ^ (k + 1 + l) by rw [Int.pow_add, Int.pow_succ, Int.mul_assoc]]
  generalize i / 2 ^ (k + 1 + l) = x
  generalize i / 2 ^ k = y
  rw [Bool.eq_iff_iff, beq_iff_eq, Bool.and_eq_true, beq_iff_eq, beq_iff_eq, Int.mul_eq_mul_left_iff (Int.ne_of_gt h1)]
  rcases Int.emod_two_eq x with q | q <;> rcases Int.emod_two_eq y with q' | q' <;> rw [q, q'] <;> omega
theorem sg_x (p q : Bool) (x X : Str) :
    (if (p && q) = true then x else if p = true then X else if q = true then Str.ofString "x" else Str.ofString "-") = (if p = true then (if q = true then x else X) else if q = true then Str.ofString "x" else Str.ofString "-") := by
  cases p <;> cases q <;> rfl
theorem up_s : Txt.upper (Str.ofString "s") = Str.ofString "S" := by decide +kernel
theorem up_t : Txt.upper (Str.ofString "t") = Str.ofString "T" := by decide +kernel
theorem oct_r (q : Int) : decide (3 < q % 8) = (q / 4 % 2 == 1) := by rw [Bool.eq_iff_iff, beq_iff_eq, decide_eq_true_iff]; omega
theorem oct_w (q : Int) : (q % 8 / 2 % 2 == 1) = (q / 2 % 2 == 1) := beq_iff (by omega)
theorem oct_x (q : Int) : (q % 8 % 2 == 1) = (q % 2 == 1) := beq_iff (by omega)
/-- three signs told by octal figures are those told by the masks -/
theorem part_eq (k l j : Nat) (h : k + 1 + l = 9 + j) (more More : Str) (hU : Txt.upper more = More) (i : Int) (T : Str) :
    part (2 ^ k) (2 ^ j) more i T = ((T ++ (if (Builtin.bitAnd i (2 ^ (k + 2)) == 2 ^ (k + 2)) = true then Str.ofString "r" else Str.ofString "-")) ++ (if (Builtin.bitAnd i (2 ^ (k + 1)) == 2 ^ (k + 1)) = true then Str.ofString "w" else Str.ofString "-")) ++
      (if (Builtin.bitAnd i (2 ^ k * (2 * 2 ^ l + 1)) == 2 ^ k * (2 * 2 ^ l + 1)) = true then more else if (Builtin.bitAnd i (2 ^ (9 + j)) == 2 ^ (9 + j)) = true then More else if (Builtin.bitAnd i (2 ^ k) == 2 ^ k) = true then Str.ofString "x" else Str.ofString "-") := by
  have e2 : i / 2 ^ (k + 2) = i / 2 ^ k / 4 := by rw [Int.ediv_ediv_of_nonneg (Int.le_of_lt (pow_pos k)), Int.pow_add]; rfl
  have e1 : i / 2 ^ (k + 1) = i / 2 ^ k / 2 := by rw [Int.ediv_ediv_of_nonneg (Int.le_of_lt (pow_pos k)), Int.pow_succ]
  have e9 : i / 2 ^ (9 + j) = i / 512 / 2 ^ j := by rw [Int.ediv_ediv_of_nonneg (by decide), Int.pow_add]; rfl
  rw [bit1, bit1, bit2, bit1, bit1, h, sg_x, e2, e1, e9]
  unfold part
  rw [hU, fd i (Int.le_of_lt (pow_pos k)), fm _ (by decide), fd _ (by decide), fm _ (by decide), fd i (by decide), fd _ (Int.le_of_lt (pow_pos j)), fm _ (by decide), fm _ (by decide), oct_r, oct_w, oct_x]
theorem sg_0 {i : Int} (h0 : 0 ≤ i) (h1 : i < 65536) : sg 0 i = tyS (i.fdiv 4096) := by
  have e : Builtin.bitAnd i 61440 = 4096 * (i.fdiv 4096) := by
    rw [show (61440 : Int) = 2 ^ 12 * 15 from rfl, and_up, bitAnd_m4, fd i (by decide), show (2 : Int) ^ 12 = 4096 from rfl, Int.emod_eq_of_lt (by omega) (by omega)]
  obtain ⟨n, hn, en⟩ : ∃ n : Nat, n < 16 ∧ i.fdiv 4096 = (n : Int) := ⟨(i.fdiv 4096).toNat, by rw [fd i (by decide)]; omega, by rw [fd i (by decide)]; omega⟩
  rw [en] at e ⊢
  have z : ∀ m : Nat, m < 16 → (fun z : Int => if (z == 40960) = true then Str.ofString "l" else if (z == 49152) = true then Str.ofString "s" else if (z == 32768) = true then Str.ofString "-" else if (z == 24576) = true then Str.ofString "b"
    else if (z == 16384) = true then Str.ofString "d" else if (z == 8192) = true then Str.ofString "c" else if (z == 4096) = true then Str.ofString "p" else Str.ofString "?") (4096 * (m : Int)) = tyS m := by decide +kernel
  rw [← z n hn, ← e]
  rfl
theorem app_cps (x y : Str) : (x ++ y).cps.toList = x.cps.toList ++ y.cps.toList := by
  show (x.cps ++ y.cps).toList = _
  exact Array.toList_append
theorem join_fold : ∀ (rest : List Str) (x : Str), Txt.join (Str.ofString "") (x :: rest) = rest.foldl (· ++ ·) x
  | [], x => rfl
  | y :: rest, x => by
    have e := join_fold rest (x ++ y)
    rw [List.foldl_cons, ← e]
    unfold Txt.join
    rw [PySem.StrLaws.glued_eq_join, PySem.StrLaws.glued_eq_join, ← PySem.StrLaws.glued_cons, ← PySem.StrLaws.glued_cons, List.foldl_cons]
    have z : x.cps ++ (Str.ofString "").cps ++ y.cps = (x ++ y).cps := by
      show x.cps ++ #[] ++ y.cps = x.cps ++ y.cps
      rw [Array.append_empty]
    rw [z]
theorem signs_eq {i : Int} (h0 : 0 ≤ i) (h1 : i < 65536) : Txt.join (Str.ofString "") (sgs 10 i) = lsT i := by
  rw [show sgs 10 i = [sg 0 i, sg 1 i, sg 2 i, sg 3 i, sg 4 i, sg 5 i, sg 6 i, sg 7 i, sg 8 i, sg 9 i] from rfl, join_fold, sg_0 h0 h1]
  refine Eq.trans ?_ (part_eq 0 8 0 rfl (Str.ofString "t") (Str.ofString "T") up_t i _).symm
  refine Eq.trans ?_ (congrArg (fun T => ((T ++ _) ++ _) ++ _) (part_eq 3 6 1 rfl (Str.ofString "s") (Str.ofString "S") up_s i _).symm)
  refine Eq.trans ?_ (congrArg (fun T => ((((((T ++ _) ++ _) ++ _) ++ _) ++ _) ++ _)) (part_eq 6 4 2 rfl (Str.ofString "s") (Str.ofString "S") up_s i _).symm)
  rfl
theorem b64c_lt (i : Int) : 0 ≤ b64c i ∧ b64c i < 128 := by
  have hd : ∀ k < 64, 0 ≤ b64ks.getD k 0 ∧ b64ks.getD k 0 < 128 := by decide
  by_cases h : i.toNat < 64
  · exact hd _ h
  · have : b64ks.getD i.toNat 0 = 0 := by
      rw [List.getD_eq_getElem?_getD, List.getElem?_eq_none (by rw [show b64ks.length = 64 from rfl]; omega)]; rfl
    show 0 ≤ b64ks.getD i.toNat 0 ∧ b64ks.getD i.toNat 0 < 128
    rw [this]; decide
theorem enc_ok {ns : List Int} (hz : ns.length ≤ 3) : enc ns = [] ∨ ∃ a b c d, enc ns = [a, b, c, d] ∧ (0 ≤ a ∧ a < 128) ∧ (0 ≤ b ∧ b < 128) ∧ (0 ≤ c ∧ c < 128) ∧ (0 ≤ d ∧ d < 128) := by
  rcases ns with _ | ⟨a, _ | ⟨b', _ | ⟨c, _ | ⟨_, _⟩⟩⟩⟩
  · exact .inl rfl
  · exact .inr ⟨_, _, _, _, rfl, b64c_lt _, b64c_lt _, by decide, by decide⟩
  · exact .inr ⟨_, _, _, _, rfl, b64c_lt _, b64c_lt _, b64c_lt _, by decide⟩
  · exact .inr ⟨_, _, _, _, rfl, b64c_lt _, b64c_lt _, b64c_lt _, b64c_lt _⟩
  · exact absurd hz (by simp [List.length_cons])
theorem txt_len {ns : List Int} (hz : ns.length ≤ 3) : (txt (enc ns)).length ≤ 4 := by
  rcases enc_ok hz with e | ⟨a, b, c, d, e, _⟩ <;> rw [e]
  · exact Nat.zero_le _
  · exact Nat.le_refl 4
theorem txt_strOk {ns : List Int} (hz : ns.length ≤ 3) : PyData.strOk (txt (enc ns)) = true := by
  rw [strOk_iff]
  intro c hc
  unfold txt at hc
  rcases enc_ok hz with e | ⟨a, b, c', d, e, ha, hb, hc', hd⟩ <;> rw [e] at hc
  · cases hc
  · simp at hc
    omega
theorem sg_strOk (n : Nat) (i : Int) : PyData.strOk (sg n i) = true := sg_all (fun x => PyData.strOk x = true) (by decide +kernel) n i
theorem join_strOk : ∀ (l : List Str) (x : Str), PyData.strOk x = true → (∀ s ∈ l, PyData.strOk s = true) → PyData.strOk (l.foldl (· ++ ·) x) = true
  | [], _, hx, _ => hx
  | _ :: l, _, hx, h => join_strOk l _ (strOk_app hx (h _ (.head _))) fun s hs => h s (.tail _ hs)
theorem sgs_strOk (i : Int) : PyData.strOk (Txt.join (Str.ofString "") (sgs 10 i)) = true := by
  rw [show sgs 10 i = sg 0 i :: [sg 1 i, sg 2 i, sg 3 i, sg 4 i, sg 5 i, sg 6 i, sg 7 i, sg 8 i, sg 9 i] from rfl, join_fold]
  refine join_strOk _ _ (sg_strOk _ _) fun s hs => ?_
  simp only [List.mem_cons, List.not_mem_nil, or_false] at hs
  rcases hs with rfl | rfl | rfl | rfl | rfl | rfl | rfl | rfl | rfl <;> exact sg_strOk _ _
theorem sgs_join_len (i : Int) : (Txt.join (Str.ofString "") (sgs 10 i)).length ≤ 10 := by
  unfold Txt.join
  rw [PySem.size_glued]
  have := sgs_len 10 i
  have e : (Str.ofString "").length = 0 := by decide
  rw [e]
  omega
/-- the tape of files -/
noncomputable def tapeOf : List (List Int × Int) → List Int
  | [] => []
  | f :: fs => (f.1.length : Int) :: (f.1 ++ [f.2.fmod 256, f.2.fdiv 256]) ++ tapeOf fs
/-- a file as it may be -/
def FileOk (f : List Int × Int) : Prop := f.1.length ≤ 3 ∧ (∀ n ∈ f.1, 0 ≤ n ∧ n < 256) ∧ 0 ≤ f.2 ∧ f.2 < 65536
theorem tape_ok : ∀ (fs : List (List Int × Int)), (∀ f ∈ fs, FileOk f) → (∀ n ∈ tapeOf fs, 0 ≤ n ∧ n < 256) ∧ (tapeOf fs).length ≤ 6 * fs.length
  | [], _ => ⟨(fun n hn => nomatch hn), Nat.le_refl _⟩
  | f :: fs, h => by
    obtain ⟨ih1, ih2⟩ := tape_ok fs fun g hg => h g (.tail _ hg)
    obtain ⟨h1, h2, h3, h4⟩ := h f (.head _)
    refine ⟨fun n hn => ?_, ?_⟩
    · unfold tapeOf at hn
      rw [fm _ (by decide), fd _ (by decide)] at hn
      rcases List.mem_append.mp hn with q | q
      · rcases List.mem_cons.mp q with rfl | q
        · omega
        · rcases List.mem_append.mp q with q | q
          · exact h2 n q
          · simp only [List.mem_cons, List.not_mem_nil, or_false] at q
            rcases q with rfl | rfl <;> omega
      · exact ih1 n q
    · unfold tapeOf
      simp only [List.length_append, List.length_cons, List.length_nil]
      omega
theorem rd_due : ∀ (fs : List (List Int × Int)), (∀ f ∈ fs, FileOk f) → ∀ (e k : Nat), e ≤ (tapeOf fs).length → e < k → rd k ((tapeOf fs).take e) = due fs e
  | [], _, e, k, he, hk => by
    obtain ⟨k, rfl⟩ : ∃ m, k = m + 1 := ⟨k - 1, by omega⟩
    rw [show tapeOf [] = [] from rfl, List.take_nil, due, rd]
  | f :: fs, h, e, k, he, hk => by
    obtain ⟨k, rfl⟩ : ∃ m, k = m + 1 := ⟨k - 1, by omega⟩
    obtain ⟨nm, bits⟩ := f
    obtain ⟨h1, h2, h3, h4⟩ := h _ (.head _)
    dsimp only at h1 h2 h3 h4
    rw [due]
    cases e with
    | zero =>
      rw [List.take_zero, rd, if_neg (by omega), if_pos (by dsimp only; omega)]
    | succ e =>
      have et : (tapeOf ((nm, bits) :: fs)).take (e + 1) = (nm.length : Int) :: (nm ++ ([bits.fmod 256, bits.fdiv 256] ++ tapeOf fs)).take e := by
        rw [show tapeOf ((nm, bits) :: fs) = (nm.length : Int) :: (nm ++ [bits.fmod 256, bits.fdiv 256]) ++ tapeOf fs from rfl, List.cons_append, List.append_assoc, List.take_succ_cons]
      have hlen : ((nm ++ ([bits.fmod 256, bits.fdiv 256] ++ tapeOf fs)).take e).length = e := by
        rw [List.length_take]
        rw [show tapeOf ((nm, bits) :: fs) = (nm.length : Int) :: (nm ++ [bits.fmod 256, bits.fdiv 256]) ++ tapeOf fs from rfl] at he
        simp only [List.length_append, List.length_cons, List.length_nil] at he ⊢
        omega
      rw [et, rd, hlen]
      by_cases c1 : (e : Int) < nm.length
      · rw [if_pos c1, if_pos (by dsimp only; omega)]
        congr 2
        omega
      · rw [if_neg c1, if_neg (by dsimp only; omega)]
        have hd : ((nm ++ ([bits.fmod 256, bits.fdiv 256] ++ tapeOf fs)).take e).drop nm.length = ([bits.fmod 256, bits.fdiv 256] ++ tapeOf fs).take (e - nm.length) := by
          rw [List.take_append, List.drop_append, List.take_of_length_le (by omega), List.drop_of_length_le (Nat.le_refl _), Nat.sub_self, List.drop_zero, List.nil_append]
        have ht : ((nm ++ ([bits.fmod 256, bits.fdiv 256] ++ tapeOf fs)).take e).take nm.length = nm := by
          rw [List.take_take, Nat.min_eq_left (by omega), List.take_append, List.take_of_length_le (Nat.le_refl _), Nat.sub_self, List.take_zero, List.append_nil]
        rw [Int.toNat_natCast, hd, ht]
        by_cases c2 : e - nm.length < 2
        · rw [if_pos (by dsimp only; omega)]
          have : e - nm.length = 0 ∨ e - nm.length = 1 := by omega
          rcases this with q | q <;> rw [q] <;> rfl
        · rw [if_neg (by dsimp only; omega)]
          obtain ⟨m, hm⟩ : ∃ m, e - nm.length = m + 2 := ⟨e - nm.length - 2, by omega⟩
          rw [hm]
          have ih := rd_due fs (fun g hg => h g (.tail _ hg)) m k (by rw [show tapeOf ((nm, bits) :: fs) = (nm.length : Int) :: (nm ++ [bits.fmod 256, bits.fdiv 256]) ++ tapeOf fs from rfl] at he; simp only [List.length_append, List.length_cons, List.length_nil] at he; omega) (by omega)
          show ((nm, bits.fmod 256 + 256 * bits.fdiv 256) :: (rd k ((tapeOf fs).take m)).1, (rd k ((tapeOf fs).take m)).2) = _
          have eb : bits.fmod 256 + 256 * bits.fdiv 256 = bits := by rw [fm _ (by decide), fd _ (by decide)]; omega
          have ee : ((e + 1 : Nat) : Int) - (nm.length : Int) - 3 = (m : Int) := by omega
          rw [ih, eb]
          dsimp only
          rw [ee]
end

section
def recOf {q : Program} {loose : List Str} {XP : (Str → Option Value) → Heap → Prop} {YP : World → Heap → Prop} {r : RowW} {d : DefRec} {kwd : List (Str × Expr)} {run : Value → List Value → Sem Value} {P : Prop} (_ : WalkO q loose XP YP r d kwd run → P) : DefRec := d
/-- the law's def, as the head names it -/
noncomputable def lawRec : DefRec := recOf hd
noncomputable def line1 (f : List Int × Int) : Str := txt (enc f.1) ++ Str.ofString " " ++ Txt.join (Str.ofString "") (sgs 10 f.2)
def line2 (f : List Int × Int) : Str := txt (enc f.1) ++ Str.ofString " " ++ lsT f.2
theorem strs_snoc {vs : List Value} {ss : List Str} (h : StrsAre vs ss) {x : Str} {t : Tok} : StrsAre (vs ++ [.str x t]) (ss ++ [x]) := by
  induction h with
  | nil => exact .cons _ _ .nil
  | cons y t _ ih => exact .cons _ _ ih
structure Around0 (A : Around) (env : Env) : Prop where
  hh : A.handled = none
  dp : A.depth + 20 < recursionLimit
  un : A.units + 200 < cLine
  fr : A.frames = some [env]
section
variable {w : World} {A : Around} {b h : Heap} {L fa : Addr} {cd : Value} {al : List (Str × Value)} {μ : List (Addr × Obj)} {mg mb : Str → Option Value} {G : Array GenState} {Dr : Drawn} {tk : Nat} {O : OsState} {Q : Flow → Shared → Prop} {E : Value → Shared → Prop}
theorem law5 {fl lg : Addr} {fvs lvs : List Value} {fn ln : Nat} {fs : List (List Int × Int)} (B : BaseX w mg mb b) (hA : Around0 A (envOf lawRec.name lawRec.scope L fa cd)) (D : Led b L [(Str.ofString "files", .ref fl), (Str.ofString "listing", .ref lg)] h ((lg, listOf lvs.toArray ln) :: (fl, listOf fvs.toArray fn) :: μ))
    (hfi : FilesIn μ fvs fs) (hok : ∀ f ∈ fs, FileOk f) (hn : fs.length ≤ 5) (hl : StrsAre lvs (fs.map line1)) (hq : ∀ f ∈ fs, line1 f = line2 f)
    (k : ∀ h' tk' μ', Led b L [] h' (μ' ++ μ) → Q (.ret (.bool true)) ⟨h', G, Dr, tk', O⟩) :
    wpAny (model P0 w) A (execs (lawRec.body.drop 4) (envOf lawRec.name lawRec.scope L fa cd)) Q E ⟨h, G, Dr, tk, O⟩ := by
  have B0 := B.B
  obtain ⟨hA1, hA2, hA3, hA4⟩ := hA
  dsimp only [lawRec, recOf, List.drop] at hA4 ⊢
  repeat walk_at "ow"
  refine' o_listComp (cl := []) ?q1 ?q2 ?q3 ?q4 ?_
  case q1 => rfl
  case q2 => rfl
  case q3 => decide
  case q4 => (intro _; rfl)
  repeat walk_at "ow"
  refine' o_iterLst D ?mi ?_
  case mi => walk_at "ow mem"
  intro it o h₂ ho D₂
  (with_reducible refine' o_newList ?d ?_ ?z); (case d => with_reducible assumption); (case z => size_fits)
  intro ac h₃ D₃
  (with_reducible refine' o_cenv' ?d2 ?l2 ?c2 ?k2 ?g2 ?q2b ?_); (case d2 => with_reducible assumption); (case l2 => rfl); (case c2 => decide); (case k2 => rfl); (case g2 => rfl); (case q2b => rfl)
  intro C h₄ tk₄ oL U₄ D₄
  clear D D₂ D₃
  refine' o_startLst D₄ ?ms ho ?_
  case ms => walk_at "ow mem"
  have hl0 := hfi.length
  refine o_cloop (G := G) (Dr := Dr) (O := O) (fun h tk => ∃ avs nn, StrsAre avs (fs.map line2) ∧ Led b C [] h ((L, oL) :: (ac, listOf avs.toArray nn) :: (lg, listOf lvs.toArray ln) :: (fl, listOf fvs.toArray fn) :: μ)) ?fin ?loop
  case fin =>
    clear D₄
    rintro h tk ⟨avs, nn, hav, D⟩
    walk_at "ow compEnd"
    repeat walk_at "ow"
    have e : fs.map line1 = fs.map line2 := List.map_congr_left hq
    rw [e] at hl
    refine' o_eqStrs (by with_reducible assumption) ?m1 hl ?m2 hav ?so (by omega) ?_
    case m1 => walk_at "ow mem"
    case m2 => walk_at "ow mem"
    case so =>
      intro s hs
      obtain ⟨f, hf, rfl⟩ := List.mem_map.mp hs
      obtain ⟨f1, f2, f3, f4⟩ := hok f hf
      rw [← hq f hf]
      exact strOk_app (strOk_app (txt_strOk f1) (strOk_of _)) (sgs_strOk _)
    rename Led b L _ _ _ => D₅
    exact k _ _ [(ac, listOf avs.toArray nn), (lg, listOf lvs.toArray ln), (fl, listOf fvs.toArray fn)] (D₅.names (List.nil_sublist _))
  case loop =>
    intro R fin
    clear k
    refine o_compInv (fun d s => ∃ j h tk o avs nn, d + j = fs.length ∧ s = ⟨h, G, Dr, tk, O⟩ ∧ LstItO o fl j ∧ StrsAre avs ((fs.take j).map line2) ∧
      Led b C [] h ((L, oL) :: (ac, listOf avs.toArray nn) :: (it, o) :: (lg, listOf lvs.toArray ln) :: (fl, listOf fvs.toArray fn) :: μ)) ?turn fs.length
      ⟨0, _, _, o, [], 0, rfl, rfl, ho, .nil, D₄⟩
    clear D₄ ho
    rintro d _ ⟨j, h, tk, o, avs, nn, hd, rfl, ho, hav, D⟩
    by_cases hj : j = fs.length
    · refine' o_endLst (μ' := (L, oL) :: (ac, listOf avs.toArray nn) :: (lg, listOf lvs.toArray ln) :: (fl, listOf fvs.toArray fn) :: μ) hA1 D ?me ho ?mf ?x ?ue ?_
      case me => walk_at "ow mem"
      case mf => walk_at "ow mem"
      case x => (apply List.getElem?_eq_none; omega)
      case ue => walk_at "ow rm"
      intro h₂ D₂
      rw [List.take_of_length_le (by omega)] at hav
      exact fin _ _ ⟨avs, nn, hav, D₂⟩
    · obtain ⟨f, hf⟩ : ∃ f, fs[j]? = some f := ⟨fs[j]'(by omega), List.getElem?_eq_getElem (by omega)⟩
      obtain ⟨le, ln', t₁, n₁, r₁, ws, hv, hle, hln, hws⟩ := hfi.at hf
      have htk : fs.take (j + 1) = fs.take j ++ [f] := by
        rw [List.getElem?_eq_getElem (by omega)] at hf
        rw [← Option.some.inj hf]
        exact (List.take_append_getElem (by omega)).symm
      obtain ⟨f1, f2, f3, f4⟩ := hok f (List.mem_of_getElem? hf)
      have ht := txt_len f1
      have hsl := sgs_join_len f.2
      rw [signs_eq f3 f4] at hsl
      refine' o_nextLst D ?mn ho ?mf2 hv ?_
      case mn => walk_at "ow mem"
      case mf2 => walk_at "ow mem"
      intro o' h₂ ho' hU
      have D₂ := hU _ (by walk_at "ow up")
      clear hU D
      dsimp only
      refine' o_letGoLst D₂ ?mg ho' ?_
      case mg => walk_at "ow mem"
      refine' o_unpackLst hA1 D₂ ?mu ?q5 ?q6 ?_
      case mu => walk_at "ow mem"
      case q5 => rfl
      case q6 => rfl
      intro h₃ D₃
      clear D₂
      (show wpAny _ _ (assignInOrder [assign _ _, assign _ _] [_, _]) _ _ _)
      (refine o_asgCons (wpAny_assign_Name ?_))
      walk_at "ow"
      (refine o_asgCons (wpAny_assign_Name ?_))
      walk_at "ow"
      (refine o_asgNil ?_)
      clear D₃
      repeat walk_at "ow"
      refine' ct_written (ns := f.1) B0 (by with_reducible assumption) ?mw hws hA1 (by omega) f2 f1 ?_
      case mw => walk_at "ow mem"
      intro h₅ tk₅ t₅ D₅
      repeat walk_at "ow"
      refine ct_signs B0 D₅ hA1 (by omega) ?_
      intro h₆ tk₆ t₆ D₆
      repeat walk_at "ow"
      rename Led b C _ _ _ => D₇
      simp only [List.push_toArray] at D₇
      refine ⟨d - 1, by omega, j + 1, _, _, o', _, _, by omega, rfl, ho', ?_, D₇.names (List.nil_sublist _)⟩
      rw [htk, List.map_append]
      exact strs_snoc hav
end
end

section
theorem due_all : ∀ (fs : List (List Int × Int)), (due fs (tapeOf fs).length).1 = fs
  | [] => rfl
  | f :: fs => by
    have e : ((tapeOf (f :: fs)).length : Int) = f.1.length + 3 + (tapeOf fs).length := by
      rw [show tapeOf (f :: fs) = (f.1.length : Int) :: (f.1 ++ [f.2.fmod 256, f.2.fdiv 256]) ++ tapeOf fs from rfl]
      simp only [List.length_append, List.length_cons, List.length_nil]
      omega
    rw [due, e, if_neg (by omega), if_neg (by omega)]
    have e2 : (f.1.length : Int) + 3 + (tapeOf fs).length - f.1.length - 3 = (tapeOf fs).length := by omega
    rw [e2, due_all fs]
theorem Rm.app {c : Addr} {o : Obj} {l r r' : List (Addr × Obj)} (h : Rm c o r r') : Rm c o (l ++ r) (l ++ r') := by
  induction l with
  | nil => exact h
  | cons p l ih => exact .tail ih
section
variable {w : World} {A : Around} {b h : Heap} {L fa : Addr} {cd : Value} {al : List (Str × Value)} {μ : List (Addr × Obj)} {mg mb : Str → Option Value} {G : Array GenState} {Dr : Drawn} {tk : Nat} {O : OsState} {Q : Flow → Shared → Prop} {E : Value → Shared → Prop}
theorem law4 {fl : Addr} {fvs : List Value} {fn : Nat} {tt : Tok} {fs : List (List Int × Int)} {τ ν : List (Addr × Obj)} (B : BaseX w mg mb b) (hA : Around0 A (envOf lawRec.name lawRec.scope L fa cd)) (T : TabL τ)
    (D : Led b L [(Str.ofString "files", .ref fl), (Str.ofString "tape", .bytes (byteArr (tapeOf fs)) tt)] h (τ ++ ((fl, listOf fvs.toArray fn) :: ν)))
    (hfi : FilesIn ν fvs fs) (hok : ∀ f ∈ fs, FileOk f) (hn : fs.length ≤ 5)
    (k : ∀ h' tk' μ' τ', TabL τ' → (∀ p ∈ τ', p ∈ μ') → Led b L [] h' μ' → Q (.ret (.bool true)) ⟨h', G, Dr, tk', O⟩) :
    wpAny (model P0 w) A (execs (lawRec.body.drop 3) (envOf lawRec.name lawRec.scope L fa cd)) Q E ⟨h, G, Dr, tk, O⟩ := by
  have B0 := B.B
  have hA0 := hA
  obtain ⟨hA1, hA2, hA3, hA4⟩ := hA
  dsimp only [lawRec, recOf, List.drop] at hA4 ⊢
  obtain ⟨ht1, ht2⟩ := tape_ok fs hok
  repeat walk_at "ow"
  refine' o_assignComp (cl := []) ?sw ?q1 ?q2 ?q3 ?q4 ?_
  case sw => rfl
  case q1 => rfl
  case q2 => rfl
  case q3 => decide
  case q4 => (intro _; rfl)
  repeat walk_at "ow"
  refine' ct_read (env := _) B T D ht1 (by omega) hA1 (by omega) (by omega) hA4 rfl ?hk ?_
  case hk => exact fun q => nomatch q
  intro h₂ tk₂ tm lr f2 n1 n2 vs2 ρ τ' T' hfi2 D₂
  have hrd : (rd ((tapeOf fs).length + 1) (tapeOf fs)).1 = fs := by
    have q := rd_due fs hok (tapeOf fs).length ((tapeOf fs).length + 1) (Nat.le_refl _) (Nat.lt_succ_self _)
    rw [List.take_of_length_le (Nat.le_refl _)] at q
    rw [q, due_all]
  rw [hrd] at hfi2
  obtain ⟨κ, hκ⟩ : ∃ κ, ρ ++ τ' ++ ((fl, listOf fvs.toArray fn) :: ν) = κ := ⟨_, rfl⟩
  have D₂' : Led b L [(Str.ofString "files", .ref fl), (Str.ofString "tape", .bytes (byteArr (tapeOf fs)) tt)] h₂ ((lr, listOf #[.ref f2, .str (rd ((tapeOf fs).length + 1) (tapeOf fs)).2 tm] n1) :: (f2, listOf vs2.toArray n2) :: κ) := by
    rw [← hκ]; exact D₂
  have hfi3 : FilesIn κ vs2 fs := hfi2.mono fun p hp => by rw [← hκ]; exact List.mem_append.mpr (.inl (List.mem_append.mpr (.inl hp)))
  clear D D₂ hfi2
  repeat walk_at "ow"
  refine' o_itemL D₂' List.mem_cons_self (by decide) (by decide) ?x0 ?_ ?s0
  case x0 => rfl
  case s0 => with_unfolding_all rfl
  repeat walk_at "ow"
  refine' o_iterLst D₂' ?mi ?_
  case mi => walk_at "ow mem"
  intro it o h₃ ho D₃
  (with_reducible refine' o_newList ?d ?_ ?z); (case d => with_reducible assumption); (case z => size_fits)
  intro ac h₄ D₄
  (with_reducible refine' o_cenv' ?d2 ?l2 ?c2 ?k2 ?g2 ?q2b ?_); (case d2 => with_reducible assumption); (case l2 => rfl); (case c2 => decide); (case k2 => rfl); (case g2 => rfl); (case q2b => rfl)
  intro C h₅ tk₅ oL U₅ D₅
  clear D₂' D₃ D₄
  refine' o_startLst D₅ ?ms ho ?_
  case ms => walk_at "ow mem"
  have hl0 := hfi3.length
  refine o_cloop (G := G) (Dr := Dr) (O := O) (fun h tk => ∃ avs nn, StrsAre avs (fs.map line1) ∧ Led b C [] h ((L, oL) :: (ac, listOf avs.toArray nn) :: (lr, listOf #[.ref f2, .str (rd ((tapeOf fs).length + 1) (tapeOf fs)).2 tm] n1) :: (f2, listOf vs2.toArray n2) :: κ)) ?fin ?loop
  case fin =>
    clear D₅
    rintro h tk ⟨avs, nn, hav, D⟩
    refine' o_compEndUse U₅ D rfl ?hy rfl rfl rfl ?_
    case hy => (dsimp only [List.map]; decide)
    intro h₆ tk₆ D₆
    (show wpAny _ _ (execs _ _) _ _ _)
    have D₇ := (D₆.names (al' := [(Str.ofString "files", .ref fl), (Str.ofString "listing", .ref ac)]) (by dsimp only [List.cons_append, List.nil_append]; walk_at "ow sub")).pick (μ' := (ac, listOf avs.toArray nn) :: (fl, listOf fvs.toArray fn) :: ((lr, listOf #[.ref f2, .str (rd ((tapeOf fs).length + 1) (tapeOf fs)).2 tm] n1) :: (f2, listOf vs2.toArray n2) :: (ρ ++ τ' ++ ν)))
      (.cons .head (.cons (.tail (.tail (show Rm fl (listOf fvs.toArray fn) κ (ρ ++ τ' ++ ν) by rw [← hκ]; exact Rm.app .head))) (.sub (List.Sublist.refl _))))
    exact law5 B hA0 D₇ (hfi.mono fun p hp => .tail _ (.tail _ (List.mem_append.mpr (.inr hp)))) hok hn hav (fun f hf => by
      obtain ⟨f1, f2', f3, f4⟩ := hok f hf
      unfold line1 line2
      rw [signs_eq f3 f4]) fun h' tk' μ' D' => k h' tk' _ τ' T' (fun p hp => List.mem_append.mpr (.inr (.tail _ (.tail _ (List.mem_append.mpr (.inl (List.mem_append.mpr (.inr hp)))))))) D'
  case loop =>
    intro R fin
    clear k
    refine o_compInv (fun d s => ∃ j h tk o avs nn, d + j = fs.length ∧ s = ⟨h, G, Dr, tk, O⟩ ∧ LstItO o f2 j ∧ StrsAre avs ((fs.take j).map line1) ∧
      Led b C [] h ((L, oL) :: (ac, listOf avs.toArray nn) :: (it, o) :: (lr, listOf #[.ref f2, .str (rd ((tapeOf fs).length + 1) (tapeOf fs)).2 tm] n1) :: (f2, listOf vs2.toArray n2) :: κ)) ?turn fs.length
      ⟨0, _, _, o, [], 0, rfl, rfl, ho, .nil, D₅⟩
    clear D₅ ho
    rintro d _ ⟨j, h, tk, o, avs, nn, hd, rfl, ho, hav, D⟩
    by_cases hj : j = fs.length
    · refine' o_endLst (μ' := (L, oL) :: (ac, listOf avs.toArray nn) :: (lr, listOf #[.ref f2, .str (rd ((tapeOf fs).length + 1) (tapeOf fs)).2 tm] n1) :: (f2, listOf vs2.toArray n2) :: κ) hA1 D ?me ho ?mf ?x ?ue ?_
      case me => walk_at "ow mem"
      case mf => walk_at "ow mem"
      case x => (apply List.getElem?_eq_none; omega)
      case ue => walk_at "ow rm"
      intro h₂ D₂
      rw [List.take_of_length_le (by omega)] at hav
      exact fin _ _ ⟨avs, nn, hav, D₂⟩
    · obtain ⟨f, hf⟩ : ∃ f, fs[j]? = some f := ⟨fs[j]'(by omega), List.getElem?_eq_getElem (by omega)⟩
      obtain ⟨le, ln', t₁, n₁, r₁, ws, hv, hle, hln, hws⟩ := hfi3.at hf
      have htk : fs.take (j + 1) = fs.take j ++ [f] := by
        rw [List.getElem?_eq_getElem (by omega)] at hf
        rw [← Option.some.inj hf]
        exact (List.take_append_getElem (by omega)).symm
      obtain ⟨f1, f2', f3, f4⟩ := hok f (List.mem_of_getElem? hf)
      have ht := txt_len f1
      have hsl := sgs_join_len f.2
      have hwl := hws.length
      refine' o_nextLst D ?mn ho ?mf2 hv ?_
      case mn => walk_at "ow mem"
      case mf2 => walk_at "ow mem"
      intro o' h₂ ho' hU
      have D₂ := hU _ (by walk_at "ow up")
      clear hU D
      dsimp only
      refine' o_letGoLst D₂ ?mg ho' ?_
      case mg => walk_at "ow mem"
      refine' o_unpackLst hA1 D₂ ?mu ?q5 ?q6 ?_
      case mu => walk_at "ow mem"
      case q5 => rfl
      case q6 => rfl
      intro h₃ D₃
      clear D₂
      (show wpAny _ _ (assignInOrder [assign _ _, assign _ _] [_, _]) _ _ _)
      (refine o_asgCons (wpAny_assign_Name ?_))
      walk_at "ow"
      (refine o_asgCons (wpAny_assign_Name ?_))
      walk_at "ow"
      (refine o_asgNil ?_)
      clear D₃
      repeat walk_at "ow"
      refine' o_bytes hA1 (by with_reducible assumption) ?mb hws f2' ?zb ?_
      case mb => walk_at "ow mem"
      case zb => (rw [sizeLine_eq]; omega)
      intro h₅ t₅ tk₅ D₅
      repeat walk_at "ow"
      refine ct_b64 B0 D₅ hA1 (by omega) f2' (by omega) ?_
      intro h₆ tk₆ t₆ D₆
      refine o_decodeM ?_
      repeat walk_at "ow"
      refine o_decode (enc_ok f1) ?_
      intro t₇ tk₇
      repeat walk_at "ow"
      refine ct_mode B0 D₆ hA1 (by omega) ?_
      intro h₈ tk₈ t₈ D₈
      repeat walk_at "ow"
      rename Led b C _ _ _ => D₉
      simp only [List.push_toArray] at D₉
      refine ⟨d - 1, by omega, j + 1, _, _, o', _, _, by omega, rfl, ho', ?_, D₉.names (List.nil_sublist _)⟩
      rw [htk, List.map_append]
      exact strs_snoc hav
end
end

section
theorem msg_strOk (fs : List (List Int × Int)) : ∀ e, PyData.strOk (due fs e).2 = true := by
  induction fs with
  | nil => intro e; exact strOk_of _
  | cons f fs ih =>
    intro e
    rw [due]
    split
    · exact strOk_app (strOk_app (strOk_app (strOk_app (strOk_of _) (strOk_of _)) (strOk_of _)) (strOk_of _)) (strOk_of _)
    · split
      · exact strOk_of _
      · exact ih _
theorem sub_rt (ρ τ μ : List (Addr × Obj)) : (τ ++ μ).Sublist (ρ ++ τ ++ μ) := by
  rw [List.append_assoc]; exact List.sublist_append_right _ _
section
variable {w : World} {A : Around} {b h : Heap} {L fa : Addr} {cd : Value} {al : List (Str × Value)} {μ : List (Addr × Obj)} {mg mb : Str → Option Value} {G : Array GenState} {Dr : Drawn} {tk : Nat} {O : OsState} {Q : Flow → Shared → Prop} {E : Value → Shared → Prop}
theorem law3 {fl : Addr} {fvs : List Value} {fn : Nat} {tt : Tok} {fs : List (List Int × Int)} {τ ν : List (Addr × Obj)} (B : BaseX w mg mb b) (hA : Around0 A (envOf lawRec.name lawRec.scope L fa cd)) (T : TabL τ)
    (D : Led b L [(Str.ofString "files", .ref fl), (Str.ofString "tape", .bytes (byteArr (tapeOf fs)) tt)] h (τ ++ ((fl, listOf fvs.toArray fn) :: ν)))
    (hfi : FilesIn ν fvs fs) (hok : ∀ f ∈ fs, FileOk f) (hn : fs.length ≤ 5)
    (k : ∀ h' tk' μ' τ', TabL τ' → (∀ p ∈ τ', p ∈ μ') → Led b L [] h' μ' → Q (.ret (.bool true)) ⟨h', G, Dr, tk', O⟩) :
    wpAny (model P0 w) A (execs (lawRec.body.drop 2) (envOf lawRec.name lawRec.scope L fa cd)) Q E ⟨h, G, Dr, tk, O⟩ := by
  have B0 := B.B
  have hA0 := hA
  obtain ⟨hA1, hA2, hA3, hA4⟩ := hA
  dsimp only [lawRec, recOf, List.drop] at hA4 ⊢
  obtain ⟨ht1, ht2⟩ := tape_ok fs hok
  repeat walk_at "ow"
  refine o_lenB ht1 (by omega) ?_
  intro t₁ tk₁
  repeat walk_at "ow"
  (with_reducible refine' o_range1 ?d ?_); (case d => with_reducible assumption)
  intro rg h₂ tk₂ t₂ t₃ D₂
  have en : ((tapeOf fs).length : Int) + 1 = (((tapeOf fs).length + 1 : Nat) : Int) := by omega
  rw [en] at D₂
  (with_reducible refine' o_iterRngN ?d2 ?m2 ?s2 ?n2 ?_)
  (case d2 => with_reducible assumption)
  (case m2 => walk_at "ow mem")
  (case s2 => omega)
  (case n2 => omega)
  intro it h₃ D₃
  have D₄ := D₃.sub (μ' := (it, rngIt 0 (((tapeOf fs).length + 1 : Nat) : Int) 1) :: (τ ++ ((fl, listOf fvs.toArray fn) :: ν))) (.cons_cons _ (.cons _ (List.Sublist.refl _)))
  clear D D₂ D₃
  refine o_cloop (G := G) (Dr := Dr) (O := O) (fun h tk => ∃ τ, TabL τ ∧ Led b L [(Str.ofString "files", .ref fl), (Str.ofString "tape", .bytes (byteArr (tapeOf fs)) tt)] h (τ ++ ((fl, listOf fvs.toArray fn) :: ν))) ?fin ?loop
  case fin =>
    clear D₄
    rintro h tk ⟨τ, T, D⟩
    (show wpAny _ _ (execs _ _) _ _ _)
    exact law4 B hA0 T D hfi hok hn k
  case loop =>
    intro R fin
    clear k
    refine codeAny_forLoop_any (fun d s => ∃ j h tk τ, d + j = (tapeOf fs).length + 1 ∧ s = ⟨h, G, Dr, tk, O⟩ ∧ TabL τ ∧
      Led b L [(Str.ofString "files", .ref fl), (Str.ofString "tape", .bytes (byteArr (tapeOf fs)) tt)] h ((it, rngIt (j : Int) ((((tapeOf fs).length + 1 : Nat) : Int) - j) 1) :: (τ ++ ((fl, listOf fvs.toArray fn) :: ν)))) ?turn ((tapeOf fs).length + 1)
      ⟨0, _, _, τ, rfl, rfl, T, D₄⟩
    clear D₄ T
    rintro d _ ⟨j, h, tk, τ, hd, rfl, T, D⟩
    by_cases hj : j = (tapeOf fs).length + 1
    · refine' o_endRng (μ' := τ ++ ((fl, listOf fvs.toArray fn) :: ν)) hA1 D (by omega) .head ?_
      intro h₂ D₂
      dsimp only
      repeat walk_at "ow"
      exact fin _ _ ⟨τ, T, D₂⟩
    · refine' o_nextRng D (by omega) .head ?_
      intro h₂ t₂ tk₂ D₂
      clear D
      dsimp only
      refine o_letGoName ?_
      refine wpAny_assign_Name ?_
      repeat walk_at "ow"
      refine wpAny_Slice ?_
      refine wpAny_pure ?_
      (show wpAny _ _ (eval _ _) _ _ _)
      repeat walk_at "ow"
      refine wpAny_pure ?_
      rename Led b L _ _ _ => D₃
      refine' o_cutB D₃ ht1 (by omega) (by omega) (by omega) ?_ ?sc ?st
      case sc => with_unfolding_all rfl
      case st => (intro _; with_unfolding_all rfl)
      intro h₄ t₄ tk₄ D₄
      clear D₂ D₃
      repeat walk_at "ow"
      rw [Int.toNat_natCast]
      have hlj : ((tapeOf fs).take j).length = j := by rw [List.length_take]; omega
      refine' ct_read (ns := (tapeOf fs).take j) (μ := (it, rngIt ((j : Int) + 1) ((((tapeOf fs).length + 1 : Nat) : Int) - j - 1) 1) :: (fl, listOf fvs.toArray fn) :: ν) B T (D₄.perm List.perm_middle) (fun n hn => ht1 n (List.mem_of_mem_take hn)) (by omega) hA1 (by omega) (by omega) hA4 rfl ?hk ?_
      case hk => exact fun q => nomatch q
      intro h₅ tk₅ tm lr f2 n1 n2 vs2 ρ τ' T' hfi2 D₅
      have hrd := rd_due fs hok j (((tapeOf fs).take j).length + 1) (by omega) (by omega)
      rw [hrd] at hfi2 D₅
      clear D₄
      repeat walk_at "ow"
      have hsub : ∀ p ∈ ν, p ∈ (lr, listOf #[.ref f2, .str (due fs j).2 tm] n1) :: (f2, listOf vs2.toArray n2) :: (ρ ++ τ' ++ ((it, rngIt ((j : Int) + 1) ((((tapeOf fs).length + 1 : Nat) : Int) - j - 1) 1) :: (fl, listOf fvs.toArray fn) :: ν)) :=
        fun p hp => .tail _ (.tail _ (List.mem_append.mpr (.inr (.tail _ (.tail _ hp)))))
      refine' ct_due (fs := fs) B0 D₅ ?mfl (hfi.mono hsub) (fun f hf => by have := (hok f hf).1; omega) (by omega) (by omega) (by omega) hA1 (by omega) ?_
      case mfl => exact .tail _ (.tail _ (List.mem_append.mpr (.inr (.tail _ (.head _)))))
      intro h₆ tk₆ tm2 lr2 wl n3 n4 vs3 ρ2 hfi3 D₆
      clear D₅
      repeat walk_at "ow"
      refine' o_neOut (r := due fs j) D₆ ?ma ?mfa ?xa List.mem_cons_self (List.mem_cons_of_mem _ List.mem_cons_self) ?xc (msg_strOk _ _) (by omega) ?_
      case ma => exact .tail _ (.tail _ (List.mem_append.mpr (.inr (.head _))))
      case mfa => exact .tail _ (.tail _ (List.mem_append.mpr (.inr (.tail _ (.head _)))))
      case xa => exact hfi2.mono fun p hp => .tail _ (.tail _ (List.mem_append.mpr (.inr (.tail _ (.tail _ (List.mem_append.mpr (.inl (List.mem_append.mpr (.inl hp)))))))))
      case xc => exact hfi3.mono fun p hp => .tail _ (.tail _ hp)
      repeat walk_at "ow"
      try dsimp only
      refine ⟨d - 1, by omega, j + 1, _, _, τ', by omega, rfl, T', ?_⟩
      have D₇ := (D₆.names (al' := [(Str.ofString "files", .ref fl), (Str.ofString "tape", .bytes (byteArr (tapeOf fs)) tt)]) (by walk_at "ow sub")).pick (.cons (.tail (.tail (Rm.app (.tail (.tail (Rm.app .head)))))) (.sub (r := τ' ++ ((fl, listOf fvs.toArray fn) :: ν)) (.cons _ (.cons _ (List.Sublist.trans (.cons _ (.cons _ (sub_rt ρ τ' _))) (List.sublist_append_right _ _))))))
      have e1 : ((j + 1 : Nat) : Int) = (j : Int) + 1 := by omega
      have e2 : (((tapeOf fs).length + 1 : Nat) : Int) - ((j : Int) + 1) = (((tapeOf fs).length + 1 : Nat) : Int) - j - 1 := by omega
      rw [e1, e2]
      exact D₇
end
end

section
def chunk (f : List Int × Int) : List Int := [(f.1.length : Int)] ++ f.1 ++ [f.2.fmod 256, f.2.fdiv 256]
theorem tape_snoc (f : List Int × Int) : ∀ l : List (List Int × Int), tapeOf (l ++ [f]) = tapeOf l ++ chunk f
  | [] => by simp [tapeOf, chunk]
  | g :: l => by
    rw [List.cons_append, show tapeOf (g :: (l ++ [f])) = (g.1.length : Int) :: (g.1 ++ [g.2.fmod 256, g.2.fdiv 256]) ++ tapeOf (l ++ [f]) from rfl, tape_snoc f l,
      show tapeOf (g :: l) = (g.1.length : Int) :: (g.1 ++ [g.2.fmod 256, g.2.fdiv 256]) ++ tapeOf l from rfl, List.append_assoc]
section
variable {w : World} {A : Around} {b h : Heap} {L fa : Addr} {cd : Value} {al : List (Str × Value)} {μ : List (Addr × Obj)} {mg mb : Str → Option Value} {G : Array GenState} {Dr : Drawn} {tk : Nat} {O : OsState} {Q : Flow → Shared → Prop} {E : Value → Shared → Prop}
theorem law2 {fl : Addr} {fvs : List Value} {fn : Nat} {fs : List (List Int × Int)} {τ ν : List (Addr × Obj)} (B : BaseX w mg mb b) (hA : Around0 A (envOf lawRec.name lawRec.scope L fa cd)) (T : TabL τ)
    (D : Led b L [(Str.ofString "files", .ref fl)] h (τ ++ ((fl, listOf fvs.toArray fn) :: ν)))
    (hfi : FilesIn ν fvs fs) (hok : ∀ f ∈ fs, FileOk f) (hn : fs.length ≤ 5)
    (k : ∀ h' tk' μ' τ', TabL τ' → (∀ p ∈ τ', p ∈ μ') → Led b L [] h' μ' → Q (.ret (.bool true)) ⟨h', G, Dr, tk', O⟩) :
    wpAny (model P0 w) A (execs (lawRec.body.drop 1) (envOf lawRec.name lawRec.scope L fa cd)) Q E ⟨h, G, Dr, tk, O⟩ := by
  have B0 := B.B
  have hA0 := hA
  obtain ⟨hA1, hA2, hA3, hA4⟩ := hA
  dsimp only [lawRec, recOf, List.drop] at hA4 ⊢
  obtain ⟨ht1, ht2⟩ := tape_ok fs hok
  have D₁ := D.perm (μ' := (fl, listOf fvs.toArray fn) :: (τ ++ ν)) List.perm_middle.symm
  obtain ⟨κ, hκ⟩ : ∃ κ, τ ++ ν = κ := ⟨_, rfl⟩
  rw [hκ] at D₁
  have hfi2 : FilesIn κ fvs fs := hfi.mono fun p hp => by rw [← hκ]; exact List.mem_append.mpr (.inr hp)
  clear D
  have hl0 := hfi.length
  repeat walk_at "ow"
  refine' o_listComp (cl := []) ?q1 ?q2 ?q3 ?q4 ?_
  case q1 => rfl
  case q2 => rfl
  case q3 => decide
  case q4 => (intro _; rfl)
  repeat walk_at "ow"
  refine' o_iterLst D₁ ?mi ?_
  case mi => walk_at "ow mem"
  intro it o h₂ ho D₂
  (with_reducible refine' o_newList ?d ?_ ?z); (case d => with_reducible assumption); (case z => size_fits)
  intro ac h₃ D₃
  (with_reducible refine' o_cenv' ?d2 ?l2 ?c2 ?k2 ?g2 ?q2b ?_); (case d2 => with_reducible assumption); (case l2 => rfl); (case c2 => decide); (case k2 => rfl); (case g2 => rfl); (case q2b => rfl)
  intro C h₄ tk₄ oL U₄ D₄
  clear D₁ D₂ D₃
  refine' o_startLst D₄ ?ms ho ?_
  case ms => walk_at "ow mem"
  refine o_cloop (G := G) (Dr := Dr) (O := O) (fun h tk => ∃ avs nn, IntsAre avs (tapeOf fs) ∧ Led b C [] h ((L, oL) :: (ac, listOf avs.toArray nn) :: (fl, listOf fvs.toArray fn) :: κ)) ?fin ?loop
  case fin =>
    clear D₄
    rintro h tk ⟨avs, nn, hav, D⟩
    walk_at "ow compEnd"
    repeat walk_at "ow"
    have hla := hav.length
    refine' o_bytes hA1 (by with_reducible assumption) ?mb hav ht1 ?zb ?_
    case mb => walk_at "ow mem"
    case zb => (rw [sizeLine_eq]; omega)
    intro h₅ t₅ tk₅ D₅
    walk_at "ow"
    rename Led b L _ _ _ => D₆
    (show wpAny _ _ (execs _ _) _ _ _)
    have D₇ := D₆.sub (μ' := (fl, listOf fvs.toArray fn) :: κ) (by walk_at "ow sub")
    rw [← hκ] at D₇
    exact law3 B hA0 T (D₇.perm (μ' := τ ++ ((fl, listOf fvs.toArray fn) :: ν)) List.perm_middle) hfi hok hn k
  case loop =>
    intro R fin
    clear k
    refine o_two0 (fun d s => ∃ j h tk o avs nn, d + j = fs.length ∧ s = ⟨h, G, Dr, tk, O⟩ ∧ LstItO o fl j ∧ IntsAre avs (tapeOf (fs.take j)) ∧
      Led b C [] h ((L, oL) :: (ac, listOf avs.toArray nn) :: (it, o) :: (fl, listOf fvs.toArray fn) :: κ)) (fun _ => rfl) ?turn fs.length
      ⟨0, _, _, o, [], 0, rfl, rfl, ho, .nil, D₄⟩
    clear D₄ ho
    rintro d _ ⟨j, h, tk, o, avs, nn, hd, rfl, ho, hav, D⟩
    by_cases hj : j = fs.length
    · refine' o_endLst (μ' := (L, oL) :: (ac, listOf avs.toArray nn) :: (fl, listOf fvs.toArray fn) :: κ) hA1 D ?me ho ?mf ?x ?ue ?_
      case me => walk_at "ow mem"
      case mf => walk_at "ow mem"
      case x => (apply List.getElem?_eq_none; omega)
      case ue => walk_at "ow rm"
      intro h₂ D₂
      rw [List.take_of_length_le (by omega)] at hav
      exact fin _ _ ⟨avs, nn, hav, D₂⟩
    · obtain ⟨f, hf⟩ : ∃ f, fs[j]? = some f := ⟨fs[j]'(by omega), List.getElem?_eq_getElem (by omega)⟩
      obtain ⟨le, ln', t₁, n₁, r₁, ws, hv, hle, hln, hws⟩ := hfi2.at hf
      have htk : fs.take (j + 1) = fs.take j ++ [f] := by
        rw [List.getElem?_eq_getElem (by omega)] at hf
        rw [← Option.some.inj hf]
        exact (List.take_append_getElem (by omega)).symm
      obtain ⟨f1, f2', f3, f4⟩ := hok f (List.mem_of_getElem? hf)
      have hwl := hws.length
      have hal := hav.length
      have htl := (tape_ok (fs.take j) fun g hg => hok g (List.mem_of_mem_take hg)).2
      rw [List.length_take] at htl
      refine' o_nextLst D ?mn ho ?mf2 hv ?_
      case mn => walk_at "ow mem"
      case mf2 => walk_at "ow mem"
      intro o' h₂ ho' hU
      have D₂ := hU _ (by walk_at "ow up")
      clear hU D
      dsimp only
      refine' o_letGoLst D₂ ?mg ho' ?_
      case mg => walk_at "ow mem"
      refine' o_unpackLst hA1 D₂ ?mu ?q5 ?q6 ?_
      case mu => walk_at "ow mem"
      case q5 => rfl
      case q6 => rfl
      intro h₃ D₃
      clear D₂
      (show wpAny _ _ (assignInOrder [assign _ _, assign _ _] [_, _]) _ _ _)
      (refine o_asgCons (wpAny_assign_Name ?_))
      walk_at "ow"
      (refine o_asgCons (wpAny_assign_Name ?_))
      walk_at "ow"
      (refine o_asgNil ?_)
      clear D₃
      repeat walk_at "ow"
      rename_i tl tkl l1 h₅ D₅
      refine' o_addLst D₅ ?a1 ?a2 ?a3 ?_
      case a1 => walk_at "ow mem"
      case a2 => walk_at "ow mem"
      case a3 => (rw [sizeLine_eq, List.length_singleton]; omega)
      intro l2 h₆ D₆
      repeat walk_at "ow"
      rename_i l3 h₇ D₇
      refine' o_addLst D₇ ?b1 ?b2 ?b3 ?_
      case b1 => walk_at "ow mem"
      case b2 => walk_at "ow mem"
      case b3 => (rw [sizeLine_eq]; simp only [List.length_append, List.length_cons, List.length_nil]; omega)
      intro c h₈ D₈
      obtain ⟨cvs, hcv, D₉⟩ : ∃ cvs, IntsAre cvs (chunk f) ∧ Led b C [] h₈ ((c, listOf cvs.toArray 0) :: (L, oL) :: (ac, listOf avs.toArray nn) :: (it, o') :: (fl, listOf fvs.toArray fn) :: κ) := by
        refine ⟨_, ?_, (D₈.names (List.nil_sublist _)).sub (by walk_at "ow sub")⟩
        unfold chunk
        rw [← hwl]
        exact ((IntsAre.cons _ _ .nil).append hws).append (.cons _ _ (.cons _ _ .nil))
      clear D₅ D₆ D₇ D₈
      refine' o_iterLst D₉ List.mem_cons_self ?_
      intro it2 o2 h₁ ho2 D₁
      clear D₉
      refine' o_startLst1 D₁ List.mem_cons_self ho2 ?_
      have hcl := hcv.length
      have hcz : (chunk f).length ≤ 6 := by unfold chunk; simp only [List.length_append, List.length_cons, List.length_nil]; omega
      refine o_cloop (G := G) (Dr := Dr) (O := O) (fun h tk => ∃ avs nn, IntsAre avs (tapeOf (fs.take j) ++ chunk f) ∧ Led b C [] h ((c, listOf cvs.toArray 0) :: (L, oL) :: (ac, listOf avs.toArray nn) :: (it, o') :: (fl, listOf fvs.toArray fn) :: κ)) ?fin2 ?loop2
      case fin2 =>
        clear D₁
        rintro h tk ⟨avs, nn, hav, D⟩
        dsimp only
        refine ⟨d - 1, by omega, j + 1, h, tk, o', avs, nn, by omega, rfl, ho', ?_, D.sub (by walk_at "ow sub")⟩
        rw [htk, tape_snoc]
        exact hav
      case loop2 =>
        intro R2 fin2
        clear fin
        refine o_two1 (fun d s => ∃ i h tk o2 avs nn, d + i = (chunk f).length ∧ s = ⟨h, G, Dr, tk, O⟩ ∧ LstItO o2 c i ∧ IntsAre avs (tapeOf (fs.take j) ++ (chunk f).take i) ∧
          Led b C [] h ((it2, o2) :: (c, listOf cvs.toArray 0) :: (L, oL) :: (ac, listOf avs.toArray nn) :: (it, o') :: (fl, listOf fvs.toArray fn) :: κ)) ?turn2 (chunk f).length
          ⟨0, _, _, o2, avs, nn, rfl, rfl, ho2, by rw [List.take_zero, List.append_nil]; exact hav, D₁⟩
        clear D₁ ho2 hav hal
        rintro d2 _ ⟨i, h, tk, o2, avs, nn, hd2, rfl, ho2, hav, D⟩
        have hal := hav.length
        rw [List.length_append, List.length_take] at hal
        by_cases hi : i = (chunk f).length
        · refine' o_endLst (μ' := (c, listOf cvs.toArray 0) :: (L, oL) :: (ac, listOf avs.toArray nn) :: (it, o') :: (fl, listOf fvs.toArray fn) :: κ) hA1 D List.mem_cons_self ho2 (List.mem_cons_of_mem _ List.mem_cons_self) ?x2 .head ?_
          case x2 => (apply List.getElem?_eq_none; omega)
          intro h₂ D₂
          rw [show (chunk f).take i = chunk f from List.take_of_length_le (by omega)] at hav
          exact fin2 _ _ ⟨avs, nn, hav, D₂⟩
        · obtain ⟨n, hn'⟩ : ∃ n, (chunk f)[i]? = some n := ⟨(chunk f)[i]'(by omega), List.getElem?_eq_getElem (by omega)⟩
          obtain ⟨tn, hv2⟩ := ints_at hcv hn'
          have htk2 : (chunk f).take (i + 1) = (chunk f).take i ++ [n] := by
            rw [List.getElem?_eq_getElem (by omega)] at hn'
            rw [← Option.some.inj hn']
            exact (List.take_append_getElem (by omega)).symm
          refine' o_nextLst D List.mem_cons_self ho2 (List.mem_cons_of_mem _ List.mem_cons_self) hv2 ?_
          intro o3 h₂ ho3 hU
          have D₂ := hU _ .head
          clear hU D
          dsimp only
          refine o_letGoName ?_
          refine wpAny_assign_Name ?_
          repeat walk_at "ow"
          rename Led b C _ _ _ => D₃
          simp only [List.push_toArray] at D₃
          refine ⟨d2 - 1, by omega, i + 1, _, _, o3, _, _, by omega, rfl, ho3, ?_, D₃.names (List.nil_sublist _)⟩
          rw [htk2, ← List.append_assoc]
          exact hav.append (.cons _ _ .nil)
end
end

section
def fileOf (i : Int) : List Int × Int := (nmO i, fbits i)
def filesOf (ns : List Int) : List (List Int × Int) := (ns.take 2).map fileOf ++ [([237, 129, 0], 33261), ([], 16877), ([9, 237], 2541)]
theorem FilesIn.append {μ : List (Addr × Obj)} {vs ws : List Value} {fs gs : List (List Int × Int)} (h : FilesIn μ vs fs) (h2 : FilesIn μ ws gs) : FilesIn μ (vs ++ ws) (fs ++ gs) := by
  induction h with
  | nil => exact h2
  | cons h1 h2 h3 _ ih => exact .cons h1 h2 h3 ih
theorem fileOf_ok (i : Int) : FileOk (fileOf i) := by
  have h1 := Int.fmod_nonneg_of_pos i (show (0:Int) < 4 by decide)
  have h2 := Int.fmod_lt_of_pos i (show (0:Int) < 4 by decide)
  refine ⟨?_, ?_, ?_, ?_⟩
  · show (nmO i).length ≤ 3
    unfold nmO
    rw [List.length_map, List.length_range]
    omega
  · intro n hn
    obtain ⟨k, _, rfl⟩ := List.mem_map.mp (show n ∈ nmO i from hn)
    exact ⟨Int.fmod_nonneg_of_pos _ (by decide), Int.fmod_lt_of_pos _ (by decide)⟩
  · exact Int.fmod_nonneg_of_pos _ (by decide)
  · exact Int.fmod_lt_of_pos _ (by decide)
theorem filesOf_ok (ns : List Int) : (∀ f ∈ filesOf ns, FileOk f) ∧ (filesOf ns).length ≤ 5 := by
  refine ⟨fun f hf => ?_, ?_⟩
  · rcases List.mem_append.mp hf with q | q
    · obtain ⟨i, _, rfl⟩ := List.mem_map.mp q
      exact fileOf_ok i
    · simp only [List.mem_cons, List.not_mem_nil, or_false] at q
      rcases q with rfl | rfl | rfl
      · exact ⟨by decide, by decide, by decide, by decide⟩
      · exact ⟨by decide, by decide, by decide, by decide⟩
      · exact ⟨by decide, by decide, by decide, by decide⟩
  · unfold filesOf
    rw [List.length_append, List.length_map, List.length_take]
    simp only [List.length_cons, List.length_nil]
    omega
section
variable {w : World} {A : Around} {b h : Heap} {L fa : Addr} {cd : Value} {al : List (Str × Value)} {μ : List (Addr × Obj)} {mg mb : Str → Option Value} {G : Array GenState} {Dr : Drawn} {tk : Nat} {O : OsState} {Q : Flow → Shared → Prop} {E : Value → Shared → Prop}
theorem law1 {sl : Addr} {vs : List Value} {ns : List Int} (B : BaseX w mg mb b) (hA : Around0 A (envOf lawRec.name lawRec.scope L fa cd))
    (D : Led b L [(Str.ofString "script", .ref sl)] h [(119, tabObj #[])]) (hl : b.IsList sl vs.toArray) (hi : IntsAre vs ns) (hz : ns.length ≤ 63)
    (k : ∀ h' tk' μ' τ', TabL τ' → (∀ p ∈ τ', p ∈ μ') → Led b L [] h' μ' → Q (.ret (.bool true)) ⟨h', G, Dr, tk', O⟩) :
    wpAny (model P0 w) A (execs lawRec.body (envOf lawRec.name lawRec.scope L fa cd)) Q E ⟨h, G, Dr, tk, O⟩ := by
  have B0 := B.B
  have hA0 := hA
  obtain ⟨hA1, hA2, hA3, hA4⟩ := hA
  dsimp only [lawRec, recOf] at hA4 ⊢
  have hvl := hi.length
  repeat walk_at "ow"
  refine' o_listComp (cl := []) ?q1 ?q2 ?q3 ?q4 ?_
  case q1 => rfl
  case q2 => rfl
  case q3 => decide
  case q4 => (intro _; rfl)
  repeat walk_at "ow"
  refine wpAny_Slice ?_
  refine wpAny_pure ?_
  (show wpAny _ _ (eval _ _) _ _ _)
  repeat walk_at "ow"
  refine wpAny_pure ?_
  refine' o_upto (ns := ns) D (let ⟨o, ho, r⟩ := hl; ⟨o, D.keep ho, r⟩) hi (by decide) (by omega) ?_ ?sc ?st
  case sc => with_unfolding_all rfl
  case st => (intro _; with_unfolding_all rfl)
  intro c ws h₁ hws D₁
  clear D
  rw [show (2 : Int).toNat = 2 from rfl] at hws
  have hwl := hws.length
  refine' o_iterLst D₁ List.mem_cons_self ?_
  intro it o h₂ ho D₂
  (with_reducible refine' o_newList ?d ?_ ?z); (case d => with_reducible assumption); (case z => size_fits)
  intro ac h₃ D₃
  (with_reducible refine' o_cenv' ?d2 ?l2 ?c2 ?k2 ?g2 ?q2b ?_); (case d2 => with_reducible assumption); (case l2 => rfl); (case c2 => decide); (case k2 => rfl); (case g2 => rfl); (case q2b => rfl)
  intro C h₄ tk₄ oL U₄ D₄
  clear D₁ D₂ D₃
  refine' o_startLst D₄ ?ms ho ?_
  case ms => walk_at "ow mem"
  have hn2 : (ns.take 2).length ≤ 2 := by rw [List.length_take]; omega
  obtain ⟨ms, hms⟩ : ∃ ms, ns.take 2 = ms := ⟨_, rfl⟩
  rw [hms] at hws hwl hn2
  refine o_cloop (G := G) (Dr := Dr) (O := O) (fun h tk => ∃ avs nn ρ, FilesIn ρ avs (ms.map fileOf) ∧ Led b C [] h ((L, oL) :: (ac, listOf avs.toArray nn) :: (c, listOf ws.toArray 0) :: (ρ ++ [(119, tabObj #[])]))) ?fin ?loop
  case fin =>
    clear D₄
    rintro h tk ⟨avs, nn, ρ, hav, D⟩
    have hal := hav.length
    rw [List.length_map] at hal
    walk_at "ow compEnd"
    repeat walk_at "ow"
    rename Led b L _ _ _ => D₅
    refine' o_addLst D₅ ?a1 List.mem_cons_self ?a3 ?_
    case a1 => walk_at "ow mem"
    case a3 => (rw [sizeLine_eq]; simp only [List.length_cons, List.length_nil]; omega)
    intro fl h₆ D₆
    walk_at "ow"
    rename Led b L _ _ _ => D₇
    (show wpAny _ _ (execs _ _) _ _ _)
    have D₈ := (D₇.names (al' := [(Str.ofString "files", .ref fl)]) (by walk_at "ow sub")).pick (Pick.cons (Rm.tail (Rm.tail (Rm.tail (Rm.tail (Rm.tail (Rm.tail (Rm.tail (Rm.tail (Rm.tail (Rm.tail (Rm.app Rm.head))))))))))) (Pick.sub (List.Sublist.refl _)))
    obtain ⟨ho1, ho2⟩ := filesOf_ok ns
    refine' law2 (τ := [(119, tabObj #[])]) (fs := filesOf ns) B hA0 (.inl rfl) D₈ ?hfi ho1 ho2 k
    case hfi =>
      unfold filesOf
      rw [hms]
      refine (hav.mono fun p hp => (.tail _ (.tail _ (.tail _ (.tail _ (.tail _ (.tail _ (.tail _ (.tail _ (.tail _ (List.mem_append.mpr (.inl hp)))))))))))).append ?_
      refine .cons (.tail _ (.tail _ (.tail _ (.tail _ (.tail _ (.head _)))))) (.tail _ (.tail _ (.tail _ (.tail _ (.tail _ (.tail _ (.head _))))))) (.cons _ _ (.cons _ _ (.cons _ _ .nil))) ?_
      refine .cons (.tail _ (.tail _ (.tail _ (.head _)))) (.tail _ (.tail _ (.tail _ (.tail _ (.head _))))) .nil ?_
      exact .cons (.tail _ (.head _)) (.tail _ (.tail _ (.head _))) (.cons _ _ (.cons _ _ .nil)) .nil
  case loop =>
    intro R fin
    clear k
    refine o_compInv (fun d s => ∃ j h tk o avs nn ρ, d + j = ms.length ∧ s = ⟨h, G, Dr, tk, O⟩ ∧ LstItO o c j ∧ FilesIn ρ avs ((ms.take j).map fileOf) ∧
      Led b C [] h ((L, oL) :: (ac, listOf avs.toArray nn) :: (it, o) :: (c, listOf ws.toArray 0) :: (ρ ++ [(119, tabObj #[])]))) ?turn ms.length
      ⟨0, _, _, o, [], 0, [], rfl, rfl, ho, .nil, D₄⟩
    clear D₄ ho
    rintro d _ ⟨j, h, tk, o, avs, nn, ρ, hd, rfl, ho, hav, D⟩
    have hal := hav.length
    rw [List.length_map, List.length_take] at hal
    by_cases hj : j = ms.length
    · refine' o_endLst (μ' := (L, oL) :: (ac, listOf avs.toArray nn) :: (c, listOf ws.toArray 0) :: (ρ ++ [(119, tabObj #[])])) hA1 D ?me ho ?mf ?x ?ue ?_
      case me => walk_at "ow mem"
      case mf => walk_at "ow mem"
      case x => (apply List.getElem?_eq_none; omega)
      case ue => walk_at "ow rm"
      intro h₂ D₂
      rw [List.take_of_length_le (by omega)] at hav
      exact fin _ _ ⟨avs, nn, ρ, hav, D₂⟩
    · obtain ⟨i, hf⟩ : ∃ i, ms[j]? = some i := ⟨ms[j]'(by omega), List.getElem?_eq_getElem (by omega)⟩
      obtain ⟨ti, hv⟩ := ints_at hws hf
      have htk : ms.take (j + 1) = ms.take j ++ [i] := by
        rw [List.getElem?_eq_getElem (by omega)] at hf
        rw [← Option.some.inj hf]
        exact (List.take_append_getElem (by omega)).symm
      refine' o_nextLst D ?mn ho ?mf2 hv ?_
      case mn => walk_at "ow mem"
      case mf2 => walk_at "ow mem"
      intro o' h₂ ho' hU
      have D₂ := hU _ (by walk_at "ow up")
      clear hU D
      dsimp only
      refine o_letGoName ?_
      refine wpAny_assign_Name ?_
      repeat walk_at "ow"
      rename Led b C _ _ _ => D₃
      refine ct_file B0 D₃ hA1 (by omega) (IntMulOk.of_right (by decide +kernel)) ?_
      intro h₅ tk₅ t₅ le ln fvs r hfv D₅
      clear D₂ D₃
      repeat walk_at "ow"
      rename Led b C _ _ _ => D₆
      simp only [List.push_toArray] at D₆
      have D₇ := (D₆.names (List.nil_sublist _)).pick (μ' := (L, oL) :: (ac, _) :: (it, o') :: (c, listOf ws.toArray 0) :: (le, _) :: (ln, _) :: (ρ ++ [(119, tabObj #[])])) (by walk_at "ow pick")
      refine ⟨d - 1, by omega, j + 1, _, _, o', avs ++ [.ref le], _, (le, _) :: (ln, _) :: ρ, by omega, rfl, ho', ?_, D₇⟩
      rw [htk, List.map_append]
      exact (hav.mono fun p hp => .tail _ (.tail _ hp)).snoc (.cons (.head _) (.tail _ (.head _)) hfv .nil)
end
end

section
theorem led_start {b h : Heap} {L sl : Addr} {m : Str → Option Value} {μ : List (Addr × Obj)} (F : Fr b L h m) (N : News b L h μ) (hm : m (Str.ofString "script") = some (.ref sl)) (nd : (μ.map (·.1)).Nodup) : Led b L [(Str.ofString "script", .ref sl)] h μ :=
  ⟨⟨m, F, fun p hp => by rw [List.mem_singleton.mp hp]; exact hm⟩, N, List.nodup_cons.mpr ⟨(fun q => nomatch q), List.nodup_nil⟩, nd⟩
theorem grown_of {τ μ : List (Addr × Obj)} {b h : Heap} {L : Addr} {al : List (Str × Value)} (T : TabL τ) (hτ : ∀ p ∈ τ, p ∈ μ) (D : Led b L al h μ) : GrownAll [(123, 119)] h := by
  refine ⟨?_, trivial⟩
  rcases T with rfl | ⟨c1, c2, o1, o2, rfl, _⟩
  · exact ⟨_, D.get (hτ _ (.head _))⟩
  · exact ⟨_, D.get (hτ _ (.head _))⟩
theorem around_start (e : Env) (h : (callerA.deeper e).frames = some [e]) : Around0 (callerA.deeper e) e :=
  ⟨rfl, (by show callerA.depth + 1 + 20 < recursionLimit; decide), (by show callerA.units + 3 + 200 < cLine; decide), h⟩
theorem post_ok (args ds : List WData) : PySem.Challenge.rw_oh0020_01.row.claim.post args (WData.bool true) ds = true := by
  show (WShape.has [] (WData.bool true) .bool && WTm.holds [] (.eq .res (.lit (.bool true))) { args := args, res := some (.bool true), after := ds }) = true
  rw [Bool.and_eq_true]
  refine ⟨by decide, ?_⟩
  unfold WTm.holds
  simp only [WTm.value]
  rw [show W.same (WData.bool true) (WData.bool true) = true by simp [W.same]]
theorem whole : PySem.Challenge.rw_oh0020_01.Holds := hd (by
  k_go0
  rename Frag.In _ (ghostOf _ _) => X₁
  rename Top _ _ _ _ _ (ghostOf _ _) => T₁
  rename Below _ _ _ _ => K₁
  rename Fr _ _ _ _ => F₁
  rename News _ _ _ _ => N₁
  rename IntsAre _ _ => I₁
  rename (Shared.gens _ = #[]) => hg₁
  rename CodeHd _ _ _ => C₁
  rename Heap.IsList (ghostOf _ _) _ _ => L₁
  rename (¬ _ < _) => Z₁
  have D₁ := led_start (sl := _) F₁ N₁ rfl (by decide)
  refine law1 ⟨⟨X₁, T₁.g, T₁.b, T₁.builtins, T₁.nolimit, T₁.nodigits⟩, T₁.bmain, C₁⟩ (around_start _ (Around.frames_deeper K₁.stack)) D₁ L₁ I₁ (by omega) ?_
  intro h' tk' μ' τ' T' hτ D'
  obtain ⟨m, F', _⟩ := D'.loc
  refine ⟨goodW_bool F' hg₁ ?_ ?_ rfl, grown_of T' hτ D'⟩
  · intro _; rfl
  · exact post_ok _ _)
end

end Mine
end
open PySem PySem.W PyProof.Rows
set_option maxRecDepth 100000 in
set_option maxHeartbeats 8000000 in
theorem PySem.Challenge.cw_oh0020_01_holds : PySem.Challenge.rw_oh0020_01.Holds :=
  Mine.whole
