import PyProof.Rows.All
import Wide.All
import OpenK.AllK
import Wide.FinOn
import PySem.Challenge.RW_ez0022_01
open PySem PySem.W PyProof.Rows
set_option Elab.async false
set_option linter.unusedVariables false
namespace Ez
set_option maxRecDepth 100000 in
set_option maxHeartbeats 8000000 in
open_top hd for PySem.Challenge.rw_ez0022_01
end Ez
section
example : True := by
  w_top off
  trivial
open PySem PySem.W PySem.Calls PyProof.Rows
namespace Ez
abbrev Pg : Program := PySem.Challenge.rw_ez0022_01.row.toRowW.prog
noncomputable abbrev L0 : List Str := looseW hd.view_39
      [Str.ofString "_int_types", Str.ofString "_str_type", Str.ofString "NORMALIZATION", Str.ofString "ERROR_GROUP",
        Str.ofString "LOGICAL", Str.ofString "ValidationError", Str.ofString "ErrorTreeNode", Str.ofString "ErrorTree",
        Str.ofString "DocumentErrorTree", Str.ofString "SchemaErrorTree", Str.ofString "_LAW_PLACES",
        Str.ofString "_LAW_RULES"]
def Sub (h h' : Heap) : Prop := ∀ b o, h.get? b = some o → h'.get? b = some o
theorem Sub.rfl' {h : Heap} : Sub h h := fun _ _ e => e
theorem Sub.trans {a b c : Heap} (x : Sub a b) (y : Sub b c) : Sub a c := fun p o e => y p o (x p o e)
/-- the run's own part of the heap at the call, less what the ledger bears -/
structure Gnd (s : Heap) (led : List (Addr × Obj)) (g : Heap) : Prop where
  up : ∀ b o, s.get? b = some o → b ∉ led.map (·.1) → g.get? b = some o
  dn : Sub g s
abbrev AT (dp un : Nat) (outer : List Env) : Around := { handled := none, depth := dp, frames := some outer, guards := none, units := un }

theorem findObj_data' {K : Frag} {C : Addr} {od : Option Obj} {name : Str} {a g : Value} (hc : (clsIn K C).isSome = true) (ha : findIn K (.ref C) name = some (some a)) (hg : specialIn K a "__get__" = some (some g)) (ht : takesIn K a = some true) : findObj K C od name = some (.bind g a) := by
  obtain ⟨cd, hc⟩ := Option.isSome_iff_exists.mp hc
  unfold findObj
  rw [hc, Option.bind_some, ha, Option.bind_some]
  simp [hg, ht]
section
variable {prog : Program} {w : World} {A : Around} {E : Value → Shared → Prop} {s : Shared} {K : Frag} {C x p L : Addr} {h₀ : Heap} {m : Str → Option Value} {ox : Obj} {od : Option Obj} {name : Str}
theorem get_slot' {i : Nat} {v : Value} {expr : Bool} {Q : Value → Shared → Prop}
    (F : Fr h₀ L s.heap m) (X₀ : K.In h₀) (I : InstAt s.heap x ox C od) (hg : plainGet K C name = true) (hc : isClsIn K C = true)
    (ha : findIn K (.ref C) name = some (some (.ref p))) (hn : specialIn K (.ref p) "__get__" = some (some (.builtin "member_descriptor.__get__"))) (ht : takesIn K (.ref p) = some true) (hp : slotIn K p C = some i)
    (hv : (ox.slots[i]?).join = some v) (hh : handedIn v = true) (h : Q v { s with toks := s.toks + 1 }) : wpAny (model prog w) A (getAttr (.ref x) name expr) Q E s :=
  get_bind (X₀.keeps F.keep) I (plainGet_of hg).1 (findObj_data' hc ha hn ht) (plainGet_of hg).2 (wpAny_call (slot_get (s := { s with toks := s.toks + 1 }) (X₀.keeps F.keep) I hp hv (handed_on hh h)))
theorem get_prop' {expr : Bool} {Q : Value → Shared → Prop} {fget : Addr} {rest : List Value} (F : Fr h₀ L s.heap m) (X₀ : K.In h₀) (I : InstAt s.heap x ox C od) (hg : plainGet K C name = true) (hc : isClsIn K C = true)
    (ha : findIn K (.ref C) name = some (some (.ref p))) (hn : specialIn K (.ref p) "__get__" = some (some (.builtin "property.__get__"))) (ht : takesIn K (.ref p) = some true) (hp : recIn K p "property" = some (.ref fget :: rest))
    (h : codeAny (model prog w) A.in1 (.call (.ref fget) ⟨[.ref x], []⟩) (fun r s' => match r with | .ok (.ret v) => wpAny (model prog w) A (handedOut v) Q E s' | .ok _ => False | .error e => wpAny (model prog w) A (noteIf true (.ref x) (.str name s.toks) e) (fun _ s'' => E e s'') E s') { s with toks := s.toks + 1 }) :
    wpAny (model prog w) A (getAttr (.ref x) name expr) Q E s :=
  get_bind (X₀.keeps F.keep) I (plainGet_of hg).1 (findObj_data' hc ha hn ht) (plainGet_of hg).2 (wpAny_call (prop_get (s := { s with toks := s.toks + 1 }) (X₀.keeps F.keep) hp h))
end
theorem InstAt.bare {h : Heap} {x C : Addr} {ox : Obj} (I : InstAt h x ox C none) : InstAt h x ox C none := I
theorem InstAt.up {h h' : Heap} {x C : Addr} {ox : Obj} {od : Option Obj} (I : InstAt h x ox C od) (k : Sub h h') : InstAt h' x ox C od :=
  ⟨k _ _ I.at_, I.cls, I.no, by
    have := I.dict
    revert this
    cases ox.dict <;> cases od <;> intro hh <;> first | exact hh | exact k _ _ hh⟩

section
variable {α : Type} {M : Model} {A : Around} {s : Shared} {dp un : Nat} {outer : List Env}
theorem codeAny_weaken {c : Code} {R : Result → Shared → Prop} (hh : A.handled = none) (hf : A.frames = some outer) (hd : A.depth ≤ dp) (hu : A.units ≤ un) (h : codeAny M (AT dp un outer) c R s) : codeAny M A c R s :=
  fun Γ p hc hΓ => h Γ p hc ⟨hΓ.1.trans hh, Nat.le_trans hΓ.2.1 hd, fun l hl => hΓ.2.2.1 l (hf.trans hl), fun g hg => (nomatch hg), Nat.le_trans hΓ.2.2.2.2 hu⟩
theorem wpAny_weaken {t : Sem α} {Q : α → Shared → Prop} {E : Value → Shared → Prop} (hh : A.handled = none) (hf : A.frames = some outer) (hd : A.depth ≤ dp) (hu : A.units ≤ un) (h : wpAny M (AT dp un outer) t Q E s) : wpAny M A t Q E s :=
  fun Γ p hΓ => h Γ p ⟨hΓ.1.trans hh, Nat.le_trans hΓ.2.1 hd, fun l hl => hΓ.2.2.1 l (hf.trans hl), fun g hg => (nomatch hg), Nat.le_trans hΓ.2.2.2.2 hu⟩
end
section
variable {w : World} {A : Around} {R : Result → Shared → Prop} {s : Shared} {name qual : Str} {params : Arguments} {body : List Stmt} {scope : Scope} {cl : List (Str × Addr)} {dV kV doc pm cdv ct oc : Value} {an od : Option Addr}
  {osl : Array (Option Value)} {f : Addr} {args : Args} {binds : List (Str × Value)} {hT : Heap} {mean : ExcName → Option Value} {mg mb : Str → Option Value}
theorem enterH (X : (hd.heap_39 w.params).In hT) (T : Top hd.view_39 L0 mean mg mb hT) (S : Sub hT s.heap) (led : List (Addr × Obj))
    (hl : ∀ p ∈ led, s.heap.get? p.1 = some p.2 ∧ hT.get? p.1 = none)
    (ho : (hd.heap_39 w.params).lookup f = some ⟨oc, od, .func (fnX name qual params body scope cl dV kV doc pm an cdv ct), osl⟩) (hcd : codeIn (hd.heap_39 w.params) cdv qual = true)
    (hroom : A.depth < recursionLimit) (hbind : BindsTo s (fnX name qual params body scope cl dV kV doc pm an cdv ct) args binds) (hloc : ∀ y ∈ binds, scope.names.lookup y.1 = some .local)
    (h : ∀ g L' h₁ tk, Sub hT g → Gnd s.heap led g → Fr g L' h₁ (fun y => binds.reverse.lookup y) → News g L' h₁ led → (hd.heap_39 w.params).In g → Top hd.view_39 L0 mean mg mb g →
      wpAny (model Pg w) (A.deeper (envX qual scope L' f cdv cl)) (execs body (envX qual scope L' f cdv cl))
        (fun fl s' => R (.ok (.ret (match fl with | .ret v => v | _ => .none))) s')
        (fun e s' => wpAny (model Pg w) (A.deeper (envX qual scope L' f cdv cl)) (leaving (envX qual scope L' f cdv cl) e) (fun _ s'' => R (.error e) s'') (fun e' s'' => R (.error e') s'') s')
        { s with heap := h₁, toks := tk })
    (hco : scope.isCoroutine = false) (hgen : scope.isGenerator = false) (hk : scope.kind = .function)
    (hcell : ∀ x ∈ scope.names, x.2 ≠ .cell) : codeAny (model Pg w) A (.call (.ref f) args) R s := by
  have up : ∀ b o, s.heap.get? b = some o → b ∉ led.map (·.1) → (hideAll s.heap (led.map (·.1))).get? b = some o := fun b o e n => hideAll_get _ e n
  have st : Sub hT (hideAll s.heap (led.map (·.1))) := fun b o e => up b o (S b o e) (fun hm => by
    obtain ⟨p, hp, rfl⟩ := List.mem_map.mp hm
    rw [(hl p hp).2] at e; cases e)
  refine codeAny_call_def (fd := fnX name qual params body scope cl dV kV doc pm an cdv ct) (body := body) (binds := binds) hroom (S _ _ (X _ _ ho)) rfl (T.nolimit.keeps S) (codeRec_of (X.keeps S) hcd) rfl hbind hcell hloc (fun h₁ hns hk₁ => ?_) hco hgen hk
  exact h _ s.heap.objs.size h₁ _ st ⟨up, fun b o e => of_hideAll _ e⟩ ⟨hns, fun b o e => hk₁ b o (of_hideAll _ e), Nat.le_of_eq (hideAll_size _ _)⟩
    (fun p hp => ⟨hk₁ _ _ (hl p hp).1, Nat.ne_of_lt (Heap.lt_size (hl p hp).1), hideAll_none _ (List.mem_map_of_mem hp)⟩) (X.keeps st) (T.keeps st)
end
end Ez
end
section
example : True := by
  w_top off
  trivial
open PySem PySem.W PySem.Calls PyProof.Rows
namespace Ez

inductive Atom where
  | s (x : Str)
  | i (n : Int)
  deriving DecidableEq
def Atom.d : Atom → PyData
  | .s x => .str x
  | .i n => .int n
def Atom.isV : Atom → Value → Bool
  | .s x, .str y _ => x == y
  | .i n, .int m _ => n == m
  | _, _ => false
def Atom.ok : Atom → Bool
  | .s x => PyData.strOk x
  | .i _ => true
def AtomsAre : List Value → List Atom → Prop
  | [], [] => True
  | v :: vs, a :: p => a.isV v = true ∧ AtomsAre vs p
  | _, _ => False
theorem Atom.isV_cases {a : Atom} {v : Value} (h : a.isV v = true) : (∃ x t, a = .s x ∧ v = .str x t) ∨ (∃ n t, a = .i n ∧ v = .int n t) := by
  cases a <;> cases v <;> simp [Atom.isV] at h
  · subst h; exact .inl ⟨_, _, rfl, rfl⟩
  · subst h; exact .inr ⟨_, _, rfl, rfl⟩

section
variable {prog : Program} {w : World} {A : Around} {E : Value → Shared → Prop} {s : Shared}
theorem eqBool_of_ne {u v : Value} {b : Bool} {Q : Bool → Shared → Prop} (hne : (u == v) = false) (hf : ∀ x y t r, (u, v) ≠ (.float x t, .float y r))
    (hc : wpAny (model prog w) A (compareOp .Eq u v) (fun r s' => r = .bool b ∧ s' = s) E s) (h : Q b s) : wpAny (model prog w) A (eqBool u v) Q E s := by
  unfold eqBool
  refine wpAny_holding ?_
  rw [if_neg (by rw [hne]; decide)]
  have : wpAny (model prog w) A (truthOfDropped =<< richCompare .Eq u v) Q E s := by
    refine wpAny_bind (wpAny_mono (show wpAny (model prog w) A (richCompare .Eq u v) _ E s from hc) (fun r s' hr => ?_) fun _ _ e => e)
    obtain ⟨rfl, rfl⟩ := hr
    exact wpAny_truthy_bool h
  cases u <;> cases v <;> first | exact this | exact absurd rfl (hf _ _ _ _)
end
def atomHash (w : World) : Atom → Int
  | .s x => hashStr w x
  | .i n => hashInt n

def atomKind (prog : Program) (w : World) : KeyKind prog w Atom where
  is := Atom.isV
  hash := atomHash w
  inj := fun v a b ha hb => by
    rcases Atom.isV_cases ha with ⟨x, t, rfl, rfl⟩ | ⟨n, t, rfl, rfl⟩ <;> cases b <;> simp [Atom.isV] at hb
    · rw [hb]
    · rw [hb]
  byValue := fun k v h => by
    rcases Atom.isV_cases h with ⟨x, t, rfl, rfl⟩ | ⟨n, t, rfl, rfl⟩ <;> rfl
  pyHash := fun hv h => by
    rcases Atom.isV_cases hv with ⟨x, t, rfl, rfl⟩ | ⟨n, t, rfl, rfl⟩
    · exact wpAny_pyHash_str h
    · exact wpAny_pyHash_int h
  eqBool := fun {A E s a b u v Q} hu hv h => by
    rcases Atom.isV_cases hu with ⟨x, t, rfl, rfl⟩ | ⟨n, t, rfl, rfl⟩ <;> rcases Atom.isV_cases hv with ⟨y, r, rfl, rfl⟩ | ⟨k, r, rfl, rfl⟩
    · exact wpAny_eqBool_str (by simpa using h)
    · refine eqBool_of_ne (b := false) (by rfl) (fun _ _ _ _ e => by cases e) (EqMixed.eq_str_int ⟨rfl, rfl⟩) (by simpa using h)
    · refine eqBool_of_ne (b := false) (by rfl) (fun _ _ _ _ e => by cases e) (EqMixed.eq_int_str ⟨rfl, rfl⟩) (by simpa using h)
    · exact wpAny_eqBool_int (by rw [show (n == k) = decide (Atom.i n = Atom.i k) from by by_cases hh : n = k <;> simp [hh]]; exact h)
  «strs» := fun k x t v h => by
    rcases Atom.isV_cases h with ⟨y, u, rfl, e⟩ | ⟨n, u, rfl, e⟩
    · injection e with e1
      subst e1
      cases v <;> simp [Atom.isV, Value.isStr]
      rename_i z r
      by_cases hz : x = z
      · subst hz; simp
      · rw [beq_eq_false_iff_ne.mpr hz, beq_eq_false_iff_ne.mpr (Ne.symm hz)]
    · cases e

abbrev tupO (vs : List Value) : Obj := { cls := .type "tuple", data := .seq vs.toArray }
/-- the object at a is a tuple of those atoms -/
structure PathAt (h : Heap) (a : Addr) (vs : List Value) (p : List Atom) : Prop where
  tup : IsTup h a vs.toArray
  ats : AtomsAre vs p
  ok : p.all Atom.ok = true
theorem PathAt.up {h h' : Heap} {a : Addr} {vs : List Value} {p : List Atom} (x : PathAt h a vs p) (k : Sub h h') : PathAt h' a vs p := ⟨x.tup.keeps k, x.ats, x.ok⟩
theorem AtomsAre.len : ∀ {vs : List Value} {p : List Atom}, AtomsAre vs p → vs.length = p.length
  | [], [], _ => rfl
  | v :: vs, a :: p, h => by simp [AtomsAre.len h.2]
  | [], _ :: _, h => h.elim
  | _ :: _, [], h => h.elim
theorem AtomsAre.take : ∀ {vs : List Value} {p : List Atom} (n : Nat), AtomsAre vs p → AtomsAre (vs.take n) (p.take n)
  | _, _, 0, _ => by simp [AtomsAre]
  | [], [], n + 1, _ => by simp [AtomsAre]
  | v :: vs, a :: p, n + 1, h => ⟨h.1, AtomsAre.take n h.2⟩
  | [], _ :: _, _ + 1, h => h.elim
  | _ :: _, [], _ + 1, h => h.elim
theorem AtomsAre.get : ∀ {vs : List Value} {p : List Atom} (n : Nat) {a : Atom}, AtomsAre vs p → p[n]? = some a → ∃ v, vs[n]? = some v ∧ a.isV v = true
  | v :: vs, a :: p, 0, b, h, e => by cases e; exact ⟨v, rfl, h.1⟩
  | v :: vs, a :: p, n + 1, b, h, e => by simpa using AtomsAre.get n h.2 (by simpa using e)
  | [], [], _, _, _, e => by simp at e
  | [], _ :: _, _, _, h, _ => h.elim
  | _ :: _, [], _, _, h, _ => h.elim
theorem AtomsAre.reads {h : Heap} : ∀ {vs : List Value} {p : List Atom}, AtomsAre vs p → ReadsAll h vs (p.map Atom.d) []
  | [], [], _ => .nil
  | v :: vs, a :: p, x => by
    have r := AtomsAre.reads (h := h) x.2
    rcases Atom.isV_cases x.1 with ⟨y, t, rfl, rfl⟩ | ⟨n, t, rfl, rfl⟩
    · exact ReadsAll.cons (as := []) (.str _ _) r
    · exact ReadsAll.cons (as := []) (.int _ _) r
  | [], _ :: _, h => h.elim
  | _ :: _, [], h => h.elim
theorem PathAt.reads {h : Heap} {a : Addr} {vs : List Value} {p : List Atom} (x : PathAt h a vs p) : Reads h (.ref a) (.tuple (p.map Atom.d)) [] := by
  obtain ⟨o, ho, hc, n, hd⟩ := x.tup
  exact .tuple ho hc hd (by simpa using x.ats.reads)
theorem eqv_d (a b : Atom) : PyData.eqv a.d b.d = decide (a = b) := by
  cases a <;> cases b <;> simp [Atom.d, PyData.eqv]
  · rename_i x y; by_cases h : x = y <;> simp [h]
  · rename_i x y; by_cases h : x = y <;> simp [h]
theorem eqv_paths : ∀ (p q : List Atom), PyData.eqvAll (p.map Atom.d) (q.map Atom.d) = decide (p = q)
  | [], [] => by simp [PyData.eqvAll]
  | a :: p, b :: q => by
    rw [List.map_cons, List.map_cons, PyData.eqvAll, eqv_d, eqv_paths p q]
    by_cases h1 : a = b <;> by_cases h2 : p = q <;> simp [h1, h2]
  | [], _ :: _ => by simp [PyData.eqvAll]
  | _ :: _, [] => by simp [PyData.eqvAll]
theorem canLay_paths : ∀ p : List Atom, p.all Atom.ok = true → PyData.canLayAll0 (p.map Atom.d) = true
  | [], _ => by first | rfl | simp [PyData.canLayAll0]
  | a :: p, h => by
    rw [List.all_cons, Bool.and_eq_true] at h
    have := canLay_paths p h.2
    have h1 := h.1
    cases a <;> simp_all [PyData.canLayAll0, PyData.canLay0, Atom.d, Atom.ok]
theorem depth_paths : ∀ p : List Atom, PyData.depthAll (p.map Atom.d) = 0
  | [] => by first | rfl | simp [PyData.depthAll]
  | a :: p => by
    have := depth_paths p
    cases a <;> simp_all [PyData.depthAll, PyData.depth, Atom.d]
theorem shaped_path (p : List Atom) (ok : p.all Atom.ok = true) : SeqAt.shaped (.tuple (p.map Atom.d)) = true := by
  unfold SeqAt.shaped
  rw [Bool.and_eq_true]
  constructor
  · have := canLay_paths p ok
    simpa [PyData.canLay0] using this
  · simp [PyData.depth, depth_paths p]
section
variable {prog : Program} {w : World} {A : Around} {E : Value → Shared → Prop} {s : Shared} {a b : Addr} {va vb : List Value} {p q : List Atom} {Q : Value → Shared → Prop}
theorem path_ne (x : PathAt s.heap a va p) (y : PathAt s.heap b vb q) (hu : A.units + 64 < cLine) (h : Q (.bool (!decide (p = q))) s) : wpAny (model prog w) A (compareOp .NotEq (.ref a) (.ref b)) Q E s :=
  SeqAt.compareNe_shaped x.reads y.reads (shaped_path p x.ok) (shaped_path q y.ok) hu (by rw [PyData.eqv, eqv_paths]; exact h)
theorem path_eq (x : PathAt s.heap a va p) (y : PathAt s.heap b vb q) (hu : A.units + 64 < cLine) (h : Q (.bool (decide (p = q))) s) : wpAny (model prog w) A (compareOp .Eq (.ref a) (.ref b)) Q E s :=
  SeqAt.compareEq_shaped x.reads y.reads (shaped_path p x.ok) (shaped_path q y.ok) hu (by rw [PyData.eqv, eqv_paths]; exact h)
end
end Ez
end
section
example : True := by
  w_top off
  trivial
open PySem PySem.W PySem.Calls PyProof.Rows
namespace Ez
/-- a tuple that stands: in the ground or in the ledger -/
def KTup (h₀ : Heap) (news : List (Addr × Obj)) (a : Addr) (vs : List Value) : Prop :=
  IsTup h₀ a vs.toArray ∨ (a, tupO vs) ∈ news
theorem KTup.tup {h₀ h : Heap} {L a : Addr} {m : Str → Option Value} {news : List (Addr × Obj)} {vs : List Value} (K : KTup h₀ news a vs) (F : Fr h₀ L h m) (N : News h₀ L h news) : IsTup h a vs.toArray := by
  rcases K with K | K
  · exact K.keeps F.keep
  · exact ⟨_, (N _ K).1, rfl, 0, rfl⟩
theorem KTup.sub {h₀ : Heap} {a : Addr} {news news' : List (Addr × Obj)} {vs : List Value} (K : KTup h₀ news a vs) (hs : ∀ p ∈ news, p ∈ news') : KTup h₀ news' a vs := K.imp id (hs _)
theorem KTup.app {h₀ : Heap} {a : Addr} {news tl : List (Addr × Obj)} {vs : List Value} (K : KTup h₀ news a vs) : KTup h₀ (tl ++ news) a vs := K.sub fun _ => List.mem_append_right _
theorem KTup.cons {h₀ : Heap} {a : Addr} {news : List (Addr × Obj)} {p : Addr × Obj} {vs : List Value} (K : KTup h₀ news a vs) : KTup h₀ (p :: news) a vs := K.sub fun _ => List.mem_cons_of_mem _
theorem News.right {h₀ h : Heap} {L : Addr} {tl news : List (Addr × Obj)} (N : News h₀ L h (tl ++ news)) : News h₀ L h news := fun p hp => N p (List.mem_append_right _ hp)
theorem News.rest {h₀ h : Heap} {L : Addr} {q : Addr × Obj} {news : List (Addr × Obj)} (N : News h₀ L h (q :: news)) : News h₀ L h news := fun p hp => N p (List.mem_cons_of_mem _ hp)

theorem adjust_upto (n k : Nat) : Builtin.Slice.sliceAdjust none (some (n : Int)) 1 (k : Int) = (0, ((min n k : Nat) : Int)) := by
  unfold Builtin.Slice.sliceAdjust
  have h1 : ¬ ((1 : Int) < 0) := by omega
  have h2 : ¬ ((n : Int) < 0) := by omega
  simp only [h1, h2, if_false]
  congr 1
  omega
theorem places_upto (k : Nat) : Builtin.Slice.slicePlaces 0 (k : Int) 1 = k := by
  unfold Builtin.Slice.slicePlaces
  have h1 : (1 : Int) > 0 := by omega
  simp only [h1, if_true, Int.ediv_one]
  split <;> omega
theorem pick_list : ∀ (n : Nat) (l : List Value), n ≤ l.length → (List.range n).filterMap (fun (k : Nat) => l[k]?) = l.take n
  | 0, l, _ => by simp
  | n + 1, l, h => by
    rw [List.range_succ, List.filterMap_append, pick_list n l (by omega), List.take_add_one]
    congr 1
theorem pick_upto (xs : Array Value) (n : Nat) (hn : n ≤ xs.size) : ((List.range n).filterMap fun (k : Nat) => xs[((0 : Int) + (k : Int) * 1).toNat]?).toArray = (xs.toList.take n).toArray := by
  have e : (fun (k : Nat) => xs[((0 : Int) + (k : Int) * 1).toNat]?) = fun k => xs.toList[k]? := by
    funext k
    have : ((0 : Int) + (k : Int) * 1).toNat = k := by omega
    rw [this, Array.getElem?_toList]
  rw [e, pick_list n xs.toList (by simpa using hn)]
section
variable {prog : Program} {w : World} {A : Around} {E : Value → Shared → Prop} {s : Shared} {h₀ : Heap} {L : Addr} {m : Str → Option Value} {news : List (Addr × Obj)}
theorem sliceApplied_upto {sl : Addr} {n k : Nat} {u : Tok} {Q : Int × Int × Nat → Shared → Prop} (hs : s.heap.IsSliceOf sl .none (.int n u) .none) (h : Q (0, 1, min n k) s) :
    wpAny (model prog w) A (Builtin.Slice.sliceApplied (.ref sl) (pure (k : Int))) Q E s := by
  obtain ⟨os, hos, hcs, hds⟩ := id hs
  unfold Builtin.Slice.sliceApplied Builtin.Slice.sliceFields
  refine wpAny_bind (wpAny_bind (wpAny_field hos hds (x := .none) rfl (wpAny_bind (wpAny_field hos hds (x := .int n u) rfl (wpAny_bind (wpAny_field hos hds (x := .none) rfl (wpAny_pure ?_)))))))
  refine wpAny_bind (slicePart_none ?_)
  show wpAny _ _ (if ((1 : Int) == 0) = true then _ else _) _ _ s
  rw [if_neg (by decide)]
  refine wpAny_bind (slicePart_none (wpAny_bind (slicePart_int (wpAny_bind (wpAny_pure ?_)))))
  show wpAny _ _ (match Builtin.Slice.sliceAdjust none (some (n : Int)) 1 (k : Int) with | (lo, hi) => pure (lo, (1 : Int), Builtin.Slice.slicePlaces lo hi 1)) _ _ s
  rw [adjust_upto n k]
  show wpAny _ _ (pure ((0 : Int), (1 : Int), Builtin.Slice.slicePlaces (0 : Int) ((min n k : Nat) : Int) 1)) _ _ s
  rw [places_upto]
  exact wpAny_pure h
theorem getItem_upto {t sl : Addr} {vs : List Value} {n : Nat} {u : Tok} {Q : Value → Shared → Prop} (ht : IsTup s.heap t vs.toArray) (hs : s.heap.IsSliceOf sl .none (.int n u) .none) (hsz : vs.length ≤ sizeLine)
    (h1 : vs.length ≤ n → Q (.ref t) s) (h2 : n < vs.length → Q (.ref s.heap.objs.size) { s with heap := s.heap.push (tupO (vs.take n)) }) : wpAny (model prog w) A (getItem (.ref t) (.ref sl)) Q E s := by
  have hdrop : sizeOk (.seq (vs.take n).toArray) := by
    show (vs.take n).toArray.size ≤ sizeLine
    rw [List.size_toArray, List.length_take]
    omega
  obtain ⟨os, hos, hcs, hds⟩ := id hs
  have hTs : s.TypeIs (.ref sl) "slice" := ⟨os, hos, hcs⟩
  unfold getItem
  try with_reducible refine wpAny_holding ?_
  first | refine wpAny_bind (wpAny_pure ?_) | skip
  refine wpAny_bind (wpAny_sequenceKey ht.typeIs (by decide) ?_)
  refine wpAny_bind (wpAny_callSpecial?_slot (name := Str.ofString "__getitem__") ht.typeIs slot_tuple_getitem
    (wpAny_call_entry slot_tuple_getitem ht.typeIs entry_tuple_getitem ?_ (args_tuple_getitem _ _)))
  show wpAny _ _ (Builtin.Tuple.tupleItemsOf (.ref t) >>= _) _ _ s
  refine wpAny_bind (tupleItemsOf_ ht ?_)
  refine wpAny_bind (wpAny_typeOf hTs ?_)
  rw [if_pos (by decide)]
  have hk : (vs.toArray.size) = vs.length := List.size_toArray ..
  refine wpAny_bind (sliceApplied_upto hs ?_)
  by_cases hn : vs.length ≤ n
  · have e : min n vs.toArray.size = vs.toArray.size := by rw [hk]; omega
    rw [e]
    show wpAny _ _ (if ((0 : Int) == 0 && (1 : Int) == 1 && vs.toArray.size == vs.toArray.size) = true then _ else _) _ _ s
    rw [if_pos (by simp)]
    refine wpAny_bind (m := Builtin.Tuple.tupleIsExact (.ref t)) (wpAny_bind (wpAny_typeOf ht.typeIs (wpAny_pure ?_)))
    rw [if_pos (by decide)]
    refine wpAny_bind (wpAny_rule ?_)
    first
      | exact wpAny_bind (wpAny_pure (wpAny_pure ⟨_, rfl, wpAny_pure (h1 hn)⟩))
      | exact wpAny_bind (wpAny_pure ⟨_, rfl, wpAny_pure (h1 hn)⟩)
      | exact wpAny_pure ⟨_, rfl, wpAny_pure (h1 hn)⟩
  · have hlt : n < vs.length := by omega
    have e : min n vs.toArray.size = n := by rw [hk]; omega
    rw [e]
    have hno : ¬ (((0 : Int) == 0 && (1 : Int) == 1 && n == vs.toArray.size) = true) := by
      rw [hk]
      have : (n == vs.length) = false := by rw [beq_eq_false_iff_ne]; omega
      rw [this]; simp
    show wpAny _ _ (if ((0 : Int) == 0 && (1 : Int) == 1 && n == vs.toArray.size) = true then _ else _) _ _ s
    rw [if_neg hno, pick_upto vs.toArray n (by rw [hk]; omega)]
    have hq := h2 hlt
    first
      | exact wpAny_bind (m := Builtin.Tuple.tupleExact _) (wpAny_newObj_type (wpAny_pure ⟨_, rfl, wpAny_pure hq⟩) hdrop)
      | exact wpAny_bind (m := Builtin.Tuple.tupleExact _) (wpAny_newObj_type (wpAny_bind (wpAny_pure (wpAny_pure ⟨_, rfl, wpAny_pure hq⟩))) hdrop)
      | exact wpAny_bind (wpAny_bind (m := Builtin.Tuple.tupleExact _) (wpAny_newObj_type (wpAny_pure (wpAny_pure ⟨_, rfl, wpAny_pure hq⟩)) hdrop))
      | exact wpAny_bind (wpAny_bind (m := Builtin.Tuple.tupleExact _) (wpAny_newObj_type (wpAny_pure ⟨_, rfl, wpAny_pure hq⟩) hdrop))
theorem slice_upto {value slice : Expr} {t : Addr} {vs : List Value} {n : Nat} {u : Tok} {Q : Value → Shared → Prop}
    (F : Fr h₀ L s.heap m) (N : News h₀ L s.heap news) (K : KTup h₀ news t vs) (hsz : vs.length ≤ 1000)
    (h : ∀ a' h' tl, Fr h₀ L h' m → News h₀ L h' (tl ++ news) → KTup h₀ (tl ++ news) a' (vs.take n) → Q (.ref a') { s with heap := h' })
    (hs : subscripted slice false (.ref t) (.ref s.heap.objs.size) = operate [.ref s.heap.objs.size, .ref t] (getItem (.ref t) (.ref s.heap.objs.size)) := by with_unfolding_all rfl)
    (hg : ∀ r, letTemporaryGo value (.ref t) r = pure () := by intro _; with_unfolding_all rfl) :
    wpAny (model prog w) A (subscriptTail value slice (.ref t) (.ref s.heap.objs.size)) Q E { s with heap := s.heap.push { cls := .type "slice", data := .fields #[.none, .int n u, .none] } } := by
  have ht : IsTup s.heap t vs.toArray := K.tup F N
  have ht' : IsTup (s.heap.push { cls := .type "slice", data := .fields #[.none, .int n u, .none] }) t vs.toArray := ht.keeps fun _ _ e => Heap.get?_push_of_some _ e
  have F1 := F.push { cls := .type "slice", data := .fields #[.none, .int n u, .none] }
  have N1 : News h₀ L (s.heap.push { cls := .type "slice", data := .fields #[.none, .int n u, .none] }) news := N.grown fun _ _ e => Heap.get?_push_of_some _ e
  refine subscriptTail_ops (s := { s with heap := s.heap.push { cls := .type "slice", data := .fields #[.none, .int n u, .none] } }) ht'.typeIs slot_tuple_getitem.lookup
    (getItem_upto ht' (Heap.IsSliceOf.new ..) (by rw [sizeLine_eq]; omega) (fun hn => ?_) fun hn => ?_) hs hg
  · refine h t _ [] F1 N1 ?_
    rw [List.take_of_length_le hn]
    exact K
  · have N2 := News.push F1 N1 (tupO (vs.take n))
    rw [Heap.size_push] at N2
    show Q (.ref (s.heap.push _).objs.size) _
    rw [Heap.size_push]
    exact h _ _ [(s.heap.objs.size + 1, tupO (vs.take n))] (F1.push _) N2 (.inr (.head _))
theorem slice_int {value slice : Expr} {t : Addr} {vs : List Value} {k : Int} {u : Tok} {Q : Value → Shared → Prop}
    (F : Fr h₀ L s.heap m) (N : News h₀ L s.heap news) (K : KTup h₀ news t vs) (hsz : vs.length ≤ 1000) (h0 : 0 ≤ k)
    (h : ∀ a' h' tl, Fr h₀ L h' m → News h₀ L h' (tl ++ news) → KTup h₀ (tl ++ news) a' (vs.take k.toNat) → Q (.ref a') { s with heap := h' })
    (hs : subscripted slice false (.ref t) (.ref s.heap.objs.size) = operate [.ref s.heap.objs.size, .ref t] (getItem (.ref t) (.ref s.heap.objs.size)) := by with_unfolding_all rfl)
    (hg : ∀ r, letTemporaryGo value (.ref t) r = pure () := by intro _; with_unfolding_all rfl) :
    wpAny (model prog w) A (subscriptTail value slice (.ref t) (.ref s.heap.objs.size)) Q E { s with heap := s.heap.push { cls := .type "slice", data := .fields #[.none, .int k u, .none] } } := by
  obtain ⟨n, rfl⟩ := Int.eq_ofNat_of_zero_le h0
  exact slice_upto F N K hsz h hs hg
theorem min_two' {a b : Int} {t u : Tok} {Q : Value → Shared → Prop} (hh : A.handled = none) (F : Fr h₀ L s.heap m) (N : News h₀ L s.heap news)
    (h : ∀ h' tk tv, Fr h₀ L h' m → News h₀ L h' news → Q (.int (min a b) tv) { s with heap := h', toks := tk }) :
    wpAny (model prog w) A (call (.builtin "min") [.int a t, .int b u]) Q E s :=
  min_two_N hh F N fun h' tk F' N' => by
    have := h h' tk (if b < a then u else t) F' N'
    have e : (if b < a then b else a) = min a b := by split <;> omega
    rw [e]; exact this
theorem kpath_eq {a b : Addr} {va vb : List Value} {p q : List Atom} {Q : Value → Shared → Prop} (F : Fr h₀ L s.heap m) (N : News h₀ L s.heap news) (x : KTup h₀ news a va) (y : KTup h₀ news b vb)
    (ax : AtomsAre va p) (ay : AtomsAre vb q) (ox : p.all Atom.ok = true) (oy : q.all Atom.ok = true) (hu : A.units + 64 < cLine) (h : Q (.bool (decide (p = q))) s) : wpAny (model prog w) A (compareOp .Eq (.ref a) (.ref b)) Q E s :=
  path_eq ⟨x.tup F N, ax, ox⟩ ⟨y.tup F N, ay, oy⟩ hu h
theorem kpath_ne {a b : Addr} {va vb : List Value} {p q : List Atom} {Q : Value → Shared → Prop} (F : Fr h₀ L s.heap m) (N : News h₀ L s.heap news) (x : KTup h₀ news a va) (y : KTup h₀ news b vb)
    (ax : AtomsAre va p) (ay : AtomsAre vb q) (ox : p.all Atom.ok = true) (oy : q.all Atom.ok = true) (hu : A.units + 64 < cLine) (h : Q (.bool (!decide (p = q))) s) : wpAny (model prog w) A (compareOp .NotEq (.ref a) (.ref b)) Q E s :=
  path_ne ⟨x.tup F N, ax, ox⟩ ⟨y.tup F N, ay, oy⟩ hu h
end
theorem ok_take {p : List Atom} (n : Nat) (h : p.all Atom.ok = true) : (p.take n).all Atom.ok = true := by
  rw [List.all_eq_true] at h ⊢
  exact fun a ha => h a (List.mem_of_mem_take ha)
end Ez
end
section
example : True := by
  w_top off
  trivial
open PySem PySem.W PySem.Calls PyProof.Rows
namespace Ez
def iterCls : List Value := [.type "list_iterator", .type "tuple_iterator", .type "range_iterator"]
/-- no iterator lies in the ledger -/
def NoIt (news : List (Addr × Obj)) : Prop := ∀ p ∈ news, p.2.cls ∉ iterCls
theorem NoIt.nil : NoIt [] := fun _ h => nomatch h
/-- a turn's end -/
def TurnEnd (h₀ : Heap) (L : Addr) (it : Addr × Obj) (J : (Str → Option Value) → List (Addr × Obj) → Prop) (s : Shared) (Q : Flow → Shared → Prop) (f : Flow) (s₂ : Shared) : Prop :=
  match f with
  | .ret v => Q (.ret v) s₂
  | .brk => Q .next s₂
  | _ => ∃ h' tk m' news', s₂ = { s with heap := h', toks := tk } ∧ Fr h₀ L h' m' ∧ News h₀ L h' (it :: news') ∧ J m' news'
section
variable {h₀ h' : Heap} {L : Addr} {it : Addr × Obj} {J : (Str → Option Value) → List (Addr × Obj) → Prop} {s : Shared} {Q : Flow → Shared → Prop} {m' : Str → Option Value} {l l' : List (Addr × Obj)} {tk : Nat}
theorem TurnEnd.ret' {v : Value} {s₂ : Shared} (h : Q (.ret v) s₂) : TurnEnd h₀ L it J s Q (.ret v) s₂ := h
theorem TurnEnd.brk' {s₂ : Shared} (h : Q .next s₂) : TurnEnd h₀ L it J s Q .brk s₂ := h
theorem TurnEnd.cont' (l' : List (Addr × Obj)) (F : Fr h₀ L h' m') (N : News h₀ L h' l) (hi : it ∈ l) (hs : ∀ p ∈ l', p ∈ l) (hJ : J m' l') : TurnEnd h₀ L it J s Q .cont { s with heap := h', toks := tk } :=
  ⟨h', tk, m', l', rfl, F, fun p hp => (List.mem_cons.mp hp).elim (fun e => e ▸ N _ hi) fun q => N _ (hs _ q), hJ⟩
theorem TurnEnd.next' (l' : List (Addr × Obj)) (F : Fr h₀ L h' m') (N : News h₀ L h' l) (hi : it ∈ l) (hs : ∀ p ∈ l', p ∈ l) (hJ : J m' l') : TurnEnd h₀ L it J s Q .next { s with heap := h', toks := tk } :=
  ⟨h', tk, m', l', rfl, F, fun p hp => (List.mem_cons.mp hp).elim (fun e => e ▸ N _ hi) fun q => N _ (hs _ q), hJ⟩
end
section
variable {prog : Program} {w : World} {A : Around} {E : Value → Shared → Prop} {s : Shared} {env : Env} {h₀ : Heap} {x : Str} {body : List Stmt} {Q : Flow → Shared → Prop}
theorem loopCore {I : Addr} {fp : List Addr} {n : Nat} {P : Nat → Value → Prop} {St : Nat → Heap → Prop} {m₀ : Str → Option Value} {news : List (Addr × Obj)} {io : Obj} (J : Nat → (Str → Option Value) → List (Addr × Obj) → Prop)
    (hI : I = s.heap.objs.size) (hf : io.isFreed = false) (hc : ∀ j h, St j h → ∃ o, h.get? I = some o ∧ o.cls ∈ iterCls) (W : Walks prog w A I (I :: fp) [I] n P St) (hfp : env.locals ∉ fp) (hst : St 0 (s.heap.push io)) (F : Fr h₀ env.locals s.heap m₀) (N : News h₀ env.locals s.heap news)
    (hj : J 0 m₀ news) (hJ : ∀ i m l, J i m l → NoIt l) (hfk : ∀ b ∈ fp, (∃ o, h₀.get? b = some o) ∨ ∃ o, ∀ i m l, J i m l → (b, o) ∈ l)
    (turn : ∀ i v m₁ news₁ h tk io, i < n → P i v → J i m₁ news₁ → Fr h₀ env.locals h (fun y => if y = x then some v else m₁ y) → News h₀ env.locals h ((I, io) :: news₁) → NoIt news₁ →
      wpAny (model prog w) A (execs body env) (TurnEnd h₀ env.locals (I, io) (J (i + 1)) { s with heap := h, toks := tk } Q) E { s with heap := h, toks := tk })
    (done : ∀ m₁ news₁ h tk, J n m₁ news₁ → Fr h₀ env.locals h m₁ → News h₀ env.locals h news₁ → Q .next { s with heap := h, toks := tk }) :
    LoopAtV prog w A h₀ env x body Q E (.ref I) { s with heap := s.heap.push io } := by
  subst hI
  refine ⟨s.heap.objs.size, s.heap.objs.size :: fp, [s.heap.objs.size], n, P, St, m₀, news, J, rfl, W, ?_, ?_, ?_, hst, F.push _, fun p hp => ⟨Heap.get?_push_of_some _ (N p hp).1, (N p hp).2⟩, hj, ?_, ?_⟩
  · intro hm
    rcases List.mem_cons.mp hm with e | hm
    · exact absurd F.ns.lt (e ▸ Nat.lt_irrefl _)
    · exact hfp hm
  · intro b hb
    rw [List.mem_singleton.mp hb]
    exact next_is_new F
  · intro p hp hI
    exact absurd (Heap.lt_size (N p hp).1) ((List.mem_singleton.mp hI) ▸ Nat.lt_irrefl _)
  · rintro i v m₁ news₁ s₁ own ⟨hh', tk', rfl⟩ hin hP hJi hoff hofp hoat hown hst' F₁ N₁
    obtain ⟨oi, ho, hcl⟩ := hc _ _ hst'
    have hio : (s.heap.objs.size, oi) ∈ own := hown _ (.head _) (next_is_new F) _ ho
    have N₂ : News h₀ env.locals hh' ((s.heap.objs.size, oi) :: news₁) := fun p hp => (List.mem_cons.mp hp).elim (fun e => e ▸ N₁ _ (List.mem_append_left _ hio)) fun hp => N₁ p (List.mem_append_right _ hp)
    refine wpAny_mono (turn i v m₁ news₁ hh' tk' oi hin hP hJi F₁ N₂ (hJ _ _ _ hJi)) (fun f s₂ p => ?_) fun _ _ e => e
    have fin : (∃ h' tk m' news', s₂ = { s with heap := h', toks := tk } ∧ Fr h₀ env.locals h' m' ∧ News h₀ env.locals h' ((s.heap.objs.size, oi) :: news') ∧ J (i + 1) m' news') →
        LoopStepU h₀ env.locals [s.heap.objs.size] own (J (i + 1)) { s with heap := hh', toks := tk' } .next s₂ := by
      rintro ⟨h', tk, m', news', rfl, F', N', hJ'⟩
      have Nown : News h₀ env.locals h' (own ++ news') := by
        intro p hp
        rcases List.mem_append.mp hp with hp | hp
        · have a1 := hoat p hp
          have a2 := N₁ p (List.mem_append_left _ hp)
          rcases List.mem_cons.mp (hofp p hp) with e | e
          · have e2 : p.2 = oi := Option.some.inj (a1.symm.trans (by rw [e]; exact ho))
            have e3 : p = (s.heap.objs.size, oi) := Prod.ext e e2
            rw [e3]
            exact N' _ (.head _)
          · rcases hfk _ e with ⟨o, q⟩ | ⟨o, q⟩
            · rw [a2.2.2] at q; cases q
            · have b1 := (N₂ _ (.tail _ (q _ _ _ hJi))).1
              have e2 : p.2 = o := Option.some.inj (a1.symm.trans b1)
              have e3 : p = (p.1, o) := Prod.ext rfl e2
              rw [e3]
              exact N' _ (.tail _ (q _ _ _ hJ'))
        · exact N' p (.tail _ hp)
      refine LoopStepU.intro (s₁ := { s with heap := hh', toks := tk' }) F' Nown (fun p hp hI => ?_) hJ'
      have hpI := List.mem_singleton.mp hI
      have hn := hJ _ _ _ hJ' p hp
      have e1 := (N' p (.tail _ hp)).1
      have e2 := (N' _ (.head _)).1
      rw [hpI] at e1
      have e3 := Option.some.inj (e1.symm.trans e2)
      rw [e3] at hn
      exact hn hcl
    cases f with
    | ret v => exact .ret p
    | brk => exact .brk p
    | next => exact .next (fin p)
    | cont => exact .cont (fin p)
  · rintro h' tk m' news' F' N' _ hJn
    exact done m' news' h' tk hJn F' N'

theorem loop_range {r : Addr} {a b c : Int} {t u v : Tok} {n : Nat} {m₀ : Str → Option Value} {news : List (Addr × Obj)} (J : Nat → (Str → Option Value) → List (Addr × Obj) → Prop)
    (hh : A.handled = none) (hr : IsRange s.heap r a b c t u v) (hsm : Builtin.Range.small a b c = true) (hn : Builtin.Range.rangeSize a b c = n) (F : Fr h₀ env.locals s.heap m₀) (N : News h₀ env.locals s.heap news)
    (hj : J 0 m₀ news) (hJ : ∀ i m l, J i m l → NoIt l)
    (turn : ∀ i t m₁ news₁ h tk I io, i < n → J i m₁ news₁ → Fr h₀ env.locals h (fun y => if y = x then some (.int (a + (i : Nat) * c) t) else m₁ y) → News h₀ env.locals h ((I, io) :: news₁) → NoIt news₁ →
      wpAny (model prog w) A (execs body env) (TurnEnd h₀ env.locals (I, io) (J (i + 1)) { s with heap := h, toks := tk } Q) E { s with heap := h, toks := tk })
    (done : ∀ m₁ news₁ h tk, J n m₁ news₁ → Fr h₀ env.locals h m₁ → News h₀ env.locals h news₁ → Q .next { s with heap := h, toks := tk }) :
    wpAny (model prog w) A (pyIter (.ref r)) (fun it s₂ => LoopAtV prog w A h₀ env x body Q E it s₂) E s := by
  refine wpAny_pyIter_range hr hsm ?_
  refine loopCore (fp := []) J rfl rfl (fun j h st => ⟨_, st, by simp [iterCls]⟩) (Walks.range hh s.heap.objs.size a c n) (fun h => nomatch h) ?_ F N hj hJ (fun b h => nomatch h) ?_ done
  · rw [hn]
    show IsRangeIter _ _ _ _ _
    simpa using Heap.get?_push_size s.heap (o := { cls := .type "range_iterator", data := .fields #[rawInt a, rawInt n, rawInt c] }) rfl
  · rintro i v m₁ news₁ h tk io hi ⟨t, rfl⟩ hJi F₁ N₁ hN
    exact turn i t m₁ news₁ h tk _ io hi hJi F₁ N₁ hN

theorem loop_tup {r : Addr} {vs : List Value} {m₀ : Str → Option Value} {news : List (Addr × Obj)} (J : Nat → (Str → Option Value) → List (Addr × Obj) → Prop)
    (hh : A.handled = none) (hr : IsTup s.heap r vs.toArray) (hrL : env.locals ≠ r) (F : Fr h₀ env.locals s.heap m₀) (N : News h₀ env.locals s.heap news)
    (hj : J 0 m₀ news) (hJ : ∀ i m l, J i m l → NoIt l) (hfk : (∃ o, h₀.get? r = some o) ∨ ∃ o, ∀ i m l, J i m l → (r, o) ∈ l)
    (turn : ∀ i v m₁ news₁ h tk I io, vs[i]? = some v → J i m₁ news₁ → Fr h₀ env.locals h (fun y => if y = x then some v else m₁ y) → News h₀ env.locals h ((I, io) :: news₁) → NoIt news₁ →
      wpAny (model prog w) A (execs body env) (TurnEnd h₀ env.locals (I, io) (J (i + 1)) { s with heap := h, toks := tk } Q) E { s with heap := h, toks := tk })
    (done : ∀ m₁ news₁ h tk, J vs.length m₁ news₁ → Fr h₀ env.locals h m₁ → News h₀ env.locals h news₁ → Q .next { s with heap := h, toks := tk }) :
    wpAny (model prog w) A (pyIter (.ref r)) (fun it s₂ => LoopAtV prog w A h₀ env x body Q E it s₂) E s := by
  refine wpAny_pyIter_tuple (items := vs.toArray) hr ?_
  have hne : r ≠ s.heap.objs.size := by
    obtain ⟨o, ho, _⟩ := hr
    exact Nat.ne_of_lt (Heap.lt_size ho)
  have W := Walks.tuple (prog := prog) (w := w) hh s.heap.objs.size r hne vs.toArray
  have hsz : vs.toArray.size = vs.length := by simp
  rw [hsz] at W
  refine loopCore (fp := [r]) J rfl rfl (fun j h st => ?_) W (fun h => hrL (List.mem_singleton.mp h)) ?_ F N hj hJ (fun b hb => by rw [List.mem_singleton.mp hb]; exact hfk) ?_ done
  · obtain ⟨⟨o, ho, hc, _⟩, _⟩ := st
    exact ⟨o, ho, by rw [hc]; decide⟩
  · exact ⟨⟨_, Heap.get?_push_size _ rfl, rfl, rfl⟩, IsTup.keeps hr fun _ _ e => Heap.get?_push_of_some _ e⟩
  · rintro i v m₁ news₁ h tk io hi hv hJi F₁ N₁ hN
    exact turn i v m₁ news₁ h tk _ io (by simpa using hv) hJi F₁ N₁ hN

theorem loop_list {r : Addr} {vs : List Value} {m₀ : Str → Option Value} {news : List (Addr × Obj)} (J : Nat → (Str → Option Value) → List (Addr × Obj) → Prop)
    (hh : A.handled = none) (hr : s.heap.IsList r vs.toArray) (hrL : env.locals ≠ r) (F : Fr h₀ env.locals s.heap m₀) (N : News h₀ env.locals s.heap news)
    (hj : J 0 m₀ news) (hJ : ∀ i m l, J i m l → NoIt l) (hfk : (∃ o, h₀.get? r = some o) ∨ ∃ o, ∀ i m l, J i m l → (r, o) ∈ l)
    (turn : ∀ i v m₁ news₁ h tk I io, vs[i]? = some v → J i m₁ news₁ → Fr h₀ env.locals h (fun y => if y = x then some v else m₁ y) → News h₀ env.locals h ((I, io) :: news₁) → NoIt news₁ →
      wpAny (model prog w) A (execs body env) (TurnEnd h₀ env.locals (I, io) (J (i + 1)) { s with heap := h, toks := tk } Q) E { s with heap := h, toks := tk })
    (done : ∀ m₁ news₁ h tk, J vs.length m₁ news₁ → Fr h₀ env.locals h m₁ → News h₀ env.locals h news₁ → Q .next { s with heap := h, toks := tk }) :
    wpAny (model prog w) A (pyIter (.ref r)) (fun it s₂ => LoopAtV prog w A h₀ env x body Q E it s₂) E s := by
  refine wpAny_pyIter_list hr ?_
  have hne : r ≠ s.heap.objs.size := by
    obtain ⟨o, ho, _⟩ := hr
    exact Nat.ne_of_lt (Heap.lt_size ho)
  have W := Walks.list (prog := prog) (w := w) hh s.heap.objs.size r hne vs.toArray
  have hsz : vs.toArray.size = vs.length := by simp
  rw [hsz] at W
  refine loopCore (fp := [r]) J rfl rfl (fun j h st => ?_) W (fun h => hrL (List.mem_singleton.mp h)) ?_ F N hj hJ (fun b hb => by rw [List.mem_singleton.mp hb]; exact hfk) ?_ done
  · obtain ⟨⟨o, ho, hc, _⟩, _⟩ := st
    exact ⟨o, ho, by rw [hc]; decide⟩
  · exact ⟨⟨_, Heap.get?_push_size _ rfl, rfl, rfl⟩, hr.at fun _ e => Heap.get?_push_of_some _ e⟩
  · rintro i v m₁ news₁ h tk io hi hv hJi F₁ N₁ hN
    exact turn i v m₁ news₁ h tk _ io (by simpa using hv) hJi F₁ N₁ hN
end

theorem split_S {S : List Str} {m m₀ : Str → Option Value} (h : ∀ z, S.contains z = false → m z = m₀ z) : m = fun y => if S.contains y then m y else m₀ y := by
  funext y
  cases hy : S.contains y with
  | true => simp
  | false => simp [h y hy]
/-- what a turn leaves: the names of S may be turned, all else stands -/
def JS (S : List Str) (m₀ : Str → Option Value) (J : (Str → Option Value) → List (Addr × Obj) → Prop) (m : Str → Option Value) (l : List (Addr × Obj)) : Prop := (∀ z, S.contains z = false → m z = m₀ z) ∧ J m l
section
variable {prog : Program} {w : World} {A : Around} {E : Value → Shared → Prop} {s : Shared} {env : Env} {h₀ : Heap} {x : Str} {body : List Stmt} {Q : Flow → Shared → Prop}
theorem loop_rangeS {r : Addr} {a b c : Int} {t u v : Tok} {n : Nat} {m₀ : Str → Option Value} {news : List (Addr × Obj)} (S : List Str) (J : Nat → (Str → Option Value) → List (Addr × Obj) → Prop)
    (hh : A.handled = none) (hr : IsRange s.heap r a b c t u v) (hsm : Builtin.Range.small a b c = true) (hn : Builtin.Range.rangeSize a b c = n) (F : Fr h₀ env.locals s.heap m₀) (N : News h₀ env.locals s.heap news)
    (hj : J 0 m₀ news) (hJ : ∀ i m l, J i m l → NoIt l)
    (turn : ∀ i t (u : Str → Option Value) news₁ h tk I io, i < n → J i (fun y => if S.contains y then u y else m₀ y) news₁ → Fr h₀ env.locals h (fun y => if y = x then some (.int (a + (i : Nat) * c) t) else if S.contains y then u y else m₀ y) → News h₀ env.locals h ((I, io) :: news₁) → NoIt news₁ →
      wpAny (model prog w) A (execs body env) (TurnEnd h₀ env.locals (I, io) (JS S m₀ (J (i + 1))) { s with heap := h, toks := tk } Q) E { s with heap := h, toks := tk })
    (done : ∀ (u : Str → Option Value) news₁ h tk, J n (fun y => if S.contains y then u y else m₀ y) news₁ → Fr h₀ env.locals h (fun y => if S.contains y then u y else m₀ y) → News h₀ env.locals h news₁ → Q .next { s with heap := h, toks := tk }) :
    wpAny (model prog w) A (pyIter (.ref r)) (fun it s₂ => LoopAtV prog w A h₀ env x body Q E it s₂) E s := by
  refine loop_range (fun i => JS S m₀ (J i)) hh hr hsm hn F N ⟨fun _ _ => rfl, hj⟩ (fun i m l h => hJ i m l h.2) ?_ ?_
  · rintro i t m₁ news₁ h tk I io hi ⟨hm, hJi⟩ F₁ N₁ hN
    have e := split_S hm
    rw [e] at F₁ hJi
    exact turn i t m₁ news₁ h tk I io hi hJi F₁ N₁ hN
  · rintro m₁ news₁ h tk ⟨hm, hJn⟩ F₁ N₁
    have e := split_S hm
    rw [e] at F₁ hJn
    exact done m₁ news₁ h tk hJn F₁ N₁
theorem loop_tupS {r : Addr} {vs : List Value} {m₀ : Str → Option Value} {news : List (Addr × Obj)} (S : List Str) (J : Nat → (Str → Option Value) → List (Addr × Obj) → Prop)
    (hh : A.handled = none) (hr : IsTup s.heap r vs.toArray) (hrL : env.locals ≠ r) (F : Fr h₀ env.locals s.heap m₀) (N : News h₀ env.locals s.heap news)
    (hj : J 0 m₀ news) (hJ : ∀ i m l, J i m l → NoIt l) (hfk : (∃ o, h₀.get? r = some o) ∨ ∃ o, ∀ i m l, J i m l → (r, o) ∈ l)
    (turn : ∀ i v (u : Str → Option Value) news₁ h tk I io, vs[i]? = some v → J i (fun y => if S.contains y then u y else m₀ y) news₁ → Fr h₀ env.locals h (fun y => if y = x then some v else if S.contains y then u y else m₀ y) → News h₀ env.locals h ((I, io) :: news₁) → NoIt news₁ →
      wpAny (model prog w) A (execs body env) (TurnEnd h₀ env.locals (I, io) (JS S m₀ (J (i + 1))) { s with heap := h, toks := tk } Q) E { s with heap := h, toks := tk })
    (done : ∀ (u : Str → Option Value) news₁ h tk, J vs.length (fun y => if S.contains y then u y else m₀ y) news₁ → Fr h₀ env.locals h (fun y => if S.contains y then u y else m₀ y) → News h₀ env.locals h news₁ → Q .next { s with heap := h, toks := tk }) :
    wpAny (model prog w) A (pyIter (.ref r)) (fun it s₂ => LoopAtV prog w A h₀ env x body Q E it s₂) E s := by
  refine loop_tup (fun i => JS S m₀ (J i)) hh hr hrL F N ⟨fun _ _ => rfl, hj⟩ (fun i m l h => hJ i m l h.2) (hfk.imp id fun ⟨o, q⟩ => ⟨o, fun i m l h => q i m l h.2⟩) ?_ ?_
  · rintro i v m₁ news₁ h tk I io hi ⟨hm, hJi⟩ F₁ N₁ hN
    have e := split_S hm
    rw [e] at F₁ hJi
    exact turn i v m₁ news₁ h tk I io hi hJi F₁ N₁ hN
  · rintro m₁ news₁ h tk ⟨hm, hJn⟩ F₁ N₁
    have e := split_S hm
    rw [e] at F₁ hJn
    exact done m₁ news₁ h tk hJn F₁ N₁
theorem loop_listS {r : Addr} {vs : List Value} {m₀ : Str → Option Value} {news : List (Addr × Obj)} (S : List Str) (J : Nat → (Str → Option Value) → List (Addr × Obj) → Prop)
    (hh : A.handled = none) (hr : s.heap.IsList r vs.toArray) (hrL : env.locals ≠ r) (F : Fr h₀ env.locals s.heap m₀) (N : News h₀ env.locals s.heap news)
    (hj : J 0 m₀ news) (hJ : ∀ i m l, J i m l → NoIt l) (hfk : (∃ o, h₀.get? r = some o) ∨ ∃ o, ∀ i m l, J i m l → (r, o) ∈ l)
    (turn : ∀ i v (u : Str → Option Value) news₁ h tk I io, vs[i]? = some v → J i (fun y => if S.contains y then u y else m₀ y) news₁ → Fr h₀ env.locals h (fun y => if y = x then some v else if S.contains y then u y else m₀ y) → News h₀ env.locals h ((I, io) :: news₁) → NoIt news₁ →
      wpAny (model prog w) A (execs body env) (TurnEnd h₀ env.locals (I, io) (JS S m₀ (J (i + 1))) { s with heap := h, toks := tk } Q) E { s with heap := h, toks := tk })
    (done : ∀ (u : Str → Option Value) news₁ h tk, J vs.length (fun y => if S.contains y then u y else m₀ y) news₁ → Fr h₀ env.locals h (fun y => if S.contains y then u y else m₀ y) → News h₀ env.locals h news₁ → Q .next { s with heap := h, toks := tk }) :
    wpAny (model prog w) A (pyIter (.ref r)) (fun it s₂ => LoopAtV prog w A h₀ env x body Q E it s₂) E s := by
  refine loop_list (fun i => JS S m₀ (J i)) hh hr hrL F N ⟨fun _ _ => rfl, hj⟩ (fun i m l h => hJ i m l h.2) (hfk.imp id fun ⟨o, q⟩ => ⟨o, fun i m l h => q i m l h.2⟩) ?_ ?_
  · rintro i v m₁ news₁ h tk I io hi ⟨hm, hJi⟩ F₁ N₁ hN
    have e := split_S hm
    rw [e] at F₁ hJi
    exact turn i v m₁ news₁ h tk I io hi hJi F₁ N₁ hN
  · rintro m₁ news₁ h tk ⟨hm, hJn⟩ F₁ N₁
    have e := split_S hm
    rw [e] at F₁ hJn
    exact done m₁ news₁ h tk hJn F₁ N₁
end
end Ez
end
section
example : True := by
  w_top off
  trivial
open PySem PySem.W PySem.Calls PyProof.Rows
namespace Ez
/-- the walk stops before it -/
def Hold (P : Prop) : Prop := P
theorem hold_on {P : Prop} (h : Hold P) : P := h
theorem Hold.off {P : Prop} (h : P) : Hold P := h
theorem rng_small {b : Int} (h0 : 0 ≤ b) (h1 : b < 1000000) : Builtin.Range.small 0 b 1 = true := small_one (by omega) (by omega) (by omega) (by omega)
theorem rng_size {b : Int} {n : Nat} (h0 : b = n) : Builtin.Range.rangeSize 0 b 1 = n := by rw [rangeSize_nat]; omega
section
variable {prog : Program} {w : World} {A : Around} {E : Value → Shared → Prop} {s : Shared} {h₀ : Heap} {L : Addr} {m : Str → Option Value} {news : List (Addr × Obj)}
theorem item_tup {value slice : Expr} {t : Addr} {l : List Value} {k : Int} {u : Tok} {x : Value} {Q : Value → Shared → Prop} (ht : IsTup s.heap t l.toArray)
    (hlen : l.length ≤ 1000) (hk : 0 ≤ k) (hx : l[k.toNat]? = some x) (h : Q x s)
    (hs : subscripted slice false (.ref t) (.int k u) = operate [.ref t, .int k u] (getItem (.ref t) (.int k u)) := by with_unfolding_all rfl) :
    wpAny (model prog w) A (subscriptTail value slice (.ref t) (.int k u)) Q E s := by
  obtain ⟨n, rfl⟩ := Int.eq_ofNat_of_zero_le hk
  have hn : n < l.length := by
    rcases Nat.lt_or_ge n l.length with h | h
    · exact h
    · rw [List.getElem?_eq_none (by simpa using h)] at hx; cases hx
  refine item_tupleT (j := n) ht (by omega) (by omega) ?_ (by simpa using hx) h hs
  unfold seqIndex?
  simp
  omega
end
end Ez
end
section
example : True := by
  w_top off
  trivial
open PySem PySem.W PySem.Calls PyProof.Rows
namespace Ez
def sameKind : Atom → Atom → Bool
  | .s _, .s _ => true
  | .i _, .i _ => true
  | _, _ => false
def atomLt : Atom → Atom → Bool
  | .s x, .s y => decide (x.cps.toList < y.cps.toList)
  | .i x, .i y => decide (x < y)
  | _, _ => false
def pathLe : List Atom → List Atom → Bool
  | [], _ => true
  | _ :: _, [] => false
  | a :: p, b :: q => if a = b then pathLe p q else atomLt a b
theorem pathLe_pre : ∀ {p q : List Atom} {m : Nat}, m = min p.length q.length → p.take m = q.take m → pathLe p q = decide (p.length = m)
  | [], q, m, hm, h => by simp at hm; simp [pathLe, hm]
  | a :: p, [], m, hm, h => by simp at hm; simp [pathLe, hm]
  | a :: p, b :: q, m, hm, h => by
    obtain ⟨k, rfl⟩ : ∃ k, m = k + 1 := ⟨min p.length q.length, by simp at hm; omega⟩
    simp only [List.take_succ_cons, List.cons.injEq] at h
    rw [pathLe, if_pos h.1, pathLe_pre (m := k) (by simp at hm; omega) h.2]
    simp
theorem pathLe_diff : ∀ {i : Nat} {p q : List Atom} {a b : Atom}, p.take i = q.take i → p[i]? = some a → q[i]? = some b → a ≠ b → pathLe p q = atomLt a b
  | 0, a' :: p, b' :: q, a, b, h, ha, hb, hn => by
    simp at ha hb
    subst ha hb
    rw [pathLe, if_neg hn]
  | i + 1, a' :: p, b' :: q, a, b, h, ha, hb, hn => by
    simp only [List.take_succ_cons, List.cons.injEq] at h
    rw [pathLe, if_pos h.1, pathLe_diff h.2 (by simpa using ha) (by simpa using hb) hn]
  | _, [], _, _, _, _, ha, _, _ => by simp at ha
  | _, _ :: _, [], _, _, _, _, hb, _ => by simp at hb
theorem take_next {i : Nat} {p q : List Atom} {a : Atom} (h : p.take i = q.take i) (ha : p[i]? = some a) (hb : q[i]? = some a) : p.take (i + 1) = q.take (i + 1) := by
  rw [List.take_add_one, List.take_add_one, h, ha, hb]
end Ez
end
section
example : True := by
  w_top off
  trivial
open PySem PySem.W PySem.Calls PyProof.Rows
namespace Ez
theorem Gnd.sub {s g h : Heap} {L : Addr} {m : Str → Option Value} (G : Gnd s [] g) (F : Fr g L h m) : Sub s h := fun b o e => F.keep b o (G.up b o e (by simp))
theorem Fr.sub {g h : Heap} {L : Addr} {m : Str → Option Value} (F : Fr g L h m) : Sub g h := fun b o e => F.keep b o e
theorem frSub {h₀ h h' : Heap} {L : Addr} {m : Str → Option Value} (F : Fr h₀ L h m) (hs : Sub h h') : Fr h₀ L h' m := ⟨F.ns.keeps hs, fun b o e => hs b o (F.keep b o e), F.above⟩
theorem newsSub {h₀ h h' : Heap} {L : Addr} {news : List (Addr × Obj)} (N : News h₀ L h news) (hs : Sub h h') : News h₀ L h' news := fun p hp => ⟨hs _ _ (N p hp).1, (N p hp).2⟩
/-- two paths that compare_paths_lt can weigh -/
def Comp (p q : List Atom) : Prop := ∀ i a b, p.take i = q.take i → p[i]? = some a → q[i]? = some b → sameKind a b = true
/-- an error as its maker leaves it -/
structure ErrAt (h : Heap) (e dx : Addr) (es : List DictEntry) (n : Nat) (dp sp : Addr) (code : Int) (ct : Tok) (val inf : Value) : Prop where
  inst : InstAt h e (instObj 138 dx) 138 (some (dictOf es n))
  gd : getL "document_path" es = some (some (.ref dp))
  gs : getL "schema_path" es = some (some (.ref sp))
  gc : getL "code" es = some (some (.int code ct))
  gv : getL "value" es = some (some val)
  gi : getL "info" es = some (some inf)
theorem ErrAt.up {h h' : Heap} {e dx : Addr} {es : List DictEntry} {n : Nat} {dp sp : Addr} {code : Int} {ct : Tok} {val inf : Value} (x : ErrAt h e dx es n dp sp code ct val inf) (k : Sub h h') : ErrAt h' e dx es n dp sp code ct val inf :=
  ⟨InstAt.up x.inst k, x.gd, x.gs, x.gc, x.gv, x.gi⟩
def keyLe (a b : List Atom × List Atom) : Bool := if a.1 ≠ b.1 then pathLe a.1 b.1 else pathLe a.2 b.2
end Ez
end
section
example : True := by
  w_top off
  trivial
open PySem PySem.W PySem.Calls PyProof.Rows
namespace Ez
local macro_rules | `(tactic| ktr_rel) => `(tactic| first
  | assumption
  | exact KTup.app (by ktr_rel)
  | exact KTup.cons (by ktr_rel)
  | exact AtomsAre.take _ (by ktr_rel)
  | exact ok_take _ (by ktr_rel)
  | exact Or.inl (by assumption))
local macro_rules | `(tactic| k_inst) => `(tactic| exact InstAt.up (by assumption) (fun b o e => Fr.keep (by k_asm) b o e))
local macro_rules | `(tactic| k_inst) => `(tactic| exact InstAt.bare (by assumption))
local macro_rules | `(tactic| walk_at "getAttr ref") => `(tactic| (k_here; k_dflt (first
  | (refine' get_slot' ?k1 ?k2 ?k3 ?k4 ?k5 ?k6 ?k7 ?k8 ?k9 ?k10 ?k11 ?_; (case k1 => k_asm); (case k2 => k_asm); (case k3 => k_inst); (case k4 => k_is); (case k5 => k_is); (case k6 => k_is); (case k7 => k_is); (case k8 => k_is); (case k9 => k_is); (case k10 => k_slotget); (case k11 => k_handed); k_whole))))
local macro_rules | `(tactic| walk_at "call builtin:len") => `(tactic| (k_here; (with_reducible show wpAny _ _ (call (Value.builtin "len") [Value.ref _]) _ _ _); refine len_tuple (by is_tup) (by (simp only [List.size_toArray]; omega)) ?_))
example (w : World) (h : Heap) (X : (hd.heap_39 w.params).In h) (e : PySem.Challenge.rw_ez0022_01.prog = Pg) : True := by
  revert X e
  k_fill
  intros
  trivial
local macro_rules | `(tactic| walk_at "subscriptTail") => `(tactic| (k_here; (with_reducible show wpAny _ _ (subscriptTail _ (PySem.Expr.Slice none (some _) none _) (Value.ref _) (Value.ref _)) _ _ _); (with_unfolding_all refine slice_int (by k_asm) (by k_asm) (by ktr_rel) (by omega) (by omega) ?_); intro a' h' tl' F' N' K'; (try k_sweep)))
local macro_rules | `(tactic| walk_at "call builtin:min") => `(tactic| (k_here; (with_reducible show wpAny _ _ (call (Value.builtin "min") [Value.int _ _, Value.int _ _]) _ _ _); refine min_two' rfl (by k_asm) (by k_asm) ?_; intro h' tk' tv' F' N'; (try k_sweep)))
local macro_rules | `(tactic| walk_at "compareOp Eq ref ref") => `(tactic| (k_here; (with_reducible show wpAny _ _ (compareOp CmpOp.Eq (Value.ref _) (Value.ref _)) _ _ _); refine' kpath_eq ?k1 ?k2 ?k3 ?k4 ?k5 ?k6 ?k7 ?k8 ?k9 ?_; (case k1 => k_asm); (case k2 => k_asm); (case k3 => ktr_rel); (case k4 => ktr_rel); (case k5 => ktr_rel); (case k6 => ktr_rel); (case k7 => ktr_rel); (case k8 => ktr_rel); (case k9 => ktr_units); k_whole))
local macro_rules | `(tactic| walk_at "compareOp NotEq ref ref") => `(tactic| (k_here; (with_reducible show wpAny _ _ (compareOp CmpOp.NotEq (Value.ref _) (Value.ref _)) _ _ _); refine' kpath_ne ?k1 ?k2 ?k3 ?k4 ?k5 ?k6 ?k7 ?k8 ?k9 ?_; (case k1 => k_asm); (case k2 => k_asm); (case k3 => ktr_rel); (case k4 => ktr_rel); (case k5 => ktr_rel); (case k6 => ktr_rel); (case k7 => ktr_rel); (case k8 => ktr_rel); (case k9 => ktr_units); k_whole))
local macro_rules | `(tactic| walk_at $s:str) => `(tactic| k_extra $s)
set_option maxRecDepth 100000 in
set_option maxHeartbeats 8000000 in
theorem c_cmp {w : World} {mean : ExcName → Option Value} {mg mb : Str → Option Value} {hT : Heap} {dp un : Nat} {outer : List Env} {s : Shared} {R : Result → Shared → Prop}
    {x y : Addr} {vx vy : List Value} {px py : List Atom}
   (X : (hd.heap_39 w.params).In hT) (T : Top hd.view_39 L0 mean mg mb hT) (S : Sub hT s.heap)
   (hx : PathAt s.heap x vx px) (hy : PathAt s.heap y vy py) (lx : px.length ≤ 8) (ly : py.length ≤ 8) (hA : dp < 900) (hU : un < 9000)
   (hkd : ∀ i a b, px.take i = py.take i → px[i]? = some a → py[i]? = some b → sameKind a b = true)
   (hR : ∀ h' tk, Sub s.heap h' → R (.ok (.ret (.bool (pathLe px py)))) { s with heap := h', toks := tk }) :
   codeAny (model Pg w) (AT dp un outer) (.call (.ref 36) ⟨[.ref x, .ref y], []⟩) R s := by
  k_dflt (refine' enterH X T S [] ?hl ?ho ?hcd ?hroom ?hb ?hloc ?_ ?c1 ?c2 ?c3 ?c4; (case hl => intro p hp; cases hp); (case ho => k_is); (case hcd => k_is); (case hroom => simp only [recursionLimit]; omega); (case hb => exact BindsTo.of_eq rfl); (case hloc => exact locs (by rfl)); (case c1 => rfl); (case c2 => rfl); (case c3 => rfl); (case c4 => decide))
  intro g L' h₁ tk₀ Sg G F N Xg Tg
  have hx' := hx.up (fun b o e => G.up b o e (by simp))
  have hy' := hy.up (fun b o e => G.up b o e (by simp))
  have tx := hx'.tup
  have ty := hy'.tup
  have kx : KTup g [] x vx := .inl tx
  have ky : KTup g [] y vy := .inl ty
  have ax := hx.ats
  have ay := hy.ats
  have ox := hx.ok
  have oy := hy.ok
  have ex := hx.ats.len
  have ey := hy.ats.len
  have evx : vx.toArray.size = vx.length := by simp
  have evy : vy.toArray.size = vy.length := by simp
  (try dsimp only); (try k_fold)
  k_with "pyIter ref" => (refine hold_on ?_)
  k_with "subscriptTail" => (
    (with_reducible show wpAny _ _ (subscriptTail _ _ (Value.ref _) (Value.int _ _)) _ _ _)
    with_unfolding_all refine item_tup (by is_tup) (by omega) (by omega) (by assumption) ?_)
  k_steps
  · rename List.take _ _ = List.take _ _ => hp
    have em : (min (vx.toArray.size : Int) (vy.toArray.size : Int)).toNat = min px.length py.length := by omega
    rw [em] at hp
    have e2 : ((vx.toArray.size : Int) == min (vx.toArray.size : Int) (vy.toArray.size : Int)) = pathLe px py := by
      rw [pathLe_pre rfl hp, Bool.eq_iff_iff]
      simp only [beq_iff_eq, decide_eq_true_eq]
      omega
    rw [e2]
    exact hR _ _ (G.sub (by assumption))
  · refine Hold.off ?_
    rename IsRange _ _ _ _ _ _ _ _ => hrg
    refine loop_rangeS (n := min vx.length vy.length) ["i", "a", "b", "_type"] (fun i _ l => l = [] ∧ px.take i = py.take i) rfl hrg (rng_small (by omega) (by omega)) (rng_size (by omega)) (by assumption) News.nil ⟨rfl, by simp⟩ (by intro i m l hl; rw [hl.1]; exact NoIt.nil) ?turn ?done
    (case done => (
      intro u news₁ h tk hj F₁ N₁
      exfalso
      rename ¬ (List.take _ _ = List.take _ _) => hp
      apply hp
      have em : (min (vx.toArray.size : Int) (vy.toArray.size : Int)).toNat = min vx.length vy.length := by omega
      rw [em]
      exact hj.2))
    (case turn => (
      intro i t u news₁ h tk I io hi hj F₁ N₁ hN
      obtain ⟨hnil, hpre⟩ := hj
      subst hnil
      obtain ⟨a, hpa⟩ : ∃ a, px[i]? = some a := ⟨px[i]'(by omega), by simp⟩
      obtain ⟨b, hpb⟩ : ∃ b, py[i]? = some b := ⟨py[i]'(by omega), by simp⟩
      have hkk := hkd i a b hpre hpa hpb
      obtain ⟨va, hva, ia⟩ := ax.get i hpa
      obtain ⟨vb, hvb, ib⟩ := ay.get i hpb
      have ei : ((0 : Int) + (i : Int) * 1).toNat = i := by omega
      have hvA : vx[((0 : Int) + (i : Int) * 1).toNat]? = some va := by rw [ei]; exact hva
      have hvB : vy[((0 : Int) + (i : Int) * 1).toNat]? = some vb := by rw [ei]; exact hvb
      rcases Atom.isV_cases ia with ⟨xa, ta, rfl, rfl⟩ | ⟨na, ta, rfl, rfl⟩ <;> rcases Atom.isV_cases ib with ⟨xb, tb, rfl, rfl⟩ | ⟨nb, tb, rfl, rfl⟩ <;> (try cases hkk)
      all_goals (try k_fold)
      k_with_none
      k_with "subscriptTail" => (
        (with_reducible show wpAny _ _ (subscriptTail _ _ (Value.ref _) (Value.int _ _)) _ _ _)
        with_unfolding_all refine item_tup (by is_tup) (by omega) (by omega) (by assumption) ?_)
      all_goals k_steps
      all_goals (try dsimp only)
      all_goals (try k_unfold)
      all_goals (try dsimp only)
      · rename (_ == _) = true => hq
        have hab : xa = xb := eq_of_beq hq
        subst hab
        exact TurnEnd.cont' [] (by assumption) (by assumption) (by k_mem) (fun _ h => nomatch h) ⟨(by intro z hz; simp at hz; simp [hz]), rfl, take_next hpre hpa hpb⟩
      · rename (_ == _) = false => hq
        have hab : Atom.s xa ≠ Atom.s xb := fun e => by injection e with e; rw [e] at hq; simp at hq
        have e := pathLe_diff hpre hpa hpb hab
        have z := fun tk => hR _ tk (G.sub (by assumption))
        rw [e] at z; have hlt : atomLt (.s xa) (.s xb) = true := decide_eq_true (show xa.cps.toList < xb.cps.toList by assumption); rw [hlt] at z
        exact TurnEnd.ret' (z _)
      · rename (_ == _) = false => hq
        have hab : Atom.s xa ≠ Atom.s xb := fun e => by injection e with e; rw [e] at hq; simp at hq
        have e := pathLe_diff hpre hpa hpb hab
        have z := fun tk => hR _ tk (G.sub (by assumption))
        rw [e] at z; have hlt : atomLt (.s xa) (.s xb) = false := decide_eq_false (show ¬ xa.cps.toList < xb.cps.toList by assumption); rw [hlt] at z
        exact TurnEnd.ret' (z _)
      · have hab : na = nb := by assumption
        subst hab
        exact TurnEnd.cont' [] (by assumption) (by assumption) (by k_mem) (fun _ h => nomatch h) ⟨(by intro z hz; simp at hz; simp [hz]), rfl, take_next hpre hpa hpb⟩
      · have hab : Atom.i na ≠ Atom.i nb := fun e => by injection e with e; exact absurd e (by assumption)
        have e := pathLe_diff hpre hpa hpb hab
        have z := fun tk => hR _ tk (G.sub (by assumption))
        rw [e] at z; have hlt : atomLt (.i na) (.i nb) = true := decide_eq_true (show na < nb by assumption); rw [hlt] at z
        exact TurnEnd.ret' (z _)
      · have hab : Atom.i na ≠ Atom.i nb := fun e => by injection e with e; exact absurd e (by assumption)
        have e := pathLe_diff hpre hpa hpb hab
        have z := fun tk => hR _ tk (G.sub (by assumption))
        rw [e] at z; have hlt : atomLt (.i na) (.i nb) = false := decide_eq_false (show ¬ na < nb by assumption); rw [hlt] at z
        exact TurnEnd.ret' (z _)))
end Ez
end
section
example : True := by
  w_top off
  trivial
open PySem PySem.W PySem.Calls PyProof.Rows
namespace Ez
local macro_rules | `(tactic| ktr_rel) => `(tactic| first
  | assumption
  | exact KTup.app (by ktr_rel)
  | exact KTup.cons (by ktr_rel)
  | exact AtomsAre.take _ (by ktr_rel)
  | exact ok_take _ (by ktr_rel)
  | exact Or.inl (by assumption))
local macro_rules | `(tactic| k_inst) => `(tactic| exact InstAt.up (by assumption) (fun b o e => Fr.keep (by k_asm) b o e))
local macro_rules | `(tactic| k_inst) => `(tactic| exact InstAt.bare (by assumption))
local macro_rules | `(tactic| walk_at "getAttr ref") => `(tactic| (k_here; k_dflt (first
  | (refine' get_slot' ?k1 ?k2 ?k3 ?k4 ?k5 ?k6 ?k7 ?k8 ?k9 ?k10 ?k11 ?_; (case k1 => k_asm); (case k2 => k_asm); (case k3 => k_inst); (case k4 => k_is); (case k5 => k_is); (case k6 => k_is); (case k7 => k_is); (case k8 => k_is); (case k9 => k_is); (case k10 => k_slotget); (case k11 => k_handed); k_whole))))
local macro_rules | `(tactic| walk_at "call builtin:len") => `(tactic| (k_here; (with_reducible show wpAny _ _ (call (Value.builtin "len") [Value.ref _]) _ _ _); refine len_tuple (by is_tup) (by (simp only [List.size_toArray]; omega)) ?_))
example (w : World) (h : Heap) (X : (hd.heap_39 w.params).In h) (e : PySem.Challenge.rw_ez0022_01.prog = Pg) : True := by
  revert X e
  k_fill
  intros
  trivial
local macro_rules | `(tactic| walk_at "subscriptTail") => `(tactic| (k_here; (with_reducible show wpAny _ _ (subscriptTail _ (PySem.Expr.Slice none (some _) none _) (Value.ref _) (Value.ref _)) _ _ _); (with_unfolding_all refine slice_int (by k_asm) (by k_asm) (by ktr_rel) (by omega) (by omega) ?_); intro a' h' tl' F' N' K'; (try k_sweep)))
local macro_rules | `(tactic| walk_at "call builtin:min") => `(tactic| (k_here; (with_reducible show wpAny _ _ (call (Value.builtin "min") [Value.int _ _, Value.int _ _]) _ _ _); refine min_two' rfl (by k_asm) (by k_asm) ?_; intro h' tk' tv' F' N'; (try k_sweep)))
local macro_rules | `(tactic| walk_at "compareOp Eq ref ref") => `(tactic| (k_here; (with_reducible show wpAny _ _ (compareOp CmpOp.Eq (Value.ref _) (Value.ref _)) _ _ _); refine' kpath_eq ?k1 ?k2 ?k3 ?k4 ?k5 ?k6 ?k7 ?k8 ?k9 ?_; (case k1 => k_asm); (case k2 => k_asm); (case k3 => ktr_rel); (case k4 => ktr_rel); (case k5 => ktr_rel); (case k6 => ktr_rel); (case k7 => ktr_rel); (case k8 => ktr_rel); (case k9 => ktr_units); k_whole))
local macro_rules | `(tactic| walk_at "compareOp NotEq ref ref") => `(tactic| (k_here; (with_reducible show wpAny _ _ (compareOp CmpOp.NotEq (Value.ref _) (Value.ref _)) _ _ _); refine' kpath_ne ?k1 ?k2 ?k3 ?k4 ?k5 ?k6 ?k7 ?k8 ?k9 ?_; (case k1 => k_asm); (case k2 => k_asm); (case k3 => ktr_rel); (case k4 => ktr_rel); (case k5 => ktr_rel); (case k6 => ktr_rel); (case k7 => ktr_rel); (case k8 => ktr_rel); (case k9 => ktr_units); k_whole))
local macro_rules | `(tactic| walk_at "getAttr ref") => `(tactic| (k_here; k_dflt (refine' get_own ?k1 ?k2 ?k3 ?k4 ?k5 ?k6 ?k7 ?k8 ?k9 ?_; (case k1 => k_asm); (case k2 => k_asm); (case k3 => k_inst); (case k4 => k_is); (case k5 => k_is); (case k6 => k_is); (case k7 => k_is); (case k8 => assumption); (case k9 => k_handed); k_whole)))
local macro_rules | `(tactic| walk_at $s:str) => `(tactic| k_extra $s)
set_option maxRecDepth 100000 in
set_option maxHeartbeats 8000000 in
theorem c_lt {w : World} {mean : ExcName → Option Value} {mg mb : Str → Option Value} {hT : Heap} {dp un : Nat} {outer : List Env} {s : Shared} {R : Result → Shared → Prop}
    {e1 dx1 e2 dx2 d1 s1 d2 s2 : Addr} {es1 es2 : List DictEntry} {n1 n2 : Nat} {c1 c2 : Int} {t1 t2 : Tok} {v1 v2 i1 i2 : Value} {vd1 vs1 vd2 vs2 : List Value} {pd1 ps1 pd2 ps2 : List Atom}
   (X : (hd.heap_39 w.params).In hT) (T : Top hd.view_39 L0 mean mg mb hT) (S : Sub hT s.heap)
   (E1 : ErrAt s.heap e1 dx1 es1 n1 d1 s1 c1 t1 v1 i1) (E2 : ErrAt s.heap e2 dx2 es2 n2 d2 s2 c2 t2 v2 i2)
   (hd1 : PathAt s.heap d1 vd1 pd1) (hs1 : PathAt s.heap s1 vs1 ps1) (hd2 : PathAt s.heap d2 vd2 pd2) (hs2 : PathAt s.heap s2 vs2 ps2)
   (ld1 : pd1.length ≤ 8) (ls1 : ps1.length ≤ 8) (ld2 : pd2.length ≤ 8) (ls2 : ps2.length ≤ 8) (hA : dp < 800) (hU : un < 8000)
   (kd : Comp pd1 pd2) (ks : Comp ps1 ps2)
   (hR : ∀ h' tk, Sub s.heap h' → R (.ok (.ret (.bool (keyLe (pd1, ps1) (pd2, ps2))))) { s with heap := h', toks := tk }) :
   codeAny (model Pg w) (AT dp un outer) (.call (.ref 87) ⟨[.ref e1, .ref e2], []⟩) R s := by
  k_dflt (refine' enterH X T S [] ?hl ?ho ?hcd ?hroom ?hb ?hloc ?_ ?c1 ?c2 ?c3 ?c4; (case hl => intro p hp; cases hp); (case ho => k_is); (case hcd => k_is); (case hroom => simp only [recursionLimit]; omega); (case hb => exact BindsTo.of_eq rfl); (case hloc => exact locs (by rfl)); (case c1 => rfl); (case c2 => rfl); (case c3 => rfl); (case c4 => decide))
  intro g L' h₁ tk₀ Sg G F N Xg Tg
  have up : Sub s.heap g := fun b o e => G.up b o e (by simp)
  have E1' := E1.up up
  have E2' := E2.up up
  have J1 := E1'.inst
  have J2 := E2'.inst
  have gd1 := E1.gd
  have gs1 := E1.gs
  have gd2 := E2.gd
  have gs2 := E2.gs
  have hd1' := hd1.up up
  have hs1' := hs1.up up
  have hd2' := hd2.up up
  have hs2' := hs2.up up
  have kd1 : KTup g [] d1 vd1 := .inl hd1'.tup
  have kd2 : KTup g [] d2 vd2 := .inl hd2'.tup
  have ad1 := hd1.ats
  have ad2 := hd2.ats
  have od1 := hd1.ok
  have od2 := hd2.ok
  (try dsimp only); (try k_fold)
  k_with_none
  k_with "call ref" => (
    (with_reducible show wpAny _ _ (call (Value.ref 36) [Value.ref _, Value.ref _]) _ _ _)
    refine wpAny_call (codeAny_weaken (dp := dp + 1) (un := un + 3) rfl rfl (Nat.le_refl _) (Nat.le_refl _) (c_cmp Xg Tg (Fr.sub (by assumption)) (PathAt.up (by assumption) (Fr.sub (by assumption))) (PathAt.up (by assumption) (Fr.sub (by assumption))) (by assumption) (by assumption) (by omega) (by omega) (by assumption) ?_))
    intro h' tk' hs'
    have F' := frSub (by assumption) hs'
    have N' := newsSub (by assumption) hs')
  k_steps
  all_goals (try dsimp only)
  · have z := fun tk => hR _ tk (G.sub F')
    have e : keyLe (pd1, ps1) (pd2, ps2) = pathLe ps1 ps2 := by
      unfold keyLe
      rw [if_neg (by simp_all)]
    rw [e] at z
    exact z _
  · have z := fun tk => hR _ tk (G.sub F')
    have e : keyLe (pd1, ps1) (pd2, ps2) = pathLe pd1 pd2 := by
      unfold keyLe
      rw [if_pos (by simp_all)]
    rw [e] at z
    exact z _
end Ez
end
section
example : True := by
  w_top off
  trivial
open PySem PySem.W PySem.Calls PyProof.Rows
namespace Ez
/-- an ErrorList -/
abbrev elO (items : List Value) (ep : Nat) (eld : Addr) : Obj := { cls := .ref 159, dict := some eld, data := .seq items.toArray ep }
example (w : World) (h : Heap) (X : (hd.heap_39 w.params).In h) (e : PySem.Challenge.rw_ez0022_01.prog = Pg) : True := by
  revert X e
  k_fill
  intros
  trivial
theorem el_sub (w : World) : subIn (hd.heap_39 w.params) (.ref 159) (.type "list") = some true := by k_is
theorem el_fapp (w : World) : findIn (hd.heap_39 w.params) (.ref 159) "append" = some (some (.builtin "list.append")) := by k_is
theorem el_fsort (w : World) : findIn (hd.heap_39 w.params) (.ref 159) "sort" = some (some (.builtin "list.sort")) := by k_is
theorem el_ga (w : World) : findIn (hd.heap_39 w.params) (.ref 159) "__getattribute__" = some (some (.builtin "list.__getattribute__")) := by k_is
theorem el_gn (w : World) : findIn (hd.heap_39 w.params) (.ref 159) "__getattr__" = some none := by k_is
theorem el_canon : (Manifest.canonical "list.__getattribute__" != "object.__getattribute__") = false := by decide +kernel
theorem el_tapp (w : World) : typeIn (hd.heap_39 w.params) (.builtin "list.append") = some (.type "method_descriptor") := by k_is
theorem el_tsort (w : World) : typeIn (hd.heap_39 w.params) (.builtin "list.sort") = some (.type "method_descriptor") := by k_is
theorem check_meth {M : Model} {A : Around} {E : Value → Shared → Prop} {s : Shared} {i owner n : String} {self : Value} {rest : List Value} {kw : List (Str × Value)} {Q : Unit → Shared → Prop}
    (hk : builtinKind i = some .method) (hs : splitId i = some (owner, n)) (hi : Looks M s.heap (isInstance self (.type owner)) true) (ha : argsOk i ⟨self :: rest, kw⟩) (q : Q () s) :
    wpAny M A (checkBuiltinCall i ⟨self :: rest, kw⟩) Q E s := by
  simp only [checkBuiltinCall, hk, hs]
  refine wpAny_bind (hi.here ?_)
  rw [if_neg (by decide)]
  cases hsig : Manifest.signature? i with
  | none => exact wpAny_pure q
  | some sig =>
    simp only [argsOk, hsig] at ha
    have h2 : Bind.checkArgs i sig ⟨self :: rest, kw⟩ = pure () := ha
    show wpAny M A (Bind.checkArgs i sig ⟨self :: rest, kw⟩) Q E s
    rw [h2]; exact wpAny_pure q
section
variable {prog : Program} {w : World} {A : Around} {E : Value → Shared → Prop} {s : Shared} {K : Frag} {x C : Addr} {ox : Obj} {od : Option Obj} {name : Str} {pl : Sem Bool}
theorem method_blt {id ga : String} {Q : Value × List Value → Shared → Prop} (X : K.In s.heap) (I : InstAt s.heap x ox C od) (hg : findIn K (.ref C) "__getattribute__" = some (some (.builtin ga))) (hcan : (Manifest.canonical ga != "object.__getattribute__") = false) (hgn : findIn K (.ref C) "__getattr__" = some none)
    (hf : findIn K (.ref C) name = some (some (.builtin id))) (ht : typeIn K (.builtin id) = some (.type "method_descriptor")) (hs : shadowIn od name = some false) (h : Q (.builtin id, [.ref x]) s) :
    wpAny (model prog w) A (getMethod (.ref x) name pl) Q E s := by
  unfold getMethod specialOf
  refine wpAny_bind (wpAny_bind (I.type.here ((looks_findIn X hg).here ?_)))
  dsimp only
  rw [hcan, if_neg (by decide)]
  refine wpAny_bind (wpAny_bind (I.type.here ((looks_findIn X hgn).here ?_)))
  refine wpAny_bind (wpAny_bind (I.type.here ((looks_findIn X hf).here (wpAny_bind ((looks_typeIn X ht).here ?_)))))
  rw [if_neg (by decide +kernel)]
  refine wpAny_bind (wpAny_loadPart I.at_ ?_)
  have hd := I.dict
  cases e : ox.dict with
  | none => exact wpAny_bind (wpAny_rule (wpAny_pure h))
  | some dx =>
    cases od with
    | none => rw [e] at hd; exact hd.elim
    | some o =>
      rw [e] at hd
      obtain ⟨r, a, b⟩ := Option.map_eq_some_iff.mp hs
      refine wpAny_bind (wpAny_bind (wpAny_loadPart hd ?_))
      rw [nsLook_of a]
      refine wpAny_pure ?_
      rw [b]
      exact wpAny_bind (wpAny_rule (wpAny_pure h))
theorem el_isList {M : Model} {h : Heap} {P : Params} {w : World} (X : (hd.heap_39 w.params).In h) (I : InstAt h x ox 159 od) : Looks M h (isInstance (.ref x) (.type "list")) true :=
  I.type.andThen (looks_subIn X (el_sub w))
/-- a call of a list's method on an object whose class is a list's -/
theorem call_sub_entry {id owner n : String} {b : Builtin} {self : Value} {rest : List Value} {Q : Value → Shared → Prop} (hk : builtinKind id = some .method) (hs : splitId id = some (owner, n)) (hp : plainId id = true)
    (hi : Looks (model prog w) s.heap (isInstance self (.type owner)) true) (ha : argsOk id ⟨self :: rest, []⟩) (hb : entryFor table id = some b)
    (hc : wpAny (model prog w) A.in1 (b ⟨self :: rest, []⟩) (fun fin s' => ∃ v, fin = .done (.ret v) ∧ Q v s') E s) : wpAny (model prog w) A (call (.builtin id) (self :: rest)) Q E s := by
  refine wpAny_call (codeAny_call_builtin hp hb (check_meth hk hs hi ha (wpAny_mono hc (fun fin s' h' => ?_) fun _ _ h' => h')))
  obtain ⟨v, rfl, hv⟩ := h'; exact hv
end
section
variable {w : World} {A : Around} {E : Value → Shared → Prop} {s : Shared} {el eld : Addr} {items : List Value} {ep : Nat}
theorem el_inst {h : Heap} {od : Obj} (ho : h.get? el = some (elO items ep eld)) (hd : h.get? eld = some od) : InstAt h el (elO items ep eld) 159 (some od) := ⟨ho, rfl, rfl, hd⟩
theorem el_method {name : Str} {id : String} {es : List DictEntry} {n : Nat} {pl : Sem Bool} {Q : Value × List Value → Shared → Prop} (X : (hd.heap_39 w.params).In s.heap) (ho : s.heap.get? el = some (elO items ep eld)) (hde : s.heap.get? eld = some (dictOf es n))
    (hf : findIn (hd.heap_39 w.params) (.ref 159) name = some (some (.builtin id))) (ht : typeIn (hd.heap_39 w.params) (.builtin id) = some (.type "method_descriptor")) (hn : getL name es = some none) (h : Q (.builtin id, [.ref el]) s) :
    wpAny (model Pg w) A (getMethod (.ref el) name pl) Q E s :=
  method_blt X (el_inst ho hde) (el_ga w) el_canon (el_gn w) hf ht (by show (lookIn name (dictOf es n)).map _ = _; rw [lookIn_dict, hn]; rfl) h
theorem el_append {v : Value} {od : Obj} {Q : Value → Shared → Prop} (X : (hd.heap_39 w.params).In s.heap) (ho : s.heap.get? el = some (elO items ep eld)) (hd : s.heap.get? eld = some od) (hsz : items.length ≤ 1000)
    (h : ∀ h', Heap.SameBut el s.heap h' → h'.get? el = some (elO (items ++ [v]) (ep + 1) eld) → Q .none { s with heap := h' }) :
    wpAny (model Pg w) A (call (.builtin "list.append") [.ref el, v]) Q E s := by
  refine call_sub_entry (owner := "list") (n := "append") (by decide +kernel) (by decide +kernel) (by decide +kernel) (el_isList (P := w.params) X (el_inst ho hd)) (args_list_append _ _) entry_list_append ?_
  show wpAny _ _ (updateSeq el (·.push v) >>= fun _ => ret .none) _ _ s
  refine wpAny_bind ?_
  have e : Obj.mapSeq (·.push v) (elO items ep eld) = elO (items ++ [v]) (ep + 1) eld := by
    unfold Obj.mapSeq
    simp
  refine wpAny_updateSeq ho rfl (wpAny_pure ⟨.none, rfl, h _ (Heap.SameBut.update ..) ?_⟩) (by rw [sizeLine_eq, List.size_toArray]; omega)
  rw [Heap.get?_update_self _ ho (by rw [e]; rfl), e]
end
end Ez
end
section
example : True := by
  w_top off
  trivial
open PySem PySem.W PySem.Calls PyProof.Rows
namespace Ez
def evalT {α : Type} (c : Nat → Nat → Bool) (n : Nat) : KasT α → Option α
  | .ret a => some a
  | .ask i j k => if i < n ∧ j < n then evalT c n (k (c i j)) else none
def ascending : List Nat → Bool
  | [] => true
  | [_] => true
  | a :: b :: r => decide (a ≤ b) && ascending (b :: r)
def goodR (n : Nat) (r : List Nat) : Bool := match evalT (fun i j => decide (r.getD i 0 ≤ r.getD j 0)) n (kas_sort n) with
  | some p => p.toList.isPerm (List.range n) && ascending (p.toList.map fun i => r.getD i 0)
  | none => false
/-- ascending lists of that length over lo .. hi -/
def ups (hi : Nat) : Nat → Nat → List (List Nat)
  | 0, _ => [[]]
  | n + 1, lo => ((List.range hi).filter (lo ≤ ·)).flatMap fun a => (ups hi n a).map (a :: ·)
def allR (n : Nat) : List (List Nat) := (ups n (n - 1) 0).flatMap fun l => (List.range n).map fun a => l ++ [a]
theorem good2 : (allR 2).all (goodR 2) = true := by decide +kernel
theorem good3 : (allR 3).all (goodR 3) = true := by decide +kernel
theorem good4 : (allR 4).all (goodR 4) = true := by decide +kernel
theorem good5 : (allR 5).all (goodR 5) = true := by decide +kernel
theorem good6 : (allR 6).all (goodR 6) = true := by decide +kernel
end Ez
end
section
example : True := by
  w_top off
  trivial
open PySem PySem.W PySem.Calls PyProof.Rows
namespace Ez
theorem goodAll {n : Nat} (h2 : 2 ≤ n) (h6 : n ≤ 6) : (allR n).all (goodR n) = true := by
  obtain rfl | rfl | rfl | rfl | rfl : n = 2 ∨ n = 3 ∨ n = 4 ∨ n = 5 ∨ n = 6 := by omega
  · exact good2
  · exact good3
  · exact good4
  · exact good5
  · exact good6
theorem evalT_congr {α : Type} {c d : Nat → Nat → Bool} {n : Nat} (h : ∀ i j, i < n → j < n → c i j = d i j) : ∀ t : KasT α, evalT c n t = evalT d n t
  | .ret a => rfl
  | .ask i j k => by
    unfold evalT
    by_cases hc : i < n ∧ j < n
    · rw [if_pos hc, if_pos hc, h i j hc.1 hc.2, evalT_congr h (k (d i j))]
    · rw [if_neg hc, if_neg hc]
theorem mem_ups {hi : Nat} : ∀ {n lo : Nat} {l : List Nat}, l.length = n → (∀ a ∈ l, lo ≤ a ∧ a < hi) → l.Pairwise (· ≤ ·) → l ∈ ups hi n lo
  | 0, lo, l, h, _, _ => by rw [List.length_eq_zero_iff.mp h]; exact .head _
  | n + 1, lo, [], h, _, _ => by simp at h
  | n + 1, lo, a :: l, h, hb, hp => by
    have ha := hb a (.head _)
    rw [List.pairwise_cons] at hp
    unfold ups
    rw [List.mem_flatMap]
    refine ⟨a, ?_, ?_⟩
    · rw [List.mem_filter, List.mem_range]
      exact ⟨ha.2, by simpa using ha.1⟩
    · exact List.mem_map.mpr ⟨l, mem_ups (by simpa using h) (fun b hb' => ⟨hp.1 b hb', (hb b (.tail _ hb')).2⟩) hp.2, rfl⟩
theorem asc_pair : ∀ (l : List Nat), ascending l = true → l.Pairwise (· ≤ ·)
  | [], _ => .nil
  | [a], _ => List.pairwise_singleton _ _
  | a :: b :: r, h => by
    simp only [ascending, Bool.and_eq_true, decide_eq_true_eq] at h
    have ih := asc_pair (b :: r) h.2
    refine List.pairwise_cons.mpr ⟨fun c hc => ?_, ih⟩
    rcases List.mem_cons.mp hc with rfl | hc
    · exact h.1
    · exact Nat.le_trans h.1 ((List.pairwise_cons.mp ih).1 c hc)
def rankOf (le : Nat → Nat → Bool) (n i : Nat) : Nat := (List.range n).countP fun j => !le i j
section
variable {le : Nat → Nat → Bool} {n : Nat} (refl : ∀ i, le i i = true) (trans : ∀ i j k, le i j = true → le j k = true → le i k = true) (total : ∀ i j, le i j = true ∨ le j i = true)
include refl trans total
theorem rank_lt {i : Nat} (hi : i < n) : rankOf le n i < n := by
  unfold rankOf
  have h0 : (List.range n).countP (fun j => !le i j) ≤ (List.range n).length := List.countP_le_length
  rcases Nat.lt_or_eq_of_le h0 with h1 | h1
  · simpa using h1
  · have := List.countP_eq_length.mp h1 i (List.mem_range.mpr hi)
    rw [refl i] at this
    cases this
theorem rank_le {i j : Nat} (hi : i < n) (hj : j < n) : decide (rankOf le n i ≤ rankOf le n j) = le i j := by
  cases h : le i j with
  | true =>
    rw [decide_eq_true_eq]
    refine List.countP_mono_left fun k _ hk => ?_
    simp only [Bool.not_eq_true'] at hk ⊢
    cases q : le j k with
    | false => rfl
    | true => rw [trans i j k h q] at hk; cases hk
  | false =>
    rw [decide_eq_false_iff_not, Nat.not_le]
    have hji : le j i = true := (total j i).resolve_right (by rw [h]; decide)
    unfold rankOf
    have hsub : ∀ k ∈ List.range n, (!le j k) = true → (!le i k) = true := by
      intro k _ hk
      simp only [Bool.not_eq_true'] at hk ⊢
      cases q : le i k with
      | false => rfl
      | true => rw [trans j i k hji q] at hk; cases hk
    have hle := List.countP_mono_left hsub
    rcases Nat.lt_or_eq_of_le hle with h1 | h1
    · exact h1
    · exfalso
      have e : ∀ k ∈ List.range n, ((!le j k) = true ↔ (!le i k) = true) := by
        have key : ∀ (l : List Nat), (∀ k ∈ l, (!le j k) = true → (!le i k) = true) → l.countP (fun k => !le j k) = l.countP (fun k => !le i k) → ∀ k ∈ l, ((!le j k) = true ↔ (!le i k) = true) := by
          intro l
          induction l with
          | nil => intro _ _ k hk; cases hk
          | cons a r ih =>
            intro hs hc k hk
            have hm := List.countP_mono_left (p := fun k => !le j k) (q := fun k => !le i k) (l := r) fun x hx => hs x (.tail _ hx)
            rw [List.countP_cons, List.countP_cons] at hc
            have ha := hs a (.head _)
            rcases List.mem_cons.mp hk with rfl | hk
            · refine ⟨ha, fun q => ?_⟩
              cases q2 : (!le j k) with
              | true => rfl
              | false => rw [q, q2] at hc; simp at hc; omega
            · refine ih (fun x hx => hs x (.tail _ hx)) ?_ k hk
              cases q1 : (!le j a) with
              | true => have q2 := ha q1; rw [q1, q2] at hc; simpa using hc
              | false =>
                cases q2 : (!le i a) with
                | false => rw [q1, q2] at hc; simpa using hc
                | true => rw [q1, q2] at hc; simp at hc; omega
        exact key _ hsub h1
      have := (e j (List.mem_range.mpr hj)).mpr (by rw [h]; rfl)
      rw [refl j] at this
      cases this
/-- the library's sort, of a list whose all but last items stand in order -/
theorem sort_ok (h2 : 2 ≤ n) (h6 : n ≤ 6) (hs : ∀ i j, i ≤ j → j + 1 < n → le i j = true) :
    ∃ p, evalT le n (kas_sort n) = some p ∧ p.toList.Perm (List.range n) ∧ p.toList.Pairwise fun i j => le i j = true := by
  have hm : ((List.range n).map (rankOf le n)) ∈ allR n := by
    unfold allR
    rw [List.mem_flatMap]
    refine ⟨(List.range (n - 1)).map (rankOf le n), mem_ups (by simp) (fun a ha => ?_) ?_, ?_⟩
    · obtain ⟨i, hi, rfl⟩ := List.mem_map.mp ha
      exact ⟨Nat.zero_le _, rank_lt refl trans total (by have := List.mem_range.mp hi; omega)⟩
    · rw [List.pairwise_map]
      refine List.Pairwise.imp_of_mem (R := fun a b => a < b) (fun {a b} ha hb hab => ?_) List.pairwise_lt_range
      have ha' := List.mem_range.mp ha
      have hb' := List.mem_range.mp hb
      have z := rank_le refl trans total (n := n) (i := a) (j := b) (by omega) (by omega)
      rw [hs a b (by omega) (by omega)] at z
      exact of_decide_eq_true z
    · refine List.mem_map.mpr ⟨rankOf le n (n - 1), List.mem_range.mpr (rank_lt refl trans total (by omega)), ?_⟩
      obtain ⟨k, rfl⟩ : ∃ k, n = k + 1 := ⟨n - 1, by omega⟩
      rw [List.range_succ, List.map_append]
      simp
  have hg := List.all_eq_true.mp (goodAll h2 h6) _ hm
  have hd : ∀ i, i < n → ((List.range n).map (rankOf le n)).getD i 0 = rankOf le n i := by
    intro i hi
    simp [List.getD, hi]
  have hc := evalT_congr (α := Array Nat) (c := fun i j => decide (((List.range n).map (rankOf le n)).getD i 0 ≤ ((List.range n).map (rankOf le n)).getD j 0)) (d := le) (n := n) (fun i j hi hj => by
    rw [hd i hi, hd j hj]; exact rank_le refl trans total hi hj) (kas_sort n)
  unfold goodR at hg
  rw [hc] at hg
  split at hg
  · rename_i p hp
    rw [Bool.and_eq_true] at hg
    have perm := List.isPerm_iff.mp hg.1
    refine ⟨p, hp, perm, ?_⟩
    have asc := asc_pair _ hg.2
    rw [List.pairwise_map] at asc
    refine List.Pairwise.imp_of_mem (fun {a b} ha hb hab => ?_) asc
    have ha' := List.mem_range.mp (perm.mem_iff.mp ha)
    have hb' := List.mem_range.mp (perm.mem_iff.mp hb)
    rw [hd a ha', hd b hb'] at hab
    rw [← rank_le refl trans total ha' hb']
    exact decide_eq_true hab
  · cases hg
end
end Ez
end
section
example : True := by
  w_top off
  trivial
open PySem PySem.W PySem.Calls PyProof.Rows
namespace Ez
/-- the errors of a run: where they lie, what they bear -/
structure Errs where
  ea : Nat → Addr
  ed : Nat → Addr
  dp : Nat → Addr
  sp : Nat → Addr
  es : Nat → List DictEntry
  en : Nat → Nat
  vd : Nat → List Value
  vs : Nat → List Value
  kd : Nat → List Atom
  ks : Nat → List Atom
  code : Nat → Int
  ct : Nat → Tok
  vt : Nat → Tok
  inf : Nat → Value
structure ErrV (D : Errs) (h : Heap) (i : Nat) : Prop where
  obj : ErrAt h (D.ea i) (D.ed i) (D.es i) (D.en i) (D.dp i) (D.sp i) (D.code i) (D.ct i) (.int i (D.vt i)) (D.inf i)
  pd : PathAt h (D.dp i) (D.vd i) (D.kd i)
  ps : PathAt h (D.sp i) (D.vs i) (D.ks i)
  ld : (D.kd i).length ≤ 8
  ls : (D.ks i).length ≤ 8
theorem ErrV.up {D : Errs} {h h' : Heap} {i : Nat} (v : ErrV D h i) (k : Sub h h') : ErrV D h' i := ⟨v.obj.up k, v.pd.up k, v.ps.up k, v.ld, v.ls⟩
def Errs.key (D : Errs) (i : Nat) : List Atom × List Atom := (D.kd i, D.ks i)
def Errs.le (D : Errs) (i j : Nat) : Bool := keyLe (D.key i) (D.key j)
structure Errs.Ok (D : Errs) : Prop where
  refl : ∀ i, D.le i i = true
  trans : ∀ i j k, D.le i j = true → D.le j k = true → D.le i k = true
  total : ∀ i j, D.le i j = true ∨ D.le j i = true
  cd : ∀ i j, Comp (D.kd i) (D.kd j)
  cs : ∀ i j, Comp (D.ks i) (D.ks j)
theorem kasWp_eval {α : Type} {c : Nat → Nat → Bool} {n : Nat} {cmp : Nat → Nat → (Bool → Shared → Prop) → Shared → Prop} {G : Shared → Prop}
    (hc : ∀ i j C s, i < n → j < n → G s → (∀ s', G s' → C (c i j) s') → cmp i j C s) : ∀ (t : KasT α) (p : α), evalT c n t = some p → ∀ (s : Shared) (Q : α → Shared → Prop), G s → (∀ s', G s' → Q p s') → t.kasWp cmp Q s
  | .ret a, p, h, s, Q, g, hq => by
    cases h
    exact hq s g
  | .ask i j k, p, h, s, Q, g, hq => by
    unfold evalT at h
    by_cases hij : i < n ∧ j < n
    · rw [if_pos hij] at h
      exact hc i j _ s hij.1 hij.2 g fun s' g' => kasWp_eval hc (k (c i j)) p h s' Q g' hq
    · rw [if_neg hij] at h; cases h
section
variable {w : World} {A : Around} {E : Value → Shared → Prop} {s : Shared} {mean : ExcName → Option Value} {mg mb : Str → Option Value} {hT : Heap} {outer : List Env} {D : Errs}
example (w : World) (h : Heap) (X : (hd.heap_39 w.params).In h) (e : PySem.Challenge.rw_ez0022_01.prog = Pg) : True := by
  revert X e
  k_fill
  intros
  trivial
theorem ve_flt (w : World) : findIn (hd.heap_39 w.params) (.ref 138) "__lt__" = some (some (.ref 87)) := by k_is
theorem ve_isfn (w : World) : isFn (hd.heap_39 w.params) (.ref 87) = true := by k_is
theorem err_lt {i j : Nat} {Q : Bool → Shared → Prop} (X : (hd.heap_39 w.params).In hT) (T : Top hd.view_39 L0 mean mg mb hT) (S : Sub hT s.heap) (Vi : ErrV D hT i) (Vj : ErrV D hT j) (O : D.Ok)
    (hh : A.handled = none) (hf : A.frames = some outer) (hdp : A.depth < 800) (hun : A.units < 7900)
    (h : ∀ h' tk, Sub s.heap h' → Q (D.le i j) { s with heap := h', toks := tk }) : wpAny (model Pg w) A (keyLt' oneType' (.ref (D.ea i)) (.ref (D.ea j))) Q E s := by
  have Vi' := Vi.up S
  have Vj' := Vj.up S
  rw [keyLt'_oneType, oneLt'_eq]
  simp only [if_true]
  refine wpAny_bind (wpAny_cRoomFor (by have := cLine_is; omega) ?_)
  refine wpAny_bind (ifBound_K (X.keeps S) Vi'.obj.inst (ve_flt w) (ve_isfn w) ?_)
  refine wpAny_call (codeAny_weaken (dp := A.depth) (un := A.units) hh hf (Nat.le_refl _) (Nat.le_refl _) (c_lt X T S Vi'.obj Vj'.obj Vi'.pd Vi'.ps Vj'.pd Vj'.ps Vi.ld Vi.ls Vj.ld Vj.ls (by omega) (by omega) (O.cd i j) (O.cs i j) fun h' tk hs => ?_))
  exact wpAny_truthy_bool (h h' tk hs)
end
end Ez
end
section
example : True := by
  w_top off
  trivial
open PySem PySem.W PySem.Calls PyProof.Rows
namespace Ez
def Errs.refs (D : Errs) (is : List Nat) : List Value := is.map fun i => .ref (D.ea i)
theorem refs_getD {D : Errs} {is : List Nat} {k : Nat} (hk : k < is.length) : (D.refs is).getD k Value.none = .ref (D.ea (is.getD k 0)) := by
  unfold Errs.refs
  simp [List.getD, hk]
theorem perm_getD {is : List Nat} {p : List Nat} (hp : p.Perm (List.range is.length)) : (p.map fun k => is.getD k 0).Perm is := by
  have h1 := hp.map fun k => is.getD k 0
  have h2 : (List.range is.length).map (fun k => is.getD k 0) = is := by
    apply List.ext_getElem?
    intro k
    by_cases hk : k < is.length
    · simp [List.getD, hk]
    · simp [List.getElem?_eq_none (Nat.le_of_not_lt hk), hk]
  rw [h2] at h1
  exact h1
theorem elO_upd (items : List Value) (ep : Nat) (eld : Addr) (out : List Value) : ∃ ep', Obj.mapSeq (fun _ => out.toArray) (elO items ep eld) = elO out ep' eld := ⟨_, rfl⟩
section
variable {w : World} {A : Around} {E : Value → Shared → Prop} {s : Shared} {mean : ExcName → Option Value} {mg mb : Str → Option Value} {hT : Heap} {outer : List Env} {D : Errs}
theorem el_sort {el eld : Addr} {is : List Nat} {ep : Nat} {od : Obj} {Q : Value → Shared → Prop} (X : (hd.heap_39 w.params).In hT) (T : Top hd.view_39 L0 mean mg mb hT) (S : Sub hT s.heap) (V : ∀ i ∈ is, ErrV D hT i) (O : D.Ok)
    (ho : s.heap.get? el = some (elO (D.refs is) ep eld)) (hde : s.heap.get? eld = some od) (hel : hT.get? el = none) (h6 : is.length ≤ 6) (h1 : 1 ≤ is.length)
    (hpre : ∀ a b, a ≤ b → b + 1 < is.length → D.le (is.getD a 0) (is.getD b 0) = true)
    (hh : A.handled = none) (hf : A.frames = some outer) (hdp : A.depth < 700) (hun : A.units < 7000)
    (h : ∀ h' tk is' ep', (∀ b o, s.heap.get? b = some o → b ≠ el → h'.get? b = some o) → h'.get? el = some (elO (D.refs is') ep' eld) → is'.Perm is → is'.Pairwise (fun i j => D.le i j = true) → Q .none { s with heap := h', toks := tk }) :
    wpAny (model Pg w) A (call (.builtin "list.sort") [.ref el]) Q E s := by
  refine call_sub_entry (owner := "list") (n := "sort") (by decide +kernel) (by decide +kernel) (by decide +kernel) (el_isList (P := w.params) (X.keeps S) (el_inst ho hde)) (args_list_sort _) entry_list_sort ?_
  have hlt : el < s.heap.objs.size := Heap.lt_size ho
  have hlen : (D.refs is).length = is.length := by simp [Errs.refs]
  have hasz : (D.refs is).toArray.size = is.length := by rw [List.size_toArray, hlen]
  rw [list_sort_plain]
  refine wpAny_bind (listItems_at ho rfl ?_)
  refine wpAny_bind (listUpdate_at ho rfl ?_ (by rw [hasz, sizeLine_eq]; omega) (Nat.zero_le _))
  obtain ⟨ep1, e1⟩ := elO_upd (D.refs is) ep eld []
  have ho1 : (s.heap.update el (Obj.mapSeq fun _ => (#[] : Array Value))).get? el = some (elO [] ep1 eld) := by
    have := Heap.get?_update_self (Obj.mapSeq fun _ => (#[] : Array Value)) ho (by rw [show Obj.mapSeq (fun _ => (#[] : Array Value)) (elO (D.refs is) ep eld) = elO [] ep1 eld from e1]; rfl)
    rw [this]; exact congrArg some e1
  have s1 := Heap.SameBut.update s.heap el (Obj.mapSeq fun _ => (#[] : Array Value))
  refine wpAny_bind (seqEpoch_at ho1 rfl ?_)
  refine wpAny_bind (wpAny_newTuple ?_ (by show (D.refs is).length ≤ _; rw [hlen, sizeLine_eq]; omega))
  refine wpAny_bind (wpAny_newList ?_ (Nat.zero_le _))
  refine wpAny_holding ?_
  show wpAny (model Pg w) A.in1 _ _ E { s with heap := ((s.heap.update el (Obj.mapSeq fun _ => #[])).push (seqObj "tuple" (D.refs is).toArray 0)).push (seqObj "list" #[] 0) }
  generalize hh3 : ((s.heap.update el (Obj.mapSeq fun _ => (#[] : Array Value))).push (seqObj "tuple" (D.refs is).toArray 0)).push (seqObj "list" #[] 0) = h3
  have k3 : ∀ b o, s.heap.get? b = some o → b ≠ el → h3.get? b = some o := fun b o e n => by
    rw [← hh3]
    exact Heap.get?_push_of_some _ (Heap.get?_push_of_some _ ((s1.2 b n).trans e))
  have ho3 : h3.get? el = some (elO [] ep1 eld) := by
    rw [← hh3]
    exact Heap.get?_push_of_some _ (Heap.get?_push_of_some _ ho1)
  have S3 : Sub hT h3 := fun b o e => k3 b o (S b o e) (fun z => by rw [z, hel] at e; cases e)
  dsimp only
  rw [hasz]
  -- the end, alike in both
  have fin : ∀ (out : List Nat) (h4 : Heap), Sub h3 h4 → ∃ ep', (∀ b o, s.heap.get? b = some o → b ≠ el → (h4.update el (Obj.mapSeq fun _ => (D.refs out).toArray)).get? b = some o) ∧ (h4.update el (Obj.mapSeq fun _ => (D.refs out).toArray)).get? el = some (elO (D.refs out) ep' eld) := by
    intro out h4 hs
    obtain ⟨ep2, e2⟩ := elO_upd [] ep1 eld (D.refs out)
    refine ⟨ep2, fun b o e n => ((Heap.SameBut.update h4 el (Obj.mapSeq fun _ => (D.refs out).toArray)).2 b n).trans (hs b o (k3 b o e n)), ?_⟩
    have := Heap.get?_update_self (Obj.mapSeq fun _ => (D.refs out).toArray) (hs el _ ho3) (by rw [e2]; rfl)
    rw [this]; exact congrArg some e2
  by_cases h2 : is.length < 2
  · rw [if_pos h2, if_pos h2]
    refine wpAny_bind (wpAny_pure ?_)
    rw [StateT.run_pure]
    refine wpAny_bind (wpAny_pure ?_)
    dsimp only
    refine wpAny_bind (seqEpoch_at ho3 rfl ?_)
    have hz : (arrOf (SortSt.mk' general' ((D.refs is).toArray.zip (D.refs is).toArray) #[] 7 none)).map (·.2) = (D.refs is).toArray := by
      obtain ⟨a, rfl⟩ : ∃ a, is = [a] := List.length_eq_one_iff.mp (by omega)
      show ((D.refs [a]).toArray.zip (D.refs [a]).toArray).map (·.2) = _
      unfold Errs.refs
      simp
    rw [hz]
    refine wpAny_bind (listUpdate_at ho3 rfl ?_ (Nat.zero_le _) (by rw [hasz, sizeLine_eq]; omega))
    simp only [bne_self_eq_false, Bool.false_eq_true, if_false]
    obtain ⟨ep', f1, f2⟩ := fin is h3 Sub.rfl'
    refine wpAny_pure ⟨.none, rfl, h _ s.toks is ep' f1 f2 (.refl _) ?_⟩
    obtain ⟨a, rfl⟩ : ∃ a, is = [a] := List.length_eq_one_iff.mp (by omega)
    exact List.pairwise_singleton _ _
  · rw [if_neg h2, if_neg h2]
    have hX3 := X.keeps S3
    refine wpAny_bind (kas_kind (T := .ref 138) (by rw [hlen]; omega) (fun v hv => ?_) (by decide) (by decide) ?_)
    · obtain ⟨i, hi, rfl⟩ := List.mem_map.mp hv
      exact ((V i hi).up S3).obj.inst.type
    have est : SortSt.mk' oneType' ((D.refs is).toArray.zip (D.refs is).toArray) #[] 7 none = kas_st oneType' (pairsOf (D.refs is)) (List.toArray (List.range (D.refs is).length)) := by
      have e := kas_range (pairsOf (D.refs is))
      rw [pairsOf_size] at e
      show SortSt.mk' oneType' (pairsOf (D.refs is)) #[] 7 none = SortSt.mk' oneType' ((List.toArray (List.range (D.refs is).length)).map (kas_item (pairsOf (D.refs is)))) #[] 7 none
      rw [e]
    obtain ⟨p, hp, hperm, hpw⟩ := sort_ok (le := fun a b => D.le (is.getD a 0) (is.getD b 0)) (n := is.length) (fun i => O.refl _) (fun i j k => O.trans _ _ _) (fun i j => O.total _ _) (by omega) h6 hpre
    have hps : p.size = is.length := by
      have := hperm.length_eq
      simpa using this
    have ask : (kas_sort (D.refs is).length).kasWp (kas_ask Pg w A.in1 oneType' (D.refs is)) (fun q s' => q = p ∧ ∃ h4 tk, s' = { s with heap := h4, toks := tk } ∧ Sub h3 h4) { s with heap := h3 } := by
      rw [hlen]
      refine kasWp_eval (c := fun a b => D.le (is.getD a 0) (is.getD b 0)) (n := is.length) (G := fun s' => ∃ h4 tk, s' = { s with heap := h4, toks := tk } ∧ Sub h3 h4) ?_ _ p hp _ _ ⟨h3, s.toks, rfl, Sub.rfl'⟩ (fun s' g => ⟨rfl, g⟩)
      rintro i j C s' hi hj ⟨h4, tk, rfl, hs⟩ hC
      have hmi : ∀ k, k < is.length → is.getD k 0 ∈ is := fun k hk => by
        have : is.getD k 0 = is[k] := by simp [List.getD, hk]
        rw [this]; exact List.getElem_mem hk
      unfold kas_ask
      rw [refs_getD hi, refs_getD hj]
      exact err_lt X T (S3.trans hs) (V _ (hmi i hi)) (V _ (hmi j hj)) O hh hf (by show A.depth < 800; omega) (by show A.units + 1 < 7900; omega) fun h5 tk5 hs5 => hC _ ⟨h5, tk5, rfl, hs.trans hs5⟩
    rw [kas_ask_eq] at ask
    have run := kas_runs (E := E) (Q := fun _ st' s' => arrOf st' = p.map (kas_item (pairsOf (D.refs is))) ∧ failedOf st' = none ∧ ∃ h4 tk, s' = { s with heap := h4, toks := tk } ∧ Sub h3 h4)
      (by rw [hlen]; omega) (by rw [hlen]; omega) (fun p' st' s' a1 a2 a3 a4 => ⟨by rw [a2, a4.1], a3, a4.2⟩) ask
    rw [← est] at run
    refine wpAny_bind (wpAny_mono run ?_ fun _ _ e => e)
    rintro ⟨⟨⟩, st'⟩ s' ⟨har, hfail, h4, tk, rfl, hs⟩
    dsimp only
    have hout : (arrOf st').map (·.2) = (D.refs (p.toList.map fun k => is.getD k 0)).toArray := by
      apply Array.toList_inj.mp
      rw [har, Array.map_map, Array.toList_map]
      show _ = (D.refs _)
      unfold Errs.refs
      rw [List.map_map]
      refine List.map_congr_left fun k hk => ?_
      show (kas_item (pairsOf (is.map fun i => Value.ref (D.ea i))) k).2 = _
      rw [kas_item_eq]
      exact refs_getD (D := D) (List.mem_range.mp (hperm.mem_iff.mp hk))
    refine wpAny_bind (seqEpoch_at (hs _ _ ho3) rfl ?_)
    rw [hout]
    refine wpAny_bind (listUpdate_at (hs _ _ ho3) rfl ?_ (Nat.zero_le _) (by rw [List.size_toArray, sizeLine_eq]; simp [Errs.refs, hps]; omega))
    rw [hfail]
    simp only [bne_self_eq_false, Bool.false_eq_true, if_false]
    obtain ⟨ep', f1, f2⟩ := fin (p.toList.map fun k => is.getD k 0) h4 hs
    refine wpAny_pure ⟨.none, rfl, h _ tk _ ep' f1 f2 (perm_getD hperm) ?_⟩
    rw [List.pairwise_map]
    exact hpw
end
end Ez
end
section
example : True := by
  w_top off
  trivial
open PySem PySem.W PySem.Calls PyProof.Rows
namespace Ez
local macro_rules | `(tactic| ktr_rel) => `(tactic| first
  | assumption
  | exact KTup.app (by ktr_rel)
  | exact KTup.cons (by ktr_rel)
  | exact AtomsAre.take _ (by ktr_rel)
  | exact ok_take _ (by ktr_rel)
  | exact Or.inl (by assumption))
local macro_rules | `(tactic| k_inst) => `(tactic| exact InstAt.up (by assumption) (fun b o e => Fr.keep (by k_asm) b o e))
local macro_rules | `(tactic| k_inst) => `(tactic| exact InstAt.bare (by assumption))
local macro_rules | `(tactic| walk_at "getAttr ref") => `(tactic| (k_here; k_dflt (first
  | (refine' get_slot' ?k1 ?k2 ?k3 ?k4 ?k5 ?k6 ?k7 ?k8 ?k9 ?k10 ?k11 ?_; (case k1 => k_asm); (case k2 => k_asm); (case k3 => k_inst); (case k4 => k_is); (case k5 => k_is); (case k6 => k_is); (case k7 => k_is); (case k8 => k_is); (case k9 => k_is); (case k10 => k_slotget); (case k11 => k_handed); k_whole))))
local macro_rules | `(tactic| walk_at "call builtin:len") => `(tactic| (k_here; (with_reducible show wpAny _ _ (call (Value.builtin "len") [Value.ref _]) _ _ _); refine len_tuple (by is_tup) (by (simp only [List.size_toArray]; omega)) ?_))
example (w : World) (h : Heap) (X : (hd.heap_39 w.params).In h) (e : PySem.Challenge.rw_ez0022_01.prog = Pg) : True := by
  revert X e
  k_fill
  intros
  trivial
local macro_rules | `(tactic| walk_at "subscriptTail") => `(tactic| (k_here; (with_reducible show wpAny _ _ (subscriptTail _ (PySem.Expr.Slice none (some _) none _) (Value.ref _) (Value.ref _)) _ _ _); (with_unfolding_all refine slice_int (by k_asm) (by k_asm) (by ktr_rel) (by omega) (by omega) ?_); intro a' h' tl' F' N' K'; (try k_sweep)))
local macro_rules | `(tactic| walk_at "call builtin:min") => `(tactic| (k_here; (with_reducible show wpAny _ _ (call (Value.builtin "min") [Value.int _ _, Value.int _ _]) _ _ _); refine min_two' rfl (by k_asm) (by k_asm) ?_; intro h' tk' tv' F' N'; (try k_sweep)))
local macro_rules | `(tactic| walk_at "compareOp Eq ref ref") => `(tactic| (k_here; (with_reducible show wpAny _ _ (compareOp CmpOp.Eq (Value.ref _) (Value.ref _)) _ _ _); refine' kpath_eq ?k1 ?k2 ?k3 ?k4 ?k5 ?k6 ?k7 ?k8 ?k9 ?_; (case k1 => k_asm); (case k2 => k_asm); (case k3 => ktr_rel); (case k4 => ktr_rel); (case k5 => ktr_rel); (case k6 => ktr_rel); (case k7 => ktr_rel); (case k8 => ktr_rel); (case k9 => ktr_units); k_whole))
local macro_rules | `(tactic| walk_at "compareOp NotEq ref ref") => `(tactic| (k_here; (with_reducible show wpAny _ _ (compareOp CmpOp.NotEq (Value.ref _) (Value.ref _)) _ _ _); refine' kpath_ne ?k1 ?k2 ?k3 ?k4 ?k5 ?k6 ?k7 ?k8 ?k9 ?_; (case k1 => k_asm); (case k2 => k_asm); (case k3 => ktr_rel); (case k4 => ktr_rel); (case k5 => ktr_rel); (case k6 => ktr_rel); (case k7 => ktr_rel); (case k8 => ktr_rel); (case k9 => ktr_units); k_whole))
local macro_rules | `(tactic| walk_at "getAttr ref") => `(tactic| (k_here; k_dflt (refine' get_own ?k1 ?k2 ?k3 ?k4 ?k5 ?k6 ?k7 ?k8 ?k9 ?_; (case k1 => k_asm); (case k2 => k_asm); (case k3 => k_inst); (case k4 => k_is); (case k5 => k_is); (case k6 => k_is); (case k7 => k_is); (case k8 => assumption); (case k9 => k_handed); k_whole)))
local macro_rules | `(tactic| walk_at $s:str) => `(tactic| k_extra $s)
set_option maxRecDepth 100000 in
set_option maxHeartbeats 8000000 in
theorem c_pename {w : World} {mean : ExcName → Option Value} {mg mb : Str → Option Value} {hT : Heap} {dp un : Nat} {outer : List Env} {s : Shared} {R : Result → Shared → Prop}
   {x : Str} {tx : Tok}
   (X : (hd.heap_39 w.params).In hT) (T : Top hd.view_39 L0 mean mg mb hT) (S : Sub hT s.heap) (hx : x = Str.ofString "document_path" ∨ x = Str.ofString "schema_path") (hA : dp < 900) (hU : un < 9000)
   (hR : ∀ h' tk tk', Sub s.heap h' → R (.ok (.ret (.str x tk'))) { s with heap := h', toks := tk }) :
   codeAny (model Pg w) (AT dp un outer) (.call (.ref 28) ⟨[.str x tx], []⟩) R s := by
  rcases hx with rfl | rfl <;>
  (k_dflt (refine' enterH X T S [] ?hl ?ho ?hcd ?hroom ?hb ?hloc ?_ ?c1 ?c2 ?c3 ?c4; (case hl => intro p hp; cases hp); (case ho => k_is); (case hcd => k_is); (case hroom => simp only [recursionLimit]; omega); (case hb => exact BindsTo.of_eq rfl); (case hloc => exact locs (by rfl)); (case c1 => rfl); (case c2 => rfl); (case c3 => rfl); (case c4 => decide))
   intro g L' h₁ tk₀ Sg G F N Xg Tg
   (try dsimp only); (try k_fold)
   k_steps
   all_goals (try dsimp only)
   all_goals (first | exact hR _ _ _ (G.sub (by assumption)) | trace_state))
set_option maxRecDepth 100000 in
set_option maxHeartbeats 8000000 in
theorem c_isgroup {w : World} {mean : ExcName → Option Value} {mg mb : Str → Option Value} {hT : Heap} {dp un : Nat} {outer : List Env} {s : Shared} {R : Result → Shared → Prop}
    {e dx d sp : Addr} {es : List DictEntry} {n : Nat} {c : Int} {ct : Tok} {v i : Value}
   (X : (hd.heap_39 w.params).In hT) (T : Top hd.view_39 L0 mean mg mb hT) (S : Sub hT s.heap) (E1 : ErrAt s.heap e dx es n d sp c ct v i) (hc : c = 129 ∨ c = 66) (hA : dp < 800) (hU : un < 8000)
   (hR : ∀ h' tk, Sub s.heap h' → R (.ok (.ret (.bool (decide (c = 129))))) { s with heap := h', toks := tk }) :
   codeAny (model Pg w) (AT dp un outer) (.call (.ref 118) ⟨[.ref e], []⟩) R s := by
  rcases hc with rfl | rfl <;>
  (k_dflt (refine' enterH X T S [] ?hl ?ho ?hcd ?hroom ?hb ?hloc ?_ ?c1 ?c2 ?c3 ?c4; (case hl => intro p hp; cases hp); (case ho => k_is); (case hcd => k_is); (case hroom => simp only [recursionLimit]; omega); (case hb => exact BindsTo.of_eq rfl); (case hloc => exact locs (by rfl)); (case c1 => rfl); (case c2 => rfl); (case c3 => rfl); (case c4 => decide))
   intro g L' h₁ tk₀ Sg G F N Xg Tg
   have up : Sub s.heap g := fun b o e => G.up b o e (by simp)
   have J1 := (E1.up up).inst
   have gc := E1.gc
   (try dsimp only); (try k_fold)
   k_steps
   all_goals (try dsimp only)
   all_goals (first | exact hR _ _ (G.sub (by assumption)) | trace_state))
end Ez
end
section
example : True := by
  w_top off
  trivial
open PySem PySem.W PySem.Calls PyProof.Rows
namespace Ez
local macro_rules | `(tactic| ktr_rel) => `(tactic| first
  | assumption
  | exact KTup.app (by ktr_rel)
  | exact KTup.cons (by ktr_rel)
  | exact AtomsAre.take _ (by ktr_rel)
  | exact ok_take _ (by ktr_rel)
  | exact Or.inl (by assumption))
local macro_rules | `(tactic| k_inst) => `(tactic| exact InstAt.up (by assumption) (fun b o e => Fr.keep (by k_asm) b o e))
local macro_rules | `(tactic| k_inst) => `(tactic| exact InstAt.bare (by assumption))
local macro_rules | `(tactic| walk_at "getAttr ref") => `(tactic| (k_here; k_dflt (first
  | (refine' get_slot' ?k1 ?k2 ?k3 ?k4 ?k5 ?k6 ?k7 ?k8 ?k9 ?k10 ?k11 ?_; (case k1 => k_asm); (case k2 => k_asm); (case k3 => k_inst); (case k4 => k_is); (case k5 => k_is); (case k6 => k_is); (case k7 => k_is); (case k8 => k_is); (case k9 => k_is); (case k10 => k_slotget); (case k11 => k_handed); k_whole))))
local macro_rules | `(tactic| walk_at "call builtin:len") => `(tactic| (k_here; (with_reducible show wpAny _ _ (call (Value.builtin "len") [Value.ref _]) _ _ _); refine len_tuple (by is_tup) (by (simp only [List.size_toArray]; omega)) ?_))
example (w : World) (h : Heap) (X : (hd.heap_39 w.params).In h) (e : PySem.Challenge.rw_ez0022_01.prog = Pg) : True := by
  revert X e
  k_fill
  intros
  trivial
local macro_rules | `(tactic| walk_at "subscriptTail") => `(tactic| (k_here; (with_reducible show wpAny _ _ (subscriptTail _ (PySem.Expr.Slice none (some _) none _) (Value.ref _) (Value.ref _)) _ _ _); (with_unfolding_all refine slice_int (by k_asm) (by k_asm) (by ktr_rel) (by omega) (by omega) ?_); intro a' h' tl' F' N' K'; (try k_sweep)))
local macro_rules | `(tactic| walk_at "call builtin:min") => `(tactic| (k_here; (with_reducible show wpAny _ _ (call (Value.builtin "min") [Value.int _ _, Value.int _ _]) _ _ _); refine min_two' rfl (by k_asm) (by k_asm) ?_; intro h' tk' tv' F' N'; (try k_sweep)))
local macro_rules | `(tactic| walk_at "compareOp Eq ref ref") => `(tactic| (k_here; (with_reducible show wpAny _ _ (compareOp CmpOp.Eq (Value.ref _) (Value.ref _)) _ _ _); refine' kpath_eq ?k1 ?k2 ?k3 ?k4 ?k5 ?k6 ?k7 ?k8 ?k9 ?_; (case k1 => k_asm); (case k2 => k_asm); (case k3 => ktr_rel); (case k4 => ktr_rel); (case k5 => ktr_rel); (case k6 => ktr_rel); (case k7 => ktr_rel); (case k8 => ktr_rel); (case k9 => ktr_units); k_whole))
local macro_rules | `(tactic| walk_at "compareOp NotEq ref ref") => `(tactic| (k_here; (with_reducible show wpAny _ _ (compareOp CmpOp.NotEq (Value.ref _) (Value.ref _)) _ _ _); refine' kpath_ne ?k1 ?k2 ?k3 ?k4 ?k5 ?k6 ?k7 ?k8 ?k9 ?_; (case k1 => k_asm); (case k2 => k_asm); (case k3 => ktr_rel); (case k4 => ktr_rel); (case k5 => ktr_rel); (case k6 => ktr_rel); (case k7 => ktr_rel); (case k8 => ktr_rel); (case k9 => ktr_units); k_whole))
local macro_rules | `(tactic| walk_at "getAttr ref") => `(tactic| (k_here; k_dflt (refine' get_own ?k1 ?k2 ?k3 ?k4 ?k5 ?k6 ?k7 ?k8 ?k9 ?_; (case k1 => k_asm); (case k2 => k_asm); (case k3 => k_inst); (case k4 => k_is); (case k5 => k_is); (case k6 => k_is); (case k7 => k_is); (case k8 => assumption); (case k9 => k_handed); k_whole)))
local macro_rules | `(tactic| walk_at "getAttrBy ref") => `(tactic| (k_here; k_dflt (refine' kbm_ownBy ?k1 ?k2 ?k3 ?k4 ?k5 ?k6 ?k7 ?k8 ?k9 ?_; (case k1 => k_asm); (case k2 => k_asm); (case k3 => k_inst); (case k4 => k_is); (case k5 => k_is); (case k6 => k_is); (case k7 => k_is); (case k8 => assumption); (case k9 => k_handed); k_whole)))
local macro_rules | `(tactic| walk_at $s:str) => `(tactic| k_extra $s)
/-- a node of the tree as its maker leaves it; the root is one too -/
abbrev selfO (C xd dd el : Addr) (pn : Value) (pt rt : Addr) : Obj := { cls := .ref C, dict := some xd, data := .plain, slots := #[some (.ref dd), some (.ref el), some pn, some (.ref pt), some (.ref rt)] }
/-- what stands at a place of the tree: a node, or the root -/
inductive SelfAt (h : Heap) (x C xd dd el : Addr) (pn : Value) (pt rt : Addr) : Prop
  | node : C = 240 → InstAt h x (selfO C xd dd el pn pt rt) C (some (dictOf [] 0)) → SelfAt h x C xd dd el pn pt rt
  | doc : C = 303 → InstAt h x (selfO C xd dd el pn pt rt) C (some (dictOf [] 0)) → SelfAt h x C xd dd el pn pt rt
  | sch : C = 315 → InstAt h x (selfO C xd dd el pn pt rt) C (some (dictOf [] 0)) → SelfAt h x C xd dd el pn pt rt
theorem SelfAt.up {h h' : Heap} {x C xd dd el : Addr} {pn : Value} {pt rt : Addr} (a : SelfAt h x C xd dd el pn pt rt) (k : Sub h h') : SelfAt h' x C xd dd el pn pt rt := by
  cases a with
  | node e i => exact .node e (InstAt.up i k)
  | doc e i => exact .doc e (InstAt.up i k)
  | sch e i => exact .sch e (InstAt.up i k)
theorem SelfAt.inst {h : Heap} {x C xd dd el : Addr} {pn : Value} {pt rt : Addr} (a : SelfAt h x C xd dd el pn pt rt) : InstAt h x (selfO C xd dd el pn pt rt) C (some (dictOf [] 0)) := by
  cases a <;> assumption
set_option maxRecDepth 100000 in
set_option maxHeartbeats 8000000 in
theorem c_depth {w : World} {mean : ExcName → Option Value} {mg mb : Str → Option Value} {hT : Heap} {dp un : Nat} {outer : List Env} {s : Shared} {R : Result → Shared → Prop}
    {x C xd dd el pt rt : Addr} {pn : Value} {vs : List Value}
   (X : (hd.heap_39 w.params).In hT) (T : Top hd.view_39 L0 mean mg mb hT) (S : Sub hT s.heap) (I : SelfAt s.heap x C xd dd el pn pt rt) (hp : IsTup s.heap pt vs.toArray) (hl : vs.length ≤ 8) (hA : dp < 800) (hU : un < 8000)
   (hR : ∀ h' tk tk', Sub s.heap h' → R (.ok (.ret (.int vs.length tk'))) { s with heap := h', toks := tk }) :
   codeAny (model Pg w) (AT dp un outer) (.call (.ref 213) ⟨[.ref x], []⟩) R s := by
  rcases I with ⟨rfl, I⟩ | ⟨rfl, I⟩ | ⟨rfl, I⟩ <;>
  (k_dflt (refine' enterH X T S [] ?hl ?ho ?hcd ?hroom ?hb ?hloc ?_ ?c1 ?c2 ?c3 ?c4; (case hl => intro p hp; cases hp); (case ho => k_is); (case hcd => k_is); (case hroom => simp only [recursionLimit]; omega); (case hb => exact BindsTo.of_eq rfl); (case hloc => exact locs (by rfl)); (case c1 => rfl); (case c2 => rfl); (case c3 => rfl); (case c4 => decide))
   intro g L' h₁ tk₀ Sg G F N Xg Tg
   have up : Sub s.heap g := fun b o e => G.up b o e (by simp)
   have J1 := InstAt.up I up
   have tp := hp.keeps up
   have evx : vs.toArray.size = vs.length := by simp
   (try dsimp only); (try k_fold)
   k_steps
   all_goals (try dsimp only)
   all_goals (first | exact hR _ _ _ (G.sub (by assumption)) | trace_state))
set_option maxRecDepth 100000 in
set_option maxHeartbeats 8000000 in
theorem c_ttype {w : World} {mean : ExcName → Option Value} {mg mb : Str → Option Value} {hT : Heap} {dp un : Nat} {outer : List Env} {s : Shared} {R : Result → Shared → Prop}
    {x C xd dd el pt rt rd dd1 el1 pt1 : Addr} {pn : Value}
   (X : (hd.heap_39 w.params).In hT) (T : Top hd.view_39 L0 mean mg mb hT) (S : Sub hT s.heap) (I : InstAt s.heap x (selfO 240 xd dd el pn pt rt) 240 (some (dictOf [] 0))) (Ir : InstAt s.heap rt (selfO C rd dd1 el1 .none pt1 rt) C (some (dictOf [] 0))) (hC : C = 303 ∨ C = 315) (hA : dp < 800) (hU : un < 8000)
   (hR : ∀ h' tk tk', Sub s.heap h' → R (.ok (.ret (.str (if C = 303 then Str.ofString "document" else Str.ofString "schema") tk'))) { s with heap := h', toks := tk }) :
   codeAny (model Pg w) (AT dp un outer) (.call (.ref 221) ⟨[.ref x], []⟩) R s := by
  rcases hC with rfl | rfl <;>
  (k_dflt (refine' enterH X T S [] ?hl ?ho ?hcd ?hroom ?hb ?hloc ?_ ?c1 ?c2 ?c3 ?c4; (case hl => intro p hp; cases hp); (case ho => k_is); (case hcd => k_is); (case hroom => simp only [recursionLimit]; omega); (case hb => exact BindsTo.of_eq rfl); (case hloc => exact locs (by rfl)); (case c1 => rfl); (case c2 => rfl); (case c3 => rfl); (case c4 => decide))
   intro g L' h₁ tk₀ Sg G F N Xg Tg
   have up : Sub s.heap g := fun b o e => G.up b o e (by simp)
   have J1 := InstAt.up I up
   have J2 := InstAt.up Ir up
   (try dsimp only); (try k_fold)
   k_steps
   all_goals (try dsimp only)
   all_goals (first | exact hR _ _ _ (G.sub (by assumption)) | trace_state))
end Ez
end
section
example : True := by
  w_top off
  trivial
open PySem PySem.W PySem.Calls PyProof.Rows
namespace Ez
local macro_rules | `(tactic| ktr_rel) => `(tactic| first
  | assumption
  | exact KTup.app (by ktr_rel)
  | exact KTup.cons (by ktr_rel)
  | exact AtomsAre.take _ (by ktr_rel)
  | exact ok_take _ (by ktr_rel)
  | exact Or.inl (by assumption))
local macro_rules | `(tactic| k_inst) => `(tactic| exact InstAt.up (by assumption) (fun b o e => Fr.keep (by k_asm) b o e))
local macro_rules | `(tactic| k_inst) => `(tactic| exact InstAt.bare (by assumption))
local macro_rules | `(tactic| walk_at "getAttr ref") => `(tactic| (k_here; k_dflt (first
  | (refine' get_slot' ?k1 ?k2 ?k3 ?k4 ?k5 ?k6 ?k7 ?k8 ?k9 ?k10 ?k11 ?_; (case k1 => k_asm); (case k2 => k_asm); (case k3 => k_inst); (case k4 => k_is); (case k5 => k_is); (case k6 => k_is); (case k7 => k_is); (case k8 => k_is); (case k9 => k_is); (case k10 => k_slotget); (case k11 => k_handed); k_whole))))
local macro_rules | `(tactic| walk_at "call builtin:len") => `(tactic| (k_here; (with_reducible show wpAny _ _ (call (Value.builtin "len") [Value.ref _]) _ _ _); refine len_tuple (by is_tup) (by (simp only [List.size_toArray]; omega)) ?_))
example (w : World) (h : Heap) (X : (hd.heap_39 w.params).In h) (e : PySem.Challenge.rw_ez0022_01.prog = Pg) : True := by
  revert X e
  k_fill
  intros
  trivial
local macro_rules | `(tactic| walk_at "subscriptTail") => `(tactic| (k_here; (with_reducible show wpAny _ _ (subscriptTail _ (PySem.Expr.Slice none (some _) none _) (Value.ref _) (Value.ref _)) _ _ _); (with_unfolding_all refine slice_int (by k_asm) (by k_asm) (by ktr_rel) (by omega) (by omega) ?_); intro a' h' tl' F' N' K'; (try k_sweep)))
local macro_rules | `(tactic| walk_at "call builtin:min") => `(tactic| (k_here; (with_reducible show wpAny _ _ (call (Value.builtin "min") [Value.int _ _, Value.int _ _]) _ _ _); refine min_two' rfl (by k_asm) (by k_asm) ?_; intro h' tk' tv' F' N'; (try k_sweep)))
local macro_rules | `(tactic| walk_at "compareOp Eq ref ref") => `(tactic| (k_here; (with_reducible show wpAny _ _ (compareOp CmpOp.Eq (Value.ref _) (Value.ref _)) _ _ _); refine' kpath_eq ?k1 ?k2 ?k3 ?k4 ?k5 ?k6 ?k7 ?k8 ?k9 ?_; (case k1 => k_asm); (case k2 => k_asm); (case k3 => ktr_rel); (case k4 => ktr_rel); (case k5 => ktr_rel); (case k6 => ktr_rel); (case k7 => ktr_rel); (case k8 => ktr_rel); (case k9 => ktr_units); k_whole))
local macro_rules | `(tactic| walk_at "compareOp NotEq ref ref") => `(tactic| (k_here; (with_reducible show wpAny _ _ (compareOp CmpOp.NotEq (Value.ref _) (Value.ref _)) _ _ _); refine' kpath_ne ?k1 ?k2 ?k3 ?k4 ?k5 ?k6 ?k7 ?k8 ?k9 ?_; (case k1 => k_asm); (case k2 => k_asm); (case k3 => ktr_rel); (case k4 => ktr_rel); (case k5 => ktr_rel); (case k6 => ktr_rel); (case k7 => ktr_rel); (case k8 => ktr_rel); (case k9 => ktr_units); k_whole))
local macro_rules | `(tactic| walk_at "getAttr ref") => `(tactic| (k_here; k_dflt (refine' get_own ?k1 ?k2 ?k3 ?k4 ?k5 ?k6 ?k7 ?k8 ?k9 ?_; (case k1 => k_asm); (case k2 => k_asm); (case k3 => k_inst); (case k4 => k_is); (case k5 => k_is); (case k6 => k_is); (case k7 => k_is); (case k8 => assumption); (case k9 => k_handed); k_whole)))
local macro_rules | `(tactic| walk_at "getAttrBy ref") => `(tactic| (k_here; k_dflt (refine' kbm_ownBy ?k1 ?k2 ?k3 ?k4 ?k5 ?k6 ?k7 ?k8 ?k9 ?_; (case k1 => k_asm); (case k2 => k_asm); (case k3 => k_inst); (case k4 => k_is); (case k5 => k_is); (case k6 => k_is); (case k7 => k_is); (case k8 => assumption); (case k9 => k_handed); k_whole)))
local macro_rules | `(tactic| walk_at $s:str) => `(tactic| k_extra $s)
def tname (C : Addr) : Str := if C = 303 then Str.ofString "document" else Str.ofString "schema"
set_option maxRecDepth 100000 in
set_option maxHeartbeats 8000000 in
theorem c_pathof {w : World} {mean : ExcName → Option Value} {mg mb : Str → Option Value} {hT : Heap} {dp un : Nat} {outer : List Env} {s : Shared} {R : Result → Shared → Prop}
    {x Cx C xd dd el pt rt rd dd1 el1 pt1 : Addr} {pn : Value} {e dx d sp : Addr} {es : List DictEntry} {n : Nat} {c : Int} {ct : Tok} {v i : Value}
   (X : (hd.heap_39 w.params).In hT) (T : Top hd.view_39 L0 mean mg mb hT) (S : Sub hT s.heap) (I : SelfAt s.heap x Cx xd dd el pn pt rt) (Ir : InstAt s.heap rt (selfO C rd dd1 el1 .none pt1 rt) C (some (dictOf [] 0))) (hC : C = 303 ∨ C = 315) (hCx : Cx = 240 ∨ Cx = C) 
   (E1 : ErrAt s.heap e dx es n d sp c ct v i) (hA : dp < 700) (hU : un < 7000)
   (hR : ∀ h' tk, Sub s.heap h' → R (.ok (.ret (.ref (if C = 303 then d else sp)))) { s with heap := h', toks := tk }) :
   codeAny (model Pg w) (AT dp un outer) (.call (.ref 236) ⟨[.ref x, .ref e], []⟩) R s := by
  rcases hC with rfl | rfl <;> rcases hCx with rfl | rfl <;> replace I := I.inst <;>
  (k_dflt (refine' enterH X T S [] ?hl ?ho ?hcd ?hroom ?hb ?hloc ?_ ?c1 ?c2 ?c3 ?c4; (case hl => intro p hp; cases hp); (case ho => k_is); (case hcd => k_is); (case hroom => simp only [recursionLimit]; omega); (case hb => exact BindsTo.of_eq rfl); (case hloc => exact locs (by rfl)); (case c1 => rfl); (case c2 => rfl); (case c3 => rfl); (case c4 => decide))
   intro g L' h₁ tk₀ Sg G F N Xg Tg
   have up : Sub s.heap g := fun b o e => G.up b o e (by simp)
   have J1 := InstAt.up I up
   have J2 := InstAt.up Ir up
   have J3 := (E1.up up).inst
   have gd := E1.gd
   have gs := E1.gs
   (try dsimp only); (try k_fold)
   k_with_none
   k_with "getAttr ref" => (
    (with_reducible show wpAny _ _ (getAttr (Value.ref _) _ _) _ _ _)
    refine get_prop' (p := 222) (fget := 221) (by assumption) (by assumption) (InstAt.up (by assumption) (fun b o e => Fr.keep (by assumption) b o e)) (by k_is) (by k_is) (by k_is) (by k_is) (by k_is) (by k_is) ?_
    refine codeAny_weaken (dp := dp + 1) (un := un + 4) rfl rfl (Nat.le_refl _) (Nat.le_refl _) (c_ttype Xg Tg (Fr.sub (by assumption)) (InstAt.up I (Sub.trans up (Fr.sub (by assumption)))) (InstAt.up Ir (Sub.trans up (Fr.sub (by assumption)))) (by decide) (by omega) (by omega) ?_)
    intro h' tk' tk1 hs'
    have F' := frSub (by assumption) hs'
    have N' := newsSub (by assumption) hs'
    refine handed_on (by rfl) ?_)
   k_with "call ref" => (
    (with_reducible show wpAny _ _ (call (Value.ref 28) [Value.str _ _]) _ _ _)
    refine wpAny_call (codeAny_weaken (dp := dp + 1) (un := un + 3) rfl rfl (Nat.le_refl _) (Nat.le_refl _) (c_pename Xg Tg (Fr.sub (by assumption)) (by first | exact Or.inl rfl | exact Or.inr rfl) (by omega) (by omega) ?_))
    intro h' tk' tk1 hs'
    have F' := frSub (by assumption) hs'
    have N' := newsSub (by assumption) hs')
   k_steps
   all_goals (try dsimp only)
   all_goals (first | exact hR _ _ (G.sub (by assumption)) | trace_state))
end Ez
end
section
example : True := by
  w_top off
  trivial
open PySem PySem.W PySem.Calls PyProof.Rows
namespace Ez
local macro_rules | `(tactic| ktr_rel) => `(tactic| first
  | assumption
  | exact KTup.app (by ktr_rel)
  | exact KTup.cons (by ktr_rel)
  | exact AtomsAre.take _ (by ktr_rel)
  | exact ok_take _ (by ktr_rel)
  | exact Or.inl (by assumption))
local macro_rules | `(tactic| k_inst) => `(tactic| exact InstAt.up (by assumption) (fun b o e => Fr.keep (by k_asm) b o e))
local macro_rules | `(tactic| k_inst) => `(tactic| exact InstAt.bare (by assumption))
local macro_rules | `(tactic| walk_at "getAttr ref") => `(tactic| (k_here; k_dflt (first
  | (refine' get_slot' ?k1 ?k2 ?k3 ?k4 ?k5 ?k6 ?k7 ?k8 ?k9 ?k10 ?k11 ?_; (case k1 => k_asm); (case k2 => k_asm); (case k3 => k_inst); (case k4 => k_is); (case k5 => k_is); (case k6 => k_is); (case k7 => k_is); (case k8 => k_is); (case k9 => k_is); (case k10 => k_slotget); (case k11 => k_handed); k_whole))))
local macro_rules | `(tactic| walk_at "call builtin:len") => `(tactic| (k_here; (with_reducible show wpAny _ _ (call (Value.builtin "len") [Value.ref _]) _ _ _); refine len_tuple (by is_tup) (by (simp only [List.size_toArray]; omega)) ?_))
example (w : World) (h : Heap) (X : (hd.heap_39 w.params).In h) (e : PySem.Challenge.rw_ez0022_01.prog = Pg) : True := by
  revert X e
  k_fill
  intros
  trivial
local macro_rules | `(tactic| walk_at "subscriptTail") => `(tactic| (k_here; (with_reducible show wpAny _ _ (subscriptTail _ (PySem.Expr.Slice none (some _) none _) (Value.ref _) (Value.ref _)) _ _ _); (with_unfolding_all refine slice_int (by k_asm) (by k_asm) (by ktr_rel) (by omega) (by omega) ?_); intro a' h' tl' F' N' K'; (try k_sweep)))
local macro_rules | `(tactic| walk_at "call builtin:min") => `(tactic| (k_here; (with_reducible show wpAny _ _ (call (Value.builtin "min") [Value.int _ _, Value.int _ _]) _ _ _); refine min_two' rfl (by k_asm) (by k_asm) ?_; intro h' tk' tv' F' N'; (try k_sweep)))
local macro_rules | `(tactic| walk_at "compareOp Eq ref ref") => `(tactic| (k_here; (with_reducible show wpAny _ _ (compareOp CmpOp.Eq (Value.ref _) (Value.ref _)) _ _ _); refine' kpath_eq ?k1 ?k2 ?k3 ?k4 ?k5 ?k6 ?k7 ?k8 ?k9 ?_; (case k1 => k_asm); (case k2 => k_asm); (case k3 => ktr_rel); (case k4 => ktr_rel); (case k5 => ktr_rel); (case k6 => ktr_rel); (case k7 => ktr_rel); (case k8 => ktr_rel); (case k9 => ktr_units); k_whole))
local macro_rules | `(tactic| walk_at "compareOp NotEq ref ref") => `(tactic| (k_here; (with_reducible show wpAny _ _ (compareOp CmpOp.NotEq (Value.ref _) (Value.ref _)) _ _ _); refine' kpath_ne ?k1 ?k2 ?k3 ?k4 ?k5 ?k6 ?k7 ?k8 ?k9 ?_; (case k1 => k_asm); (case k2 => k_asm); (case k3 => ktr_rel); (case k4 => ktr_rel); (case k5 => ktr_rel); (case k6 => ktr_rel); (case k7 => ktr_rel); (case k8 => ktr_rel); (case k9 => ktr_units); k_whole))
local macro_rules | `(tactic| walk_at "getAttr ref") => `(tactic| (k_here; k_dflt (refine' get_own ?k1 ?k2 ?k3 ?k4 ?k5 ?k6 ?k7 ?k8 ?k9 ?_; (case k1 => k_asm); (case k2 => k_asm); (case k3 => k_inst); (case k4 => k_is); (case k5 => k_is); (case k6 => k_is); (case k7 => k_is); (case k8 => assumption); (case k9 => k_handed); k_whole)))
local macro_rules | `(tactic| walk_at "getAttrBy ref") => `(tactic| (k_here; k_dflt (refine' kbm_ownBy ?k1 ?k2 ?k3 ?k4 ?k5 ?k6 ?k7 ?k8 ?k9 ?_; (case k1 => k_asm); (case k2 => k_asm); (case k3 => k_inst); (case k4 => k_is); (case k5 => k_is); (case k6 => k_is); (case k7 => k_is); (case k8 => assumption); (case k9 => k_handed); k_whole)))
local macro_rules | `(tactic| walk_at $s:str) => `(tactic| k_extra $s)
section
variable {prog : Program} {w : World} {K : Type} [DecidableEq K] {knd : KeyKind prog w K} {A : Around} {E : Value → Shared → Prop} {s : Shared} {h₀ : Heap} {L d : Addr} {m : Str → Option Value} {kvs : List (K × Value)} {k : K} {key : Value}
theorem dictUp {h h' : Heap} (x : h.DictOf knd d kvs) (kp : Sub h h') : h'.DictOf knd d kvs := by
  obtain ⟨o, ho, hd⟩ := Heap.dictOf_iff.mp x
  exact Heap.dictOf_iff.mpr ⟨o, kp _ _ ho, hd⟩
theorem dg_method {pl : Sem Bool} {Q : Value × List Value → Shared → Prop} (F : Fr h₀ L s.heap m) (hd : h₀.DictOf knd d kvs) (h : Q (.builtin "dict.get", [.ref d]) s) : wpAny (model prog w) A (getMethod (.ref d) "get" pl) Q E s :=
  have hD := dictUp hd (Fr.sub F)
  getMethod_builtin hD.typeIs PySem.F.plainAttrs_dict PySem.F.slot_dict_get PySem.F.type_dict_get hD.mapOf.noDict h
theorem dg_get1 {Q : Value → Shared → Prop} (F : Fr h₀ L s.heap m) (hd : h₀.DictOf knd d kvs) (lo : (d == sysModules) = false) (hkey : knd.is k key = true) (h : Q ((valueAt kvs k).getD .none) { s with toks := s.toks + 1 }) :
    wpAny (model prog w) A (call (.builtin "dict.get") [.ref d, key]) Q E s :=
  have hD := dictUp hd (Fr.sub F)
  call_meetsIn PySem.F.slot_dict_get hD.typeIs PySem.F.entry_dict_get (PySem.F.args_dict_get_2 _ _) (meets_dict_get knd d hkey lo) ⟨_, hD.mapOf, h⟩
end
set_option maxRecDepth 100000 in
set_option maxHeartbeats 8000000 in
theorem c_getitem {w : World} {mean : ExcName → Option Value} {mg mb : Str → Option Value} {hT : Heap} {dp un : Nat} {outer : List Env} {s : Shared} {R : Result → Shared → Prop}
    {x C xd dd el pt rt : Addr} {pn : Value} {k : Atom} {kv : Value} {kvs : List (Atom × Value)}
   (X : (hd.heap_39 w.params).In hT) (T : Top hd.view_39 L0 mean mg mb hT) (S : Sub hT s.heap) (I : SelfAt s.heap x C xd dd el pn pt rt) (hd : s.heap.DictOf (atomKind Pg w) dd kvs) (hdd : (dd == sysModules) = false) (hk : k.isV kv = true) (hA : dp < 700) (hU : un < 7000)
   (hR : ∀ h' tk, Sub s.heap h' → R (.ok (.ret ((valueAt kvs k).getD .none))) { s with heap := h', toks := tk }) :
   codeAny (model Pg w) (AT dp un outer) (.call (.ref 192) ⟨[.ref x, kv], []⟩) R s := by
  have hk2 : (atomKind Pg w).is k kv = true := hk
  obtain ⟨y, ty, rfl, rfl⟩ | ⟨y, ty, rfl, rfl⟩ := Atom.isV_cases hk <;> (rcases I with ⟨rfl, I⟩ | ⟨rfl, I⟩ | ⟨rfl, I⟩) <;>
  (k_dflt (refine' enterH X T S [] ?hl ?ho ?hcd ?hroom ?hb ?hloc ?_ ?c1 ?c2 ?c3 ?c4; (case hl => intro p hp; cases hp); (case ho => k_is); (case hcd => k_is); (case hroom => simp only [recursionLimit]; omega); (case hb => exact BindsTo.of_eq rfl); (case hloc => exact locs (by rfl)); (case c1 => rfl); (case c2 => rfl); (case c3 => rfl); (case c4 => decide))
   intro g L' h₁ tk₀ Sg G F N Xg Tg
   have up : Sub s.heap g := fun b o e => G.up b o e (by simp)
   have J1 := InstAt.up I up
   (try dsimp only); (try k_fold)
   have hdg := dictUp hd up
   k_with_none
   k_with "getMethod ref" => ((with_reducible show wpAny _ _ (getMethod (Value.ref _) (Str.ofString "get") _) _ _ _); refine dg_method (by assumption) hdg ?_)
   k_with "call builtin:dict.get" => ((with_reducible show wpAny _ _ (call (Value.builtin "dict.get") [Value.ref _, _]) _ _ _); refine dg_get1 (by assumption) hdg hdd hk2 ?_)
   k_steps
   all_goals (try dsimp only)
   all_goals (first | exact hR _ _ (G.sub (by assumption)) | trace_state))
end Ez
end
section
example : True := by
  w_top off
  trivial
open PySem PySem.W PySem.Calls PyProof.Rows
namespace Ez
local macro_rules | `(tactic| ktr_rel) => `(tactic| first
  | assumption
  | exact KTup.app (by ktr_rel)
  | exact KTup.cons (by ktr_rel)
  | exact AtomsAre.take _ (by ktr_rel)
  | exact ok_take _ (by ktr_rel)
  | exact Or.inl (by assumption))
local macro_rules | `(tactic| k_inst) => `(tactic| exact InstAt.up (by assumption) (fun b o e => Fr.keep (by k_asm) b o e))
local macro_rules | `(tactic| k_inst) => `(tactic| exact InstAt.bare (by assumption))
local macro_rules | `(tactic| walk_at "getAttr ref") => `(tactic| (k_here; k_dflt (first
  | (refine' get_slot' ?k1 ?k2 ?k3 ?k4 ?k5 ?k6 ?k7 ?k8 ?k9 ?k10 ?k11 ?_; (case k1 => k_asm); (case k2 => k_asm); (case k3 => k_inst); (case k4 => k_is); (case k5 => k_is); (case k6 => k_is); (case k7 => k_is); (case k8 => k_is); (case k9 => k_is); (case k10 => k_slotget); (case k11 => k_handed); k_whole))))
local macro_rules | `(tactic| walk_at "call builtin:len") => `(tactic| (k_here; (with_reducible show wpAny _ _ (call (Value.builtin "len") [Value.ref _]) _ _ _); refine len_tuple (by is_tup) (by (simp only [List.size_toArray]; omega)) ?_))
example (w : World) (h : Heap) (X : (hd.heap_39 w.params).In h) (e : PySem.Challenge.rw_ez0022_01.prog = Pg) : True := by
  revert X e
  k_fill
  intros
  trivial
local macro_rules | `(tactic| walk_at "subscriptTail") => `(tactic| (k_here; (with_reducible show wpAny _ _ (subscriptTail _ (PySem.Expr.Slice none (some _) none _) (Value.ref _) (Value.ref _)) _ _ _); (with_unfolding_all refine slice_int (by k_asm) (by k_asm) (by ktr_rel) (by omega) (by omega) ?_); intro a' h' tl' F' N' K'; (try k_sweep)))
local macro_rules | `(tactic| walk_at "call builtin:min") => `(tactic| (k_here; (with_reducible show wpAny _ _ (call (Value.builtin "min") [Value.int _ _, Value.int _ _]) _ _ _); refine min_two' rfl (by k_asm) (by k_asm) ?_; intro h' tk' tv' F' N'; (try k_sweep)))
local macro_rules | `(tactic| walk_at "compareOp Eq ref ref") => `(tactic| (k_here; (with_reducible show wpAny _ _ (compareOp CmpOp.Eq (Value.ref _) (Value.ref _)) _ _ _); refine' kpath_eq ?k1 ?k2 ?k3 ?k4 ?k5 ?k6 ?k7 ?k8 ?k9 ?_; (case k1 => k_asm); (case k2 => k_asm); (case k3 => ktr_rel); (case k4 => ktr_rel); (case k5 => ktr_rel); (case k6 => ktr_rel); (case k7 => ktr_rel); (case k8 => ktr_rel); (case k9 => ktr_units); k_whole))
local macro_rules | `(tactic| walk_at "compareOp NotEq ref ref") => `(tactic| (k_here; (with_reducible show wpAny _ _ (compareOp CmpOp.NotEq (Value.ref _) (Value.ref _)) _ _ _); refine' kpath_ne ?k1 ?k2 ?k3 ?k4 ?k5 ?k6 ?k7 ?k8 ?k9 ?_; (case k1 => k_asm); (case k2 => k_asm); (case k3 => ktr_rel); (case k4 => ktr_rel); (case k5 => ktr_rel); (case k6 => ktr_rel); (case k7 => ktr_rel); (case k8 => ktr_rel); (case k9 => ktr_units); k_whole))
local macro_rules | `(tactic| walk_at "getAttr ref") => `(tactic| (k_here; k_dflt (refine' get_own ?k1 ?k2 ?k3 ?k4 ?k5 ?k6 ?k7 ?k8 ?k9 ?_; (case k1 => k_asm); (case k2 => k_asm); (case k3 => k_inst); (case k4 => k_is); (case k5 => k_is); (case k6 => k_is); (case k7 => k_is); (case k8 => assumption); (case k9 => k_handed); k_whole)))
local macro_rules | `(tactic| walk_at "getAttrBy ref") => `(tactic| (k_here; k_dflt (refine' kbm_ownBy ?k1 ?k2 ?k3 ?k4 ?k5 ?k6 ?k7 ?k8 ?k9 ?_; (case k1 => k_asm); (case k2 => k_asm); (case k3 => k_inst); (case k4 => k_is); (case k5 => k_is); (case k6 => k_is); (case k7 => k_is); (case k8 => assumption); (case k9 => k_handed); k_whole)))
local macro_rules | `(tactic| walk_at $s:str) => `(tactic| k_extra $s)
theorem InstAt.out {h g : Heap} {x C : Addr} {ox : Obj} {od : Option Obj} (I : InstAt h x ox C od) (up : ∀ b o, h.get? b = some o → (b = x ∨ ox.dict = some b) → g.get? b = some o) : InstAt g x ox C od :=
  ⟨up _ _ I.at_ (.inl rfl), I.cls, I.no, by
    have := I.dict
    revert this
    cases e : ox.dict <;> cases od <;> intro hh <;> first | exact hh | exact up _ _ hh (.inr e)⟩
set_option maxRecDepth 100000 in
set_option maxHeartbeats 8000000 in
theorem c_setitem {w : World} {mean : ExcName → Option Value} {mg mb : Str → Option Value} {hT : Heap} {dp un : Nat} {outer : List Env} {s : Shared} {R : Result → Shared → Prop}
    {x C xd dd el pt rt vn : Addr} {pn : Value} {k : Atom} {kv : Value} {kvs : List (Atom × Value)} {dO : Obj}
   (X : (hd.heap_39 w.params).In hT) (T : Top hd.view_39 L0 mean mg mb hT) (S : Sub hT s.heap) (I : SelfAt s.heap x C xd dd el pn pt rt) (hd : s.heap.get? dd = some dO) (hdo : dO.IsDictOf (atomKind Pg w) kvs) (hdT : hT.get? dd = none) (hx : x ≠ dd) (hr : xd ≠ dd) (hk : k.isV kv = true) (hkl : kvs.length ≤ 100) (hA : dp < 700) (hU : un < 7000)
   (hR : ∀ h' o' tk, (∀ b o, s.heap.get? b = some o → b ≠ dd → h'.get? b = some o) → h'.get? dd = some o' → o'.IsDictOf (atomKind Pg w) (stored kvs k (.ref vn)) → R (.ok (.ret .none)) { s with heap := h', toks := tk }) :
   codeAny (model Pg w) (AT dp un outer) (.call (.ref 206) ⟨[.ref x, kv, .ref vn], []⟩) R s := by
  have hk2 : (atomKind Pg w).is k kv = true := hk
  obtain ⟨y, ty, rfl, rfl⟩ | ⟨y, ty, rfl, rfl⟩ := Atom.isV_cases hk <;> (rcases I with ⟨rfl, I⟩ | ⟨rfl, I⟩ | ⟨rfl, I⟩) <;>
  (k_dflt (refine' enterH X T S [(dd, dO)] ?hl ?ho ?hcd ?hroom ?hb ?hloc ?_ ?c1 ?c2 ?c3 ?c4; (case hl => (intro p hp; obtain rfl := List.mem_singleton.mp hp; exact ⟨hd, hdT⟩)); (case ho => k_is); (case hcd => k_is); (case hroom => simp only [recursionLimit]; omega); (case hb => exact BindsTo.of_eq rfl); (case hloc => exact locs (by rfl)); (case c1 => rfl); (case c2 => rfl); (case c3 => rfl); (case c4 => decide))
   intro g L' h₁ tk₀ Sg G F N Xg Tg
   have up : ∀ b o, s.heap.get? b = some o → b ≠ dd → g.get? b = some o := fun b o e n => G.up b o e (by simpa using n)
   have J1 := InstAt.out I (g := g) (fun b o e hb => up b o e (by first | exact hb.elim (fun z => z ▸ hx) (fun z => by cases z; exact hr) | exact hb.elim (fun z => z ▸ hx) (fun z => by cases z)))
   (try dsimp only); (try k_fold)
   k_with_none
   k_with "setItem ref str" => ((with_reducible show wpAny _ _ (setItem (Value.ref _) _ _) _ _ _); refine kda_set (knd := atomKind Pg w) (by assumption) (by assumption) (UpdF.head (r := []) (fun p hp => nomatch hp)) hdo hk2 (by rw [sizeLine_eq]; omega) ?_; intro h' o' F' N' hd')
   k_with "setItem ref int" => ((with_reducible show wpAny _ _ (setItem (Value.ref _) _ _) _ _ _); refine kda_set (knd := atomKind Pg w) (by assumption) (by assumption) (UpdF.head (r := []) (fun p hp => nomatch hp)) hdo hk2 (by rw [sizeLine_eq]; omega) ?_; intro h' o' F' N' hd')
   k_steps
   all_goals (try dsimp only)
   all_goals (first | exact hR _ _ _ (fun b o e n => F'.keep b o (up b o e n)) (N' _ (.head _)).1 hd' | trace_state))
end Ez
end
section
example : True := by
  w_top off
  trivial
open PySem PySem.W PySem.Calls PyProof.Rows Builtin
namespace Ez
example (w : World) (h : Heap) (X : (hd.heap_39 w.params).In h) (e : PySem.Challenge.rw_ez0022_01.prog = Pg) : True := by
  revert X e
  k_fill
  intros
  trivial
theorem el_look (w : World) : ∃ oc od cd sl, (hd.heap_39 w.params).lookup 159 = some ⟨oc, od, .cls cd, sl⟩ ∧ cd.abstract = false ∧ cd.hasDel = false ∧ (sl.toList[4]?).join = some (.builtin "list.__new__") ∧ cd.mro.isEmpty = false ∧ cd.mro.contains (.ref 159) = true ∧ cd.mro.contains (.type "list") = true :=
  ⟨_, _, _, _, by k_is, by rfl, by rfl, by rfl, by rfl, by decide +kernel, by decide +kernel⟩
theorem el_fcall (w : World) : specialIn (hd.heap_39 w.params) (.ref 159) "__call__" = some (some (.builtin "type.__call__")) := by k_is
theorem el_ftype (w : World) : typeIn (hd.heap_39 w.params) (.ref 159) = some (.type "type") := by k_is
theorem el_finit (w : World) : findIn (hd.heap_39 w.params) (.ref 159) "__init__" = some (some (.builtin "list.__init__")) := by k_is
structure ElMakes (M : Model) (h : Heap) : Prop where
  obj : ∃ oc od cd sl, h.get? 159 = some ⟨oc, od, .cls cd, sl⟩ ∧ cd.abstract = false ∧ cd.hasDel = false ∧ cd.mro.isEmpty = false
  made : Looks M h (Bind.madeBy (.ref 159)) (some "list.__new__")
  base : Looks M h (Bind.staticBase (.ref 159)) (.ref 159)
  self : Looks M h (isSubtype (.ref 159) (.ref 159)) true
  top : Looks M h (isSubtype (.ref 159) (.type "list")) true
  call : Looks M h (specialOf (.ref 159) "__call__") (some (.builtin "type.__call__"))
  typ : Looks M h (isInstance (.ref 159) (.type "type")) true
theorem elMakes_of {w : World} {M : Model} {h : Heap} (X : (hd.heap_39 w.params).In h) : ElMakes M h := by
  obtain ⟨oc, od, cd, sl, ho, e1, e2, e3, e4, e5, e6⟩ := el_look w
  have hc : clsIn (hd.heap_39 w.params) 159 = some cd := by unfold clsIn; rw [ho]
  have hm : Looks M h (mroOf (.ref 159)) cd.mro := (looks_clsIn X hc).andThen .now
  obtain ⟨c, l, hl⟩ : ∃ c l, cd.mro = c :: l := by cases q : cd.mro with | nil => rw [q] at e4; cases e4 | cons c l => exact ⟨c, l, rfl⟩
  have made : Looks M h (Bind.madeBy (.ref 159)) (some "list.__new__") := by
    intro A Q E s k q
    unfold Bind.madeBy
    refine wpAny_bind (hm A _ E s k ?_)
    rw [hl, List.forIn_cons]
    refine wpAny_bind (wpAny_bind (wpAny_bind (wpAny_bind (wpAny_loadPart (k _ _ (X _ _ ho)) (wpAny_pure ?_)))))
    dsimp only
    rw [← Array.getElem?_toList, e3]
    exact wpAny_pure (wpAny_pure (wpAny_pure q))
  refine ⟨⟨oc, od, cd, sl, X _ _ ho, e1, e2, e4⟩, made, ?_, looks_mroIn X ?_, looks_mroIn X ?_, looks_specialIn X (el_fcall w), (looks_typeIn X (el_ftype w)).andThen (looks_subIn X (by rfl))⟩
  · intro A Q E s k q
    unfold Bind.staticBase
    refine wpAny_bind (hm A _ E s k ?_)
    rw [hl, List.forIn_cons]
    exact wpAny_bind (wpAny_bind (wpAny_bind (made A _ E s k (wpAny_pure (wpAny_pure (wpAny_pure q))))))
  · unfold mroIn; rw [hc, Option.bind_some, if_neg (by rw [e4]; decide), e5]
  · unfold mroIn; rw [hc, Option.bind_some, if_neg (by rw [e4]; decide), e6]
theorem ln_kind : builtinKind "list.__new__" = some .builtinFn := by decide +kernel
theorem ln_split : splitId "list.__new__" = some ("list", "__new__") := by decide +kernel
theorem ln_canon : (Manifest.canonical "list.__new__" != Manifest.canonical "list.__new__") = false := by simp
set_option maxHeartbeats 4000000 in
theorem el_new_code {w : World} {A : Around} {R : Result → Shared → Prop} {h : Heap} {g : Array GenState} {d : Drawn} {t : Nat} {os : OsState} (Y : ElMakes (model Pg w) h)
    (hq : R (.ok (.ret (.ref (h.objs.size + 1)))) ⟨(h.push emptyDict).push (elO [] 0 h.objs.size), g, d, t, os⟩) :
    codeAny (model Pg w) A (.call (.builtin "list.__new__") ⟨[.ref 159], []⟩) R ⟨h, g, d, t, os⟩ := by
  obtain ⟨⟨oc, od, cd, sl, hC, e1, e2, e4⟩, made, base, self, top, call, typ⟩ := Y
  refine codeAny_of_tree ?_
  show wpAny _ A.in1 (do checkBuiltinCall "list.__new__" ⟨[.ref 159], []⟩; again (.builtin "list.__new__" ⟨[.ref 159], []⟩)) _ _ _
  have chk : ∀ {Q : Unit → Shared → Prop} {E : Value → Shared → Prop}, Q () ⟨h, g, d, t, os⟩ → wpAny (model Pg w) A.in1 (checkBuiltinCall "list.__new__" ⟨[.ref 159], []⟩) Q E ⟨h, g, d, t, os⟩ := by
    intro Q E q
    simp only [checkBuiltinCall, ln_kind, ln_split]
    repeat (first | exact q | simp only [bne_self_eq_false, Bool.false_eq_true, if_false, if_true, Bool.not_true, beq_self_eq_true, reduceIte] | lk)
  refine wpAny_bind (chk (wpAny_pure ⟨plainId_quiet F.plain_list_new _, codeAny_builtin_stack F.entry_list_new rfl fun p st => ?_⟩))
  rw [Around.under_plainId F.plain_list_new _]
  have hown := owner_list_new
  simp only [hown]
  have hC' := Heap.get?_push_of_some (elO [] 0 h.objs.size) (Heap.get?_push_of_some emptyDict hC)
  repeat (first | simp only [bne_self_eq_false, Bool.false_eq_true, if_false, if_true, Bool.not_true, beq_self_eq_true] | lk)
  rw [if_neg (by rw [e2]; decide)]
  refine wpAny_pure (wpAny_pure ?_)
  show R _ _
  rw [Heap.size_push]
  exact hq
theorem li_kind : builtinKind "list.__init__" = some .slot := by decide +kernel
theorem li_split : splitId "list.__init__" = some ("list", "__init__") := by decide +kernel
theorem li_plain : plainId "list.__init__" = true := by decide +kernel
theorem li_entry : entryFor table "list.__init__" = some Builtin.«list.__init__» := entryFor_of_tree (by kernel_rfl)
theorem li_args (a : Value) : argsOk "list.__init__" ⟨[a], []⟩ := by unfold argsOk; kernel_rfl
theorem li_bind (self : Value) : bindSpecial (.builtin "list.__init__") self = pure (.builtin "list.__init__", [self]) := F.slot_list_init.bind self
set_option maxHeartbeats 4000000 in
theorem el_call {w : World} {A : Around} {E : Value → Shared → Prop} {s : Shared} {Q : Value → Shared → Prop} (X : (hd.heap_39 w.params).In s.heap)
    (hq : ∀ el eld ep h', Sub s.heap h' → (∀ b o, s.heap.get? b = some o → b < eld) → eld < el → h'.get? el = some (elO [] ep eld) → h'.get? eld = some (dictOf [] 0) → Q (.ref el) { s with heap := h' }) :
    wpAny (model Pg w) A (call (.ref 159) []) Q E s := by
  have Y := elMakes_of (M := model Pg w) X
  have Y' := Y
  have hi := looks_findIn (M := model Pg w) X (el_finit w)
  obtain ⟨⟨oc, od, cd, sl, hC, e1, e2, e4⟩, made, base, self, top, cal, typ⟩ := Y
  refine wpAny_call (codeAny_of_tree ?_)
  obtain ⟨h, g, d, t, os⟩ := s
  show wpAny _ _ (callAny (.ref 159) _) _ _ _
  refine nd_load hC ?_
  show wpAny _ _ (callAny.viaDunder (.ref 159) _) _ _ _
  unfold callAny.viaDunder
  refine wpAny_bind (cal.at ?_)
  dsimp only
  rw [tc_bind]
  refine wpAny_bind (wpAny_pure (wpAny_bind (wpAny_pure ?_)))
  refine wpAny_pure (a := Fin.again (.call (.builtin "type.__call__") ⟨.ref 159 :: [], []⟩)) (And.intro rfl ?_)
  refine codeAny_call_builtin_at (Code.quiet_builtin _ (by decide +kernel)) entry_typeCall (check_slot tc_kind tc_split typ (tc_args _ _ _) ?_)
  unfold Builtin.«type.__call__»
  have hm : Looks (model Pg w) h (mroOf (.ref 159)) cd.mro := ((Looks.ld (part := none) hC).andThen .now).andThen .now
  repeat (first | simp only [e4, Bool.false_eq_true, if_false] | with_reducible refine wpAny_call ?_ | lk)
  refine el_new_code Y' ?_
  have k : ∀ b o, h.get? b = some o → ((h.push emptyDict).push (elO [] 0 h.objs.size)).get? b = some o := fun b o e => Heap.get?_push_of_some _ (Heap.get?_push_of_some _ e)
  have hx : ((h.push emptyDict).push (elO [] 0 h.objs.size)).get? (h.objs.size + 1) = some (elO [] 0 h.objs.size) := by heap_get
  have hdx : ((h.push emptyDict).push (elO [] 0 h.objs.size)).get? h.objs.size = some emptyDict := by heap_get
  have t1 : Looks (model Pg w) ((h.push emptyDict).push (elO [] 0 h.objs.size)) (typeOf (.ref (h.objs.size + 1))) (.ref 159) := (Looks.ld hx).andThen .now
  have s1 := self.keeps k
  have i1 := hi.keeps k
  have top1 := top.keeps k
  have isl : Looks (model Pg w) ((h.push emptyDict).push (elO [] 0 h.objs.size)) (isInstance (.ref (h.objs.size + 1)) (.type "list")) true := t1.andThen top1
  unfold isInstance callSpecial? specialOf
  repeat (first | with_reducible refine wpAny_call ?_ | lk)
  refine codeAny_call_builtin li_plain li_entry (check_slot li_kind li_split isl (li_args _) ?_)
  show wpAny _ _ (Builtin.List.listItems _ >>= _) _ _ _
  obtain ⟨ep1, e1⟩ : ∃ ep', Obj.mapSeq (fun _ => (#[] : Array Value)) (elO [] 0 h.objs.size) = elO [] ep' h.objs.size := ⟨_, rfl⟩
  refine wpAny_bind (listItems_at hx rfl ?_)
  refine wpAny_bind (listUpdate_at hx rfl ?_ (Nat.zero_le _) (Nat.zero_le _))
  have hn : h.get? h.objs.size = none := by
    cases z : h.get? h.objs.size with
    | none => rfl
    | some o => exact absurd (Heap.lt_size z) (Nat.lt_irrefl _)
  have hn1 : h.get? (h.objs.size + 1) = none := by
    cases z : h.get? (h.objs.size + 1) with
    | none => rfl
    | some o => exact absurd (Heap.lt_size z) (Nat.not_lt.mpr (Nat.le_succ _))
  have sb := Heap.SameBut.update ((h.push emptyDict).push (elO [] 0 h.objs.size)) (h.objs.size + 1) (Obj.mapSeq fun _ => (#[] : Array Value))
  have fin := hq (h.objs.size + 1) h.objs.size ep1 (((h.push emptyDict).push (elO [] 0 h.objs.size)).update (h.objs.size + 1) (Obj.mapSeq fun _ => (#[] : Array Value)))
    (fun b o e => (sb.2 b (fun z => by subst z; rw [hn1] at e; cases e)).trans (k b o e)) (fun b o e => Heap.lt_size e) (Nat.lt_succ_self _)
    (by have := Heap.get?_update_self (Obj.mapSeq fun _ => (#[] : Array Value)) hx (by rw [e1]; rfl)
        rw [this]; exact congrArg some e1)
    ((sb.2 _ (Nat.ne_of_lt (Nat.lt_succ_self _))).trans hdx)
  refine wpAny_bind (wpAny_letGo (wpAny_pure ?_))
  refine wpAny_pure ?_
  dsimp only
  rw [if_neg (by decide)]
  exact wpAny_pure fin
theorem el_call' {w : World} {A : Around} {E : Value → Shared → Prop} {s : Shared} {Q : Value → Shared → Prop} {g : Heap} {L : Addr} {m : Str → Option Value} {news : List (Addr × Obj)} (F : Fr g L s.heap m) (N : News g L s.heap news) (X : (hd.heap_39 w.params).In g)
    (hq : ∀ el eld ep h', Fr g L h' m → News g L h' ((el, elO [] ep eld) :: (eld, dictOf [] 0) :: news) → (∀ p ∈ news, p.1 < eld) → eld < el → Q (.ref el) { s with heap := h' }) :
    wpAny (model Pg w) A (call (.ref 159) []) Q E s := by
  refine el_call (X.keeps F.keep) fun el eld ep h' hs hlt hlt2 he hed => hq el eld ep h' ⟨F.ns.keeps hs, fun b o e => hs b o (F.keep b o e), F.above⟩ (fun p hp => ?_) (fun p hp => hlt _ _ (N p hp).1) hlt2
  obtain ⟨oL, es, epL, hL, r⟩ := F.ns
  have hLlt := hlt _ _ hL
  rcases List.mem_cons.mp hp with rfl | hp
  · refine ⟨he, Nat.ne_of_gt (Nat.lt_trans hLlt hlt2), ?_⟩
    cases z : g.get? el with
    | none => rfl
    | some o => exact absurd (hlt _ _ (F.keep _ _ z)) (Nat.not_lt.mpr (Nat.le_of_lt hlt2))
  rcases List.mem_cons.mp hp with rfl | hp
  · refine ⟨hed, Nat.ne_of_gt hLlt, ?_⟩
    cases z : g.get? eld with
    | none => rfl
    | some o => exact absurd (hlt _ _ (F.keep _ _ z)) (Nat.lt_irrefl _)
  · exact ⟨hs _ _ (N p hp).1, (N p hp).2⟩
end Ez
end
section
example : True := by
  w_top off
  trivial
open PySem PySem.W PySem.Calls PyProof.Rows
namespace Ez
local macro_rules | `(tactic| ktr_rel) => `(tactic| first
  | assumption
  | exact KTup.app (by ktr_rel)
  | exact KTup.cons (by ktr_rel)
  | exact AtomsAre.take _ (by ktr_rel)
  | exact ok_take _ (by ktr_rel)
  | exact Or.inl (by assumption))
local macro_rules | `(tactic| k_inst) => `(tactic| exact InstAt.up (by assumption) (fun b o e => Fr.keep (by k_asm) b o e))
local macro_rules | `(tactic| k_inst) => `(tactic| exact InstAt.bare (by assumption))
local macro_rules | `(tactic| walk_at "getAttr ref") => `(tactic| (k_here; k_dflt (first
  | (refine' get_slot' ?k1 ?k2 ?k3 ?k4 ?k5 ?k6 ?k7 ?k8 ?k9 ?k10 ?k11 ?_; (case k1 => k_asm); (case k2 => k_asm); (case k3 => k_inst); (case k4 => k_is); (case k5 => k_is); (case k6 => k_is); (case k7 => k_is); (case k8 => k_is); (case k9 => k_is); (case k10 => k_slotget); (case k11 => k_handed); k_whole))))
local macro_rules | `(tactic| walk_at "call builtin:len") => `(tactic| (k_here; (with_reducible show wpAny _ _ (call (Value.builtin "len") [Value.ref _]) _ _ _); refine len_tuple (by is_tup) (by (simp only [List.size_toArray]; omega)) ?_))
example (w : World) (h : Heap) (X : (hd.heap_39 w.params).In h) (e : PySem.Challenge.rw_ez0022_01.prog = Pg) : True := by
  revert X e
  k_fill
  intros
  trivial
local macro_rules | `(tactic| walk_at "subscriptTail") => `(tactic| (k_here; (with_reducible show wpAny _ _ (subscriptTail _ (PySem.Expr.Slice none (some _) none _) (Value.ref _) (Value.ref _)) _ _ _); (with_unfolding_all refine slice_int (by k_asm) (by k_asm) (by ktr_rel) (by omega) (by omega) ?_); intro a' h' tl' F' N' K'; (try k_sweep)))
local macro_rules | `(tactic| walk_at "call builtin:min") => `(tactic| (k_here; (with_reducible show wpAny _ _ (call (Value.builtin "min") [Value.int _ _, Value.int _ _]) _ _ _); refine min_two' rfl (by k_asm) (by k_asm) ?_; intro h' tk' tv' F' N'; (try k_sweep)))
local macro_rules | `(tactic| walk_at "compareOp Eq ref ref") => `(tactic| (k_here; (with_reducible show wpAny _ _ (compareOp CmpOp.Eq (Value.ref _) (Value.ref _)) _ _ _); refine' kpath_eq ?k1 ?k2 ?k3 ?k4 ?k5 ?k6 ?k7 ?k8 ?k9 ?_; (case k1 => k_asm); (case k2 => k_asm); (case k3 => ktr_rel); (case k4 => ktr_rel); (case k5 => ktr_rel); (case k6 => ktr_rel); (case k7 => ktr_rel); (case k8 => ktr_rel); (case k9 => ktr_units); k_whole))
local macro_rules | `(tactic| walk_at "compareOp NotEq ref ref") => `(tactic| (k_here; (with_reducible show wpAny _ _ (compareOp CmpOp.NotEq (Value.ref _) (Value.ref _)) _ _ _); refine' kpath_ne ?k1 ?k2 ?k3 ?k4 ?k5 ?k6 ?k7 ?k8 ?k9 ?_; (case k1 => k_asm); (case k2 => k_asm); (case k3 => ktr_rel); (case k4 => ktr_rel); (case k5 => ktr_rel); (case k6 => ktr_rel); (case k7 => ktr_rel); (case k8 => ktr_rel); (case k9 => ktr_units); k_whole))
local macro_rules | `(tactic| walk_at "getAttr ref") => `(tactic| (k_here; k_dflt (refine' get_own ?k1 ?k2 ?k3 ?k4 ?k5 ?k6 ?k7 ?k8 ?k9 ?_; (case k1 => k_asm); (case k2 => k_asm); (case k3 => k_inst); (case k4 => k_is); (case k5 => k_is); (case k6 => k_is); (case k7 => k_is); (case k8 => assumption); (case k9 => k_handed); k_whole)))
local macro_rules | `(tactic| walk_at "getAttrBy ref") => `(tactic| (k_here; k_dflt (refine' kbm_ownBy ?k1 ?k2 ?k3 ?k4 ?k5 ?k6 ?k7 ?k8 ?k9 ?_; (case k1 => k_asm); (case k2 => k_asm); (case k3 => k_inst); (case k4 => k_is); (case k5 => k_is); (case k6 => k_is); (case k7 => k_is); (case k8 => assumption); (case k9 => k_handed); k_whole)))
local macro_rules | `(tactic| walk_at $s:str) => `(tactic| k_extra $s)
theorem getItem_uptoB {prog : Program} {w : World} {A : Around} {E : Value → Shared → Prop} {s : Shared} {h₀ : Heap} {L : Addr} {m : Str → Option Value} {news : List (Addr × Obj)} {value slice : PySem.Expr} {t : Addr} {vs : List Value} {k : Int} {u : Tok} {Q : Value → Shared → Prop}
    (F : Fr h₀ L s.heap m) (N : News h₀ L s.heap news) (ht : IsTup h₀ t vs.toArray) (hsz : vs.length ≤ 1000) (h0 : 0 ≤ k)
    (h1 : vs.length ≤ k.toNat → ∀ h', Fr h₀ L h' m → News h₀ L h' news → Q (.ref t) { s with heap := h' })
    (h2 : k.toNat < vs.length → ∀ a' h', Fr h₀ L h' m → News h₀ L h' ((a', tupO (vs.take k.toNat)) :: news) → (∀ p ∈ news, p.1 < a') → Q (.ref a') { s with heap := h' })
    (hs : subscripted slice false (.ref t) (.ref s.heap.objs.size) = operate [.ref s.heap.objs.size, .ref t] (getItem (.ref t) (.ref s.heap.objs.size)) := by with_unfolding_all rfl)
    (hg : ∀ r, letTemporaryGo value (.ref t) r = pure () := by intro _; with_unfolding_all rfl) :
    wpAny (model prog w) A (subscriptTail value slice (.ref t) (.ref s.heap.objs.size)) Q E { s with heap := s.heap.push { cls := .type "slice", data := .fields #[.none, .int k u, .none] } } := by
  obtain ⟨n, rfl⟩ := Int.eq_ofNat_of_zero_le h0
  have ht : IsTup s.heap t vs.toArray := ht.keeps F.keep
  have ht' : IsTup (s.heap.push { cls := .type "slice", data := .fields #[.none, .int n u, .none] }) t vs.toArray := ht.keeps fun _ _ e => Heap.get?_push_of_some _ e
  have F1 := F.push { cls := .type "slice", data := .fields #[.none, .int n u, .none] }
  have N1 : News h₀ L (s.heap.push { cls := .type "slice", data := .fields #[.none, .int n u, .none] }) news := N.grown fun _ _ e => Heap.get?_push_of_some _ e
  refine subscriptTail_ops (s := { s with heap := s.heap.push { cls := .type "slice", data := .fields #[.none, .int n u, .none] } }) ht'.typeIs slot_tuple_getitem.lookup
    (getItem_upto ht' (Heap.IsSliceOf.new ..) (by rw [sizeLine_eq]; omega) (fun hn => ?_) fun hn => ?_) hs hg
  · exact h1 hn _ F1 N1
  · have N2 := News.push F1 N1 (tupO (vs.take n))
    rw [Heap.size_push] at N2
    show Q (.ref (s.heap.push _).objs.size) _
    rw [Heap.size_push]
    exact h2 hn _ _ (F1.push _) N2 fun p hp => Nat.lt_succ_of_lt (Heap.lt_size (N p hp).1)
theorem getItem_uptoW {prog : Program} {w : World} {A : Around} {E : Value → Shared → Prop} {s : Shared} {h₀ : Heap} {L : Addr} {m : Str → Option Value} {news : List (Addr × Obj)} {value slice : PySem.Expr} {t : Addr} {vs : List Value} {k : Int} {u : Tok} {Q : Value → Shared → Prop}
    (F : Fr h₀ L s.heap m) (N : News h₀ L s.heap news) (ht : IsTup h₀ t vs.toArray) (hsz : vs.length ≤ 1000) (h0 : 0 ≤ k) (hn : (vs.length : Int) ≤ k) (h : ∀ h', Fr h₀ L h' m → News h₀ L h' news → Q (.ref t) { s with heap := h' })
    (hs : subscripted slice false (.ref t) (.ref s.heap.objs.size) = operate [.ref s.heap.objs.size, .ref t] (getItem (.ref t) (.ref s.heap.objs.size)) := by with_unfolding_all rfl)
    (hg : ∀ r, letTemporaryGo value (.ref t) r = pure () := by intro _; with_unfolding_all rfl) :
    wpAny (model prog w) A (subscriptTail value slice (.ref t) (.ref s.heap.objs.size)) Q E { s with heap := s.heap.push { cls := .type "slice", data := .fields #[.none, .int k u, .none] } } :=
  getItem_uptoB F N ht hsz h0 (fun _ => h) (fun z => by omega) hs hg
theorem getItem_uptoF {prog : Program} {w : World} {A : Around} {E : Value → Shared → Prop} {s : Shared} {h₀ : Heap} {L : Addr} {m : Str → Option Value} {news : List (Addr × Obj)} {value slice : PySem.Expr} {t : Addr} {vs : List Value} {k : Int} {u : Tok} {Q : Value → Shared → Prop}
    (F : Fr h₀ L s.heap m) (N : News h₀ L s.heap news) (ht : IsTup h₀ t vs.toArray) (hsz : vs.length ≤ 1000) (h0 : 0 ≤ k) (hn : k < (vs.length : Int)) (h : ∀ a' h', Fr h₀ L h' m → News h₀ L h' ((a', tupO (vs.take k.toNat)) :: news) → (∀ p ∈ news, p.1 < a') → Q (.ref a') { s with heap := h' })
    (hs : subscripted slice false (.ref t) (.ref s.heap.objs.size) = operate [.ref s.heap.objs.size, .ref t] (getItem (.ref t) (.ref s.heap.objs.size)) := by with_unfolding_all rfl)
    (hg : ∀ r, letTemporaryGo value (.ref t) r = pure () := by intro _; with_unfolding_all rfl) :
    wpAny (model prog w) A (subscriptTail value slice (.ref t) (.ref s.heap.objs.size)) Q E { s with heap := s.heap.push { cls := .type "slice", data := .fields #[.none, .int k u, .none] } } :=
  getItem_uptoB F N ht hsz h0 (fun z => by omega) (fun _ => h) hs hg
theorem isDict_nil {prog : Program} {w : World} {o : Obj} (x : o.IsDictOf (PySem.strKind prog w) []) : o.IsDictOf (atomKind prog w) [] := by
  obtain ⟨es, ep, e1, e2, e3, e4, e5⟩ := x
  have : es.toList = [] := by cases q : es.toList with | nil => rfl | cons a l => rw [q] at e4; cases e4
  have he : es = #[] := Array.toList_inj.mp (by rw [this])
  subst he
  exact ⟨#[], ep, e1, e2, fun e he => by simp at he, Pairs.nil, List.nodup_nil⟩
/-- what the maker of a node leaves -/
structure NewNode (w : World) (s h' : Heap) (x xd par pp rt : Addr) (vs : List Value) (n : Nat) (dd el eld pt ep : Nat) (dO : Obj) : Prop where
  keep : ∀ b o, s.get? b = some o → b ≠ x → h'.get? b = some o
  self : h'.get? x = some (selfO 240 xd dd el (.ref par) pt rt)
  sd : h'.get? xd = some (dictOf [] 0)
  dict : h'.get? dd = some dO
  isd : dO.IsDictOf (atomKind Pg w) []
  elo : h'.get? el = some (elO [] ep eld)
  eldo : h'.get? eld = some (dictOf [] 0)
  nd : s.get? dd = none
  ne : s.get? el = none
  ned : s.get? eld = none
  apart : dd ≠ el ∧ dd ≠ eld ∧ el ≠ eld
  lo : (dd == sysModules) = false
  path : (pt = pp ∧ vs.length ≤ n) ∨ (s.get? pt = none ∧ n < vs.length ∧ h'.get? pt = some (tupO (vs.take n)))
theorem newNode_end {w : World} {s g h' : Heap} {L : Addr} {m : Str → Option Value} {x xd par pp rt : Addr} {vs : List Value} {n dd el eld pt ep : Nat} {dO : Obj} {news : List (Addr × Obj)}
    (up : ∀ b o, s.get? b = some o → b ≠ x → b ≠ xd → g.get? b = some o) (hxd : s.get? xd = some (dictOf [] 0)) (F : Fr g L h' m) (N : News g L h' news)
    (h1 : (x, selfO 240 xd dd el (.ref par) pt rt) ∈ news) (h2 : (xd, dictOf [] 0) ∈ news) (h3 : (dd, dO) ∈ news) (h4 : (el, elO [] ep eld) ∈ news) (h5 : (eld, dictOf [] 0) ∈ news)
    (hd : dO.IsDictOf (PySem.strKind Pg w) []) (hlo : (dd == sysModules) = false) (a1 : dd ≠ x ∧ dd ≠ xd) (a2 : el ≠ x ∧ el ≠ xd) (a3 : eld ≠ x ∧ eld ≠ xd) (a4 : dd ≠ el ∧ dd ≠ eld ∧ el ≠ eld)
    (hp : (pt = pp ∧ vs.length ≤ n) ∨ (n < vs.length ∧ pt ≠ x ∧ pt ≠ xd ∧ (pt, tupO (vs.take n)) ∈ news)) : NewNode w s h' x xd par pp rt vs n dd el eld pt ep dO := by
  have no : ∀ d, g.get? d = none → d ≠ x → d ≠ xd → s.get? d = none := fun d e n1 n2 => by
    cases q : s.get? d with
    | none => rfl
    | some o => rw [up d o q n1 n2] at e; cases e
  refine ⟨fun b o e n1 => ?_, (N _ h1).1, (N _ h2).1, (N _ h3).1, isDict_nil hd, (N _ h4).1, (N _ h5).1, no _ (N _ h3).2.2 a1.1 a1.2, no _ (N _ h4).2.2 a2.1 a2.2, no _ (N _ h5).2.2 a3.1 a3.2, a4, hlo, ?_⟩
  · by_cases hb : b = xd
    · subst hb
      rw [hxd] at e; cases e
      exact (N _ h2).1
    · exact F.keep _ _ (up b o e n1 hb)
  · rcases hp with hp | ⟨k, p1, p2, p3⟩
    · exact .inl hp
    · exact .inr ⟨no _ (N _ p3).2.2 p1 p2, k, (N _ p3).1⟩
theorem newNode_cut {w : World} {s g h' : Heap} {L : Addr} {m : Str → Option Value} {x xd par pp rt : Addr} {vs : List Value} {n dd el eld pt ep : Nat} {dO : Obj}
    (up : ∀ b o, s.get? b = some o → b ≠ x → b ≠ xd → g.get? b = some o) (hxd : s.get? xd = some (dictOf [] 0)) (F : Fr g L h' m)
    (N : News g L h' [(dd, dO), (el, elO [] ep eld), (eld, dictOf [] 0), (pt, tupO (vs.take n)), (x, selfO 240 xd dd el (.ref par) pt rt), (xd, dictOf [] 0)])
    (hd : dO.IsDictOf (PySem.strKind Pg w) []) (hlo : (dd == sysModules) = false) (hn : n < vs.length) (a1 : dd ≠ x) (a2 : dd ≠ xd) (a3 : el ≠ x) (a4 : el ≠ xd) (a5 : eld ≠ x) (a6 : eld ≠ xd) (a7 : dd ≠ el) (a8 : dd ≠ eld) (a9 : el ≠ eld) (p1 : pt ≠ x) (p2 : pt ≠ xd) :
    NewNode w s h' x xd par pp rt vs n dd el eld pt ep dO :=
  newNode_end up hxd F N (by simp) (by simp) (by simp) (by simp) (by simp) hd hlo ⟨a1, a2⟩ ⟨a3, a4⟩ ⟨a5, a6⟩ ⟨a7, a8, a9⟩ (.inr ⟨hn, p1, p2, by simp⟩)
theorem newNode_whole {w : World} {s g h' : Heap} {L : Addr} {m : Str → Option Value} {x xd par pp rt : Addr} {vs : List Value} {n dd el eld ep : Nat} {dO : Obj}
    (up : ∀ b o, s.get? b = some o → b ≠ x → b ≠ xd → g.get? b = some o) (hxd : s.get? xd = some (dictOf [] 0)) (F : Fr g L h' m)
    (N : News g L h' [(dd, dO), (el, elO [] ep eld), (eld, dictOf [] 0), (x, selfO 240 xd dd el (.ref par) pp rt), (xd, dictOf [] 0)])
    (hd : dO.IsDictOf (PySem.strKind Pg w) []) (hlo : (dd == sysModules) = false) (hn : vs.length ≤ n) (a1 : dd ≠ x) (a2 : dd ≠ xd) (a3 : el ≠ x) (a4 : el ≠ xd) (a5 : eld ≠ x) (a6 : eld ≠ xd) (a7 : dd ≠ el) (a8 : dd ≠ eld) (a9 : el ≠ eld) :
    NewNode w s h' x xd par pp rt vs n dd el eld pp ep dO :=
  newNode_end up hxd F N (by simp) (by simp) (by simp) (by simp) (by simp) hd hlo ⟨a1, a2⟩ ⟨a3, a4⟩ ⟨a5, a6⟩ ⟨a7, a8, a9⟩ (.inl ⟨rfl, hn⟩)
set_option maxRecDepth 100000 in
set_option maxHeartbeats 8000000 in
theorem c_ninit {w : World} {mean : ExcName → Option Value} {mg mb : Str → Option Value} {hT : Heap} {dp un : Nat} {outer : List Env} {s : Shared} {R : Result → Shared → Prop}
    {x xd pp par C pxd pdd pel ppt rt : Addr} {ppn : Value} {vs pvs : List Value}
   (X : (hd.heap_39 w.params).In hT) (T : Top hd.view_39 L0 mean mg mb hT) (S : Sub hT s.heap) (hx : s.heap.get? x = some (instObj 240 xd)) (hxd : s.heap.get? xd = some (dictOf [] 0)) (hxT : hT.get? x = none) (hxdT : hT.get? xd = none)
   (I : SelfAt s.heap par C pxd pdd pel ppn ppt rt) (hp : IsTup s.heap pp vs.toArray) (hpp : IsTup s.heap ppt pvs.toArray) (hlv : vs.length ≤ 8) (hl : pvs.length ≤ 8)
   (hlt : xd < x) (hne : (x ≠ par ∧ xd ≠ par) ∧ x ≠ pxd ∧ xd ≠ pxd) (hA : dp < 700) (hU : un < 7000)
   (hR : ∀ h' tk dd el eld pt ep dO, NewNode w s.heap h' x xd par pp rt vs (pvs.length + 1) dd el eld pt ep dO → R (.ok (.ret .none)) { s with heap := h', toks := tk }) :
   codeAny (model Pg w) (AT dp un outer) (.call (.ref 178) ⟨[.ref x, .ref pp, .ref par], []⟩) R s := by
  k_lt2 hlt
  have npp : x ≠ pp := by
    rintro rfl
    obtain ⟨o, e1, e2, _⟩ := hp
    rw [hx] at e1; cases e1; cases e2
  have nppt : x ≠ ppt := by
    rintro rfl
    obtain ⟨o, e1, e2, _⟩ := hpp
    rw [hx] at e1; cases e1; cases e2
  have npp2 : xd ≠ pp := by
    rintro rfl
    obtain ⟨o, e1, e2, _⟩ := hp
    rw [hxd] at e1; rw [← Option.some.inj e1] at e2; simp at e2
  have nppt2 : xd ≠ ppt := by
    rintro rfl
    obtain ⟨o, e1, e2, _⟩ := hpp
    rw [hxd] at e1; rw [← Option.some.inj e1] at e2; simp at e2
  have nxd : x ≠ xd := by
    rintro rfl
    rw [hx] at hxd; cases hxd
  rcases Nat.lt_or_ge (pvs.length + 1) vs.length with hcut | hcut <;> (rcases I with ⟨rfl, I⟩ | ⟨rfl, I⟩ | ⟨rfl, I⟩) <;>
  (k_dflt (refine' enterH X T S [(x, instObj 240 xd), (xd, dictOf [] 0)] ?hl ?ho ?hcd ?hroom ?hb ?hloc ?_ ?c1 ?c2 ?c3 ?c4; (case hl => (intro p hp; rcases List.mem_cons.mp hp with rfl | hp; exact ⟨hx, hxT⟩; obtain rfl := List.mem_singleton.mp hp; exact ⟨hxd, hxdT⟩)); (case ho => k_is); (case hcd => k_is); (case hroom => simp only [recursionLimit]; omega); (case hb => exact BindsTo.of_eq rfl); (case hloc => exact locs (by rfl)); (case c1 => rfl); (case c2 => rfl); (case c3 => rfl); (case c4 => decide))
   intro g L' h₁ tk₀ Sg G F N Xg Tg
   have up : ∀ b o, s.heap.get? b = some o → b ≠ x → b ≠ xd → g.get? b = some o := fun b o e n n2 => G.up b o e (by simp [n, n2])
   have J1 := InstAt.out I (g := g) (fun b o e hb => by rcases hb with rfl | z <;> first | exact up _ o e hne.1.1.symm hne.1.2.symm | (cases z; exact up _ o e hne.2.1.symm hne.2.2.symm))
   have tpp : IsTup g pp vs.toArray := by
     obtain ⟨o, e1, e2⟩ := hp
     exact ⟨o, up _ _ e1 npp.symm npp2.symm, e2⟩
   have tppt : IsTup g ppt pvs.toArray := by
     obtain ⟨o, e1, e2⟩ := hpp
     exact ⟨o, up _ _ e1 nppt.symm nppt2.symm, e2⟩
   (try dsimp only); (try k_fold)
   k_with_none
   k_with "getAttr ref" => (
    (with_reducible show wpAny _ _ (getAttr (Value.ref _) (Str.ofString "depth") _) _ _ _)
    refine get_prop' (p := 214) (fget := 213) (by assumption) (by assumption) (InstAt.up (by assumption) (fun b o e => Fr.keep (by assumption) b o e)) (by k_is) (by k_is) (by k_is) (by k_is) (by k_is) (by k_is) ?_
    refine codeAny_weaken (dp := dp + 1) (un := un + 4) rfl rfl (Nat.le_refl _) (Nat.le_refl _) (c_depth Xg Tg (Fr.sub (by assumption)) (by first | exact SelfAt.node rfl (InstAt.up J1 (Fr.sub (by assumption))) | exact SelfAt.doc rfl (InstAt.up J1 (Fr.sub (by assumption))) | exact SelfAt.sch rfl (InstAt.up J1 (Fr.sub (by assumption)))) (IsTup.keeps tppt (Fr.sub (by assumption))) (by omega) (by omega) (by omega) ?_)
    intro h' tk' tk1 hs'
    have F' := frSub (by assumption) hs'
    have N' := newsSub (by assumption) hs'
    refine handed_on (by rfl) ?_)
   k_with "setAttr ref" => (
    (with_reducible show wpAny _ _ (setAttr (Value.ref _) _ _) _ _ _)
    (refine' set_slot ?k1 ?k2 ?k3 ?k4 ?k5 ?k6 ?k7 ?k8 ?k9 ?k10 ?k11 ?k12 ?k13 ?_; (case k1 => k_asm); (case k2 => k_asm); (case k3 => k_asm); (case k4 => k_inst); (case k5 => k_is); (case k6 => k_is); (case k7 => k_is); (case k8 => k_is); (case k9 => k_is); (case k10 => decide); (case k11 => k_slotset); (case k12 => exact rfl); (case k13 => k_upd); k_whole; intro h' F' N'; (try k_sweep)))
   k_with "subscriptTail" => (
    (with_reducible show wpAny _ _ (subscriptTail _ (PySem.Expr.Slice none (some _) none _) (Value.ref _) (Value.ref _)) _ _ _)
    (first
     | (with_unfolding_all refine getItem_uptoW (by assumption) (by assumption) tpp (by omega) (by omega) (by omega) ?_; intro h' F' N'; (try k_sweep))
     | (with_unfolding_all refine getItem_uptoF (by assumption) (by assumption) tpp (by omega) (by omega) (by omega) ?_; intro a' h' F' N' l3; k_lt l3; (try k_sweep))))
   k_with "call ref" => (
    (with_reducible show wpAny _ _ (call (Value.ref 159) _) _ _ _)
    refine el_call' (by assumption) (by assumption) Xg ?_
    intro el eld ep h' F' N' l1 l2
    k_lt l1
    k_lt2 l2)
   k_steps
   all_goals (try dsimp only)
   all_goals (rename News _ _ _ _ => NN; rename Fr _ _ _ _ => FF; rename Obj.IsDictOf (PySem.strKind _ _) _ _ => hDD; first
     | exact hR _ _ _ _ _ _ _ _ (newNode_whole up hxd FF NN hDD (by assumption) hcut (by k_ne) (by k_ne) (by k_ne) (by k_ne) (by k_ne) (by k_ne) (by k_ne) (by k_ne) (by k_ne))
     | exact hR _ _ _ _ _ _ _ _ (newNode_cut up hxd FF NN hDD (by assumption) hcut (by k_ne) (by k_ne) (by k_ne) (by k_ne) (by k_ne) (by k_ne) (by k_ne) (by k_ne) (by k_ne) (by k_ne) (by k_ne))
     | trace_state))
end Ez
end
section
example : True := by
  w_top off
  trivial
open PySem PySem.W PySem.Calls PyProof.Rows
namespace Ez
local macro_rules | `(tactic| ktr_rel) => `(tactic| first
  | assumption
  | exact KTup.app (by ktr_rel)
  | exact KTup.cons (by ktr_rel)
  | exact AtomsAre.take _ (by ktr_rel)
  | exact ok_take _ (by ktr_rel)
  | exact Or.inl (by assumption))
local macro_rules | `(tactic| k_inst) => `(tactic| exact InstAt.up (by assumption) (fun b o e => Fr.keep (by k_asm) b o e))
local macro_rules | `(tactic| k_inst) => `(tactic| exact InstAt.bare (by assumption))
local macro_rules | `(tactic| walk_at "getAttr ref") => `(tactic| (k_here; k_dflt (first
  | (refine' get_slot' ?k1 ?k2 ?k3 ?k4 ?k5 ?k6 ?k7 ?k8 ?k9 ?k10 ?k11 ?_; (case k1 => k_asm); (case k2 => k_asm); (case k3 => k_inst); (case k4 => k_is); (case k5 => k_is); (case k6 => k_is); (case k7 => k_is); (case k8 => k_is); (case k9 => k_is); (case k10 => k_slotget); (case k11 => k_handed); k_whole))))
local macro_rules | `(tactic| walk_at "call builtin:len") => `(tactic| (k_here; (with_reducible show wpAny _ _ (call (Value.builtin "len") [Value.ref _]) _ _ _); refine len_tuple (by is_tup) (by (simp only [List.size_toArray]; omega)) ?_))
example (w : World) (h : Heap) (X : (hd.heap_39 w.params).In h) (e : PySem.Challenge.rw_ez0022_01.prog = Pg) : True := by
  revert X e
  k_fill
  intros
  trivial
local macro_rules | `(tactic| walk_at "subscriptTail") => `(tactic| (k_here; (with_reducible show wpAny _ _ (subscriptTail _ (PySem.Expr.Slice none (some _) none _) (Value.ref _) (Value.ref _)) _ _ _); (with_unfolding_all refine slice_int (by k_asm) (by k_asm) (by ktr_rel) (by omega) (by omega) ?_); intro a' h' tl' F' N' K'; (try k_sweep)))
local macro_rules | `(tactic| walk_at "call builtin:min") => `(tactic| (k_here; (with_reducible show wpAny _ _ (call (Value.builtin "min") [Value.int _ _, Value.int _ _]) _ _ _); refine min_two' rfl (by k_asm) (by k_asm) ?_; intro h' tk' tv' F' N'; (try k_sweep)))
local macro_rules | `(tactic| walk_at "compareOp Eq ref ref") => `(tactic| (k_here; (with_reducible show wpAny _ _ (compareOp CmpOp.Eq (Value.ref _) (Value.ref _)) _ _ _); refine' kpath_eq ?k1 ?k2 ?k3 ?k4 ?k5 ?k6 ?k7 ?k8 ?k9 ?_; (case k1 => k_asm); (case k2 => k_asm); (case k3 => ktr_rel); (case k4 => ktr_rel); (case k5 => ktr_rel); (case k6 => ktr_rel); (case k7 => ktr_rel); (case k8 => ktr_rel); (case k9 => ktr_units); k_whole))
local macro_rules | `(tactic| walk_at "compareOp NotEq ref ref") => `(tactic| (k_here; (with_reducible show wpAny _ _ (compareOp CmpOp.NotEq (Value.ref _) (Value.ref _)) _ _ _); refine' kpath_ne ?k1 ?k2 ?k3 ?k4 ?k5 ?k6 ?k7 ?k8 ?k9 ?_; (case k1 => k_asm); (case k2 => k_asm); (case k3 => ktr_rel); (case k4 => ktr_rel); (case k5 => ktr_rel); (case k6 => ktr_rel); (case k7 => ktr_rel); (case k8 => ktr_rel); (case k9 => ktr_units); k_whole))
local macro_rules | `(tactic| walk_at "getAttr ref") => `(tactic| (k_here; k_dflt (refine' get_own ?k1 ?k2 ?k3 ?k4 ?k5 ?k6 ?k7 ?k8 ?k9 ?_; (case k1 => k_asm); (case k2 => k_asm); (case k3 => k_inst); (case k4 => k_is); (case k5 => k_is); (case k6 => k_is); (case k7 => k_is); (case k8 => assumption); (case k9 => k_handed); k_whole)))
local macro_rules | `(tactic| walk_at "getAttrBy ref") => `(tactic| (k_here; k_dflt (refine' kbm_ownBy ?k1 ?k2 ?k3 ?k4 ?k5 ?k6 ?k7 ?k8 ?k9 ?_; (case k1 => k_asm); (case k2 => k_asm); (case k3 => k_inst); (case k4 => k_is); (case k5 => k_is); (case k6 => k_is); (case k7 => k_is); (case k8 => assumption); (case k9 => k_handed); k_whole)))
local macro_rules | `(tactic| walk_at $s:str) => `(tactic| k_extra $s)
set_option maxRecDepth 100000 in
set_option maxHeartbeats 8000000 in
theorem c_children {w : World} {mean : ExcName → Option Value} {mg mb : Str → Option Value} {hT : Heap} {dp un : Nat} {outer : List Env} {s : Shared} {R : Result → Shared → Prop}
    {e dx d sp ti : Addr} {es : List DictEntry} {n : Nat} {ct : Tok} {v li : Value}
   (X : (hd.heap_39 w.params).In hT) (T : Top hd.view_39 L0 mean mg mb hT) (S : Sub hT s.heap) (E1 : ErrAt s.heap e dx es n d sp 129 ct v (.ref ti)) (ht : IsTup s.heap ti #[li]) (hA : dp < 700) (hU : un < 7000)
   (hR : ∀ h' tk, Sub s.heap h' → R (.ok (.ret li)) { s with heap := h', toks := tk }) :
   codeAny (model Pg w) (AT dp un outer) (.call (.ref 94) ⟨[.ref e], []⟩) R s := by
  (k_dflt (refine' enterH X T S [] ?hl ?ho ?hcd ?hroom ?hb ?hloc ?_ ?c1 ?c2 ?c3 ?c4; (case hl => intro p hp; cases hp); (case ho => k_is); (case hcd => k_is); (case hroom => simp only [recursionLimit]; omega); (case hb => exact BindsTo.of_eq rfl); (case hloc => exact locs (by rfl)); (case c1 => rfl); (case c2 => rfl); (case c3 => rfl); (case c4 => decide))
   intro g L' h₁ tk₀ Sg G F N Xg Tg
   have up : Sub s.heap g := fun b o e => G.up b o e (by simp)
   have J1 := (E1.up up).inst
   have gi := E1.gi
   have tt := ht.keeps up
   (try dsimp only); (try k_fold)
   k_with_none
   k_with "getAttr ref" => (
    (with_reducible show wpAny _ _ (getAttr (Value.ref _) (Str.ofString "is_group_error") _) _ _ _)
    refine get_prop' (p := 119) (fget := 118) (by assumption) (by assumption) (InstAt.up (by assumption) (fun b o e => Fr.keep (by assumption) b o e)) (by k_is) (by k_is) (by k_is) (by k_is) (by k_is) (by k_is) ?_
    refine codeAny_weaken (dp := dp + 1) (un := un + 4) rfl rfl (Nat.le_refl _) (Nat.le_refl _) (c_isgroup Xg Tg (Fr.sub (by assumption)) (E1.up (Sub.trans up (Fr.sub (by assumption)))) (.inl rfl) (by omega) (by omega) ?_)
    intro h' tk' hs'
    have F' := frSub (by assumption) hs'
    have N' := newsSub (by assumption) hs'
    refine handed_on (by rfl) ?_)
   k_steps
   all_goals (try dsimp only)
   all_goals (first | exact hR _ _ (G.sub (by assumption)) | trace_state))
end Ez
end
section
example : True := by
  w_top off
  trivial
open PySem PySem.W PySem.Calls PyProof.Rows
namespace Ez
abbrev Led := List (Addr × Obj)
def Live (h : Heap) (led : Led) : Prop := ∀ e ∈ led, h.get? e.1 = some e.2
/-- what a call leaves of the heap and of the tree's ledger -/
structure After (h : Heap) (led : Led) (h' : Heap) (led' : Led) : Prop where
  keep : ∀ b o, h.get? b = some o → b ∉ led.map (·.1) → h'.get? b = some o
  live : Live h' led'
  new : ∀ e ∈ led', e.1 ∈ led.map (·.1) ∨ h.get? e.1 = none
theorem After.refl {h : Heap} {led : Led} (l : Live h led) : After h led h led := ⟨fun _ _ e _ => e, l, fun e he => .inl (List.mem_map_of_mem he)⟩
theorem After.sub {h h' : Heap} {led : Led} (l : Live h led) (s : Sub h h') : After h led h' led := ⟨fun _ _ e _ => s _ _ e, fun e he => s _ _ (l e he), fun e he => .inl (List.mem_map_of_mem he)⟩
theorem After.trans {h h' h'' : Heap} {l l' l'' : Led} (a : After h l h' l') (b : After h' l' h'' l'') : After h l h'' l'' := by
  refine ⟨fun x o e n => b.keep x o (a.keep x o e n) fun hm => ?_, b.live, fun e he => ?_⟩
  · obtain ⟨p, hp, rfl⟩ := List.mem_map.mp hm
    rcases a.new p hp with q | q
    · exact n q
    · rw [q] at e; cases e
  · by_cases hl : e.1 ∈ l.map (·.1)
    · exact .inl hl
    · right
      cases q : h.get? e.1 with
      | none => rfl
      | some o =>
        have := a.keep _ _ q hl
        rcases b.new e he with z | z
        · obtain ⟨p, hp, e1⟩ := List.mem_map.mp z
          rcases a.new p hp with y | y
          · rw [e1] at y; exact absurd y hl
          · rw [e1, q] at y; cases y
        · rw [this] at z; cases z
theorem After.step {g h h' : Heap} {L : Addr} {m : Str → Option Value} {tl led led' : Led} (F : Fr g L h m) (N : News g L h (tl ++ led)) (a : After h led h' led') (ht : ∀ p ∈ tl, p.1 ∉ led.map (·.1)) :
    Fr g L h' m ∧ News g L h' (tl ++ led') := by
  have off : ∀ b, b ∈ led.map (·.1) → b ≠ L ∧ g.get? b = none := fun b hb => by
    obtain ⟨p, hp, rfl⟩ := List.mem_map.mp hb
    exact (N p (List.mem_append_right _ hp)).2
  obtain ⟨oL, es, ep, hL, r⟩ := F.ns
  refine ⟨⟨⟨oL, es, ep, a.keep _ _ hL fun hm => (off _ hm).1 rfl, r⟩, fun b o e => a.keep _ _ (F.keep b o e) fun hm => (by rw [(off _ hm).2] at e; cases e), F.above⟩, fun p hp => ?_⟩
  rcases List.mem_append.mp hp with hp | hp
  · have := N p (List.mem_append_left _ hp)
    exact ⟨a.keep _ _ this.1 (ht p hp), this.2⟩
  · refine ⟨a.live p hp, ?_⟩
    rcases a.new p hp with q | q
    · exact off _ q
    · refine ⟨fun e => (by rw [e, hL] at q; cases q), ?_⟩
      cases z : g.get? p.1 with
      | none => rfl
      | some o => rw [F.keep _ _ z] at q; cases q
theorem After.of_frame {s g h' : Heap} {L : Addr} {m : Str → Option Value} {tl led led' : Led} (G : Gnd s led g) (F : Fr g L h' m) (N : News g L h' (tl ++ led')) : After s led h' led' := by
  refine ⟨fun b o e n => F.keep _ _ (G.up b o e n), fun e he => (N e (List.mem_append_right _ he)).1, fun e he => ?_⟩
  have := (N e (List.mem_append_right _ he)).2.2
  by_cases hl : e.1 ∈ led.map (·.1)
  · exact .inl hl
  · right
    cases q : s.get? e.1 with
    | none => rfl
    | some o => rw [G.up _ _ q hl] at this; cases this
theorem Live.inj {h : Heap} {led : Led} (l : Live h led) {a : Addr} {o o' : Obj} (x : (a, o) ∈ led) (y : (a, o') ∈ led) : o = o' := Option.some.inj ((l _ x).symm.trans (l _ y))
/-- a ledger with one object changed -/
def setL (led : Led) (a : Addr) (o : Obj) : Led := led.map fun e => if e.1 = a then (a, o) else e
theorem setL_self {led : Led} {a : Addr} {o o' : Obj} (x : (a, o) ∈ led) : (a, o') ∈ setL led a o' := List.mem_map.mpr ⟨_, x, by simp⟩
theorem setL_other {led : Led} {a b : Addr} {o o' : Obj} (x : (b, o) ∈ led) (n : b ≠ a) : (b, o) ∈ setL led a o' := List.mem_map.mpr ⟨_, x, by simp [n]⟩
theorem setL_mem {led : Led} {a : Addr} {o' : Obj} {e : Addr × Obj} (x : e ∈ setL led a o') : (e = (a, o') ∧ a ∈ led.map (·.1)) ∨ (e ∈ led ∧ e.1 ≠ a) := by
  obtain ⟨p, hp, rfl⟩ := List.mem_map.mp x
  by_cases h : p.1 = a
  · rw [if_pos h]; exact .inl ⟨rfl, h ▸ List.mem_map_of_mem hp⟩
  · rw [if_neg h]; exact .inr ⟨hp, h⟩
theorem After.set {h h' : Heap} {led : Led} {a : Addr} {o' : Obj} (l : Live h led) (k : ∀ b o, h.get? b = some o → b ≠ a → h'.get? b = some o) (ha : h'.get? a = some o') (hm : a ∈ led.map (·.1)) : After h led h' (setL led a o') := by
  refine ⟨fun b o e n => k b o e fun z => n (z ▸ hm), fun e he => ?_, fun e he => ?_⟩
  · rcases setL_mem he with ⟨rfl, _⟩ | ⟨x, n⟩
    · exact ha
    · exact k _ _ (l e x) n
  · rcases setL_mem he with ⟨rfl, x⟩ | ⟨x, n⟩
    · exact .inl x
    · exact .inl (List.mem_map_of_mem x)
structure NRec where
  nd : Addr
  xd : Addr
  el : Addr
  eld : Addr
  dd : Addr
  pt : Addr
  pn : Value
  dO : Obj
  vs : List Value
  errs : List Nat
  ep : Nat
  kvs : List (Atom × Value)
def cOf (C : Addr) (p : List Atom) : Addr := if p = [] then C else 240
/-- the tree as it lies: its nodes by their places -/
structure TreeL (w : World) (D : Errs) (hT : Heap) (C rt : Addr) (N : List Atom → Option NRec) (led : Led) : Prop where
  root : ∃ r, N [] = some r ∧ r.nd = rt ∧ r.pn = .none
  ob : ∀ p r, N p = some r → (r.nd, selfO (cOf C p) r.xd r.dd r.el r.pn r.pt rt) ∈ led ∧ (r.xd, dictOf [] 0) ∈ led
  el : ∀ p r, N p = some r → (r.el, elO (D.refs r.errs) r.ep r.eld) ∈ led ∧ (r.eld, dictOf [] 0) ∈ led
  dd : ∀ p r, N p = some r → (r.dd, r.dO) ∈ led ∧ r.dO.IsDictOf (atomKind Pg w) r.kvs
  sons : ∀ p r, N p = some r → ∀ k, valueAt r.kvs k = (N (p ++ [k])).map (Value.ref ·.nd)
  pt : ∀ p r, N p = some r → KTup hT led r.pt r.vs ∧ AtomsAre r.vs p ∧ p.all Atom.ok = true
  inj : ∀ p q r r', N p = some r → N q = some r' → (r.el = r'.el ∨ r.dd = r'.dd) → p = q
  apart : ∀ p r q r', N p = some r → N q = some r' → r.dd ≠ r'.xd ∧ r.dd ≠ r'.eld
  off : ∀ e ∈ led, hT.get? e.1 = none
  pre : ∀ q k, N q = none → N (q ++ [k]) = none
  lo : ∀ p r, N p = some r → (r.dd == sysModules) = false
  isC : C = 303 ∨ C = 315
  noit : NoIt led
section
variable {w : World} {D : Errs} {hT h : Heap} {C rt : Addr} {N : List Atom → Option NRec} {led : Led}
theorem IsDict_cls {prog : Program} {w : World} {K : Type} [DecidableEq K] {knd : KeyKind prog w K} {o : Obj} {kvs : List (K × Value)} (x : o.IsDictOf knd kvs) : o.cls = .type "dict" := by
  obtain ⟨es, ep, e, _⟩ := x
  exact e.1
theorem cOf_ne (hC : C = 303 ∨ C = 315) (p : List Atom) : cOf C p = 240 ∨ cOf C p = 303 ∨ cOf C p = 315 := by
  unfold cOf
  split
  · exact .inr hC
  · exact .inl rfl
theorem cOf_ne159 (hC : C = 303 ∨ C = 315) (p : List Atom) : cOf C p ≠ 159 := by
  rcases cOf_ne hC p with e | e | e <;> rw [e] <;> decide
/-- the errors of a node change -/
theorem TreeL.setEl (T : TreeL w D hT C rt N led) (l : Live h led) {p : List Atom} {r : NRec} (hr : N p = some r) (errs : List Nat) (ep : Nat) :
    TreeL w D hT C rt (fun q => if q = p then some { r with errs := errs, ep := ep } else N q) (setL led r.el (elO (D.refs errs) ep r.eld)) := by
  have mel := (T.el p r hr).1
  -- every other kind of object stays
  have other : ∀ {a : Addr} {o : Obj}, (a, o) ∈ led → o.cls ≠ .ref 159 → (a, o) ∈ setL led r.el (elO (D.refs errs) ep r.eld) := fun {a o} hm hc => setL_other hm fun z => by
    subst z
    exact hc (by rw [l.inj hm mel])
  have get : ∀ q r', (if q = p then some { r with errs := errs, ep := ep } else N q) = some r' → ∃ r0, N q = some r0 ∧ r'.nd = r0.nd ∧ r'.xd = r0.xd ∧ r'.el = r0.el ∧ r'.eld = r0.eld ∧ r'.dd = r0.dd ∧ r'.pt = r0.pt ∧ r'.pn = r0.pn ∧ r'.dO = r0.dO ∧ r'.vs = r0.vs ∧ r'.kvs = r0.kvs ∧
      ((q = p ∧ r'.errs = errs ∧ r'.ep = ep) ∨ (q ≠ p ∧ r' = r0)) := by
    intro q r' e
    by_cases hq : q = p
    · rw [if_pos hq] at e; cases e; subst hq
      exact ⟨r, hr, rfl, rfl, rfl, rfl, rfl, rfl, rfl, rfl, rfl, rfl, .inl ⟨rfl, rfl, rfl⟩⟩
    · rw [if_neg hq] at e
      exact ⟨r', e, rfl, rfl, rfl, rfl, rfl, rfl, rfl, rfl, rfl, rfl, .inr ⟨hq, rfl⟩⟩
  have nds : ∀ q, ((if q = p then some { r with errs := errs, ep := ep } else N q).map (Value.ref ·.nd)) = (N q).map (Value.ref ·.nd) := by
    intro q
    by_cases hq : q = p
    · rw [if_pos hq, hq, hr]; rfl
    · rw [if_neg hq]
  refine ⟨?_, ?_, ?_, ?_, ?_, ?_, ?_, ?_, ?_, ?_, fun q r' e => by obtain ⟨r0, e0, a1, a2, a3, a4, a5, _⟩ := get q r' e; rw [a5]; exact T.lo q r0 e0, T.isC, ?_⟩
  · obtain ⟨r0, e0, e1, e2⟩ := T.root
    by_cases hq : [] = p
    · refine ⟨{ r with errs := errs, ep := ep }, if_pos hq, ?_, ?_⟩ <;> (subst hq; rw [e0] at hr; cases hr; assumption)
    · exact ⟨r0, by rw [if_neg hq]; exact e0, e1, e2⟩
  · intro q r' e
    obtain ⟨r0, e0, a1, a2, a3, a4, a5, a6, a7, a8, a9, a10, a11⟩ := get q r' e
    have := T.ob q r0 e0
    rw [a1, a2, a3, a5, a6, a7]
    exact ⟨other this.1 (by show Value.ref _ ≠ _; intro z; exact cOf_ne159 T.isC q (by injection z)), other this.2 (by decide)⟩
  · intro q r' e
    obtain ⟨r0, e0, a1, a2, a3, a4, a5, a6, a7, a8, a9, a10, a11⟩ := get q r' e
    have := T.el q r0 e0
    refine ⟨?_, by rw [a4]; exact other this.2 (by decide)⟩
    rcases a11 with ⟨rfl, b1, b2⟩ | ⟨b1, rfl⟩
    · rw [e0] at hr; cases hr
      rw [a3, a4, b1, b2]
      exact setL_self mel
    · exact setL_other this.1 fun z => b1 (T.inj q p _ r e0 hr (.inl z))
  · intro q r' e
    obtain ⟨r0, e0, a1, a2, a3, a4, a5, a6, a7, a8, a9, a10, a11⟩ := get q r' e
    have := T.dd q r0 e0
    rw [a5, a8, a10]
    exact ⟨other this.1 (by rw [IsDict_cls this.2]; decide), this.2⟩
  · intro q r' e k
    obtain ⟨r0, e0, a1, a2, a3, a4, a5, a6, a7, a8, a9, a10, a11⟩ := get q r' e
    rw [a10, nds]
    exact T.sons q r0 e0 k
  · intro q r' e
    obtain ⟨r0, e0, a1, a2, a3, a4, a5, a6, a7, a8, a9, a10, a11⟩ := get q r' e
    have := T.pt q r0 e0
    rw [a6, a9]
    exact ⟨this.1.imp id fun hm => other hm (by show Value.type "tuple" ≠ _; decide), this.2⟩
  · intro q q' r1 r2 e1 e2 z
    obtain ⟨r0, e0, a1, a2, a3, a4, a5, a6, a7, a8, a9, a10, a11⟩ := get q r1 e1
    obtain ⟨r0', e0', b1, b2, b3, b4, b5, b6, b7, b8, b9, b10, b11⟩ := get q' r2 e2
    rw [a3, a5, b3, b5] at z
    exact T.inj q q' _ _ e0 e0' z
  · intro q r1 q' r2 e1 e2
    obtain ⟨r0, e0, a1, a2, a3, a4, a5, a6, a7, a8, a9, a10, a11⟩ := get q r1 e1
    obtain ⟨r0', e0', b1, b2, b3, b4, b5, b6, b7, b8, b9, b10, b11⟩ := get q' r2 e2
    rw [a5, b2, b4]
    exact T.apart q _ q' _ e0 e0'
  · intro e he
    rcases setL_mem he with ⟨rfl, x⟩ | ⟨x, n⟩
    · show hT.get? r.el = none
      exact T.off _ mel
    · exact T.off e x
  · intro q k e
    by_cases hq : q = p
    · rw [if_pos hq] at e; cases e
    · rw [if_neg hq] at e
      have := T.pre q k e
      by_cases hq' : q ++ [k] = p
      · rw [hq', hr] at this; cases this
      · rw [if_neg hq']; exact this
  · intro e he
    rcases setL_mem he with ⟨rfl, x⟩ | ⟨x, n⟩
    · show Value.ref 159 ∉ iterCls; simp [iterCls]
    · exact T.noit e x
theorem valueAt_new {kvs : List (Atom × Value)} {k : Atom} {v : Value} (h : valueAt kvs k = none) : stored kvs k v = kvs ++ [(k, v)] ∧ ∀ k', valueAt (kvs ++ [(k, v)]) k' = if k' = k then some v else valueAt kvs k' := by
  have hn : kvs.find? (fun kv => decide (kv.1 = k)) = none := by
    unfold valueAt at h
    cases q : kvs.find? (fun kv => decide (kv.1 = k)) with
    | none => rfl
    | some y => rw [q] at h; cases h
  constructor
  · unfold stored
    rw [if_neg]
    rw [List.any_eq_true]
    rintro ⟨x, hx, e⟩
    exact absurd e (List.find?_eq_none.mp hn x hx)
  · intro k'
    unfold valueAt
    rw [List.find?_append]
    by_cases hk : k' = k
    · subst hk
      rw [hn]; simp
    · rw [if_neg hk]
      cases q : kvs.find? (fun kv => decide (kv.1 = k')) with
      | none => simp [Ne.symm hk]
      | some y => simp
theorem valueAt_nil {k : Atom} : valueAt ([] : List (Atom × Value)) k = none := rfl
/-- a new node under an old one -/
theorem TreeL.grow (T : TreeL w D hT C rt N led) {h1 h2 h3 : Heap} (l : Live h1 led) (SB : Sub hT h1) {p : List Atom} {k : Atom} {r : NRec} (hr : N p = some r) (hnew : N (p ++ [k]) = none)
    {x xd pp dd el eld pt ep : Nat} {dO o' : Obj} {vs : List Value} {key : List Atom}
    (ix : h1.get? x = some (instObj 240 xd)) (ixd : h1.get? xd = some (dictOf [] 0)) (xl : ∀ e ∈ led, e.1 ≠ x ∧ e.1 ≠ xd) (xT : hT.get? x = none) (xdT : hT.get? xd = none)
    (Nn : NewNode w h1 h2 x xd r.nd pp rt vs (p.length + 1) dd el eld pt ep dO)
    (hpp : PathAt hT pp vs key) (hkey : key.take (p.length + 1) = p ++ [k]) 
    (k3 : ∀ b o, h2.get? b = some o → b ≠ r.dd → h3.get? b = some o) (o3 : h3.get? r.dd = some o') (d3 : o'.IsDictOf (atomKind Pg w) (stored r.kvs k (.ref x))) :
    ∃ led', Live h3 led' ∧ (∀ e ∈ led', e.1 ∈ led.map (·.1) ∨ h1.get? e.1 = none ∨ e.1 = x ∨ e.1 = xd) ∧ TreeL w D hT C rt (fun q => if q = p ++ [k] then some ⟨x, xd, el, eld, dd, pt, .ref r.nd, dO, vs.take (p.length + 1), [], ep, []⟩ else if q = p then some { r with kvs := r.kvs ++ [(k, .ref x)], dO := o' } else N q) led' := by
  have mdd := T.dd p r hr
  have liv : ∀ e ∈ led, ∀ a : Addr, h1.get? a = none → e.1 ≠ a := fun e he a ha z => by
    have := l e he
    rw [z, ha] at this; cases this
  have hdd := Nn.nd
  have hel := Nn.ne
  have held := Nn.ned
  have tn : ∀ a : Addr, h1.get? a = none → hT.get? a = none := fun a ha => by
    cases q : hT.get? a with
    | none => rfl
    | some o => rw [SB _ _ q] at ha; cases ha
  -- the paths' part of the ledger
  obtain ⟨tpl, tplN, tplK, tplH⟩ : ∃ tpl : Led, (∀ e ∈ tpl, h1.get? e.1 = none ∧ e.2.cls = .type "tuple" ∧ h2.get? e.1 = some e.2) ∧ (∀ ledx : Led, (∀ e ∈ tpl, e ∈ ledx) → KTup hT ledx pt (vs.take (p.length + 1))) ∧ True := by
    rcases Nn.path with ⟨rfl, hl⟩ | ⟨a, b, c⟩
    · refine ⟨[], (fun e he => nomatch he), fun _ _ => .inl ?_, trivial⟩
      rw [List.take_of_length_le hl]
      exact hpp.tup
    · exact ⟨[(pt, tupO (vs.take (p.length + 1)))], fun e he => by rw [List.mem_singleton.mp he]; exact ⟨a, rfl, c⟩, fun _ hs => .inr (hs _ (.head _)), trivial⟩
  let fresh : Led := [(x, selfO 240 xd dd el (.ref r.nd) pt rt), (xd, dictOf [] 0), (dd, dO), (el, elO [] ep eld), (eld, dictOf [] 0)] ++ tpl
  have rdne : ∀ a : Addr, h1.get? a = none → a ≠ r.dd := fun a ha z => liv _ mdd.1 a ha z.symm
  have fr2 : ∀ e ∈ fresh, (h1.get? e.1 = none ∨ e.1 = x ∨ e.1 = xd) ∧ e.1 ≠ r.dd ∧ hT.get? e.1 = none ∧ h2.get? e.1 = some e.2 := by
    intro e he
    rcases List.mem_append.mp he with he | he
    · simp only [List.mem_cons, List.not_mem_nil, or_false] at he
      rcases he with rfl | rfl | rfl | rfl | rfl
      · exact ⟨.inr (.inl rfl), fun z => (xl _ mdd.1).1 z.symm, xT, Nn.self⟩
      · exact ⟨.inr (.inr rfl), fun z => (xl _ mdd.1).2 z.symm, xdT, Nn.sd⟩
      · exact ⟨.inl hdd, rdne _ hdd, tn _ hdd, Nn.dict⟩
      · exact ⟨.inl hel, rdne _ hel, tn _ hel, Nn.elo⟩
      · exact ⟨.inl held, rdne _ held, tn _ held, Nn.eldo⟩
    · have := tplN e he
      exact ⟨.inl this.1, rdne _ this.1, tn _ this.1, this.2.2⟩
  have mf : ∀ e ∈ fresh, e ∈ fresh ++ setL led r.dd o' := fun e he => List.mem_append_left _ he
  have mo : ∀ {a : Addr} {o : Obj}, (a, o) ∈ led → a ≠ r.dd → (a, o) ∈ fresh ++ setL led r.dd o' := fun hm n => List.mem_append_right _ (setL_other hm n)
  have other : ∀ {a : Addr} {o : Obj}, (a, o) ∈ led → o.cls ≠ .type "dict" → (a, o) ∈ fresh ++ setL led r.dd o' := fun {a o} hm hc => mo hm fun z => by
    subst z
    exact hc (by rw [l.inj hm mdd.1]; exact IsDict_cls mdd.2)
  have vnew := valueAt_new (v := .ref x) (by rw [T.sons p r hr k, hnew]; rfl : valueAt r.kvs k = none)
  have pk : p ++ [k] ≠ p := fun z => by have := congrArg List.length z; simp at this
  have get : ∀ q r', (if q = p ++ [k] then some (⟨x, xd, el, eld, dd, pt, .ref r.nd, dO, vs.take (p.length + 1), [], ep, []⟩ : NRec) else if q = p then some { r with kvs := r.kvs ++ [(k, .ref x)], dO := o' } else N q) = some r' →
      (q = p ++ [k] ∧ r' = ⟨x, xd, el, eld, dd, pt, .ref r.nd, dO, vs.take (p.length + 1), [], ep, []⟩) ∨ (q ≠ p ++ [k] ∧ q = p ∧ r' = { r with kvs := r.kvs ++ [(k, .ref x)], dO := o' }) ∨ (q ≠ p ++ [k] ∧ q ≠ p ∧ N q = some r') := by
    intro q r' e
    by_cases h1 : q = p ++ [k]
    · rw [if_pos h1] at e; cases e; exact .inl ⟨h1, rfl⟩
    · rw [if_neg h1] at e
      by_cases h2 : q = p
      · rw [if_pos h2] at e; cases e; exact .inr (.inl ⟨h1, h2, rfl⟩)
      · rw [if_neg h2] at e; exact .inr (.inr ⟨h1, h2, e⟩)
  refine ⟨fresh ++ setL led r.dd o', fun e he => ?_, fun e he => ?_, ⟨?_, ?_, ?_, ?_, ?_, ?_, ?_, ?_, ?_, ?_, fun q r' e => (by rcases get q r' e with ⟨rfl, rfl⟩ | ⟨_, rfl, rfl⟩ | ⟨_, _, e'⟩; exact Nn.lo; exact T.lo q r hr; exact T.lo q r' e'), T.isC, ?_⟩⟩
  · rcases List.mem_append.mp he with he | he
    · have := fr2 e he
      exact k3 _ _ this.2.2.2 this.2.1
    · rcases setL_mem he with ⟨rfl, _⟩ | ⟨y, n⟩
      · exact o3
      · exact k3 _ _ (Nn.keep _ _ (l e y) (xl e y).1) n
  · rcases List.mem_append.mp he with he | he
    · exact .inr (fr2 e he).1
    · rcases setL_mem he with ⟨rfl, y⟩ | ⟨y, n⟩
      · exact .inl y
      · exact .inl (List.mem_map_of_mem y)
  · obtain ⟨r0, e0, e1, e2⟩ := T.root
    have hk0 : ([] : List Atom) ≠ p ++ [k] := fun z => by have := congrArg List.length z; simp at this
    by_cases hq : [] = p
    · subst hq
      rw [e0] at hr; cases hr
      exact ⟨{ r with kvs := r.kvs ++ [(k, .ref x)], dO := o' }, by rw [if_neg hk0, if_pos rfl], e1, e2⟩
    · exact ⟨r0, by rw [if_neg hk0, if_neg hq]; exact e0, e1, e2⟩
  · intro q r' e
    rcases get q r' e with ⟨rfl, rfl⟩ | ⟨_, rfl, rfl⟩ | ⟨_, _, e'⟩
    · have hc : cOf C (p ++ [k]) = 240 := by unfold cOf; rw [if_neg (by simp)]
      rw [hc]
      exact ⟨mf _ (by simp [fresh]), mf _ (by simp [fresh])⟩
    · have := T.ob q r hr
      exact ⟨other this.1 (by intro z; cases z), mo this.2 (T.apart q r q r hr hr).1.symm⟩
    · have := T.ob q r' e'
      exact ⟨other this.1 (by intro z; cases z), mo this.2 (T.apart p r q r' hr e').1.symm⟩
  · intro q r' e
    rcases get q r' e with ⟨rfl, rfl⟩ | ⟨_, rfl, rfl⟩ | ⟨_, _, e'⟩
    · exact ⟨mf _ (by simp [fresh, Errs.refs]), mf _ (by simp [fresh])⟩
    · have := T.el q r hr
      exact ⟨other this.1 (by intro z; cases z), mo this.2 (T.apart q r q r hr hr).2.symm⟩
    · have := T.el q r' e'
      exact ⟨other this.1 (by intro z; cases z), mo this.2 (T.apart p r q r' hr e').2.symm⟩
  · intro q r' e
    rcases get q r' e with ⟨rfl, rfl⟩ | ⟨_, rfl, rfl⟩ | ⟨_, hq, e'⟩
    · exact ⟨mf _ (by simp [fresh]), Nn.isd⟩
    · exact ⟨List.mem_append_right _ (setL_self mdd.1), by rw [← vnew.1]; exact d3⟩
    · have := T.dd q r' e'
      exact ⟨mo this.1 fun z => hq (T.inj q p r' r e' hr (.inr z)), this.2⟩
  · intro q r' e k'
    rcases get q r' e with ⟨rfl, rfl⟩ | ⟨_, rfl, rfl⟩ | ⟨hq1, hq, e'⟩
    · have a1 : p ++ [k] ++ [k'] ≠ p ++ [k] := fun z => by have := congrArg List.length z; simp at this
      have a2 : p ++ [k] ++ [k'] ≠ p := fun z => by have := congrArg List.length z; simp at this
      rw [if_neg a1, if_neg a2, T.pre _ k' hnew]
      rfl
    · have a2 : q ++ [k'] ≠ q := fun z => by have := congrArg List.length z; simp at this
      rw [vnew.2 k', if_neg a2]
      by_cases hk : k' = k
      · subst hk; rw [if_pos rfl, if_pos rfl]; rfl
      · rw [if_neg hk, if_neg (fun z => hk (by simpa using z))]
        exact T.sons q r hr k'
    · have a1 : q ++ [k'] ≠ p ++ [k] := fun z => hq (List.append_inj_left' z rfl)
      rw [if_neg a1, T.sons q r' e' k']
      by_cases hq' : q ++ [k'] = p
      · rw [if_pos hq', hq', hr]; rfl
      · rw [if_neg hq']
  · intro q r' e
    rcases get q r' e with ⟨rfl, rfl⟩ | ⟨_, rfl, rfl⟩ | ⟨_, _, e'⟩
    · refine ⟨tplK _ fun e he => mf _ (List.mem_append_right _ he), ?_, ?_⟩
      · rw [← hkey]; exact hpp.ats.take _
      · rw [← hkey]; exact ok_take _ hpp.ok
    · have := T.pt q r hr
      exact ⟨this.1.imp id fun hm => other hm (by show Value.type "tuple" ≠ _; decide), this.2⟩
    · have := T.pt q r' e'
      exact ⟨this.1.imp id fun hm => other hm (by show Value.type "tuple" ≠ _; decide), this.2⟩
  · intro q q' r1 r2 e1 e2 z
    have new_old : ∀ q0 r0, N q0 = some r0 → ¬ ((el : Addr) = r0.el ∨ (dd : Addr) = r0.dd) := fun q0 r0 e0 z => by
      rcases z with z | z
      · exact liv _ (T.el q0 r0 e0).1 _ hel z.symm
      · exact liv _ (T.dd q0 r0 e0).1 _ hdd z.symm
    rcases get q r1 e1 with ⟨rfl, rfl⟩ | ⟨_, rfl, rfl⟩ | ⟨_, hq, e1'⟩ <;> rcases get q' r2 e2 with ⟨rfl, rfl⟩ | ⟨_, rfl, rfl⟩ | ⟨_, hq', e2'⟩
    · rfl
    · exact absurd z (new_old _ r hr)
    · exact absurd z (new_old _ r2 e2')
    · exact absurd (z.imp Eq.symm Eq.symm) (new_old _ r hr)
    · rfl
    · exact T.inj q q' r r2 hr e2' z
    · exact absurd (z.imp Eq.symm Eq.symm) (new_old _ r1 e1')
    · exact T.inj q q' r1 r e1' hr z
    · exact T.inj q q' r1 r2 e1' e2' z
  · intro q r1 q' r2 e1 e2
    rcases get q r1 e1 with ⟨rfl, rfl⟩ | ⟨_, rfl, rfl⟩ | ⟨_, hq, e1'⟩ <;> rcases get q' r2 e2 with ⟨rfl, rfl⟩ | ⟨_, rfl, rfl⟩ | ⟨_, hq', e2'⟩
    · exact ⟨fun z => (by have z' : dd = xd := z; rw [← z', Nn.nd] at ixd; cases ixd), Nn.apart.2.1⟩
    · exact ⟨fun z => liv _ (T.ob q' r hr).2 _ hdd z.symm, fun z => liv _ (T.el q' r hr).2 _ hdd z.symm⟩
    · exact ⟨fun z => liv _ (T.ob q' r2 e2').2 _ hdd z.symm, fun z => liv _ (T.el q' r2 e2').2 _ hdd z.symm⟩
    · exact ⟨(xl _ mdd.1).2, (rdne _ held).symm⟩
    · exact T.apart _ r _ r hr hr
    · exact T.apart _ r q' r2 hr e2'
    · exact ⟨(xl _ (T.dd q r1 e1').1).2, fun z => liv _ (T.dd q r1 e1').1 _ held z⟩
    · exact T.apart q r1 q' r e1' hr
    · exact T.apart q r1 q' r2 e1' e2'
  · intro e he
    rcases List.mem_append.mp he with he | he
    · exact (fr2 e he).2.2.1
    · rcases setL_mem he with ⟨rfl, y⟩ | ⟨y, n⟩
      · show hT.get? r.dd = none
        exact T.off _ mdd.1
      · exact T.off e y
  · intro q k' e
    by_cases h1 : q = p ++ [k]
    · rw [if_pos h1] at e; cases e
    · rw [if_neg h1] at e
      by_cases h2 : q = p
      · rw [if_pos h2] at e; cases e
      · rw [if_neg h2] at e
        have := T.pre q k' e
        have a1 : q ++ [k'] ≠ p ++ [k] := fun z => h2 (List.append_inj_left' z rfl)
        rw [if_neg a1]
        by_cases h3 : q ++ [k'] = p
        · rw [h3, hr] at this; cases this
        · rw [if_neg h3]; exact this
  · intro e he
    rcases List.mem_append.mp he with he | he
    · rcases List.mem_append.mp he with he | he
      · simp only [List.mem_cons, List.not_mem_nil, or_false] at he
        rcases he with rfl | rfl | rfl | rfl | rfl <;> first | (show Value.ref _ ∉ iterCls; simp [iterCls]; done) | (show Value.type "dict" ∉ iterCls; simp [iterCls]; done) | (rw [IsDict_cls Nn.isd]; simp [iterCls]; done)
      · rw [(tplN e he).2.1]; simp [iterCls]
    · rcases setL_mem he with ⟨rfl, y⟩ | ⟨y, n⟩
      · show o'.cls ∉ iterCls
        rw [IsDict_cls d3]; simp [iterCls]
      · exact T.noit e y
end
end Ez
end
section
example : True := by
  w_top off
  trivial
open PySem PySem.W PySem.Calls PyProof.Rows
namespace Ez
section
variable {prog : Program} {w : World} {A : Around} {E : Value → Shared → Prop} {s : Shared} {env : Env} {h₀ : Heap} {x : Str} {body : List Stmt} {Q : Flow → Shared → Prop}
theorem loopCoreI {I : Addr} {fp : List Addr} {n : Nat} {P : Nat → Value → Prop} {St : Nat → Heap → Prop} {m₀ : Str → Option Value} {news : List (Addr × Obj)} {io : Obj} (J : Nat → (Str → Option Value) → List (Addr × Obj) → Prop)
    (hI : I = s.heap.objs.size) (hf : io.isFreed = false) (hc : ∀ j h, St j h → ∃ o, h.get? I = some o ∧ o.cls ∈ iterCls) (W : Walks prog w A I (I :: fp) [I] n P St) (hfp : env.locals ∉ fp) (hst : St 0 (s.heap.push io)) (F : Fr h₀ env.locals s.heap m₀) (N : News h₀ env.locals s.heap news)
    (hj : J 0 m₀ news) (hJ : ∀ i m l, J i m l → NoIt l) (hfk : ∀ b ∈ fp, (∃ o, h₀.get? b = some o) ∨ ∃ o, ∀ i m l, J i m l → (b, o) ∈ l)
    (turn : ∀ i v m₁ news₁ h tk io, i < n → P i v → J i m₁ news₁ → Fr h₀ env.locals h (fun y => if y = x then some v else m₁ y) → News h₀ env.locals h ((I, io) :: news₁) → NoIt news₁ → io.cls ∈ iterCls →
      wpAny (model prog w) A (execs body env) (TurnEnd h₀ env.locals (I, io) (J (i + 1)) { s with heap := h, toks := tk } Q) E { s with heap := h, toks := tk })
    (done : ∀ m₁ news₁ h tk, J n m₁ news₁ → Fr h₀ env.locals h m₁ → News h₀ env.locals h news₁ → Q .next { s with heap := h, toks := tk }) :
    LoopAtV prog w A h₀ env x body Q E (.ref I) { s with heap := s.heap.push io } := by
  subst hI
  refine ⟨s.heap.objs.size, s.heap.objs.size :: fp, [s.heap.objs.size], n, P, St, m₀, news, J, rfl, W, ?_, ?_, ?_, hst, F.push _, fun p hp => ⟨Heap.get?_push_of_some _ (N p hp).1, (N p hp).2⟩, hj, ?_, ?_⟩
  · intro hm
    rcases List.mem_cons.mp hm with e | hm
    · exact absurd F.ns.lt (e ▸ Nat.lt_irrefl _)
    · exact hfp hm
  · intro b hb
    rw [List.mem_singleton.mp hb]
    exact next_is_new F
  · intro p hp hI
    exact absurd (Heap.lt_size (N p hp).1) ((List.mem_singleton.mp hI) ▸ Nat.lt_irrefl _)
  · rintro i v m₁ news₁ s₁ own ⟨hh', tk', rfl⟩ hin hP hJi hoff hofp hoat hown hst' F₁ N₁
    obtain ⟨oi, ho, hcl⟩ := hc _ _ hst'
    have hio : (s.heap.objs.size, oi) ∈ own := hown _ (.head _) (next_is_new F) _ ho
    have N₂ : News h₀ env.locals hh' ((s.heap.objs.size, oi) :: news₁) := fun p hp => (List.mem_cons.mp hp).elim (fun e => e ▸ N₁ _ (List.mem_append_left _ hio)) fun hp => N₁ p (List.mem_append_right _ hp)
    refine wpAny_mono (turn i v m₁ news₁ hh' tk' oi hin hP hJi F₁ N₂ (hJ _ _ _ hJi) hcl) (fun f s₂ p => ?_) fun _ _ e => e
    have fin : (∃ h' tk m' news', s₂ = { s with heap := h', toks := tk } ∧ Fr h₀ env.locals h' m' ∧ News h₀ env.locals h' ((s.heap.objs.size, oi) :: news') ∧ J (i + 1) m' news') →
        LoopStepU h₀ env.locals [s.heap.objs.size] own (J (i + 1)) { s with heap := hh', toks := tk' } .next s₂ := by
      rintro ⟨h', tk, m', news', rfl, F', N', hJ'⟩
      have Nown : News h₀ env.locals h' (own ++ news') := by
        intro p hp
        rcases List.mem_append.mp hp with hp | hp
        · have a1 := hoat p hp
          have a2 := N₁ p (List.mem_append_left _ hp)
          rcases List.mem_cons.mp (hofp p hp) with e | e
          · have e2 : p.2 = oi := Option.some.inj (a1.symm.trans (by rw [e]; exact ho))
            have e3 : p = (s.heap.objs.size, oi) := Prod.ext e e2
            rw [e3]
            exact N' _ (.head _)
          · rcases hfk _ e with ⟨o, q⟩ | ⟨o, q⟩
            · rw [a2.2.2] at q; cases q
            · have b1 := (N₂ _ (.tail _ (q _ _ _ hJi))).1
              have e2 : p.2 = o := Option.some.inj (a1.symm.trans b1)
              have e3 : p = (p.1, o) := Prod.ext rfl e2
              rw [e3]
              exact N' _ (.tail _ (q _ _ _ hJ'))
        · exact N' p (.tail _ hp)
      refine LoopStepU.intro (s₁ := { s with heap := hh', toks := tk' }) F' Nown (fun p hp hI => ?_) hJ'
      have hpI := List.mem_singleton.mp hI
      have hn := hJ _ _ _ hJ' p hp
      have e1 := (N' p (.tail _ hp)).1
      have e2 := (N' _ (.head _)).1
      rw [hpI] at e1
      have e3 := Option.some.inj (e1.symm.trans e2)
      rw [e3] at hn
      exact hn hcl
    cases f with
    | ret v => exact .ret p
    | brk => exact .brk p
    | next => exact .next (fin p)
    | cont => exact .cont (fin p)
  · rintro h' tk m' news' F' N' _ hJn
    exact done m' news' h' tk hJn F' N'

theorem loop_listI {r : Addr} {vs : List Value} {m₀ : Str → Option Value} {news : List (Addr × Obj)} (J : Nat → (Str → Option Value) → List (Addr × Obj) → Prop)
    (hh : A.handled = none) (hr : s.heap.IsList r vs.toArray) (hrL : env.locals ≠ r) (F : Fr h₀ env.locals s.heap m₀) (N : News h₀ env.locals s.heap news)
    (hj : J 0 m₀ news) (hJ : ∀ i m l, J i m l → NoIt l) (hfk : (∃ o, h₀.get? r = some o) ∨ ∃ o, ∀ i m l, J i m l → (r, o) ∈ l)
    (turn : ∀ i v m₁ news₁ h tk I io, vs[i]? = some v → J i m₁ news₁ → Fr h₀ env.locals h (fun y => if y = x then some v else m₁ y) → News h₀ env.locals h ((I, io) :: news₁) → NoIt news₁ → io.cls ∈ iterCls →
      wpAny (model prog w) A (execs body env) (TurnEnd h₀ env.locals (I, io) (J (i + 1)) { s with heap := h, toks := tk } Q) E { s with heap := h, toks := tk })
    (done : ∀ m₁ news₁ h tk, J vs.length m₁ news₁ → Fr h₀ env.locals h m₁ → News h₀ env.locals h news₁ → Q .next { s with heap := h, toks := tk }) :
    wpAny (model prog w) A (pyIter (.ref r)) (fun it s₂ => LoopAtV prog w A h₀ env x body Q E it s₂) E s := by
  refine wpAny_pyIter_list hr ?_
  have hne : r ≠ s.heap.objs.size := by
    obtain ⟨o, ho, _⟩ := hr
    exact Nat.ne_of_lt (Heap.lt_size ho)
  have W := Walks.list (prog := prog) (w := w) hh s.heap.objs.size r hne vs.toArray
  have hsz : vs.toArray.size = vs.length := by simp
  rw [hsz] at W
  refine loopCoreI (fp := [r]) J rfl rfl (fun j h st => ?_) W (fun h => hrL (List.mem_singleton.mp h)) ?_ F N hj hJ (fun b hb => by rw [List.mem_singleton.mp hb]; exact hfk) ?_ done
  · obtain ⟨⟨o, ho, hc, _⟩, _⟩ := st
    exact ⟨o, ho, by rw [hc]; decide⟩
  · exact ⟨⟨_, Heap.get?_push_size _ rfl, rfl, rfl⟩, hr.at fun _ e => Heap.get?_push_of_some _ e⟩
  · rintro i v m₁ news₁ h tk io hi hv hJi F₁ N₁ hN hcl
    exact turn i v m₁ news₁ h tk _ io (by simpa using hv) hJi F₁ N₁ hN hcl
theorem loop_listIS {r : Addr} {vs : List Value} {m₀ : Str → Option Value} {news : List (Addr × Obj)} (S : List Str) (J : Nat → (Str → Option Value) → List (Addr × Obj) → Prop)
    (hh : A.handled = none) (hr : s.heap.IsList r vs.toArray) (hrL : env.locals ≠ r) (F : Fr h₀ env.locals s.heap m₀) (N : News h₀ env.locals s.heap news)
    (hj : J 0 m₀ news) (hJ : ∀ i m l, J i m l → NoIt l) (hfk : (∃ o, h₀.get? r = some o) ∨ ∃ o, ∀ i m l, J i m l → (r, o) ∈ l)
    (turn : ∀ i v (u : Str → Option Value) news₁ h tk I io, vs[i]? = some v → J i (fun y => if S.contains y then u y else m₀ y) news₁ → Fr h₀ env.locals h (fun y => if y = x then some v else if S.contains y then u y else m₀ y) → News h₀ env.locals h ((I, io) :: news₁) → NoIt news₁ → io.cls ∈ iterCls →
      wpAny (model prog w) A (execs body env) (TurnEnd h₀ env.locals (I, io) (JS S m₀ (J (i + 1))) { s with heap := h, toks := tk } Q) E { s with heap := h, toks := tk })
    (done : ∀ (u : Str → Option Value) news₁ h tk, J vs.length (fun y => if S.contains y then u y else m₀ y) news₁ → Fr h₀ env.locals h (fun y => if S.contains y then u y else m₀ y) → News h₀ env.locals h news₁ → Q .next { s with heap := h, toks := tk }) :
    wpAny (model prog w) A (pyIter (.ref r)) (fun it s₂ => LoopAtV prog w A h₀ env x body Q E it s₂) E s := by
  refine loop_listI (fun i => JS S m₀ (J i)) hh hr hrL F N ⟨fun _ _ => rfl, hj⟩ (fun i m l h => hJ i m l h.2) (hfk.imp id fun ⟨o, q⟩ => ⟨o, fun i m l h => q i m l h.2⟩) ?_ ?_
  · rintro i v m₁ news₁ h tk I io hi ⟨hm, hJi⟩ F₁ N₁ hN hcl
    have e := split_S hm
    rw [e] at F₁ hJi
    exact turn i v m₁ news₁ h tk I io hi hJi F₁ N₁ hN hcl
  · rintro m₁ news₁ h tk ⟨hm, hJn⟩ F₁ N₁
    have e := split_S hm
    rw [e] at F₁ hJn
    exact done m₁ news₁ h tk hJn F₁ N₁
end
end Ez
end
section
example : True := by
  w_top off
  trivial
open PySem PySem.W PySem.Calls PyProof.Rows
namespace Ez
/-- the place of an error in a tree of that class -/
def keyOf (C : Addr) (D : Errs) (i : Nat) : List Atom := if C = 303 then D.kd i else D.ks i
def vsOf (C : Addr) (D : Errs) (i : Nat) : List Value := if C = 303 then D.vd i else D.vs i
def adOf (C : Addr) (D : Errs) (i : Nat) : Addr := if C = 303 then D.dp i else D.sp i
theorem ErrV.path {D : Errs} {h : Heap} {i : Nat} (v : ErrV D h i) (C : Addr) : PathAt h (adOf C D i) (vsOf C D i) (keyOf C D i) ∧ (keyOf C D i).length ≤ 8 := by
  unfold adOf vsOf keyOf
  by_cases h : C = 303
  · rw [if_pos h, if_pos h, if_pos h]; exact ⟨v.pd, v.ld⟩
  · rw [if_neg h, if_neg h, if_neg h]; exact ⟨v.ps, v.ls⟩
structure Inv (D : Errs) (key : Nat → List Atom) (N : List Atom → Option NRec) (S : List Nat) (ex : List Atom) : Prop where
  errs : ∀ p r, N p = some r → r.errs.Perm (S.filter fun i => decide (key i = p))
  sorted : ∀ p r, N p = some r → r.errs.Pairwise (fun i j => D.le i j = true)
  dom : ∀ p, (N p).isSome = true ↔ (∃ i ∈ S, p <+: key i) ∨ p <+: ex
structure Grp (D : Errs) (hT : Heap) (ch : Nat → List Nat) : Prop where
  code : ∀ i, i < 6 → D.code i = if ch i = [] then 66 else 129
  info : ∀ i, i < 6 → ch i ≠ [] → ∃ ti li, D.inf i = .ref ti ∧ IsTup hT ti #[.ref li] ∧ hT.IsList li ((ch i).map fun j => Value.ref (D.ea j)).toArray
  lt : ∀ i, ∀ j ∈ ch i, i < j ∧ j < 6
  nokey : ∀ i, D.kd i = [] ∨ D.ks i = [] → ch i = []
def desc (ch : Nat → List Nat) : Nat → Nat → List Nat
  | 0, i => [i]
  | n + 1, i => i :: (ch i).flatMap (desc ch n)
/-- the nodes of a tree stay -/
def Ext (N N' : List Atom → Option NRec) : Prop := ∀ p r, N p = some r → ∃ r', N' p = some r' ∧ r'.nd = r.nd
theorem Ext.refl (N : List Atom → Option NRec) : Ext N N := fun _ r h => ⟨r, h, rfl⟩
theorem Ext.trans {N N' N'' : List Atom → Option NRec} (a : Ext N N') (b : Ext N' N'') : Ext N N'' := fun p r h => by
  obtain ⟨r', h', e'⟩ := a p r h
  obtain ⟨r'', h'', e''⟩ := b p r' h'
  exact ⟨r'', h'', e''.trans e'⟩
theorem Ext.set {N : List Atom → Option NRec} {p : List Atom} {r r' : NRec} (hr : N p = some r) (e : r'.nd = r.nd) : Ext N (fun q => if q = p then some r' else N q) := fun q r0 h => by
  by_cases hq : q = p
  · subst hq
    rw [hr] at h; cases h
    exact ⟨r', if_pos rfl, e⟩
  · exact ⟨r0, (if_neg hq).trans h, rfl⟩
theorem Ext.new {N : List Atom → Option NRec} {p : List Atom} {k : Atom} {r r' n0 : NRec} (hr : N p = some r) (hn : N (p ++ [k]) = none) (e : r'.nd = r.nd) : Ext N (fun q => if q = p ++ [k] then some n0 else if q = p then some r' else N q) := fun q r0 h => by
  by_cases hq : q = p ++ [k]
  · subst hq
    rw [hn] at h; cases h
  · obtain ⟨r2, h2, e2⟩ := Ext.set hr e q r0 h
    exact ⟨r2, (if_neg hq).trans h2, e2⟩
theorem desc_lt {D : Errs} {hT : Heap} {ch : Nat → List Nat} (G : Grp D hT ch) : ∀ (n i : Nat), i < 6 → ∀ j ∈ desc ch n i, j < 6
  | 0, i, hi, j, hj => by rw [List.mem_singleton.mp hj]; exact hi
  | n + 1, i, hi, j, hj => by
    rcases List.mem_cons.mp hj with rfl | hj
    · exact hi
    · obtain ⟨a, ha, hj⟩ := List.mem_flatMap.mp hj
      exact desc_lt G n a (G.lt i a ha).2 j hj
theorem take_flat {α β : Type} {g : α → List β} : ∀ {l : List α} {n : Nat} {x : α}, l[n]? = some x → (l.take (n + 1)).flatMap g = (l.take n).flatMap g ++ g x := fun {l n x} h => by
  rw [List.take_add_one, h]; simp
theorem take_flat_len {α β : Type} {g : α → List β} {l : List α} {n : Nat} {x : α} (h : l[n]? = some x) : ((l.take n).flatMap g).length + (g x).length ≤ (l.flatMap g).length := by
  have e : l.flatMap g = (l.take (n + 1)).flatMap g ++ (l.drop (n + 1)).flatMap g := by rw [← List.flatMap_append, List.take_append_drop]
  rw [e, take_flat h, List.length_append, List.length_append]
  omega
section
variable {w : World} {D : Errs} {hT h : Heap} {C rt : Addr} {N : List Atom → Option NRec} {led : Led} {S : List Nat} {key : Nat → List Atom} {ex : List Atom}
theorem Inv.mem (I : Inv D key N S ex) {p : List Atom} {r : NRec} (hr : N p = some r) {j : Nat} (hj : j ∈ r.errs) : j ∈ S := (List.mem_filter.mp ((I.errs p r hr).mem_iff.mp hj)).1
theorem Inv.len (I : Inv D key N S ex) {p : List Atom} {r : NRec} (hr : N p = some r) : r.errs.length ≤ S.length := by
  rw [(I.errs p r hr).length_eq]; exact List.length_filter_le _ _
theorem Inv.some (I : Inv D key N S ex) {p : List Atom} (hp : p <+: ex) : ∃ r, N p = Option.some r := Option.isSome_iff_exists.mp ((I.dom p).mpr (.inr hp))
theorem Inv.leaf (I : Inv D key N S ex) {r : NRec} {i ep : Nat} {is : List Nat} (hr : N (key i) = Option.some r) (hex : ex <+: key i) (hp : is.Perm (r.errs ++ [i])) (hs : is.Pairwise (fun a b => D.le a b = true)) :
    Inv D key (fun q => if q = key i then Option.some { r with errs := is, ep := ep } else N q) (S ++ [i]) [] := by
  refine ⟨?_, ?_, ?_⟩
  · intro p r' e
    by_cases hq : p = key i
    · rw [if_pos hq] at e; cases e
      rw [List.filter_append]
      refine hp.trans (List.Perm.append (hq ▸ I.errs _ _ hr) ?_)
      rw [hq]; simp
    · rw [if_neg hq] at e
      rw [List.filter_append]
      have : [i].filter (fun j => decide (key j = p)) = [] := by simp [Ne.symm hq]
      rw [this, List.append_nil]
      exact I.errs p r' e
  · intro p r' e
    by_cases hq : p = key i
    · rw [if_pos hq] at e; cases e
      exact hs
    · rw [if_neg hq] at e
      exact I.sorted p r' e
  · intro p
    have old := I.dom p
    have top := (I.dom (key i)).mp (by rw [hr]; rfl)
    have e1 : (if p = key i then Option.some { r with errs := is, ep := ep } else N p).isSome = (N p).isSome := by
      by_cases hq : p = key i
      · rw [if_pos hq, hq, hr]; rfl
      · rw [if_neg hq]
    show (if p = key i then Option.some { r with errs := is, ep := ep } else N p).isSome = true ↔ _
    rw [e1, old]
    constructor
    · rintro (⟨j, hj, hp⟩ | hp)
      · exact .inl ⟨j, List.mem_append_left _ hj, hp⟩
      · exact .inl ⟨i, by simp, hp.trans hex⟩
    · rintro (⟨j, hj, hp⟩ | hp)
      · rcases List.mem_append.mp hj with hj | hj
        · exact .inl ⟨j, hj, hp⟩
        · rw [List.mem_singleton.mp hj] at hp
          rcases top with ⟨j', hj', hp'⟩ | hp'
          · exact .inl ⟨j', hj', hp.trans hp'⟩
          · exact .inr (hp.trans hp')
      · exact .inr (by rw [List.prefix_nil.mp hp]; exact List.nil_prefix)
theorem Inv.old (I : Inv D key N S ex) {k : Atom} {r : NRec} (hr : N (ex ++ [k]) = Option.some r) : Inv D key N S (ex ++ [k]) := by
  refine ⟨I.errs, I.sorted, fun p => (I.dom p).trans ⟨?_, ?_⟩⟩
  · rintro (h | h)
    · exact .inl h
    · exact .inr (h.trans (List.prefix_append _ _))
  · rintro (h | h)
    · exact .inl h
    · rcases (I.dom (ex ++ [k])).mp (by rw [hr]; rfl) with ⟨j, hj, hp⟩ | hp
      · exact .inl ⟨j, hj, h.trans hp⟩
      · have := hp.length_le; simp at this; omega
theorem Inv.grow (I : Inv D key N S ex) {k : Atom} {r n0 : NRec} {o' : Obj} {kvs : List (Atom × Value)} (hr : N ex = Option.some r) (hn : N (ex ++ [k]) = none) (h0 : n0.errs = []) :
    Inv D key (fun q => if q = ex ++ [k] then Option.some n0 else if q = ex then Option.some { r with kvs := kvs, dO := o' } else N q) S (ex ++ [k]) := by
  have dn : ∀ j ∈ S, ¬ ex ++ [k] <+: key j := fun j hj hp => by
    have := (I.dom (ex ++ [k])).mpr (.inl ⟨j, hj, hp⟩)
    rw [hn] at this; cases this
  refine ⟨?_, ?_, ?_⟩
  · intro p r' e
    by_cases h1 : p = ex ++ [k]
    · rw [if_pos h1] at e; cases e
      rw [h0, List.filter_eq_nil_iff.mpr fun j hj => by simp; intro e; exact dn j hj (by rw [e, h1]; exact List.prefix_rfl)]
    · rw [if_neg h1] at e
      by_cases h2 : p = ex
      · rw [if_pos h2] at e; cases e
        have z := I.errs ex r hr
        subst h2
        exact z
      · rw [if_neg h2] at e
        exact I.errs p r' e
  · intro p r' e
    by_cases h1 : p = ex ++ [k]
    · rw [if_pos h1] at e; cases e
      rw [h0]; exact List.Pairwise.nil
    · rw [if_neg h1] at e
      by_cases h2 : p = ex
      · rw [if_pos h2] at e; cases e
        have z := I.sorted ex r hr
        exact z
      · rw [if_neg h2] at e
        exact I.sorted p r' e
  · intro p
    show (if p = ex ++ [k] then Option.some n0 else if p = ex then Option.some { r with kvs := kvs, dO := o' } else N p).isSome = true ↔ _
    by_cases h1 : p = ex ++ [k]
    · rw [if_pos h1]
      exact ⟨fun _ =>   .inr (by rw [h1]; exact List.prefix_rfl), fun _ => rfl⟩
    · rw [if_neg h1]
      have e1 : (if p = ex then Option.some { r with kvs := kvs, dO := o' } else N p).isSome = (N p).isSome := by
        by_cases h2 : p = ex
        · rw [if_pos h2, h2, hr]; rfl
        · rw [if_neg h2]
      rw [e1]
      refine (I.dom p).trans ⟨?_, ?_⟩
      · rintro (h | h)
        · exact .inl h
        · exact .inr (h.trans (List.prefix_append _ _))
      · rintro (h | h)
        · exact .inl h
        · rcases List.prefix_concat_iff.mp h with h | h
          · exact absurd h h1
          · exact .inr h
theorem selfAt_of {g : Heap} {L : Addr} {m : Str → Option Value} {news : Led} (T : TreeL w D hT C rt N led) (Nw : News g L h news) (hs : ∀ e ∈ led, e ∈ news) {q : List Atom} {r : NRec} (hq : N q = Option.some r) : SelfAt h r.nd (cOf C q) r.xd r.dd r.el r.pn r.pt rt := by
  have m1 := T.ob q r hq
  have I : InstAt h r.nd (selfO (cOf C q) r.xd r.dd r.el r.pn r.pt rt) (cOf C q) (Option.some (dictOf [] 0)) := InstAt.of_news Nw (hs _ m1.1) (hs _ m1.2)
  rcases cOf_ne T.isC q with e | e | e
  · exact .node e I
  · exact .doc e I
  · exact .sch e I
/-- where a tree stands at a call -/
structure At (w : World) (D : Errs) (hT : Heap) (C rt : Addr) (N : List Atom → Option NRec) (S : List Nat) (ex : List Atom) (s : Heap) (led : Led) : Prop where
  sub : Sub hT s
  live : Live s led
  tree : TreeL w D hT C rt N led
  inv : Inv D (keyOf C D) N S ex
def RAdd (w : World) (hT : Heap) (D : Errs) (ch : Nat → List Nat) (C rt : Addr) (f j : Nat) : Prop :=
  ∀ (dp un : Nat) (outer : List Env) (s : Shared) (R : Result → Shared → Prop) (N : List Atom → Option NRec) (led : Led) (S : List Nat),
    dp + 30 * (6 - j) ≤ 600 → un + 200 * (6 - j) ≤ 4000 → At w D hT C rt N S [] s.heap led → (∀ a ∈ S, a < 6) → S.length + (desc ch f j).length ≤ 6 →
    (∀ h' tk N' led', After s.heap led h' led' → TreeL w D hT C rt N' led' → Inv D (keyOf C D) N' (S ++ desc ch f j) [] → Ext N N' → R (.ok (.ret .none)) { s with heap := h', toks := tk }) →
    codeAny (model Pg w) (AT dp un outer) (.call (.ref 272) ⟨[.ref rt, .ref (D.ea j)], []⟩) R s
def NAdd (w : World) (hT : Heap) (D : Errs) (ch : Nat → List Nat) (C rt : Addr) (f i d : Nat) : Prop :=
  ∀ (dp un : Nat) (outer : List Env) (s : Shared) (R : Result → Shared → Prop) (N : List Atom → Option NRec) (led : Led) (S : List Nat) (r : NRec),
    dp + 2 * (8 - d) + 30 * (5 - i) + 2 ≤ 600 → un + 10 * (8 - d) + 200 * (5 - i) + 20 ≤ 4000 → At w D hT C rt N S ((keyOf C D i).take d) s.heap led → N ((keyOf C D i).take d) = Option.some r → (∀ a ∈ S, a < 6) → S.length + (desc ch f i).length ≤ 6 →
    (∀ h' tk N' led', After s.heap led h' led' → TreeL w D hT C rt N' led' → Inv D (keyOf C D) N' (S ++ desc ch f i) [] → Ext N N' → R (.ok (.ret .none)) { s with heap := h', toks := tk }) →
    codeAny (model Pg w) (AT dp un outer) (.call (.ref 229) ⟨[.ref r.nd, .ref (D.ea i)], []⟩) R s
end
end Ez
end
section
example : True := by
  w_top off
  trivial
open PySem PySem.W PySem.Calls PyProof.Rows
namespace Ez
local macro_rules | `(tactic| ktr_rel) => `(tactic| first
  | assumption
  | exact KTup.app (by ktr_rel)
  | exact KTup.cons (by ktr_rel)
  | exact AtomsAre.take _ (by ktr_rel)
  | exact ok_take _ (by ktr_rel)
  | exact Or.inl (by assumption))
local macro_rules | `(tactic| k_inst) => `(tactic| exact InstAt.up (by assumption) (fun b o e => Fr.keep (by k_asm) b o e))
local macro_rules | `(tactic| k_inst) => `(tactic| exact InstAt.bare (by assumption))
local macro_rules | `(tactic| walk_at "getAttr ref") => `(tactic| (k_here; k_dflt (first
  | (refine' get_slot' ?k1 ?k2 ?k3 ?k4 ?k5 ?k6 ?k7 ?k8 ?k9 ?k10 ?k11 ?_; (case k1 => k_asm); (case k2 => k_asm); (case k3 => k_inst); (case k4 => k_is); (case k5 => k_is); (case k6 => k_is); (case k7 => k_is); (case k8 => k_is); (case k9 => k_is); (case k10 => k_slotget); (case k11 => k_handed); k_whole))))
local macro_rules | `(tactic| walk_at "call builtin:len") => `(tactic| (k_here; (with_reducible show wpAny _ _ (call (Value.builtin "len") [Value.ref _]) _ _ _); refine len_tuple (by is_tup) (by (simp only [List.size_toArray]; omega)) ?_))
example (w : World) (h : Heap) (X : (hd.heap_39 w.params).In h) (e : PySem.Challenge.rw_ez0022_01.prog = Pg) : True := by
  revert X e
  k_fill
  intros
  trivial
local macro_rules | `(tactic| walk_at "subscriptTail") => `(tactic| (k_here; (with_reducible show wpAny _ _ (subscriptTail _ (PySem.Expr.Slice none (some _) none _) (Value.ref _) (Value.ref _)) _ _ _); (with_unfolding_all refine slice_int (by k_asm) (by k_asm) (by ktr_rel) (by omega) (by omega) ?_); intro a' h' tl' F' N' K'; (try k_sweep)))
local macro_rules | `(tactic| walk_at "call builtin:min") => `(tactic| (k_here; (with_reducible show wpAny _ _ (call (Value.builtin "min") [Value.int _ _, Value.int _ _]) _ _ _); refine min_two' rfl (by k_asm) (by k_asm) ?_; intro h' tk' tv' F' N'; (try k_sweep)))
local macro_rules | `(tactic| walk_at "compareOp Eq ref ref") => `(tactic| (k_here; (with_reducible show wpAny _ _ (compareOp CmpOp.Eq (Value.ref _) (Value.ref _)) _ _ _); refine' kpath_eq ?k1 ?k2 ?k3 ?k4 ?k5 ?k6 ?k7 ?k8 ?k9 ?_; (case k1 => k_asm); (case k2 => k_asm); (case k3 => ktr_rel); (case k4 => ktr_rel); (case k5 => ktr_rel); (case k6 => ktr_rel); (case k7 => ktr_rel); (case k8 => ktr_rel); (case k9 => ktr_units); k_whole))
local macro_rules | `(tactic| walk_at "compareOp NotEq ref ref") => `(tactic| (k_here; (with_reducible show wpAny _ _ (compareOp CmpOp.NotEq (Value.ref _) (Value.ref _)) _ _ _); refine' kpath_ne ?k1 ?k2 ?k3 ?k4 ?k5 ?k6 ?k7 ?k8 ?k9 ?_; (case k1 => k_asm); (case k2 => k_asm); (case k3 => ktr_rel); (case k4 => ktr_rel); (case k5 => ktr_rel); (case k6 => ktr_rel); (case k7 => ktr_rel); (case k8 => ktr_rel); (case k9 => ktr_units); k_whole))
local macro_rules | `(tactic| walk_at "getAttr ref") => `(tactic| (k_here; k_dflt (refine' get_own ?k1 ?k2 ?k3 ?k4 ?k5 ?k6 ?k7 ?k8 ?k9 ?_; (case k1 => k_asm); (case k2 => k_asm); (case k3 => k_inst); (case k4 => k_is); (case k5 => k_is); (case k6 => k_is); (case k7 => k_is); (case k8 => assumption); (case k9 => k_handed); k_whole)))
local macro_rules | `(tactic| walk_at "getAttrBy ref") => `(tactic| (k_here; k_dflt (refine' kbm_ownBy ?k1 ?k2 ?k3 ?k4 ?k5 ?k6 ?k7 ?k8 ?k9 ?_; (case k1 => k_asm); (case k2 => k_asm); (case k3 => k_inst); (case k4 => k_is); (case k5 => k_is); (case k6 => k_is); (case k7 => k_is); (case k8 => assumption); (case k9 => k_handed); k_whole)))
local macro_rules | `(tactic| walk_at $s:str) => `(tactic| k_extra $s)
structure Cls (w : World) (C : Addr) : Prop where
  ic : isClsIn (hd.heap_39 w.params) C = true
  g1 : plainGet (hd.heap_39 w.params) C "descendants" = true
  a1 : findIn (hd.heap_39 w.params) (.ref C) "descendants" = some (some (.ref 241))
  s1 : slotIn (hd.heap_39 w.params) 241 C = some 0
  g5 : plainGet (hd.heap_39 w.params) C "errors" = true
  a5 : findIn (hd.heap_39 w.params) (.ref C) "errors" = some (some (.ref 242))
  s5 : slotIn (hd.heap_39 w.params) 242 C = some 1
  g2 : plainGet (hd.heap_39 w.params) C "tree_root" = true
  a2 : findIn (hd.heap_39 w.params) (.ref C) "tree_root" = some (some (.ref 245))
  s2 : slotIn (hd.heap_39 w.params) 245 C = some 4
  g3 : plainGet (hd.heap_39 w.params) C "depth" = true
  a3 : findIn (hd.heap_39 w.params) (.ref C) "depth" = some (some (.ref 214))
  g4 : plainGet (hd.heap_39 w.params) C "_path_of_" = true
  a4 : findIn (hd.heap_39 w.params) (.ref C) "_path_of_" = some (some (.ref 236))
  nq : noSeq (hd.heap_39 w.params) C = true
  b1 : findIn (hd.heap_39 w.params) (.ref C) "__setitem__" = some (some (.ref 206))
  b2 : findIn (hd.heap_39 w.params) (.ref C) "__getitem__" = some (some (.ref 192))
theorem cls_of (w : World) {C : Addr} (h : C = 240 ∨ C = 303 ∨ C = 315) : Cls w C := by
  rcases h with rfl | rfl | rfl <;> exact ⟨by k_is, by k_is, by k_is, by k_is, by k_is, by k_is, by k_is, by k_is, by k_is, by k_is, by k_is, by k_is, by k_is, by k_is, by k_is, by k_is, by k_is⟩
structure RCls (w : World) (C : Addr) : Prop where
  g : plainGet (hd.heap_39 w.params) C "add" = true
  a : findIn (hd.heap_39 w.params) (.ref C) "add" = some (some (.ref 272))
theorem rcls_of (w : World) {C : Addr} (h : C = 303 ∨ C = 315) : RCls w C := by
  rcases h with rfl | rfl <;> exact ⟨by k_is, by k_is⟩
section
variable {g h1 h2 h3 : Heap} {L x xd dd : Addr} {m : Str → Option Value} {o1 o2 : Obj} {led led' : Led}
theorem made_frame (F1 : Fr g L h1 m) (N1 : News g L h1 ((x, o1) :: (xd, o2) :: led)) (k2 : ∀ b o, h1.get? b = some o → b ≠ x → h2.get? b = some o) (hne : ∀ e ∈ led, e.1 ≠ x) : Fr g L h2 m ∧ News g L h2 led := by
  obtain ⟨oL, es, ep, hL, r⟩ := F1.ns
  have xx := (N1 _ (.head _)).2
  refine ⟨⟨⟨oL, es, ep, k2 _ _ hL xx.1.symm, r⟩, fun b o e => k2 _ _ (F1.keep _ _ e) fun z => (by rw [z, xx.2] at e; cases e), F1.above⟩, fun e he => ?_⟩
  have := N1 e (.tail _ (.tail _ he))
  exact ⟨k2 _ _ this.1 (hne e he), this.2⟩
theorem grown_frame (F1 : Fr g L h1 m) (N1 : News g L h1 ((x, o1) :: (xd, o2) :: led)) (k2 : ∀ b o, h1.get? b = some o → b ≠ x → h2.get? b = some o) (k3 : ∀ b o, h2.get? b = some o → b ≠ dd → h3.get? b = some o) (hdd : dd ∈ led.map (·.1))
    (lv : Live h3 led') (nw : ∀ e ∈ led', e.1 ∈ led.map (·.1) ∨ h1.get? e.1 = none ∨ e.1 = x ∨ e.1 = xd) : Fr g L h3 m ∧ News g L h3 led' := by
  obtain ⟨oL, es, ep, hL, r⟩ := F1.ns
  have xx := (N1 _ (.head _)).2
  have xxd := (N1 _ (.tail _ (.head _))).2
  obtain ⟨pd, hpd, rfl⟩ := List.mem_map.mp hdd
  have dx := (N1 pd (.tail _ (.tail _ hpd))).2
  refine ⟨⟨⟨oL, es, ep, k3 _ _ (k2 _ _ hL xx.1.symm) dx.1.symm, r⟩, fun b o e => k3 _ _ (k2 _ _ (F1.keep _ _ e) fun z => (by rw [z, xx.2] at e; cases e)) fun z => (by rw [z, dx.2] at e; cases e), F1.above⟩, fun e he => ⟨lv e he, ?_⟩⟩
  rcases nw e he with q | q | q | q
  · obtain ⟨p, hp, e1⟩ := List.mem_map.mp q
    rw [← e1]
    exact (N1 p (.tail _ (.tail _ hp))).2
  · refine ⟨fun z => (by rw [z, hL] at q; cases q), ?_⟩
    cases z : g.get? e.1 with
    | none => rfl
    | some o => rw [F1.keep _ _ z] at q; cases q
  · rw [q]; exact xx
  · rw [q]; exact xxd
end
theorem nodup_len {α : Type} [DecidableEq α] : ∀ {l l' : List α}, l.Nodup → (∀ a ∈ l, a ∈ l') → l.length ≤ l'.length
  | [], _, _, _ => Nat.zero_le _
  | a :: t, l', h, hs => by
    obtain ⟨h1, h2⟩ := List.nodup_cons.mp h
    have ha := hs a (.head _)
    have := nodup_len (l := t) (l' := l'.erase a) h2 fun b hb => (List.mem_erase_of_ne (fun e => h1 (by rw [← e]; exact hb))).mpr (hs b (.tail _ hb))
    rw [List.length_erase_of_mem ha] at this
    have hp : 0 < l'.length := List.length_pos_of_mem ha
    rw [List.length_cons]
    omega
theorem kvs_len {w : World} {D : Errs} {hT : Heap} {C rt : Addr} {N : List Atom → Option NRec} {led : Led} {S : List Nat} {ex : List Atom} {key : Nat → List Atom} (T : TreeL w D hT C rt N led) (I : Inv D key N S ex) {r : NRec} (hr : N ex = some r) : r.kvs.length ≤ S.length := by
  have hn : (r.kvs.map (·.1)).Nodup := by
    obtain ⟨_, _, _, _, _, _, x⟩ := (T.dd ex r hr).2
    exact x
  have hsub : ∀ a ∈ r.kvs.map (·.1), a ∈ S.filterMap fun j => (key j)[ex.length]? := by
    intro a ha
    obtain ⟨⟨k, v⟩, hkv, rfl⟩ := List.mem_map.mp ha
    have hv : (valueAt r.kvs k).isSome = true := by
      unfold valueAt
      cases q : r.kvs.find? (fun kv => decide (kv.1 = k)) with
      | none => exact absurd (by simp) (List.find?_eq_none.mp q (k, v) hkv)
      | some y => rfl
    rw [T.sons ex r hr k] at hv
    have hs : (N (ex ++ [k])).isSome = true := by
      cases q : N (ex ++ [k]) with
      | none => rw [q] at hv; cases hv
      | some y => rfl
    rcases (I.dom _).mp hs with ⟨j, hj, hp⟩ | hp
    · refine List.mem_filterMap.mpr ⟨j, hj, ?_⟩
      obtain ⟨t, e⟩ := hp
      rw [← e, List.append_assoc]
      simp
    · have := hp.length_le
      simp at this
      omega
  have := nodup_len hn hsub
  rw [List.length_map] at this
  exact Nat.le_trans this (List.length_filterMap_le _ _)
theorem nd_ne_dd {w : World} {D : Errs} {hT : Heap} {C rt : Addr} {N : List Atom → Option NRec} {led : Led} {h : Heap} (T : TreeL w D hT C rt N led) (l : Live h led) {p : List Atom} {r : NRec} (hr : N p = some r) : r.nd ≠ r.dd := fun z => by
  have e := l.inj (z ▸ (T.ob p r hr).1) (T.dd p r hr).1
  have := IsDict_cls (T.dd p r hr).2
  rw [← e] at this
  cases this
theorem Live.ofNews {g h : Heap} {L : Addr} {led : Led} (Nw : News g L h led) : Live h led := fun e he => (Nw e he).1
end Ez
end
section
example : True := by
  w_top off
  trivial
open PySem PySem.W PySem.Calls PyProof.Rows
namespace Ez
local macro_rules | `(tactic| ktr_rel) => `(tactic| first
  | assumption
  | exact KTup.app (by ktr_rel)
  | exact KTup.cons (by ktr_rel)
  | exact AtomsAre.take _ (by ktr_rel)
  | exact ok_take _ (by ktr_rel)
  | exact Or.inl (by assumption))
local macro_rules | `(tactic| k_inst) => `(tactic| exact InstAt.up (by assumption) (fun b o e => Fr.keep (by k_asm) b o e))
local macro_rules | `(tactic| k_inst) => `(tactic| exact InstAt.bare (by assumption))
local macro_rules | `(tactic| walk_at "getAttr ref") => `(tactic| (k_here; k_dflt (first
  | (refine' get_slot' ?k1 ?k2 ?k3 ?k4 ?k5 ?k6 ?k7 ?k8 ?k9 ?k10 ?k11 ?_; (case k1 => k_asm); (case k2 => k_asm); (case k3 => k_inst); (case k4 => k_is); (case k5 => k_is); (case k6 => k_is); (case k7 => k_is); (case k8 => k_is); (case k9 => k_is); (case k10 => k_slotget); (case k11 => k_handed); k_whole))))
local macro_rules | `(tactic| walk_at "call builtin:len") => `(tactic| (k_here; (with_reducible show wpAny _ _ (call (Value.builtin "len") [Value.ref _]) _ _ _); refine len_tuple (by is_tup) (by (simp only [List.size_toArray]; omega)) ?_))
example (w : World) (h : Heap) (X : (hd.heap_39 w.params).In h) (e : PySem.Challenge.rw_ez0022_01.prog = Pg) : True := by
  revert X e
  k_fill
  intros
  trivial
local macro_rules | `(tactic| walk_at "subscriptTail") => `(tactic| (k_here; (with_reducible show wpAny _ _ (subscriptTail _ (PySem.Expr.Slice none (some _) none _) (Value.ref _) (Value.ref _)) _ _ _); (with_unfolding_all refine slice_int (by k_asm) (by k_asm) (by ktr_rel) (by omega) (by omega) ?_); intro a' h' tl' F' N' K'; (try k_sweep)))
local macro_rules | `(tactic| walk_at "call builtin:min") => `(tactic| (k_here; (with_reducible show wpAny _ _ (call (Value.builtin "min") [Value.int _ _, Value.int _ _]) _ _ _); refine min_two' rfl (by k_asm) (by k_asm) ?_; intro h' tk' tv' F' N'; (try k_sweep)))
local macro_rules | `(tactic| walk_at "compareOp Eq ref ref") => `(tactic| (k_here; (with_reducible show wpAny _ _ (compareOp CmpOp.Eq (Value.ref _) (Value.ref _)) _ _ _); refine' kpath_eq ?k1 ?k2 ?k3 ?k4 ?k5 ?k6 ?k7 ?k8 ?k9 ?_; (case k1 => k_asm); (case k2 => k_asm); (case k3 => ktr_rel); (case k4 => ktr_rel); (case k5 => ktr_rel); (case k6 => ktr_rel); (case k7 => ktr_rel); (case k8 => ktr_rel); (case k9 => ktr_units); k_whole))
local macro_rules | `(tactic| walk_at "compareOp NotEq ref ref") => `(tactic| (k_here; (with_reducible show wpAny _ _ (compareOp CmpOp.NotEq (Value.ref _) (Value.ref _)) _ _ _); refine' kpath_ne ?k1 ?k2 ?k3 ?k4 ?k5 ?k6 ?k7 ?k8 ?k9 ?_; (case k1 => k_asm); (case k2 => k_asm); (case k3 => ktr_rel); (case k4 => ktr_rel); (case k5 => ktr_rel); (case k6 => ktr_rel); (case k7 => ktr_rel); (case k8 => ktr_rel); (case k9 => ktr_units); k_whole))
local macro_rules | `(tactic| walk_at "getAttr ref") => `(tactic| (k_here; k_dflt (refine' get_own ?k1 ?k2 ?k3 ?k4 ?k5 ?k6 ?k7 ?k8 ?k9 ?_; (case k1 => k_asm); (case k2 => k_asm); (case k3 => k_inst); (case k4 => k_is); (case k5 => k_is); (case k6 => k_is); (case k7 => k_is); (case k8 => assumption); (case k9 => k_handed); k_whole)))
local macro_rules | `(tactic| walk_at "getAttrBy ref") => `(tactic| (k_here; k_dflt (refine' kbm_ownBy ?k1 ?k2 ?k3 ?k4 ?k5 ?k6 ?k7 ?k8 ?k9 ?_; (case k1 => k_asm); (case k2 => k_asm); (case k3 => k_inst); (case k4 => k_is); (case k5 => k_is); (case k6 => k_is); (case k7 => k_is); (case k8 => assumption); (case k9 => k_handed); k_whole)))
local macro_rules | `(tactic| walk_at $s:str) => `(tactic| k_extra $s)
theorem pre_sorted {D : Errs} (O : D.Ok) {l : List Nat} {i : Nat} (h : l.Pairwise fun a b => D.le a b = true) (a b : Nat) (hab : a ≤ b) (hb : b + 1 < (l ++ [i]).length) : D.le ((l ++ [i]).getD a 0) ((l ++ [i]).getD b 0) = true := by
  rw [List.length_append, List.length_singleton] at hb
  have hbl : b < l.length := by omega
  have hal : a < l.length := by omega
  have e1 : (l ++ [i]).getD a 0 = l[a] := by simp [List.getD, List.getElem?_append_left hal, hal]
  have e2 : (l ++ [i]).getD b 0 = l[b] := by simp [List.getD, List.getElem?_append_left hbl, hbl]
  rw [e1, e2]
  rcases Nat.lt_or_eq_of_le hab with q | q
  · exact List.pairwise_iff_getElem.mp h a b hal hbl q
  · subst q; exact O.refl _
theorem tnone {hT g : Heap} (s : Sub hT g) {a : Addr} (h : g.get? a = none) : hT.get? a = none := by
  cases q : hT.get? a with
  | none => rfl
  | some o => rw [s _ _ q] at h; cases h
set_option maxRecDepth 100000 in
set_option maxHeartbeats 8000000 in
theorem c_nadd {w : World} {mean : ExcName → Option Value} {mg mb : Str → Option Value} {hT : Heap} {D : Errs} {ch : Nat → List Nat} {C rt : Addr} {f i d : Nat}
   (X : (hd.heap_39 w.params).In hT) (T : Top hd.view_39 L0 mean mg mb hT) (V : ∀ i, i < 6 → ErrV D hT i) (O : D.Ok) (GR : Grp D hT ch) (hi : i < 6) (hdl : d < (keyOf C D i).length)
   (rec1 : ∀ j ∈ ch i, RAdd w hT D ch C rt f j) (rec2 : d + 1 < (keyOf C D i).length → NAdd w hT D ch C rt (f + 1) i (d + 1)) : NAdd w hT D ch C rt (f + 1) i d := by
  intro dp un outer s R N led S r hdp hun H hr hS hlen hR
  obtain ⟨SB, LV, TL, IV⟩ := H
  have Vi := V i hi
  obtain ⟨hpa, hpl⟩ := Vi.path C
  obtain ⟨k, hk⟩ : ∃ k, (keyOf C D i)[d]? = some k := ⟨_, List.getElem?_eq_getElem hdl⟩
  obtain ⟨kv, hkv, hkis⟩ := hpa.ats.get d hk
  have hk2 : (atomKind Pg w).is k kv = true := hkis
  have hexl : ((keyOf C D i).take d).length = d := by rw [List.length_take]; omega
  have hexk : (keyOf C D i).take (d + 1) = (keyOf C D i).take d ++ [k] := by rw [List.take_add_one, hk]; rfl
  generalize hex : (keyOf C D i).take d = ex at *
  have CL := cls_of w (cOf_ne TL.isC ex)
  have hC := TL.isC
  obtain ⟨r0, hr0, hr0n, hr0p⟩ := TL.root
  have hvl := hpa.ats.len
  have hpt := TL.pt ex r hr
  have hptl : r.vs.length = ex.length := hpt.2.1.len
  have hv8 : r.vs.length ≤ 8 := by omega
  rcases Atom.isV_cases hkis with ⟨y, ty, hky, rfl⟩ | ⟨y, ty, hky, rfl⟩ <;>
  (k_dflt (refine' enterH X T SB led ?hl ?ho ?hcd ?hroom ?hb ?hloc ?_ ?c1 ?c2 ?c3 ?c4; (case hl => exact fun p hp => ⟨LV p hp, TL.off p hp⟩); (case ho => k_is); (case hcd => k_is); (case hroom => simp only [recursionLimit]; omega); (case hb => exact BindsTo.of_eq rfl); (case hloc => exact locs (by rfl)); (case c1 => rfl); (case c2 => rfl); (case c3 => rfl); (case c4 => decide))
   intro g L' h₁ tk₀ Sg G F Nw Xg Tg
   have hpg := hpa.up Sg
   have hptg : KTup g led r.pt r.vs := hpt.1.imp (fun z => IsTup.keeps z Sg) id
   have SI := fun {h : Heap} {L : Addr} (z : News g L h led) => selfAt_of (m := fun _ => none) TL z (fun e he => he) hr
   (try dsimp only); (try k_fold)
   k_with_none
   k_with "getMethod ref" => (
    (with_reducible show wpAny _ _ (getMethod (Value.ref _) (Str.ofString "_path_of_") _) _ _ _)
    refine method_inst (by assumption) Xg (SI (by assumption)).inst CL.g4 CL.a4 (by k_is) (by rfl) ?_)
   k_with "call ref" => (
    (with_reducible show wpAny _ _ (call (Value.ref 236) _) _ _ _)
    refine wpAny_call (codeAny_weaken (dp := dp + 1) (un := un + 3) rfl rfl (Nat.le_refl _) (Nat.le_refl _) (c_pathof Xg Tg (Fr.sub (by assumption)) (SI (by assumption)) (hr0n ▸ hr0p ▸ (selfAt_of (m := fun _ => none) TL (by assumption : News g L' _ led) (fun e he => he) hr0).inst) hC (by unfold cOf; split <;> simp) ((Vi.obj.up Sg).up (Fr.sub (by assumption))) (by omega) (by omega) ?_))
    intro h' tk' hs'
    have F' := frSub (by assumption) hs'
    have N' := newsSub (by assumption) hs')
   k_with "getAttr ref" => (
    (with_reducible show wpAny _ _ (getAttr (Value.ref _) (Str.ofString "descendants") _) _ _ _)
    refine get_slot' (by assumption) Xg (SI (by assumption)).inst CL.g1 CL.ic CL.a1 (by k_is) (by k_is) CL.s1 rfl (by rfl) ?_)
   k_with "getAttr ref" => (
    (with_reducible show wpAny _ _ (getAttr (Value.ref _) (Str.ofString "depth") _) _ _ _)
    refine get_prop' (p := 214) (fget := 213) (by assumption) Xg (SI (by assumption)).inst CL.g3 CL.ic CL.a3 (by k_is) (by k_is) (by k_is) ?_
    refine codeAny_weaken (dp := dp + 1) (un := un + 4) rfl rfl (Nat.le_refl _) (Nat.le_refl _) (c_depth Xg Tg (Fr.sub (by assumption)) (SI (by assumption)) (KTup.tup hptg (by assumption) (by assumption)) hv8 (by omega) (by omega) ?_)
    intro h' tk' tk1 hs'
    have F' := frSub (by assumption) hs'
    have N' := newsSub (by assumption) hs'
    refine handed_on (by rfl) ?_)
   k_with "subscriptTail" => ((with_reducible show wpAny _ _ (subscriptTail _ _ (Value.ref _) (Value.int _ _)) _ _ _); (with_unfolding_all refine item_tup (IsTup.keeps hpg.tup (Fr.sub (by assumption))) (by omega) (by omega) (by rw [Int.toNat_natCast, hptl, hexl]; exact hkv) ?_))
   k_with "compareOp NotIn str ref" => (refine hold_on ?_)
   k_with "compareOp NotIn int ref" => (refine hold_on ?_)
   k_steps
   refine Hold.off ?_
   have hdd := TL.dd ex r hr
   have hmod : (r.dd == sysModules) = false := TL.lo ex r hr
   refine wpAny_notIn_of hk2 hmod (kda_dict (by assumption : News g L' _ led) hdd.1 hdd.2).mapOf ?_
   rw [TL.sons ex r hr k]
   rcases hold : N (ex ++ [k]) with _ | rc
   · simp only [Option.map_none, Option.isSome_none, Bool.not_false]
     k_with "call ref" => ((with_reducible show wpAny _ _ (call (Value.ref 240) _) _ _ _); refine hold_on ?_)
     k_steps
     refine Hold.off ?_
     have Fp := (by assumption : Fr g L' _ _)
     refine call_cls (by assumption) Xg (by assumption) (by k_is) (by k_is) (by k_is) ?_
     intro x xd h1 F1 N1 l1 l2
     have ltx : ∀ e ∈ led, e.1 ≠ x ∧ e.1 ≠ xd := fun e he => ⟨Nat.ne_of_lt (Nat.lt_trans (l1 e he) l2), Nat.ne_of_lt (l1 e he)⟩
     have mob := TL.ob ex r hr
     have nx := (N1 _ (.head _)).2.2
     have nxd := (N1 _ (.tail _ (.head _))).2.2
     refine codeAny_weaken (dp := dp + 2) (un := un + 4) rfl rfl (Nat.le_refl _) (Nat.le_refl _) (c_ninit Xg Tg (Fr.sub F1) (N1 _ (.head _)).1 (N1 _ (.tail _ (.head _))).1 nx nxd (selfAt_of (m := fun _ => none) TL N1 (fun e he => .tail _ (.tail _ he)) hr) (IsTup.keeps hpg.tup (Fr.sub F1)) (KTup.tup (hptg.cons.cons) F1 N1) (by omega) hv8 l2 ⟨⟨(ltx _ mob.1).1.symm, (ltx _ mob.1).2.symm⟩, (ltx _ mob.2).1.symm, (ltx _ mob.2).2.symm⟩ (by omega) (by omega) ?_)
     intro h2 tk2 dd el eld pt ep dO Nn
     refine ⟨rfl, ?_⟩
     obtain ⟨F2, N2⟩ := made_frame F1 N1 Nn.keep (fun e he => (ltx e he).1)
     k_with "setItem ref str" => (refine hold_on ?_)
     k_with "setItem ref int" => (refine hold_on ?_)
     k_steps
     refine Hold.off ?_
     refine ksp_setItem F2 Xg (SI N2).inst CL.nq CL.b1 (by k_is) ?_
     refine wpAny_call (codeAny_weaken (dp := dp + 1) (un := un + 3) rfl rfl (Nat.le_refl _) (Nat.le_refl _) (c_setitem Xg Tg (Fr.sub F2) (SI N2) (N2 _ hdd.1).1 hdd.2 (N2 _ hdd.1).2.2 (nd_ne_dd TL (Live.ofNews N2) hr) (TL.apart ex r ex r hr hr).1.symm hkis (by have := kvs_len TL IV hr; omega) (by omega) (by omega) ?_))
     intro h3 o3 tk3 k3 ho3 d3
     have lv1 : Live h1 led := fun e he => (N1 e (.tail _ (.tail _ he))).1
     obtain ⟨led1, lv3, nw3, TL1⟩ := TL.grow lv1 (Sg.trans (Fr.sub F1)) hr hold (N1 _ (.head _)).1 (N1 _ (.tail _ (.head _))).1 ltx (tnone Sg nx) (tnone Sg nxd) (by rw [← hptl]; exact Nn) hpa (by rw [hexl]; exact hexk) k3 ho3 d3
     obtain ⟨F3, N3⟩ := grown_frame F1 N1 Nn.keep k3 (List.mem_map_of_mem hdd.1) lv3 nw3
     have IV1 := IV.grow hr hold (n0 := ⟨x, xd, el, eld, dd, pt, .ref r.nd, dO, (vsOf C D i).take (ex.length + 1), [], ep, []⟩) (o' := o3) (kvs := r.kvs ++ [(k, .ref x)]) rfl
     have E1 : Ext N (fun q => if q = ex ++ [k] then some (⟨x, xd, el, eld, dd, pt, .ref r.nd, dO, (vsOf C D i).take (ex.length + 1), [], ep, []⟩ : NRec) else if q = ex then some { r with kvs := r.kvs ++ [(k, .ref x)], dO := o3 } else N q) := Ext.new hr hold rfl
     generalize hN1 : (fun q => if q = ex ++ [k] then some (⟨x, xd, el, eld, dd, pt, .ref r.nd, dO, (vsOf C D i).take (ex.length + 1), [], ep, []⟩ : NRec) else if q = ex then some { r with kvs := r.kvs ++ [(k, .ref x)], dO := o3 } else N q) = N1' at TL1 IV1 E1
     obtain ⟨rc, hrc⟩ : ∃ rc, N1' (ex ++ [k]) = some rc := ⟨_, by rw [← hN1]; exact if_pos rfl⟩
     obtain ⟨r1, hr1, hr1n⟩ : ∃ r1, N1' ex = some r1 ∧ r1.nd = r.nd := ⟨{ r with kvs := r.kvs ++ [(k, .ref x)], dO := o3 }, by rw [← hN1]; exact (if_neg (by simp)).trans (if_pos rfl), rfl⟩
     clear hN1 F2 N2 F1 N1
     (try dsimp only)
     have hdd1 := TL1.dd ex r1 hr1
     have ev : valueAt r1.kvs k = some (.ref rc.nd) := by rw [TL1.sons ex r1 hr1 k, hrc]; rfl
     have lo1 : (r1.dd == sysModules) = false := TL1.lo ex r1 hr1
     have pt1 := TL1.pt ex r1 hr1
     have hpt1g : KTup g led1 r1.pt r1.vs := pt1.1.imp (fun z => IsTup.keeps z Sg) id
     have pt1l : r1.vs.length = ex.length := pt1.2.1.len
     have pt18 : r1.vs.length ≤ 8 := by omega
     have htk : IsTup g (if C = 303 then D.dp i else D.sp i) (vsOf C D i).toArray := hpg.tup
     have htl : (vsOf C D i).length = (keyOf C D i).length := hvl
     have htl8 : (vsOf C D i).length ≤ 8 := by omega
     have SI1 := fun {h : Heap} {L : Addr} (z : News g L h led1) => selfAt_of (m := fun _ => none) TL1 z (fun e he => he) hr1
     rw [hr1n] at SI1
     have SC := fun {h : Heap} {L : Addr} (z : News g L h led1) => selfAt_of (m := fun _ => none) TL1 z (fun e he => he) hrc
     have CLc := cls_of w (cOf_ne TL1.isC (ex ++ [k]))
     k_with_none
     k_with "subscriptTail" => (
      (with_reducible show wpAny _ _ (subscriptTail _ _ (Value.ref _) _) _ _ _)
      refine sub_K (by assumption) Xg (SI1 (by assumption)).inst CL.b2 (by k_is) (by k_is) ?_
      refine wpAny_call (codeAny_weaken (dp := dp + 1) (un := un + 4) rfl rfl (Nat.le_refl _) (Nat.le_refl _) (c_getitem Xg Tg (Fr.sub (by assumption)) (SI1 (by assumption)) (kda_dict (by assumption : News g L' _ led1) hdd1.1 hdd1.2) lo1 hkis (by omega) (by omega) ?_))
      intro h' tk' hs'
      rw [ev]
      have F' := frSub (by assumption) hs'
      have N' := newsSub (by assumption) hs'
      dsimp only [Option.getD])
     k_with "getAttr ref" => (
      (with_reducible show wpAny _ _ (getAttr (Value.ref _) (Str.ofString "depth") _) _ _ _)
      refine get_prop' (p := 214) (fget := 213) (by assumption) Xg (SI1 (by assumption)).inst CL.g3 CL.ic CL.a3 (by k_is) (by k_is) (by k_is) ?_
      refine codeAny_weaken (dp := dp + 1) (un := un + 4) rfl rfl (Nat.le_refl _) (Nat.le_refl _) (c_depth Xg Tg (Fr.sub (by assumption)) (SI1 (by assumption)) (KTup.tup hpt1g (by assumption) (by assumption)) pt18 (by omega) (by omega) ?_)
      intro h' tk' tk1 hs'
      have F' := frSub (by assumption) hs'
      have N' := newsSub (by assumption) hs'
      refine handed_on (by rfl) ?_)
     k_with "getAttr ref" => (
      (with_reducible show wpAny _ _ (getAttr (Value.ref _) (Str.ofString "errors") _) _ _ _)
      refine get_slot' (by assumption) Xg (SC (by assumption)).inst CLc.g5 CLc.ic CLc.a5 (by k_is) (by k_is) CLc.s5 rfl (by rfl) ?_)
     k_with "getMethod ref" => (refine hold_on ?_)
     k_steps
     · refine Hold.off ?_
       have hlast : d + 1 = (keyOf C D i).length := by
         rename_i hq; simp at hq; omega
       have hfull : ex ++ [k] = keyOf C D i := by rw [← hexk, List.take_of_length_le (by omega)]
       have mel := TL1.el _ rc hrc
       have h6 := IV1.len hrc
       have hSi : S.length + 1 ≤ 6 := by simp only [desc, List.length_cons] at hlen; omega
       have Na := (by assumption : News g L' _ led1)
       have Fa := (by assumption : Fr g L' _ _)
       refine el_method (Xg.keeps Fa.keep) (Na _ mel.1).1 (Na _ mel.2).1 (el_fapp w) (el_tapp w) (by rfl) ?_
       clear Na Fa
       k_with_none
       k_with "call builtin:list.append" => (refine hold_on ?_)
       k_steps
       refine Hold.off ?_
       have Na := (by assumption : News g L' _ led1)
       have Fa := (by assumption : Fr g L' _ _)
       refine el_append (Xg.keeps Fa.keep) (Na _ mel.1).1 (Na _ mel.2).1 (by simp [Errs.refs]; omega) ?_
       intro h4 sb4 he4
       have TL2 := TL1.setEl (Live.ofNews Na) hrc (rc.errs ++ [i]) (rc.ep + 1)
       have erf : D.refs rc.errs ++ [Value.ref (D.ea i)] = D.refs (rc.errs ++ [i]) := by simp [Errs.refs]
       rw [erf] at he4
       have A4 := After.set (Live.ofNews Na) (fun b o e n => (sb4.2 b n).trans e) he4 (List.mem_map_of_mem mel.1)
       obtain ⟨F4, N4⟩ := After.step (tl := []) Fa Na A4 (fun p hp => nomatch hp)
       generalize hrc2 : ({ rc with errs := rc.errs ++ [i], ep := rc.ep + 1 } : NRec) = rc2 at TL2
       have e2a : rc2.errs = rc.errs ++ [i] := by rw [← hrc2]
       have e2b : rc2.ep = rc.ep + 1 := by rw [← hrc2]
       have e2c : rc2.el = rc.el := by rw [← hrc2]
       have e2d : rc2.eld = rc.eld := by rw [← hrc2]
       generalize hN2 : (fun q => if q = ex ++ [k] then some rc2 else N1' q) = N2' at TL2
       have hr2 : N2' (ex ++ [k]) = some rc2 := by rw [← hN2]; exact if_pos rfl
       have E2 : Ext N1' N2' := by rw [← hN2]; exact Ext.set hrc (by rw [← hrc2])
       generalize hl2 : setL led1 rc.el (elO (D.refs (rc.errs ++ [i])) (rc.ep + 1) rc.eld) = led2 at TL2 N4
       have mel2 := TL2.el _ rc2 hr2
       have SC2 := fun {h : Heap} {L : Addr} (z : News g L h led2) => selfAt_of (m := fun _ => none) TL2 z (fun e he => he) hr2
       have nd2 : rc2.nd = rc.nd := by rw [← hrc2]
       rw [nd2] at SC2
       clear Na Fa A4
       k_with_none
       k_with "getAttr ref" => (
        (with_reducible show wpAny _ _ (getAttr (Value.ref _) (Str.ofString "errors") _) _ _ _)
        refine get_slot' (by assumption) Xg (SC2 (by assumption)).inst CLc.g5 CLc.ic CLc.a5 (by k_is) (by k_is) CLc.s5 rfl (by rfl) ?_)
       k_with "getMethod ref" => (
        (with_reducible show wpAny _ _ (getMethod (Value.ref _) (Str.ofString "sort") _) _ _ _)
        refine el_method (Xg.keeps (Fr.keep (by assumption : Fr g L' _ _))) ((by assumption : News g L' _ led2) _ mel2.1).1 ((by assumption : News g L' _ led2) _ mel2.2).1 (el_fsort w) (el_tsort w) (by rfl) ?_)
       k_with "call builtin:list.sort" => (refine hold_on ?_)
       k_steps
       refine Hold.off ?_
       dsimp only
       have Na := (by assumption : News g L' _ led2)
       have Fa := (by assumption : Fr g L' _ _)
       refine el_sort (D := D) Xg Tg (Fr.sub Fa) (fun j hj => (V j (by rw [e2a] at hj; rcases List.mem_append.mp hj with hj | hj; exact hS _ (IV1.mem hrc hj); rw [List.mem_singleton.mp hj]; exact hi)).up Sg) O (Na _ mel2.1).1 (Na _ mel2.2).1 (Na _ mel2.1).2.2 (by rw [e2a, List.length_append, List.length_singleton]; omega) (by rw [e2a, List.length_append, List.length_singleton]; omega) (by rw [e2a]; exact pre_sorted O (IV1.sorted _ rc hrc)) rfl rfl (by show dp + 1 < 700; omega) (by show un + 3 < 7000; omega) ?_
       intro h5 tk5 is5 ep5 k5 he5 hperm hpw
       have TL3 := TL2.setEl (Live.ofNews Na) hr2 is5 ep5
       have A5 := After.set (Live.ofNews Na) k5 he5 (List.mem_map_of_mem mel2.1)
       obtain ⟨F5, N5⟩ := After.step (tl := []) Fa Na A5 (fun p hp => nomatch hp)
       have IV3 := IV1.leaf (i := i) (ep := ep5) (is := is5) (hfull ▸ hrc) (by rw [hfull]; exact List.prefix_rfl) (by rw [← e2a]; exact hperm) hpw
       have hN3 : (fun q => if q = keyOf C D i then some { rc with errs := is5, ep := ep5 } else N1' q) = (fun q => if q = ex ++ [k] then some { rc2 with errs := is5, ep := ep5 } else N2' q) := by
         funext q
         rw [hfull, ← hN2, ← hrc2]
         by_cases hq : q = keyOf C D i
         · rw [if_pos hq, if_pos hq]
         · rw [if_neg hq, if_neg hq]
           show _ = if q = ex ++ [k] then _ else _
           rw [hfull, if_neg hq]
       rw [hN3] at IV3
       have E3 : Ext N2' (fun q => if q = ex ++ [k] then some { rc2 with errs := is5, ep := ep5 } else N2' q) := Ext.set hr2 rfl
       generalize (fun q => if q = ex ++ [k] then some { rc2 with errs := is5, ep := ep5 } else N2' q) = Nf at TL3 IV3 E3
       have EX : Ext N Nf := E1.trans (E2.trans E3)
       generalize setL led2 rc2.el (elO (D.refs is5) ep5 rc2.eld) = ledf at TL3 N5
       clear Na Fa A5
       have hcode := GR.code i hi
       have Eo := (Vi.obj.up Sg)
       have Jo := Eo.inst
       by_cases hch : ch i = []
       · rw [if_pos hch] at hcode
         k_with_none
         k_with "getAttr ref" => (
          (with_reducible show wpAny _ _ (getAttr (Value.ref _) (Str.ofString "is_group_error") _) _ _ _)
          refine get_prop' (p := 119) (fget := 118) (by assumption) Xg (InstAt.up Jo (fun b o e => Fr.keep (by assumption) b o e)) (by k_is) (by k_is) (by k_is) (by k_is) (by k_is) (by k_is) ?_
          refine codeAny_weaken (dp := dp + 1) (un := un + 4) rfl rfl (Nat.le_refl _) (Nat.le_refl _) (c_isgroup Xg Tg (Fr.sub (by assumption)) (Eo.up (Fr.sub (by assumption))) (.inr hcode) (by omega) (by omega) ?_)
          intro h' tk' hs'
          rw [hcode]
          have F' := frSub (by assumption) hs'
          have N' := newsSub (by assumption) hs'
          refine handed_on (by rfl) ?_)
         k_steps
         all_goals (try dsimp only)
         exact hR _ _ Nf ledf (After.of_frame (tl := []) G (by assumption) (by assumption)) TL3 (by simpa [desc, hch] using IV3) EX
       · rw [if_neg hch] at hcode
         obtain ⟨ti, li, hinf, hti, hli⟩ := GR.info i hi hch
         rw [hcode, hinf] at Eo
         k_with_none
         k_with "getAttr ref" => (
          (with_reducible show wpAny _ _ (getAttr (Value.ref _) (Str.ofString "is_group_error") _) _ _ _)
          refine get_prop' (p := 119) (fget := 118) (by assumption) Xg (InstAt.up Jo (fun b o e => Fr.keep (by assumption) b o e)) (by k_is) (by k_is) (by k_is) (by k_is) (by k_is) (by k_is) ?_
          refine codeAny_weaken (dp := dp + 1) (un := un + 4) rfl rfl (Nat.le_refl _) (Nat.le_refl _) (c_isgroup Xg Tg (Fr.sub (by assumption)) (Eo.up (Fr.sub (by assumption))) (.inl rfl) (by omega) (by omega) ?_)
          intro h' tk' hs'
          have F' := frSub (by assumption) hs'
          have N' := newsSub (by assumption) hs'
          refine handed_on (by rfl) ?_)
         k_with "getAttr ref" => (
          (with_reducible show wpAny _ _ (getAttr (Value.ref _) (Str.ofString "child_errors") _) _ _ _)
          refine get_prop' (p := 95) (fget := 94) (by assumption) Xg (InstAt.up Jo (fun b o e => Fr.keep (by assumption) b o e)) (by k_is) (by k_is) (by k_is) (by k_is) (by k_is) (by k_is) ?_
          refine codeAny_weaken (dp := dp + 1) (un := un + 4) rfl rfl (Nat.le_refl _) (Nat.le_refl _) (c_children Xg Tg (Fr.sub (by assumption)) (Eo.up (Fr.sub (by assumption))) (IsTup.keeps hti (Sub.trans Sg (Fr.sub (by assumption)))) (by omega) (by omega) ?_)
          intro h' tk' hs'
          have F' := frSub (by assumption) hs'
          have N' := newsSub (by assumption) hs'
          refine handed_on (by rfl) ?_)
         k_with "pyIter ref" => (refine hold_on ?_)
         k_steps
         refine Hold.off ?_
         have Na := (by assumption : News g L' _ ledf)
         have Fa := (by assumption : Fr g L' _ _)
         have hliL : L' ≠ li := fun z => by
           obtain ⟨o, ho, _⟩ := hli
           exact absurd (Nat.lt_of_lt_of_le (Heap.lt_size (Sg _ _ ho)) Fa.above) (by rw [z]; exact Nat.lt_irrefl _)
         refine loop_listIS (vs := (ch i).map fun j => Value.ref (D.ea j)) ["child_error"] (fun n _ l => ∃ N', TreeL w D hT C rt N' l ∧ Inv D (keyOf C D) N' (S ++ (i :: ((ch i).take n).flatMap (desc ch f))) [] ∧ Ext Nf N') rfl (hli.at fun o e => Fa.keep _ _ (Sg _ _ e)) hliL Fa Na ⟨Nf, TL3, by simpa using IV3, Ext.refl _⟩ (fun i m l hl => by obtain ⟨N', T', _⟩ := hl; exact T'.noit) (.inl ⟨_, Sg _ _ hli.choose_spec.1⟩) ?turn ?done
         (case turn => (
           rintro n v u news₁ h tk I io hv ⟨N', T', I', E'⟩ F₁ N₁ hN hcl
           obtain ⟨j, hj, rfl⟩ : ∃ j, (ch i)[n]? = some j ∧ Value.ref (D.ea j) = v := by
             rw [List.getElem?_map] at hv
             cases q : (ch i)[n]? with
             | none => rw [q] at hv; cases hv
             | some j => rw [q] at hv; exact ⟨j, rfl, Option.some.inj hv⟩
           have hjm : j ∈ ch i := List.mem_of_getElem? hj
           have hjl := GR.lt i j hjm
           obtain ⟨re, hre, hren⟩ := (EX.trans E') ex r hr
           obtain ⟨rr, hrr, hrrn, hrrp⟩ := T'.root
           have SE := fun {h : Heap} {L : Addr} (z : News g L h ((I, io) :: news₁)) => selfAt_of (m := fun _ => none) T' z (fun e he => .tail _ he) hre
           rw [hren] at SE
           have SR := fun {h : Heap} {L : Addr} (z : News g L h ((I, io) :: news₁)) => selfAt_of (m := fun _ => none) T' z (fun e he => .tail _ he) hrr
           rw [hrrn] at SR
           have hcr : cOf C [] = C := rfl
           rw [hcr] at SR
           have RC := rcls_of w hC
           have hfl := take_flat_len (g := desc ch f) hj
           have hft := take_flat (g := desc ch f) hj
           have hdl : ∀ a ∈ S ++ (i :: ((ch i).take n).flatMap (desc ch f)), a < 6 := by
             intro a ha
             rcases List.mem_append.mp ha with ha | ha
             · exact hS a ha
             · rcases List.mem_cons.mp ha with rfl | ha
               · exact hi
               · obtain ⟨b, hb, ha⟩ := List.mem_flatMap.mp ha
                 exact desc_lt GR f b (GR.lt i b (List.mem_of_mem_take hb)).2 a ha
           have hlen2 : (S ++ (i :: ((ch i).take n).flatMap (desc ch f))).length + (desc ch f j).length ≤ 6 := by
             simp only [desc, List.length_cons] at hlen
             rw [List.length_append, List.length_cons]
             omega
           k_with_none
           k_with "getAttr ref" => (
            (with_reducible show wpAny _ _ (getAttr (Value.ref _) (Str.ofString "tree_root") _) _ _ _)
            refine get_slot' (by assumption) Xg (SE (by assumption)).inst CL.g2 CL.ic CL.a2 (by k_is) (by k_is) CL.s2 rfl (by rfl) ?_)
           k_with "getMethod ref" => (
            (with_reducible show wpAny _ _ (getMethod (Value.ref _) (Str.ofString "add") _) _ _ _)
            refine method_inst (by assumption) Xg (SR (by assumption)).inst RC.g RC.a (by k_is) (by rfl) ?_)
           k_with "call ref" => ((with_reducible show wpAny _ _ (call (Value.ref 272) _) _ _ _); refine hold_on ?_)
           k_steps
           refine Hold.off ?_
           have Fb := (by assumption : Fr g L' _ (fun y => if y = _ then _ else _))
           have Nb := (by assumption : News g L' _ ((I, io) :: news₁))
           refine wpAny_call (codeAny_weaken (dp := dp + 1) (un := un + 3) rfl rfl (Nat.le_refl _) (Nat.le_refl _) (rec1 j hjm (dp + 1) (un + 3) _ _ _ N' news₁ _ (by omega) (by omega) ⟨Sg.trans (Fr.sub Fb), fun e he => (Nb e (.tail _ he)).1, T', I'⟩ hdl hlen2 ?_))
           intro h' tk' N2 led2 A2 TL4 IV4 E4
           obtain ⟨Fc, Nc⟩ := After.step (tl := [(I, io)]) Fb Nb A2 (fun p hp hm => by
             rw [List.mem_singleton.mp hp] at hm
             obtain ⟨q, hq, e⟩ := List.mem_map.mp hm
             have e1 := (Nb _ (.head _)).1
             have e2 := (Nb q (.tail _ hq)).1
             rw [e] at e2
             have e3 := Option.some.inj (e1.symm.trans e2)
             exact hN q hq (by rw [← e3]; exact hcl))
           k_with_none
           k_steps
           all_goals (try dsimp only)
           exact TurnEnd.next' led2 Fc Nc (.head _) (fun p hp => .tail _ hp) ⟨(by intro z hz; simp at hz; simp [hz]), N2, TL4, by rw [hft]; simpa using IV4, E'.trans E4⟩))
         (case done => (
           rintro u news₁ h tk ⟨N', T', I', E'⟩ F₁ N₁
           k_with_none
           k_steps
           all_goals (try dsimp only)
           exact hR _ _ N' news₁ (After.of_frame (tl := []) G (by assumption) (by assumption)) T' (by simpa [desc] using I') (EX.trans E')))
     · refine Hold.off ?_
       have hmore : d + 1 < (keyOf C D i).length := by
         rename_i hq; simp at hq; omega
       have h240 : cOf C (ex ++ [k]) = 240 := by unfold cOf; rw [if_neg (by simp)]
       rw [h240] at SC
       refine method_inst (by assumption) Xg (SC (by assumption)).inst (by k_is) (by k_is) (by k_is) (by rfl) ?_
       k_with_none
       k_with "call ref" => ((with_reducible show wpAny _ _ (call (Value.ref 229) _) _ _ _); refine hold_on ?_)
       k_steps
       refine Hold.off ?_
       have Nb := (by assumption : News g L' _ led1)
       have Fb := (by assumption : Fr g L' _ _)
       refine wpAny_call (codeAny_weaken (dp := dp + 1) (un := un + 3) rfl rfl (Nat.le_refl _) (Nat.le_refl _) (rec2 hmore (dp + 1) (un + 3) _ _ _ N1' led1 S rc (by omega) (by omega) ⟨Sg.trans (Fr.sub Fb), fun e he => (Nb e he).1, TL1, by rw [hexk]; exact IV1⟩ (by rw [hexk]; exact hrc) hS hlen ?_))
       intro h' tk' N2 led2 A2 TL4 IV4 E4
       obtain ⟨Fc, Nc⟩ := After.step (tl := []) Fb Nb A2 (fun p hp => nomatch hp)
       k_with_none
       k_steps
       all_goals (try dsimp only)
       exact hR _ _ N2 led2 (After.of_frame (tl := []) G Fc Nc) TL4 IV4 (E1.trans E4)
   · obtain ⟨N1', led1, eN, eL, TL1, IV1⟩ : ∃ (N1' : List Atom → Option NRec) (led1 : Led), N = N1' ∧ led = led1 ∧ TreeL w D hT C rt N1' led1 ∧ Inv D (keyOf C D) N1' S (ex ++ [k]) := ⟨N, led, rfl, rfl, TL, IV.old hold⟩
     have E1 : Ext N N1' := eN ▸ Ext.refl N
     have hrc : N1' (ex ++ [k]) = some rc := eN ▸ hold
     obtain ⟨r1, hr1, hr1n⟩ : ∃ r1, N1' ex = some r1 ∧ r1.nd = r.nd := ⟨r, eN ▸ hr, rfl⟩
     have F3 := (by assumption : Fr g L' _ _)
     have N3 := (by assumption : News g L' _ led)
     rw [eL] at N3
     simp only [Option.map_some, Option.isSome_some, Bool.not_true]
     (try dsimp only)
     have hdd1 := TL1.dd ex r1 hr1
     have ev : valueAt r1.kvs k = some (.ref rc.nd) := by rw [TL1.sons ex r1 hr1 k, hrc]; rfl
     have lo1 : (r1.dd == sysModules) = false := TL1.lo ex r1 hr1
     have pt1 := TL1.pt ex r1 hr1
     have hpt1g : KTup g led1 r1.pt r1.vs := pt1.1.imp (fun z => IsTup.keeps z Sg) id
     have pt1l : r1.vs.length = ex.length := pt1.2.1.len
     have pt18 : r1.vs.length ≤ 8 := by omega
     have htk : IsTup g (if C = 303 then D.dp i else D.sp i) (vsOf C D i).toArray := hpg.tup
     have htl : (vsOf C D i).length = (keyOf C D i).length := hvl
     have htl8 : (vsOf C D i).length ≤ 8 := by omega
     have SI1 := fun {h : Heap} {L : Addr} (z : News g L h led1) => selfAt_of (m := fun _ => none) TL1 z (fun e he => he) hr1
     rw [hr1n] at SI1
     have SC := fun {h : Heap} {L : Addr} (z : News g L h led1) => selfAt_of (m := fun _ => none) TL1 z (fun e he => he) hrc
     have CLc := cls_of w (cOf_ne TL1.isC (ex ++ [k]))
     k_with_none
     k_with "subscriptTail" => (
      (with_reducible show wpAny _ _ (subscriptTail _ _ (Value.ref _) _) _ _ _)
      refine sub_K (by assumption) Xg (SI1 (by assumption)).inst CL.b2 (by k_is) (by k_is) ?_
      refine wpAny_call (codeAny_weaken (dp := dp + 1) (un := un + 4) rfl rfl (Nat.le_refl _) (Nat.le_refl _) (c_getitem Xg Tg (Fr.sub (by assumption)) (SI1 (by assumption)) (kda_dict (by assumption : News g L' _ led1) hdd1.1 hdd1.2) lo1 hkis (by omega) (by omega) ?_))
      intro h' tk' hs'
      rw [ev]
      have F' := frSub (by assumption) hs'
      have N' := newsSub (by assumption) hs'
      dsimp only [Option.getD])
     k_with "getAttr ref" => (
      (with_reducible show wpAny _ _ (getAttr (Value.ref _) (Str.ofString "depth") _) _ _ _)
      refine get_prop' (p := 214) (fget := 213) (by assumption) Xg (SI1 (by assumption)).inst CL.g3 CL.ic CL.a3 (by k_is) (by k_is) (by k_is) ?_
      refine codeAny_weaken (dp := dp + 1) (un := un + 4) rfl rfl (Nat.le_refl _) (Nat.le_refl _) (c_depth Xg Tg (Fr.sub (by assumption)) (SI1 (by assumption)) (KTup.tup hpt1g (by assumption) (by assumption)) pt18 (by omega) (by omega) ?_)
      intro h' tk' tk1 hs'
      have F' := frSub (by assumption) hs'
      have N' := newsSub (by assumption) hs'
      refine handed_on (by rfl) ?_)
     k_with "getAttr ref" => (
      (with_reducible show wpAny _ _ (getAttr (Value.ref _) (Str.ofString "errors") _) _ _ _)
      refine get_slot' (by assumption) Xg (SC (by assumption)).inst CLc.g5 CLc.ic CLc.a5 (by k_is) (by k_is) CLc.s5 rfl (by rfl) ?_)
     k_with "getMethod ref" => (refine hold_on ?_)
     k_steps
     · refine Hold.off ?_
       have hlast : d + 1 = (keyOf C D i).length := by
         rename_i hq; simp at hq; omega
       have hfull : ex ++ [k] = keyOf C D i := by rw [← hexk, List.take_of_length_le (by omega)]
       have mel := TL1.el _ rc hrc
       have h6 := IV1.len hrc
       have hSi : S.length + 1 ≤ 6 := by simp only [desc, List.length_cons] at hlen; omega
       have Na := (by assumption : News g L' _ led1)
       have Fa := (by assumption : Fr g L' _ _)
       refine el_method (Xg.keeps Fa.keep) (Na _ mel.1).1 (Na _ mel.2).1 (el_fapp w) (el_tapp w) (by rfl) ?_
       clear Na Fa
       k_with_none
       k_with "call builtin:list.append" => (refine hold_on ?_)
       k_steps
       refine Hold.off ?_
       have Na := (by assumption : News g L' _ led1)
       have Fa := (by assumption : Fr g L' _ _)
       refine el_append (Xg.keeps Fa.keep) (Na _ mel.1).1 (Na _ mel.2).1 (by simp [Errs.refs]; omega) ?_
       intro h4 sb4 he4
       have TL2 := TL1.setEl (Live.ofNews Na) hrc (rc.errs ++ [i]) (rc.ep + 1)
       have erf : D.refs rc.errs ++ [Value.ref (D.ea i)] = D.refs (rc.errs ++ [i]) := by simp [Errs.refs]
       rw [erf] at he4
       have A4 := After.set (Live.ofNews Na) (fun b o e n => (sb4.2 b n).trans e) he4 (List.mem_map_of_mem mel.1)
       obtain ⟨F4, N4⟩ := After.step (tl := []) Fa Na A4 (fun p hp => nomatch hp)
       generalize hrc2 : ({ rc with errs := rc.errs ++ [i], ep := rc.ep + 1 } : NRec) = rc2 at TL2
       have e2a : rc2.errs = rc.errs ++ [i] := by rw [← hrc2]
       have e2b : rc2.ep = rc.ep + 1 := by rw [← hrc2]
       have e2c : rc2.el = rc.el := by rw [← hrc2]
       have e2d : rc2.eld = rc.eld := by rw [← hrc2]
       generalize hN2 : (fun q => if q = ex ++ [k] then some rc2 else N1' q) = N2' at TL2
       have hr2 : N2' (ex ++ [k]) = some rc2 := by rw [← hN2]; exact if_pos rfl
       have E2 : Ext N1' N2' := by rw [← hN2]; exact Ext.set hrc (by rw [← hrc2])
       generalize hl2 : setL led1 rc.el (elO (D.refs (rc.errs ++ [i])) (rc.ep + 1) rc.eld) = led2 at TL2 N4
       have mel2 := TL2.el _ rc2 hr2
       have SC2 := fun {h : Heap} {L : Addr} (z : News g L h led2) => selfAt_of (m := fun _ => none) TL2 z (fun e he => he) hr2
       have nd2 : rc2.nd = rc.nd := by rw [← hrc2]
       rw [nd2] at SC2
       clear Na Fa A4
       k_with_none
       k_with "getAttr ref" => (
        (with_reducible show wpAny _ _ (getAttr (Value.ref _) (Str.ofString "errors") _) _ _ _)
        refine get_slot' (by assumption) Xg (SC2 (by assumption)).inst CLc.g5 CLc.ic CLc.a5 (by k_is) (by k_is) CLc.s5 rfl (by rfl) ?_)
       k_with "getMethod ref" => (
        (with_reducible show wpAny _ _ (getMethod (Value.ref _) (Str.ofString "sort") _) _ _ _)
        refine el_method (Xg.keeps (Fr.keep (by assumption : Fr g L' _ _))) ((by assumption : News g L' _ led2) _ mel2.1).1 ((by assumption : News g L' _ led2) _ mel2.2).1 (el_fsort w) (el_tsort w) (by rfl) ?_)
       k_with "call builtin:list.sort" => (refine hold_on ?_)
       k_steps
       refine Hold.off ?_
       dsimp only
       have Na := (by assumption : News g L' _ led2)
       have Fa := (by assumption : Fr g L' _ _)
       refine el_sort (D := D) Xg Tg (Fr.sub Fa) (fun j hj => (V j (by rw [e2a] at hj; rcases List.mem_append.mp hj with hj | hj; exact hS _ (IV1.mem hrc hj); rw [List.mem_singleton.mp hj]; exact hi)).up Sg) O (Na _ mel2.1).1 (Na _ mel2.2).1 (Na _ mel2.1).2.2 (by rw [e2a, List.length_append, List.length_singleton]; omega) (by rw [e2a, List.length_append, List.length_singleton]; omega) (by rw [e2a]; exact pre_sorted O (IV1.sorted _ rc hrc)) rfl rfl (by show dp + 1 < 700; omega) (by show un + 3 < 7000; omega) ?_
       intro h5 tk5 is5 ep5 k5 he5 hperm hpw
       have TL3 := TL2.setEl (Live.ofNews Na) hr2 is5 ep5
       have A5 := After.set (Live.ofNews Na) k5 he5 (List.mem_map_of_mem mel2.1)
       obtain ⟨F5, N5⟩ := After.step (tl := []) Fa Na A5 (fun p hp => nomatch hp)
       have IV3 := IV1.leaf (i := i) (ep := ep5) (is := is5) (hfull ▸ hrc) (by rw [hfull]; exact List.prefix_rfl) (by rw [← e2a]; exact hperm) hpw
       have hN3 : (fun q => if q = keyOf C D i then some { rc with errs := is5, ep := ep5 } else N1' q) = (fun q => if q = ex ++ [k] then some { rc2 with errs := is5, ep := ep5 } else N2' q) := by
         funext q
         rw [hfull, ← hN2, ← hrc2]
         by_cases hq : q = keyOf C D i
         · rw [if_pos hq, if_pos hq]
         · rw [if_neg hq, if_neg hq]
           show _ = if q = ex ++ [k] then _ else _
           rw [hfull, if_neg hq]
       rw [hN3] at IV3
       have E3 : Ext N2' (fun q => if q = ex ++ [k] then some { rc2 with errs := is5, ep := ep5 } else N2' q) := Ext.set hr2 rfl
       generalize (fun q => if q = ex ++ [k] then some { rc2 with errs := is5, ep := ep5 } else N2' q) = Nf at TL3 IV3 E3
       have EX : Ext N Nf := E1.trans (E2.trans E3)
       generalize setL led2 rc2.el (elO (D.refs is5) ep5 rc2.eld) = ledf at TL3 N5
       clear Na Fa A5
       have hcode := GR.code i hi
       have Eo := (Vi.obj.up Sg)
       have Jo := Eo.inst
       by_cases hch : ch i = []
       · rw [if_pos hch] at hcode
         k_with_none
         k_with "getAttr ref" => (
          (with_reducible show wpAny _ _ (getAttr (Value.ref _) (Str.ofString "is_group_error") _) _ _ _)
          refine get_prop' (p := 119) (fget := 118) (by assumption) Xg (InstAt.up Jo (fun b o e => Fr.keep (by assumption) b o e)) (by k_is) (by k_is) (by k_is) (by k_is) (by k_is) (by k_is) ?_
          refine codeAny_weaken (dp := dp + 1) (un := un + 4) rfl rfl (Nat.le_refl _) (Nat.le_refl _) (c_isgroup Xg Tg (Fr.sub (by assumption)) (Eo.up (Fr.sub (by assumption))) (.inr hcode) (by omega) (by omega) ?_)
          intro h' tk' hs'
          rw [hcode]
          have F' := frSub (by assumption) hs'
          have N' := newsSub (by assumption) hs'
          refine handed_on (by rfl) ?_)
         k_steps
         all_goals (try dsimp only)
         exact hR _ _ Nf ledf (After.of_frame (tl := []) G (by assumption) (by assumption)) TL3 (by simpa [desc, hch] using IV3) EX
       · rw [if_neg hch] at hcode
         obtain ⟨ti, li, hinf, hti, hli⟩ := GR.info i hi hch
         rw [hcode, hinf] at Eo
         k_with_none
         k_with "getAttr ref" => (
          (with_reducible show wpAny _ _ (getAttr (Value.ref _) (Str.ofString "is_group_error") _) _ _ _)
          refine get_prop' (p := 119) (fget := 118) (by assumption) Xg (InstAt.up Jo (fun b o e => Fr.keep (by assumption) b o e)) (by k_is) (by k_is) (by k_is) (by k_is) (by k_is) (by k_is) ?_
          refine codeAny_weaken (dp := dp + 1) (un := un + 4) rfl rfl (Nat.le_refl _) (Nat.le_refl _) (c_isgroup Xg Tg (Fr.sub (by assumption)) (Eo.up (Fr.sub (by assumption))) (.inl rfl) (by omega) (by omega) ?_)
          intro h' tk' hs'
          have F' := frSub (by assumption) hs'
          have N' := newsSub (by assumption) hs'
          refine handed_on (by rfl) ?_)
         k_with "getAttr ref" => (
          (with_reducible show wpAny _ _ (getAttr (Value.ref _) (Str.ofString "child_errors") _) _ _ _)
          refine get_prop' (p := 95) (fget := 94) (by assumption) Xg (InstAt.up Jo (fun b o e => Fr.keep (by assumption) b o e)) (by k_is) (by k_is) (by k_is) (by k_is) (by k_is) (by k_is) ?_
          refine codeAny_weaken (dp := dp + 1) (un := un + 4) rfl rfl (Nat.le_refl _) (Nat.le_refl _) (c_children Xg Tg (Fr.sub (by assumption)) (Eo.up (Fr.sub (by assumption))) (IsTup.keeps hti (Sub.trans Sg (Fr.sub (by assumption)))) (by omega) (by omega) ?_)
          intro h' tk' hs'
          have F' := frSub (by assumption) hs'
          have N' := newsSub (by assumption) hs'
          refine handed_on (by rfl) ?_)
         k_with "pyIter ref" => (refine hold_on ?_)
         k_steps
         refine Hold.off ?_
         have Na := (by assumption : News g L' _ ledf)
         have Fa := (by assumption : Fr g L' _ _)
         have hliL : L' ≠ li := fun z => by
           obtain ⟨o, ho, _⟩ := hli
           exact absurd (Nat.lt_of_lt_of_le (Heap.lt_size (Sg _ _ ho)) Fa.above) (by rw [z]; exact Nat.lt_irrefl _)
         refine loop_listIS (vs := (ch i).map fun j => Value.ref (D.ea j)) ["child_error"] (fun n _ l => ∃ N', TreeL w D hT C rt N' l ∧ Inv D (keyOf C D) N' (S ++ (i :: ((ch i).take n).flatMap (desc ch f))) [] ∧ Ext Nf N') rfl (hli.at fun o e => Fa.keep _ _ (Sg _ _ e)) hliL Fa Na ⟨Nf, TL3, by simpa using IV3, Ext.refl _⟩ (fun i m l hl => by obtain ⟨N', T', _⟩ := hl; exact T'.noit) (.inl ⟨_, Sg _ _ hli.choose_spec.1⟩) ?turn ?done
         (case turn => (
           rintro n v u news₁ h tk I io hv ⟨N', T', I', E'⟩ F₁ N₁ hN hcl
           obtain ⟨j, hj, rfl⟩ : ∃ j, (ch i)[n]? = some j ∧ Value.ref (D.ea j) = v := by
             rw [List.getElem?_map] at hv
             cases q : (ch i)[n]? with
             | none => rw [q] at hv; cases hv
             | some j => rw [q] at hv; exact ⟨j, rfl, Option.some.inj hv⟩
           have hjm : j ∈ ch i := List.mem_of_getElem? hj
           have hjl := GR.lt i j hjm
           obtain ⟨re, hre, hren⟩ := (EX.trans E') ex r hr
           obtain ⟨rr, hrr, hrrn, hrrp⟩ := T'.root
           have SE := fun {h : Heap} {L : Addr} (z : News g L h ((I, io) :: news₁)) => selfAt_of (m := fun _ => none) T' z (fun e he => .tail _ he) hre
           rw [hren] at SE
           have SR := fun {h : Heap} {L : Addr} (z : News g L h ((I, io) :: news₁)) => selfAt_of (m := fun _ => none) T' z (fun e he => .tail _ he) hrr
           rw [hrrn] at SR
           have hcr : cOf C [] = C := rfl
           rw [hcr] at SR
           have RC := rcls_of w hC
           have hfl := take_flat_len (g := desc ch f) hj
           have hft := take_flat (g := desc ch f) hj
           have hdl : ∀ a ∈ S ++ (i :: ((ch i).take n).flatMap (desc ch f)), a < 6 := by
             intro a ha
             rcases List.mem_append.mp ha with ha | ha
             · exact hS a ha
             · rcases List.mem_cons.mp ha with rfl | ha
               · exact hi
               · obtain ⟨b, hb, ha⟩ := List.mem_flatMap.mp ha
                 exact desc_lt GR f b (GR.lt i b (List.mem_of_mem_take hb)).2 a ha
           have hlen2 : (S ++ (i :: ((ch i).take n).flatMap (desc ch f))).length + (desc ch f j).length ≤ 6 := by
             simp only [desc, List.length_cons] at hlen
             rw [List.length_append, List.length_cons]
             omega
           k_with_none
           k_with "getAttr ref" => (
            (with_reducible show wpAny _ _ (getAttr (Value.ref _) (Str.ofString "tree_root") _) _ _ _)
            refine get_slot' (by assumption) Xg (SE (by assumption)).inst CL.g2 CL.ic CL.a2 (by k_is) (by k_is) CL.s2 rfl (by rfl) ?_)
           k_with "getMethod ref" => (
            (with_reducible show wpAny _ _ (getMethod (Value.ref _) (Str.ofString "add") _) _ _ _)
            refine method_inst (by assumption) Xg (SR (by assumption)).inst RC.g RC.a (by k_is) (by rfl) ?_)
           k_with "call ref" => ((with_reducible show wpAny _ _ (call (Value.ref 272) _) _ _ _); refine hold_on ?_)
           k_steps
           refine Hold.off ?_
           have Fb := (by assumption : Fr g L' _ (fun y => if y = _ then _ else _))
           have Nb := (by assumption : News g L' _ ((I, io) :: news₁))
           refine wpAny_call (codeAny_weaken (dp := dp + 1) (un := un + 3) rfl rfl (Nat.le_refl _) (Nat.le_refl _) (rec1 j hjm (dp + 1) (un + 3) _ _ _ N' news₁ _ (by omega) (by omega) ⟨Sg.trans (Fr.sub Fb), fun e he => (Nb e (.tail _ he)).1, T', I'⟩ hdl hlen2 ?_))
           intro h' tk' N2 led2 A2 TL4 IV4 E4
           obtain ⟨Fc, Nc⟩ := After.step (tl := [(I, io)]) Fb Nb A2 (fun p hp hm => by
             rw [List.mem_singleton.mp hp] at hm
             obtain ⟨q, hq, e⟩ := List.mem_map.mp hm
             have e1 := (Nb _ (.head _)).1
             have e2 := (Nb q (.tail _ hq)).1
             rw [e] at e2
             have e3 := Option.some.inj (e1.symm.trans e2)
             exact hN q hq (by rw [← e3]; exact hcl))
           k_with_none
           k_steps
           all_goals (try dsimp only)
           exact TurnEnd.next' led2 Fc Nc (.head _) (fun p hp => .tail _ hp) ⟨(by intro z hz; simp at hz; simp [hz]), N2, TL4, by rw [hft]; simpa using IV4, E'.trans E4⟩))
         (case done => (
           rintro u news₁ h tk ⟨N', T', I', E'⟩ F₁ N₁
           k_with_none
           k_steps
           all_goals (try dsimp only)
           exact hR _ _ N' news₁ (After.of_frame (tl := []) G (by assumption) (by assumption)) T' (by simpa [desc] using I') (EX.trans E')))
     · refine Hold.off ?_
       have hmore : d + 1 < (keyOf C D i).length := by
         rename_i hq; simp at hq; omega
       have h240 : cOf C (ex ++ [k]) = 240 := by unfold cOf; rw [if_neg (by simp)]
       rw [h240] at SC
       refine method_inst (by assumption) Xg (SC (by assumption)).inst (by k_is) (by k_is) (by k_is) (by rfl) ?_
       k_with_none
       k_with "call ref" => ((with_reducible show wpAny _ _ (call (Value.ref 229) _) _ _ _); refine hold_on ?_)
       k_steps
       refine Hold.off ?_
       have Nb := (by assumption : News g L' _ led1)
       have Fb := (by assumption : Fr g L' _ _)
       refine wpAny_call (codeAny_weaken (dp := dp + 1) (un := un + 3) rfl rfl (Nat.le_refl _) (Nat.le_refl _) (rec2 hmore (dp + 1) (un + 3) _ _ _ N1' led1 S rc (by omega) (by omega) ⟨Sg.trans (Fr.sub Fb), fun e he => (Nb e he).1, TL1, by rw [hexk]; exact IV1⟩ (by rw [hexk]; exact hrc) hS hlen ?_))
       intro h' tk' N2 led2 A2 TL4 IV4 E4
       obtain ⟨Fc, Nc⟩ := After.step (tl := []) Fb Nb A2 (fun p hp => nomatch hp)
       k_with_none
       k_steps
       all_goals (try dsimp only)
       exact hR _ _ N2 led2 (After.of_frame (tl := []) G Fc Nc) TL4 IV4 (E1.trans E4)
  )
end Ez
end
section
example : True := by
  w_top off
  trivial
open PySem PySem.W PySem.Calls PyProof.Rows
namespace Ez
local macro_rules | `(tactic| ktr_rel) => `(tactic| first
  | assumption
  | exact KTup.app (by ktr_rel)
  | exact KTup.cons (by ktr_rel)
  | exact AtomsAre.take _ (by ktr_rel)
  | exact ok_take _ (by ktr_rel)
  | exact Or.inl (by assumption))
local macro_rules | `(tactic| k_inst) => `(tactic| exact InstAt.up (by assumption) (fun b o e => Fr.keep (by k_asm) b o e))
local macro_rules | `(tactic| k_inst) => `(tactic| exact InstAt.bare (by assumption))
local macro_rules | `(tactic| walk_at "getAttr ref") => `(tactic| (k_here; k_dflt (first
  | (refine' get_slot' ?k1 ?k2 ?k3 ?k4 ?k5 ?k6 ?k7 ?k8 ?k9 ?k10 ?k11 ?_; (case k1 => k_asm); (case k2 => k_asm); (case k3 => k_inst); (case k4 => k_is); (case k5 => k_is); (case k6 => k_is); (case k7 => k_is); (case k8 => k_is); (case k9 => k_is); (case k10 => k_slotget); (case k11 => k_handed); k_whole))))
local macro_rules | `(tactic| walk_at "call builtin:len") => `(tactic| (k_here; (with_reducible show wpAny _ _ (call (Value.builtin "len") [Value.ref _]) _ _ _); refine len_tuple (by is_tup) (by (simp only [List.size_toArray]; omega)) ?_))
example (w : World) (h : Heap) (X : (hd.heap_39 w.params).In h) (e : PySem.Challenge.rw_ez0022_01.prog = Pg) : True := by
  revert X e
  k_fill
  intros
  trivial
local macro_rules | `(tactic| walk_at "subscriptTail") => `(tactic| (k_here; (with_reducible show wpAny _ _ (subscriptTail _ (PySem.Expr.Slice none (some _) none _) (Value.ref _) (Value.ref _)) _ _ _); (with_unfolding_all refine slice_int (by k_asm) (by k_asm) (by ktr_rel) (by omega) (by omega) ?_); intro a' h' tl' F' N' K'; (try k_sweep)))
local macro_rules | `(tactic| walk_at "call builtin:min") => `(tactic| (k_here; (with_reducible show wpAny _ _ (call (Value.builtin "min") [Value.int _ _, Value.int _ _]) _ _ _); refine min_two' rfl (by k_asm) (by k_asm) ?_; intro h' tk' tv' F' N'; (try k_sweep)))
local macro_rules | `(tactic| walk_at "compareOp Eq ref ref") => `(tactic| (k_here; (with_reducible show wpAny _ _ (compareOp CmpOp.Eq (Value.ref _) (Value.ref _)) _ _ _); refine' kpath_eq ?k1 ?k2 ?k3 ?k4 ?k5 ?k6 ?k7 ?k8 ?k9 ?_; (case k1 => k_asm); (case k2 => k_asm); (case k3 => ktr_rel); (case k4 => ktr_rel); (case k5 => ktr_rel); (case k6 => ktr_rel); (case k7 => ktr_rel); (case k8 => ktr_rel); (case k9 => ktr_units); k_whole))
local macro_rules | `(tactic| walk_at "compareOp NotEq ref ref") => `(tactic| (k_here; (with_reducible show wpAny _ _ (compareOp CmpOp.NotEq (Value.ref _) (Value.ref _)) _ _ _); refine' kpath_ne ?k1 ?k2 ?k3 ?k4 ?k5 ?k6 ?k7 ?k8 ?k9 ?_; (case k1 => k_asm); (case k2 => k_asm); (case k3 => ktr_rel); (case k4 => ktr_rel); (case k5 => ktr_rel); (case k6 => ktr_rel); (case k7 => ktr_rel); (case k8 => ktr_rel); (case k9 => ktr_units); k_whole))
local macro_rules | `(tactic| walk_at "getAttr ref") => `(tactic| (k_here; k_dflt (refine' get_own ?k1 ?k2 ?k3 ?k4 ?k5 ?k6 ?k7 ?k8 ?k9 ?_; (case k1 => k_asm); (case k2 => k_asm); (case k3 => k_inst); (case k4 => k_is); (case k5 => k_is); (case k6 => k_is); (case k7 => k_is); (case k8 => assumption); (case k9 => k_handed); k_whole)))
local macro_rules | `(tactic| walk_at "getAttrBy ref") => `(tactic| (k_here; k_dflt (refine' kbm_ownBy ?k1 ?k2 ?k3 ?k4 ?k5 ?k6 ?k7 ?k8 ?k9 ?_; (case k1 => k_asm); (case k2 => k_asm); (case k3 => k_inst); (case k4 => k_is); (case k5 => k_is); (case k6 => k_is); (case k7 => k_is); (case k8 => assumption); (case k9 => k_handed); k_whole)))
local macro_rules | `(tactic| walk_at $s:str) => `(tactic| k_extra $s)
section
variable {w : World} {A : Around} {R : Result → Shared → Prop} {s : Shared} {name qual : Str} {params : Arguments} {body : List Stmt} {scope : Scope} {cc : Addr} {dV kV doc pm cdv ct oc : Value} {an od : Option Addr}
  {osl : Array (Option Value)} {f : Addr} {args : Args} {binds : List (Str × Value)} {hT : Heap} {mean : ExcName → Option Value} {mg mb : Str → Option Value}
theorem enterS (X : (hd.heap_39 w.params).In hT) (T : Top hd.view_39 L0 mean mg mb hT) (S : Sub hT s.heap) (led : List (Addr × Obj))
    (hl : ∀ p ∈ led, s.heap.get? p.1 = some p.2 ∧ hT.get? p.1 = none)
    (ho : (hd.heap_39 w.params).lookup f = some ⟨oc, od, .func (ksFn name qual params body scope dV kV doc pm an cdv ct cc), osl⟩) (hcd : codeIn (hd.heap_39 w.params) cdv qual = true)
    (hroom : A.depth < recursionLimit) (hbind : BindsTo s (ksFn name qual params body scope dV kV doc pm an cdv ct cc) args binds) (hloc : ∀ y ∈ binds, scope.names.lookup y.1 = some .local)
    (h : ∀ g L' h₁ tk, Sub hT g → Gnd s.heap led g → Fr g L' h₁ (fun y => binds.reverse.lookup y) → News g L' h₁ led → (hd.heap_39 w.params).In g → Top hd.view_39 L0 mean mg mb g →
      _root_.PySem.wpAt (model Pg w) (A.deeper (ksEnv qual scope L' f cdv cc)) (.func body (ksEnv qual scope L' f cdv cc)) (execs body (ksEnv qual scope L' f cdv cc))
        (fun fl s' => R (.ok (.ret (match fl with | .ret v => v | _ => .none))) s')
        (fun e s' => wpAny (model Pg w) (A.deeper (ksEnv qual scope L' f cdv cc)) (leaving (ksEnv qual scope L' f cdv cc) e) (fun _ s'' => R (.error e) s'') (fun e' s'' => R (.error e') s'') s')
        { s with heap := h₁, toks := tk })
    (hco : scope.isCoroutine = false) (hgen : scope.isGenerator = false) (hk : scope.kind = .function)
    (hcell : ∀ x ∈ scope.names, x.2 ≠ .cell) : codeAny (model Pg w) A (.call (.ref f) args) R s := by
  have up : ∀ b o, s.heap.get? b = some o → b ∉ led.map (·.1) → (hideAll s.heap (led.map (·.1))).get? b = some o := fun b o e n => hideAll_get _ e n
  have st : Sub hT (hideAll s.heap (led.map (·.1))) := fun b o e => up b o (S b o e) (fun hm => by
    obtain ⟨p, hp, rfl⟩ := List.mem_map.mp hm
    rw [(hl p hp).2] at e; cases e)
  refine ks_codeAny_call_defAt (fd := ksFn name qual params body scope dV kV doc pm an cdv ct cc) (body := body) (binds := binds) hroom (S _ _ (X _ _ ho)) rfl (T.nolimit.keeps S) (codeRec_of (X.keeps S) hcd) rfl hbind hcell hloc (fun h₁ hns hk₁ => ?_) hco hgen hk
  exact h _ s.heap.objs.size h₁ _ st ⟨up, fun b o e => of_hideAll _ e⟩ ⟨hns, fun b o e => hk₁ b o (of_hideAll _ e), Nat.le_of_eq (hideAll_size _ _)⟩
    (fun p hp => ⟨hk₁ _ _ (hl p hp).1, Nat.ne_of_lt (Heap.lt_size (hl p hp).1), hideAll_none _ (List.mem_map_of_mem hp)⟩) (X.keeps st) (T.keeps st)
end
theorem super_add (w : World) {C : Addr} (h : C = 303 ∨ C = 315) : ks_superIn (hd.heap_39 w.params) C 289 "add" = some (some (.ref 229)) := by
  rcases h with rfl | rfl <;> ks_is
theorem super_sub (w : World) {C : Addr} (h : C = 303 ∨ C = 315) : mroIn (hd.heap_39 w.params) C (.ref 289) = some true := by
  rcases h with rfl | rfl <;> k_is
theorem pre_sorted' {D : Errs} (O : D.Ok) {l : List Nat} {i : Nat} (h : l.Pairwise fun a b => D.le a b = true) (a b : Nat) (hab : a ≤ b) (hb : b + 1 < (l ++ [i]).length) : D.le ((l ++ [i]).getD a 0) ((l ++ [i]).getD b 0) = true := by
  rw [List.length_append, List.length_singleton] at hb
  have hbl : b < l.length := by omega
  have hal : a < l.length := by omega
  have e1 : (l ++ [i]).getD a 0 = l[a] := by simp [List.getD, List.getElem?_append_left hal, hal]
  have e2 : (l ++ [i]).getD b 0 = l[b] := by simp [List.getD, List.getElem?_append_left hbl, hbl]
  rw [e1, e2]
  rcases Nat.lt_or_eq_of_le hab with q | q
  · exact List.pairwise_iff_getElem.mp h a b hal hbl q
  · subst q; exact O.refl _
set_option maxRecDepth 100000 in
set_option maxHeartbeats 8000000 in
theorem c_radd {w : World} {mean : ExcName → Option Value} {mg mb : Str → Option Value} {hT : Heap} {D : Errs} {ch : Nat → List Nat} {C rt : Addr} {f i : Nat}
   (X : (hd.heap_39 w.params).In hT) (T : Top hd.view_39 L0 mean mg mb hT) (V : ∀ i, i < 6 → ErrV D hT i) (O : D.Ok) (GR : Grp D hT ch) (hi : i < 6)
   (nadd : 0 < (keyOf C D i).length → NAdd w hT D ch C rt f i 0) : RAdd w hT D ch C rt f i := by
  intro dp un outer s R N led S hdp hun H hS hlen hR
  obtain ⟨SB, LV, TL, IV⟩ := H
  have Vi := V i hi
  obtain ⟨hpa, hpl⟩ := Vi.path C
  have hC := TL.isC
  obtain ⟨r, hr, hr0n, hr0p⟩ := TL.root
  have CL := cls_of w (cOf_ne TL.isC [])
  have hc0 : cOf C [] = C := rfl
  rw [hc0] at CL
  have SB0 := SB
  (k_dflt (refine' enterS X T SB led ?hl ?ho ?hcd ?hroom ?hb ?hloc ?_ ?c1 ?c2 ?c3 ?c4; (case hl => exact fun p hp => ⟨LV p hp, TL.off p hp⟩); (case ho => k_is); (case hcd => k_is); (case hroom => simp only [recursionLimit]; omega); (case hb => exact BindsTo.of_eq rfl); (case hloc => exact locs (by rfl)); (case c1 => rfl); (case c2 => rfl); (case c3 => rfl); (case c4 => decide))
   intro g L' h₁ tk₀ Sg G F Nw Xg Tg
   have SI := fun {h : Heap} {L : Addr} (z : News g L h led) => selfAt_of (m := fun _ => none) TL z (fun e he => he) hr
   rw [hr0n, hc0] at SI
   have hpg := hpa.up Sg
   have htk : IsTup g (adOf C D i) (vsOf C D i).toArray := hpg.tup
   have hvl := hpa.ats.len
   have sadd := super_add w hC
   have ssub := super_sub w hC
   (try dsimp only); (try k_fold)
   k_with_none
   k_with "getMethod ref" => (
    (with_reducible show wpAny _ _ (getMethod (Value.ref _) (Str.ofString "_path_of_") _) _ _ _)
    refine method_inst (by assumption) Xg (SI (by assumption)).inst CL.g4 CL.a4 (by k_is) (by rfl) ?_)
   k_with "call ref" => (
    (with_reducible show wpAny _ _ (call (Value.ref 236) _) _ _ _)
    refine wpAny_call (codeAny_weaken (dp := dp + 1) (un := un + 3) rfl rfl (Nat.le_refl _) (Nat.le_refl _) (c_pathof Xg Tg (Fr.sub (by assumption)) (SI (by assumption)) (hr0p ▸ (SI (by assumption : News g L' _ led)).inst) hC (by rcases hC with h | h <;> simp [h]) ((Vi.obj.up Sg).up (Fr.sub (by assumption))) (by omega) (by omega) ?_))
    intro h' tk' hs'
    have F' := frSub (by assumption) hs'
    have N' := newsSub (by assumption) hs')
   k_with "truthy ref" => (
    (with_reducible show wpAny _ _ (truthy (Value.ref _)) _ _ _)
    refine truthy_tuple (IsTup.keeps htk (Fr.sub (by assumption))) (by simp only [List.size_toArray]; omega) ?_)
   k_with "wpAt" => (ks_step "exec Expr"; k_dflt (refine ks_wpAt_Expr_any ?_))
   k_with "wpAt" => (ks_step "eval Call"; k_dflt (refine ks_wpAt_MethodCall ?_))
   k_with "wpAt" => (ks_step "attributeBase Call"; refine hold_on ?_)
   k_with "getAttr ref" => (
    (with_reducible show wpAny _ _ (getAttr (Value.ref _) (Str.ofString "errors") _) _ _ _)
    refine get_slot' (by assumption) Xg (SI (by assumption)).inst CL.g5 CL.ic CL.a5 (by k_is) (by k_is) CL.s5 rfl (by rfl) ?_)
   k_with "getMethod ref" => (
    (with_reducible show wpAny _ _ (getMethod (Value.ref _) (Str.ofString "append") _) _ _ _)
    refine hold_on ?_)
   k_steps
   · refine Hold.off ?_
     have hkey : keyOf C D i = [] := by
       have : (vsOf C D i).length = 0 := by simp_all
       exact List.length_eq_zero_iff.mp (by omega)
     have hch : ch i = [] := GR.nokey i (by unfold keyOf at hkey; split at hkey <;> simp [hkey])
     have hdesc : desc ch f i = [i] := by cases f <;> simp [desc, hch]
     rw [hdesc] at hlen hR
     have mel := TL.el _ r hr
     have h6 := IV.len hr
     have hSi : S.length + 1 ≤ 6 := by simpa using hlen
     have Na := (by assumption : News g L' _ led)
     have Fa := (by assumption : Fr g L' _ _)
     refine el_method (Xg.keeps Fa.keep) (Na _ mel.1).1 (Na _ mel.2).1 (el_fapp w) (el_tapp w) (by rfl) ?_
     clear Na Fa
     k_with_none
     k_with "call builtin:list.append" => (refine hold_on ?_)
     k_steps
     refine Hold.off ?_
     have Na := (by assumption : News g L' _ led)
     have Fa := (by assumption : Fr g L' _ _)
     refine el_append (Xg.keeps Fa.keep) (Na _ mel.1).1 (Na _ mel.2).1 (by simp [Errs.refs]; omega) ?_
     intro h4 sb4 he4
     have TL2 := TL.setEl (Live.ofNews Na) hr (r.errs ++ [i]) (r.ep + 1)
     have erf : D.refs r.errs ++ [Value.ref (D.ea i)] = D.refs (r.errs ++ [i]) := by simp [Errs.refs]
     rw [erf] at he4
     have A4 := After.set (Live.ofNews Na) (fun b o e n => (sb4.2 b n).trans e) he4 (List.mem_map_of_mem mel.1)
     obtain ⟨F4, N4⟩ := After.step (tl := []) Fa Na A4 (fun p hp => nomatch hp)
     generalize hrc2 : ({ r with errs := r.errs ++ [i], ep := r.ep + 1 } : NRec) = rc2 at TL2
     have e2a : rc2.errs = r.errs ++ [i] := by rw [← hrc2]
     have e2c : rc2.el = r.el := by rw [← hrc2]
     have nd2 : rc2.nd = rt := by rw [← hrc2]; exact hr0n
     generalize hN2 : (fun q => if q = [] then some rc2 else N q) = N2' at TL2
     have hr2 : N2' [] = some rc2 := by rw [← hN2]; exact if_pos rfl
     have E2 : Ext N N2' := by rw [← hN2]; exact Ext.set hr (by rw [← hrc2])
     generalize hl2 : setL led r.el (elO (D.refs (r.errs ++ [i])) (r.ep + 1) r.eld) = led2 at TL2 N4
     have mel2 := TL2.el _ rc2 hr2
     have SC2 := fun {h : Heap} {L : Addr} (z : News g L h led2) => selfAt_of (m := fun _ => none) TL2 z (fun e he => he) hr2
     rw [nd2, hc0] at SC2
     clear Na Fa A4
     k_with_none
     k_with "wpAt" => (ks_step "exec Expr"; k_dflt (refine ks_wpAt_Expr_any ?_))
     k_with "getAttr ref" => (
      (with_reducible show wpAny _ _ (getAttr (Value.ref _) (Str.ofString "errors") _) _ _ _)
      refine get_slot' (by assumption) Xg (SC2 (by assumption)).inst CL.g5 CL.ic CL.a5 (by k_is) (by k_is) CL.s5 rfl (by rfl) ?_)
     k_with "getMethod ref" => (
      (with_reducible show wpAny _ _ (getMethod (Value.ref _) (Str.ofString "sort") _) _ _ _)
      refine el_method (Xg.keeps (Fr.keep (by assumption : Fr g L' _ _))) ((by assumption : News g L' _ led2) _ mel2.1).1 ((by assumption : News g L' _ led2) _ mel2.2).1 (el_fsort w) (el_tsort w) (by rfl) ?_)
     k_with "call builtin:list.sort" => (refine hold_on ?_)
     k_steps
     refine Hold.off ?_
     dsimp only
     have Na := (by assumption : News g L' _ led2)
     have Fa := (by assumption : Fr g L' _ _)
     refine el_sort (D := D) Xg Tg (Fr.sub Fa) (fun j hj => (V j (by rw [e2a] at hj; rcases List.mem_append.mp hj with hj | hj; exact hS _ (IV.mem hr hj); rw [List.mem_singleton.mp hj]; exact hi)).up Sg) O (Na _ mel2.1).1 (Na _ mel2.2).1 (Na _ mel2.1).2.2 (by rw [e2a, List.length_append, List.length_singleton]; omega) (by rw [e2a, List.length_append, List.length_singleton]; omega) (by rw [e2a]; exact pre_sorted' O (IV.sorted _ r hr)) rfl rfl (by show dp + 1 < 700; omega) (by show un + 3 < 7000; omega) ?_
     intro h5 tk5 is5 ep5 k5 he5 hperm hpw
     have TL3 := TL2.setEl (Live.ofNews Na) hr2 is5 ep5
     have A5 := After.set (Live.ofNews Na) k5 he5 (List.mem_map_of_mem mel2.1)
     obtain ⟨F5, N5⟩ := After.step (tl := []) Fa Na A5 (fun p hp => nomatch hp)
     have IV3 := IV.leaf (i := i) (ep := ep5) (is := is5) (hkey ▸ hr) List.nil_prefix (by rw [← e2a]; exact hperm) hpw
     have hN3 : (fun q => if q = keyOf C D i then some { r with errs := is5, ep := ep5 } else N q) = (fun q => if q = [] then some { rc2 with errs := is5, ep := ep5 } else N2' q) := by
       funext q
       rw [hkey, ← hN2, ← hrc2]
       by_cases hq : q = []
       · rw [if_pos hq, if_pos hq]
       · rw [if_neg hq, if_neg hq]
         show _ = if q = [] then _ else _
         rw [if_neg hq]
     rw [hN3] at IV3
     have E3 : Ext N2' (fun q => if q = [] then some { rc2 with errs := is5, ep := ep5 } else N2' q) := Ext.set hr2 rfl
     generalize (fun q => if q = [] then some { rc2 with errs := is5, ep := ep5 } else N2' q) = Nf at TL3 IV3 E3
     generalize setL led2 rc2.el (elO (D.refs is5) ep5 rc2.eld) = ledf at TL3 N5
     have EX : Ext N Nf := E2.trans E3
     clear Na Fa A5
     k_with_none
     k_steps
     all_goals (try dsimp only)
     exact hR _ _ Nf ledf (After.of_frame (tl := []) G (by assumption) (by assumption)) TL3 IV3 EX
   · refine Hold.off ?_
     have hlp : 0 < (keyOf C D i).length := by
       rcases Nat.eq_zero_or_pos (keyOf C D i).length with h | h
       · exfalso
         have : vsOf C D i = [] := List.length_eq_zero_iff.mp (by omega)
         simp_all
       · exact h
     k_here
     k_dflt (refine ks_node (D := 289) (by assumption) Xg (by assumption : News g L' _ led) Tg (by k_is) (by rfl) (by rfl) (SI (by assumption)).inst (by k_is) (by rfl) (by first | rfl | decide +kernel) (by k_is) (by k_is) ssub (by k_is) (by decide) (by rfl) (by rfl) (by rfl) (by rfl) (by decide +kernel) (by first | boot_by_name | rfl | kernel_rfl) ?_)
     intro so h6 F6 N6 l6
     k_with_none
     k_with "getMethod ref" => (
      (with_reducible show wpAny _ _ (getMethod (Value.ref _) (Str.ofString "add") _) _ _ _)
      refine hold_on ?_)
     k_steps
     refine Hold.off ?_
     have Fa := (by assumption : Fr g L' _ _)
     have Na := (by assumption : News g L' _ ((so, ks_superObj 289 rt C) :: led))
     refine ks_method Fa Xg Na (.head _) (SI (fun p hp => Na p (.tail _ hp))).inst (by k_is) sadd (by k_is) (by decide) ?_
     intro q h7 F7 N7 l7
     clear Fa Na
     k_with_none
     k_with "call ref" => (refine hold_on ?_)
     k_steps
     refine Hold.off ?_
     have Fb := (by assumption : Fr g L' _ _)
     have Nb := (by assumption : News g L' _ ((q, methodObj (.ref 229) (.ref rt)) :: _))
     have Nl : News g L' _ led := fun p hp => Nb p (.tail _ (.tail _ hp))
     refine call_meth Nb (.head _) (codeAny_weaken (dp := dp + 1) (un := un + 3) rfl rfl (Nat.le_refl _) (Nat.le_refl _) (hr0n ▸ nadd hlp (dp + 1) (un + 3) _ _ _ N led S r (by omega) (by omega) ⟨Sg.trans (Fr.sub Fb), fun e he => (Nl e he).1, TL, IV⟩ hr hS hlen ?_))
     intro h8 tk8 N8 led8 A8 TL8 IV8 E8
     obtain ⟨Fc, Nc⟩ := After.step (tl := []) Fb Nl A8 (fun p hp => nomatch hp)
     k_with_none
     k_steps
     all_goals (try dsimp only)
     exact hR _ _ N8 led8 (After.of_frame (tl := []) G Fc Nc) TL8 IV8 E8)
end Ez
end
section
example : True := by
  w_top off
  trivial
open PySem PySem.W PySem.Calls PyProof.Rows
namespace Ez
local macro_rules | `(tactic| ktr_rel) => `(tactic| first
  | assumption
  | exact KTup.app (by ktr_rel)
  | exact KTup.cons (by ktr_rel)
  | exact AtomsAre.take _ (by ktr_rel)
  | exact ok_take _ (by ktr_rel)
  | exact Or.inl (by assumption))
local macro_rules | `(tactic| k_inst) => `(tactic| exact InstAt.up (by assumption) (fun b o e => Fr.keep (by k_asm) b o e))
local macro_rules | `(tactic| k_inst) => `(tactic| exact InstAt.bare (by assumption))
local macro_rules | `(tactic| walk_at "getAttr ref") => `(tactic| (k_here; k_dflt (first
  | (refine' get_slot' ?k1 ?k2 ?k3 ?k4 ?k5 ?k6 ?k7 ?k8 ?k9 ?k10 ?k11 ?_; (case k1 => k_asm); (case k2 => k_asm); (case k3 => k_inst); (case k4 => k_is); (case k5 => k_is); (case k6 => k_is); (case k7 => k_is); (case k8 => k_is); (case k9 => k_is); (case k10 => k_slotget); (case k11 => k_handed); k_whole))))
local macro_rules | `(tactic| walk_at "call builtin:len") => `(tactic| (k_here; (with_reducible show wpAny _ _ (call (Value.builtin "len") [Value.ref _]) _ _ _); refine len_tuple (by is_tup) (by (simp only [List.size_toArray]; omega)) ?_))
example (w : World) (h : Heap) (X : (hd.heap_39 w.params).In h) (e : PySem.Challenge.rw_ez0022_01.prog = Pg) : True := by
  revert X e
  k_fill
  intros
  trivial
local macro_rules | `(tactic| walk_at "subscriptTail") => `(tactic| (k_here; (with_reducible show wpAny _ _ (subscriptTail _ (PySem.Expr.Slice none (some _) none _) (Value.ref _) (Value.ref _)) _ _ _); (with_unfolding_all refine slice_int (by k_asm) (by k_asm) (by ktr_rel) (by omega) (by omega) ?_); intro a' h' tl' F' N' K'; (try k_sweep)))
local macro_rules | `(tactic| walk_at "call builtin:min") => `(tactic| (k_here; (with_reducible show wpAny _ _ (call (Value.builtin "min") [Value.int _ _, Value.int _ _]) _ _ _); refine min_two' rfl (by k_asm) (by k_asm) ?_; intro h' tk' tv' F' N'; (try k_sweep)))
local macro_rules | `(tactic| walk_at "compareOp Eq ref ref") => `(tactic| (k_here; (with_reducible show wpAny _ _ (compareOp CmpOp.Eq (Value.ref _) (Value.ref _)) _ _ _); refine' kpath_eq ?k1 ?k2 ?k3 ?k4 ?k5 ?k6 ?k7 ?k8 ?k9 ?_; (case k1 => k_asm); (case k2 => k_asm); (case k3 => ktr_rel); (case k4 => ktr_rel); (case k5 => ktr_rel); (case k6 => ktr_rel); (case k7 => ktr_rel); (case k8 => ktr_rel); (case k9 => ktr_units); k_whole))
local macro_rules | `(tactic| walk_at "compareOp NotEq ref ref") => `(tactic| (k_here; (with_reducible show wpAny _ _ (compareOp CmpOp.NotEq (Value.ref _) (Value.ref _)) _ _ _); refine' kpath_ne ?k1 ?k2 ?k3 ?k4 ?k5 ?k6 ?k7 ?k8 ?k9 ?_; (case k1 => k_asm); (case k2 => k_asm); (case k3 => ktr_rel); (case k4 => ktr_rel); (case k5 => ktr_rel); (case k6 => ktr_rel); (case k7 => ktr_rel); (case k8 => ktr_rel); (case k9 => ktr_units); k_whole))
local macro_rules | `(tactic| walk_at "getAttr ref") => `(tactic| (k_here; k_dflt (refine' get_own ?k1 ?k2 ?k3 ?k4 ?k5 ?k6 ?k7 ?k8 ?k9 ?_; (case k1 => k_asm); (case k2 => k_asm); (case k3 => k_inst); (case k4 => k_is); (case k5 => k_is); (case k6 => k_is); (case k7 => k_is); (case k8 => assumption); (case k9 => k_handed); k_whole)))
local macro_rules | `(tactic| walk_at "getAttrBy ref") => `(tactic| (k_here; k_dflt (refine' kbm_ownBy ?k1 ?k2 ?k3 ?k4 ?k5 ?k6 ?k7 ?k8 ?k9 ?_; (case k1 => k_asm); (case k2 => k_asm); (case k3 => k_inst); (case k4 => k_is); (case k5 => k_is); (case k6 => k_is); (case k7 => k_is); (case k8 => assumption); (case k9 => k_handed); k_whole)))
local macro_rules | `(tactic| walk_at $s:str) => `(tactic| k_extra $s)
theorem TreeL.start {w : World} {D : Errs} {hT : Heap} {C x xd dd el eld pt ep : Nat} {dO : Obj} {led : Led} (hC : C = 303 ∨ C = 315)
    (h1 : (x, selfO C xd dd el .none pt x) ∈ led) (h2 : (xd, dictOf [] 0) ∈ led) (h3 : (dd, dO) ∈ led) (h4 : (el, elO [] ep eld) ∈ led) (h5 : (eld, dictOf [] 0) ∈ led)
    (hd : dO.IsDictOf (atomKind Pg w) []) (hlo : (dd == sysModules) = false) (ap : dd ≠ xd ∧ dd ≠ eld) (hp : KTup hT led pt []) (off : ∀ e ∈ led, hT.get? e.1 = none) (ni : NoIt led) :
    TreeL w D hT C x (fun p : List Atom => if p = [] then some ⟨x, xd, el, eld, dd, pt, .none, dO, [], [], ep, []⟩ else none) led := by
  have get : ∀ (p : List Atom) (r : NRec), (if p = [] then some (⟨x, xd, el, eld, dd, pt, .none, dO, [], [], ep, []⟩ : NRec) else none) = some r → p = [] ∧ r = ⟨x, xd, el, eld, dd, pt, .none, dO, [], [], ep, []⟩ := by
    intro p r e
    by_cases hq : p = []
    · rw [if_pos hq] at e; exact ⟨hq, (Option.some.inj e).symm⟩
    · rw [if_neg hq] at e; cases e
  refine ⟨⟨_, if_pos rfl, rfl, rfl⟩, ?_, ?_, ?_, ?_, ?_, ?_, ?_, off, ?_, ?_, hC, ni⟩
  · intro p r e; obtain ⟨rfl, rfl⟩ := get p r e; exact ⟨h1, h2⟩
  · intro p r e; obtain ⟨rfl, rfl⟩ := get p r e; exact ⟨h4, h5⟩
  · intro p r e; obtain ⟨rfl, rfl⟩ := get p r e; exact ⟨h3, hd⟩
  · intro p r e k; obtain ⟨rfl, rfl⟩ := get p r e
    rw [if_neg (by simp)]; rfl
  · intro p r e; obtain ⟨rfl, rfl⟩ := get p r e; exact ⟨hp, trivial, rfl⟩
  · intro p q r r' e e' _; obtain ⟨rfl, rfl⟩ := get p r e; obtain ⟨rfl, rfl⟩ := get q r' e'; rfl
  · intro p r q r' e e'; obtain ⟨rfl, rfl⟩ := get p r e; obtain ⟨rfl, rfl⟩ := get q r' e'; exact ap
  · intro q k _; exact if_neg (by simp)
  · intro p r e; obtain ⟨rfl, rfl⟩ := get p r e; exact hlo
theorem Inv.start {D : Errs} {key : Nat → List Atom} {r : NRec} (h : r.errs = []) : Inv D key (fun p : List Atom => if p = [] then Option.some r else none) [] [] := by
  have get : ∀ (p : List Atom) (r' : NRec), (if p = [] then Option.some r else none) = Option.some r' → p = [] ∧ r' = r := by
    intro p r' e
    by_cases hq : p = []
    · rw [if_pos hq] at e; exact ⟨hq, (Option.some.inj e).symm⟩
    · rw [if_neg hq] at e; cases e
  refine ⟨?_, ?_, ?_⟩
  · intro p r' e; obtain ⟨rfl, rfl⟩ := get p r' e; rw [h]; exact List.Perm.nil
  · intro p r' e; obtain ⟨rfl, rfl⟩ := get p r' e; rw [h]; exact List.Pairwise.nil
  · intro p
    by_cases hq : p = []
    · subst hq; simp
    · show (if p = [] then Option.some r else none).isSome = true ↔ _
      rw [if_neg hq]
      simp [hq]
theorem noIt_start {C x xd dd el eld pt ep : Nat} {dO : Obj} {sl : Array (Option Value)} (hd : dO.cls = .type "dict") : NoIt [(dd, dO), (el, elO [] ep eld), (eld, dictOf [] 0), (pt, { cls := Value.type "tuple", data := Data.seq #[] }), (x, { cls := Value.ref C, dict := some xd, slots := sl }), (xd, dictOf [] 0)] := by
  intro e he
  simp only [List.mem_cons, List.not_mem_nil, or_false] at he
  rcases he with rfl | rfl | rfl | rfl | rfl | rfl <;> first | (rw [hd]; simp [iterCls]; done) | (show Value.ref _ ∉ iterCls; simp [iterCls]; done) | (show Value.type _ ∉ iterCls; simp [iterCls]; done)
theorem tnone' {hT g : Heap} (s : Sub hT g) {a : Addr} (h : g.get? a = none) : hT.get? a = none := by
  cases q : hT.get? a with
  | none => rfl
  | some o => rw [s _ _ q] at h; cases h
theorem tree_start {w : World} {D : Errs} {hT : Heap} {C x xd dd el eld pt ep : Nat} {dO : Obj} {led : Led} (hC : C = 303 ∨ C = 315)
    (h1 : (x, selfO C xd dd el .none pt x) ∈ led) (h2 : (xd, dictOf [] 0) ∈ led) (h3 : (dd, dO) ∈ led) (h4 : (el, elO [] ep eld) ∈ led) (h5 : (eld, dictOf [] 0) ∈ led)
    (hd : dO.IsDictOf (atomKind Pg w) []) (hlo : (dd == sysModules) = false) (ap : dd ≠ xd ∧ dd ≠ eld) (hp : KTup hT led pt []) (off : ∀ e ∈ led, hT.get? e.1 = none) (ni : NoIt led) :
    ∃ N, TreeL w D hT C x N led ∧ Inv D (keyOf C D) N [] [] := ⟨_, TreeL.start hC h1 h2 h3 h4 h5 hd hlo ap hp off ni, Inv.start rfl⟩
set_option maxRecDepth 100000 in
set_option maxHeartbeats 8000000 in
theorem c_tinit {w : World} {mean : ExcName → Option Value} {mg mb : Str → Option Value} {hT : Heap} {D : Errs} {ch : Nat → List Nat} {C x xd lt : Addr} {tops : List Nat} {dp un : Nat} {outer : List Env} {s : Shared} {R : Result → Shared → Prop}
   (X : (hd.heap_39 w.params).In hT) (T : Top hd.view_39 L0 mean mg mb hT) (GR : Grp D hT ch) (hC : C = 303 ∨ C = 315) (SB : Sub hT s.heap)
   (hx : s.heap.get? x = some (instObj C xd)) (hxd : s.heap.get? xd = some (dictOf [] 0)) (hxT : hT.get? x = none) (hxdT : hT.get? xd = none) (hlt : xd < x)
   (hl : hT.IsList lt (tops.map fun t => Value.ref (D.ea t)).toArray) (htops : ∀ t ∈ tops, t < 6) (hsum : (tops.flatMap (desc ch 6)).length ≤ 6)
   (radd : ∀ j, j < 6 → RAdd w hT D ch C x 6 j) (hdp : dp ≤ 400) (hun : un ≤ 2000)
   (hR : ∀ h' tk N led, After s.heap [(x, instObj C xd), (xd, dictOf [] 0)] h' led → TreeL w D hT C x N led → Inv D (keyOf C D) N (tops.flatMap (desc ch 6)) [] → R (.ok (.ret .none)) { s with heap := h', toks := tk }) :
   codeAny (model Pg w) (AT dp un outer) (.call (.ref 264) ⟨[.ref x, .ref lt], []⟩) R s := by
  k_lt2 hlt
  have CL := cls_of w (.inr hC)
  have RC := rcls_of w hC
  have hC' := hC
  have HL : ∀ p ∈ [(x, instObj C xd), (xd, dictOf [] 0)], s.heap.get? p.1 = some p.2 ∧ hT.get? p.1 = none := by
    intro p hp
    rcases List.mem_cons.mp hp with rfl | hp
    · exact ⟨hx, hxT⟩
    · obtain rfl := List.mem_singleton.mp hp
      exact ⟨hxd, hxdT⟩
  rcases hC with rfl | rfl <;>
  (k_dflt (refine' enterH (binds := [(Str.ofString "self", .ref x), (Str.ofString "errors", .ref lt)]) X T SB _ HL ?ho ?hcd ?hroom ?hb ?hloc ?_ ?c1 ?c2 ?c3 ?c4; (case ho => k_is); (case hcd => k_is); (case hroom => simp only [recursionLimit]; omega); (case hb => exact binds_K (X.keeps SB) rfl (by k_is) rfl rfl rfl); (case hloc => exact locs (by rfl)); (case c1 => rfl); (case c2 => rfl); (case c3 => rfl); (case c4 => decide))
   intro g L' h₁ tk₀ Sg G F N Xg Tg
   (try dsimp only); (try k_fold)
   k_with_none
   k_with "setAttr ref" => (
    (with_reducible show wpAny _ _ (setAttr (Value.ref _) _ _) _ _ _)
    (refine' set_slot ?k1 ?k2 ?k3 ?k4 ?k5 ?k6 ?k7 ?k8 ?k9 ?k10 ?k11 ?k12 ?k13 ?_; (case k1 => k_asm); (case k2 => k_asm); (case k3 => k_asm); (case k4 => k_inst); (case k5 => k_is); (case k6 => k_is); (case k7 => k_is); (case k8 => k_is); (case k9 => k_is); (case k10 => decide); (case k11 => k_slotset); (case k12 => exact rfl); (case k13 => k_upd); k_whole; intro h' F' N'; (try k_sweep)))
   k_with "call ref" => (
    (with_reducible show wpAny _ _ (call (Value.ref 159) _) _ _ _)
    refine el_call' (by assumption) (by assumption) Xg ?_
    intro el eld ep h' F' N' l1 l2
    k_lt l1
    k_lt2 l2)
   k_with "pyIter ref" => (refine hold_on ?_)
   k_steps
   refine Hold.off ?_
   rename News _ _ _ _ => NN
   rename Fr _ _ _ _ => FF
   rename Obj.IsDictOf (PySem.strKind _ _) _ _ => hDD
   obtain ⟨N0, TL, IV⟩ := tree_start (D := D) (hT := hT) (ep := ep) hC' (.tail _ (.tail _ (.tail _ (.tail _ (.head _))))) (.tail _ (.tail _ (.tail _ (.tail _ (.tail _ (.head _)))))) (.head _) (.tail _ (.head _)) (.tail _ (.tail _ (.head _))) (isDict_nil hDD) (by assumption) ⟨by k_ne, by k_ne⟩ (.inr (.tail _ (.tail _ (.tail _ (.head _))))) (fun e he => tnone' Sg (NN e he).2.2) (noIt_start (IsDict_cls hDD))
   have hliL : L' ≠ lt := fun z => by
     obtain ⟨o, ho, _⟩ := hl
     exact absurd (Nat.lt_of_lt_of_le (Heap.lt_size (Sg _ _ ho)) FF.above) (by rw [z]; exact Nat.lt_irrefl _)
   refine loop_listIS (vs := tops.map fun j => Value.ref (D.ea j)) ["error"] (fun n _ l => ∃ N', TreeL w D hT _ x N' l ∧ Inv D (keyOf _ D) N' ((tops.take n).flatMap (desc ch 6)) []) rfl (hl.at fun o e => FF.keep _ _ (Sg _ _ e)) hliL FF NN ⟨N0, TL, by simpa using IV⟩ (fun i m l hl => by obtain ⟨N', T', _⟩ := hl; exact T'.noit) (.inl ⟨_, Sg _ _ hl.choose_spec.1⟩) ?turn ?done
   (case turn => (
     rintro n v u news₁ h tk I io hv ⟨N', T', I'⟩ F₁ N₁ hN hcl
     obtain ⟨j, hj, rfl⟩ : ∃ j, tops[n]? = some j ∧ Value.ref (D.ea j) = v := by
       rw [List.getElem?_map] at hv
       cases q : tops[n]? with
       | none => rw [q] at hv; cases hv
       | some j => rw [q] at hv; exact ⟨j, rfl, Option.some.inj hv⟩
     have hjm : j ∈ tops := List.mem_of_getElem? hj
     have hj6 := htops j hjm
     obtain ⟨rr, hrr, hrrn, hrrp⟩ := T'.root
     have SR := fun {h : Heap} {L : Addr} (z : News g L h ((I, io) :: news₁)) => selfAt_of (m := fun _ => none) T' z (fun e he => .tail _ he) hrr
     rw [hrrn] at SR
     have hfl := take_flat_len (g := desc ch 6) hj
     have hft := take_flat (g := desc ch 6) hj
     have hdl : ∀ a ∈ (tops.take n).flatMap (desc ch 6), a < 6 := by
       intro a ha
       obtain ⟨b, hb, ha⟩ := List.mem_flatMap.mp ha
       exact desc_lt GR 6 b (htops b (List.mem_of_mem_take hb)) a ha
     k_with_none
     k_with "getMethod ref" => (
      (with_reducible show wpAny _ _ (getMethod (Value.ref _) (Str.ofString "add") _) _ _ _)
      refine method_inst (by assumption) Xg (SR (by assumption)).inst RC.g RC.a (by k_is) (by rfl) ?_)
     k_with "call ref" => ((with_reducible show wpAny _ _ (call (Value.ref 272) _) _ _ _); refine hold_on ?_)
     k_steps
     refine Hold.off ?_
     have Fb := (by assumption : Fr g L' _ (fun y => if y = _ then _ else _))
     have Nb := (by assumption : News g L' _ ((I, io) :: news₁))
     refine wpAny_call (codeAny_weaken (dp := dp + 1) (un := un + 3) rfl rfl (Nat.le_refl _) (Nat.le_refl _) (radd j hj6 (dp + 1) (un + 3) _ _ _ N' news₁ _ (by omega) (by omega) ⟨Sg.trans (Fr.sub Fb), fun e he => (Nb e (.tail _ he)).1, T', I'⟩ hdl (by omega) ?_))
     intro h' tk' N2 led2 A2 TL4 IV4 E4
     obtain ⟨Fc, Nc⟩ := After.step (tl := [(I, io)]) Fb Nb A2 (fun p hp hm => by
       rw [List.mem_singleton.mp hp] at hm
       obtain ⟨q, hq, e⟩ := List.mem_map.mp hm
       have e1 := (Nb _ (.head _)).1
       have e2 := (Nb q (.tail _ hq)).1
       rw [e] at e2
       have e3 := Option.some.inj (e1.symm.trans e2)
       exact hN q hq (by rw [← e3]; exact hcl))
     k_with_none
     k_steps
     all_goals (try dsimp only)
     exact TurnEnd.next' led2 Fc Nc (.head _) (fun p hp => .tail _ hp) ⟨(by intro z hz; simp at hz; simp [hz]), N2, TL4, by rw [hft]; exact IV4⟩))
   (case done => (
     rintro u news₁ h tk ⟨N', T', I'⟩ F₁ N₁
     k_with_none
     k_steps
     all_goals (try dsimp only)
     exact hR _ _ N' news₁ (After.of_frame (tl := []) G (by assumption) (by assumption)) T' (by simpa using I'))))
end Ez
end
section
example : True := by
  w_top off
  trivial
open PySem PySem.W PySem.Calls PyProof.Rows
namespace Ez
local macro_rules | `(tactic| ktr_rel) => `(tactic| first
  | assumption
  | exact KTup.app (by ktr_rel)
  | exact KTup.cons (by ktr_rel)
  | exact AtomsAre.take _ (by ktr_rel)
  | exact ok_take _ (by ktr_rel)
  | exact Or.inl (by assumption))
local macro_rules | `(tactic| k_inst) => `(tactic| exact InstAt.up (by assumption) (fun b o e => Fr.keep (by k_asm) b o e))
local macro_rules | `(tactic| k_inst) => `(tactic| exact InstAt.bare (by assumption))
local macro_rules | `(tactic| walk_at "getAttr ref") => `(tactic| (k_here; k_dflt (first
  | (refine' get_slot' ?k1 ?k2 ?k3 ?k4 ?k5 ?k6 ?k7 ?k8 ?k9 ?k10 ?k11 ?_; (case k1 => k_asm); (case k2 => k_asm); (case k3 => k_inst); (case k4 => k_is); (case k5 => k_is); (case k6 => k_is); (case k7 => k_is); (case k8 => k_is); (case k9 => k_is); (case k10 => k_slotget); (case k11 => k_handed); k_whole))))
local macro_rules | `(tactic| walk_at "call builtin:len") => `(tactic| (k_here; (with_reducible show wpAny _ _ (call (Value.builtin "len") [Value.ref _]) _ _ _); refine len_tuple (by is_tup) (by (simp only [List.size_toArray]; omega)) ?_))
example (w : World) (h : Heap) (X : (hd.heap_39 w.params).In h) (e : PySem.Challenge.rw_ez0022_01.prog = Pg) : True := by
  revert X e
  k_fill
  intros
  trivial
local macro_rules | `(tactic| walk_at "subscriptTail") => `(tactic| (k_here; (with_reducible show wpAny _ _ (subscriptTail _ (PySem.Expr.Slice none (some _) none _) (Value.ref _) (Value.ref _)) _ _ _); (with_unfolding_all refine slice_int (by k_asm) (by k_asm) (by ktr_rel) (by omega) (by omega) ?_); intro a' h' tl' F' N' K'; (try k_sweep)))
local macro_rules | `(tactic| walk_at "call builtin:min") => `(tactic| (k_here; (with_reducible show wpAny _ _ (call (Value.builtin "min") [Value.int _ _, Value.int _ _]) _ _ _); refine min_two' rfl (by k_asm) (by k_asm) ?_; intro h' tk' tv' F' N'; (try k_sweep)))
local macro_rules | `(tactic| walk_at "compareOp Eq ref ref") => `(tactic| (k_here; (with_reducible show wpAny _ _ (compareOp CmpOp.Eq (Value.ref _) (Value.ref _)) _ _ _); refine' kpath_eq ?k1 ?k2 ?k3 ?k4 ?k5 ?k6 ?k7 ?k8 ?k9 ?_; (case k1 => k_asm); (case k2 => k_asm); (case k3 => ktr_rel); (case k4 => ktr_rel); (case k5 => ktr_rel); (case k6 => ktr_rel); (case k7 => ktr_rel); (case k8 => ktr_rel); (case k9 => ktr_units); k_whole))
local macro_rules | `(tactic| walk_at "compareOp NotEq ref ref") => `(tactic| (k_here; (with_reducible show wpAny _ _ (compareOp CmpOp.NotEq (Value.ref _) (Value.ref _)) _ _ _); refine' kpath_ne ?k1 ?k2 ?k3 ?k4 ?k5 ?k6 ?k7 ?k8 ?k9 ?_; (case k1 => k_asm); (case k2 => k_asm); (case k3 => ktr_rel); (case k4 => ktr_rel); (case k5 => ktr_rel); (case k6 => ktr_rel); (case k7 => ktr_rel); (case k8 => ktr_rel); (case k9 => ktr_units); k_whole))
local macro_rules | `(tactic| walk_at "getAttr ref") => `(tactic| (k_here; k_dflt (refine' get_own ?k1 ?k2 ?k3 ?k4 ?k5 ?k6 ?k7 ?k8 ?k9 ?_; (case k1 => k_asm); (case k2 => k_asm); (case k3 => k_inst); (case k4 => k_is); (case k5 => k_is); (case k6 => k_is); (case k7 => k_is); (case k8 => assumption); (case k9 => k_handed); k_whole)))
local macro_rules | `(tactic| walk_at "getAttrBy ref") => `(tactic| (k_here; k_dflt (refine' kbm_ownBy ?k1 ?k2 ?k3 ?k4 ?k5 ?k6 ?k7 ?k8 ?k9 ?_; (case k1 => k_asm); (case k2 => k_asm); (case k3 => k_inst); (case k4 => k_is); (case k5 => k_is); (case k6 => k_is); (case k7 => k_is); (case k8 => assumption); (case k9 => k_handed); k_whole)))
local macro_rules | `(tactic| walk_at $s:str) => `(tactic| k_extra $s)
theorem selfAt_live {w : World} {D : Errs} {hT h : Heap} {C rt : Addr} {N : List Atom → Option NRec} {led : Led} (T : TreeL w D hT C rt N led) (l : Live h led) {q : List Atom} {r : NRec} (hq : N q = Option.some r) : SelfAt h r.nd (cOf C q) r.xd r.dd r.el r.pn r.pt rt := by
  have m1 := T.ob q r hq
  have I : InstAt h r.nd (selfO (cOf C q) r.xd r.dd r.el r.pn r.pt rt) (cOf C q) (Option.some (dictOf [] 0)) := ⟨l _ m1.1, rfl, rfl, l _ m1.2⟩
  rcases cOf_ne T.isC q with e | e | e
  · exact .node e I
  · exact .doc e I
  · exact .sch e I
theorem TreeL.dictAt {w : World} {D : Errs} {hT h : Heap} {C rt : Addr} {N : List Atom → Option NRec} {led : Led} (T : TreeL w D hT C rt N led) (l : Live h led) {q : List Atom} {r : NRec} (hq : N q = Option.some r) : h.DictOf (atomKind Pg w) r.dd r.kvs := by
  have m1 := T.dd q r hq
  exact Heap.dictOf_iff.mpr ⟨_, l _ m1.1, m1.2⟩
theorem TreeL.none_up {w : World} {D : Errs} {hT : Heap} {C rt : Addr} {N : List Atom → Option NRec} {led : Led} (T : TreeL w D hT C rt N led) {p : List Atom} (hp : N p = none) : ∀ t : List Atom, N (p ++ t) = none := by
  intro t
  induction t generalizing p with
  | nil => rw [List.append_nil]; exact hp
  | cons a t ih =>
    have := ih (T.pre p a hp)
    rwa [List.append_assoc] at this
theorem names_at {u m₀ : Str → Option Value} {v c : Value} {S : List Str} {x y : Str} (hy : S.contains y = true) (hu : u y = some c) :
    (fun z => if z = x then some v else if S.contains z then u z else m₀ z) = (fun z => if z = x then some v else if z = y then some c else if S.contains z then u z else m₀ z) := by
  funext z
  by_cases h1 : z = x
  · rw [if_pos h1, if_pos h1]
  · rw [if_neg h1, if_neg h1]
    by_cases h2 : z = y
    · subst h2; rw [if_pos hy, if_pos rfl, hu]
    · rw [if_neg h2]
theorem names_at' {u m₀ : Str → Option Value} {c : Value} {S : List Str} {y : Str} (hy : S.contains y = true) (hu : u y = some c) :
    (fun z => if S.contains z then u z else m₀ z) = (fun z => if z = y then some c else if S.contains z then u z else m₀ z) := by
  funext z
  by_cases h2 : z = y
  · subst h2; rw [if_pos hy, if_pos rfl, hu]
  · rw [if_neg h2]
set_option maxRecDepth 100000 in
set_option maxHeartbeats 8000000 in
theorem c_fnode {w : World} {mean : ExcName → Option Value} {mg mb : Str → Option Value} {hT : Heap} {D : Errs} {C rt q : Addr} {N : List Atom → Option NRec} {led : Led} {vs : List Value} {p : List Atom} {dp un : Nat} {outer : List Env} {s : Shared} {R : Result → Shared → Prop}
   (X : (hd.heap_39 w.params).In hT) (T : Top hd.view_39 L0 mean mg mb hT) (SB : Sub hT s.heap) (LV : Live s.heap led) (TL : TreeL w D hT C rt N led) (hq : PathAt s.heap q vs p) (hpl : p.length ≤ 8) (hA : dp < 600) (hU : un < 6000)
   (hR : ∀ h' tk, Sub s.heap h' → R (.ok (.ret (((N p).map (Value.ref ·.nd)).getD .none))) { s with heap := h', toks := tk }) :
   codeAny (model Pg w) (AT dp un outer) (.call (.ref 286) ⟨[.ref rt, .ref q], []⟩) R s := by
  obtain ⟨r0, hr0, hr0n, hr0p⟩ := TL.root
  (k_dflt (refine' enterH (binds := [(Str.ofString "self", .ref rt), (Str.ofString "path", .ref q)]) X T SB [] ?hl ?ho ?hcd ?hroom ?hb ?hloc ?_ ?c1 ?c2 ?c3 ?c4; (case hl => intro p hp; cases hp); (case ho => k_is); (case hcd => k_is); (case hroom => simp only [recursionLimit]; omega); (case hb => exact BindsTo.of_eq rfl); (case hloc => exact locs (by rfl)); (case c1 => rfl); (case c2 => rfl); (case c3 => rfl); (case c4 => decide))
   intro g L' h₁ tk₀ Sg G F Nw Xg Tg
   have up : Sub s.heap g := fun b o e => G.up b o e (by simp)
   have hqg := hq.up up
   have tq := hqg.tup
   have hvl := hq.ats.len
   have LVg : Live g led := fun e he => up _ _ (LV e he)
   (try dsimp only); (try k_fold)
   k_with_none
   k_with "pyIter ref" => (refine hold_on ?_)
   k_steps
   refine Hold.off ?_
   have Na := (by assumption : News g L' _ [])
   have Fa := (by assumption : Fr g L' _ _)
   have hqL : L' ≠ q := fun z => by
     obtain ⟨o, ho, _⟩ := tq
     exact absurd (Nat.lt_of_lt_of_le (Heap.lt_size ho) Fa.above) (by rw [z]; exact Nat.lt_irrefl _)
   refine loop_tupS (vs := vs) ["key", "context"] (fun n m l => l = [] ∧ ∃ r, N (p.take n) = some r ∧ m (Str.ofString "context") = some (.ref r.nd)) rfl (IsTup.keeps tq (Fr.sub Fa)) hqL Fa Na ⟨rfl, r0, by simpa using hr0, by rw [hr0n]; rfl⟩ (fun i m l hl => by rw [hl.1]; exact NoIt.nil) (.inl ⟨_, tq.choose_spec.1⟩) ?turn ?done
   (case turn => (
     rintro n v u news₁ h tk I io hv ⟨rfl, r, hr, hu⟩ F₁ N₁ hN
     have hu' : u (Str.ofString "context") = some (.ref r.nd) := hu
     rw [names_at (by decide) hu'] at F₁
     have hnl : n < p.length := by
       have := (List.getElem?_eq_some_iff.mp hv).1
       omega
     obtain ⟨k, hk⟩ : ∃ k, p[n]? = some k := ⟨_, List.getElem?_eq_getElem hnl⟩
     obtain ⟨kv, hkv, hkis⟩ := hqg.ats.get n hk
     rw [hv] at hkv
     obtain rfl := Option.some.inj hkv
     have hpk : p.take (n + 1) = p.take n ++ [k] := by rw [List.take_add_one, hk]; rfl
     have CL := cls_of w (cOf_ne TL.isC (p.take n))
     have ev := TL.sons _ r hr k
     have lo := TL.lo _ r hr
     k_with_none
     k_with "subscriptTail" => (
      (with_reducible show wpAny _ _ (subscriptTail _ _ (Value.ref _) _) _ _ _)
      refine sub_K (by assumption) Xg ((selfAt_live TL LVg hr).up (Fr.sub (by assumption))).inst CL.b2 (by k_is) (by k_is) ?_
      refine wpAny_call (codeAny_weaken (dp := dp + 1) (un := un + 4) rfl rfl (Nat.le_refl _) (Nat.le_refl _) (c_getitem Xg Tg (Fr.sub (by assumption)) ((selfAt_live TL LVg hr).up (Fr.sub (by assumption))) (dictUp (TL.dictAt LVg hr) (Fr.sub (by assumption))) lo hkis (by omega) (by omega) ?_))
      refine hold_on ?_)
     k_steps
     refine Hold.off ?_
     intro h' tk' hs'
     have F' := frSub (by assumption) hs'
     have N' := newsSub (by assumption) hs'
     rw [ev]
     cases hc : N (p.take n ++ [k]) with
     | none =>
       have hpn : N p = none := by
         have := TL.none_up hc (p.drop (n + 1))
         rwa [← hpk, List.take_append_drop] at this
       rw [hpn] at hR
       dsimp only [Option.map, Option.getD]
       k_with_none
       k_steps
       all_goals (try dsimp only)
       refine TurnEnd.brk' ?_
       k_steps
       all_goals (try dsimp only)
       exact hR _ _ (G.sub (by assumption))
     | some rc =>
       dsimp only [Option.map, Option.getD]
       k_with_none
       k_steps
       all_goals (try dsimp only)
       exact TurnEnd.next' [] (by assumption) (by assumption) (by k_mem) (fun _ h => nomatch h) ⟨(by intro z hz; simp at hz; simp [hz]), rfl, rc, by rw [hpk]; exact hc, rfl⟩))
   (case done => (
     rintro u news₁ h tk ⟨rfl, r, hr, hu⟩ F₁ N₁
     have hu' : u (Str.ofString "context") = some (.ref r.nd) := hu
     rw [names_at' (by decide) hu'] at F₁
     rw [List.take_of_length_le (by omega)] at hr
     rw [hr] at hR
     k_with_none
     k_steps
     all_goals (try dsimp only)
     exact hR _ _ (G.sub (by assumption)))))
structure FCls (w : World) (C : Addr) : Prop where
  g : plainGet (hd.heap_39 w.params) C "fetch_node_from" = true
  a : findIn (hd.heap_39 w.params) (.ref C) "fetch_node_from" = some (some (.ref 286))
  ge : plainGet (hd.heap_39 w.params) C "fetch_errors_from" = true
  ae : findIn (hd.heap_39 w.params) (.ref C) "fetch_errors_from" = some (some (.ref 279))
theorem fcls_of (w : World) {C : Addr} (h : C = 303 ∨ C = 315) : FCls w C := by
  rcases h with rfl | rfl <;> exact ⟨by k_is, by k_is, by k_is, by k_is⟩
set_option maxRecDepth 100000 in
set_option maxHeartbeats 8000000 in
theorem c_ferr {w : World} {mean : ExcName → Option Value} {mg mb : Str → Option Value} {hT : Heap} {D : Errs} {C rt q : Addr} {N : List Atom → Option NRec} {led : Led} {vs : List Value} {p : List Atom} {dp un : Nat} {outer : List Env} {s : Shared} {R : Result → Shared → Prop}
   (X : (hd.heap_39 w.params).In hT) (T : Top hd.view_39 L0 mean mg mb hT) (SB : Sub hT s.heap) (LV : Live s.heap led) (TL : TreeL w D hT C rt N led) (hq : PathAt s.heap q vs p) (hpl : p.length ≤ 8) (hA : dp < 590) (hU : un < 5900)
   (hR : ∀ h' tk el eld ep, Sub s.heap h' → h'.get? el = some (elO (D.refs (((N p).map (·.errs)).getD [])) ep eld) → h'.get? eld = some (dictOf [] 0) → ((∃ r, N p = some r ∧ (el, elO (D.refs r.errs) ep eld) ∈ led ∧ (eld, dictOf [] 0) ∈ led) ∨ (N p = none ∧ s.heap.get? el = none ∧ s.heap.get? eld = none ∧ el ≠ eld)) → R (.ok (.ret (.ref el))) { s with heap := h', toks := tk }) :
   codeAny (model Pg w) (AT dp un outer) (.call (.ref 279) ⟨[.ref rt, .ref q], []⟩) R s := by
  obtain ⟨r0, hr0, hr0n, hr0p⟩ := TL.root
  have FC := fcls_of w TL.isC
  (k_dflt (refine' enterH (binds := [(Str.ofString "self", .ref rt), (Str.ofString "path", .ref q)]) X T SB [] ?hl ?ho ?hcd ?hroom ?hb ?hloc ?_ ?c1 ?c2 ?c3 ?c4; (case hl => intro p hp; cases hp); (case ho => k_is); (case hcd => k_is); (case hroom => simp only [recursionLimit]; omega); (case hb => exact BindsTo.of_eq rfl); (case hloc => exact locs (by rfl)); (case c1 => rfl); (case c2 => rfl); (case c3 => rfl); (case c4 => decide))
   intro g L' h₁ tk₀ Sg G F Nw Xg Tg
   have up : Sub s.heap g := fun b o e => G.up b o e (by simp)
   have hqg := hq.up up
   have LVg : Live g led := fun e he => up _ _ (LV e he)
   have SR := (selfAt_live TL LVg hr0).inst
   rw [hr0n] at SR
   (try dsimp only); (try k_fold)
   k_with_none
   k_with "getMethod ref" => (
    (with_reducible show wpAny _ _ (getMethod (Value.ref _) (Str.ofString "fetch_node_from") _) _ _ _)
    refine method_inst (by assumption) Xg (InstAt.up SR (Fr.sub (by assumption))) FC.g FC.a (by k_is) (by rfl) ?_)
   k_with "call ref" => ((with_reducible show wpAny _ _ (call (Value.ref 286) _) _ _ _); refine hold_on ?_)
   k_steps
   refine Hold.off ?_
   have Fa := (by assumption : Fr g L' _ _)
   refine wpAny_call (codeAny_weaken (dp := dp + 1) (un := un + 3) rfl rfl (Nat.le_refl _) (Nat.le_refl _) (c_fnode X T (Sg.trans (Fr.sub Fa)) (fun e he => Fr.sub Fa _ _ (LVg e he)) TL (hqg.up (Fr.sub Fa)) hpl (by omega) (by omega) ?_))
   intro h' tk' hs'
   have F' := frSub Fa hs'
   have N' := newsSub (by assumption : News g L' _ []) hs'
   cases hN : N p with
   | none =>
     rw [hN] at hR
     dsimp only [Option.map, Option.getD] at hR ⊢
     k_with_none
     k_with "call ref" => (
      (with_reducible show wpAny _ _ (call (Value.ref 159) _) _ _ _)
      refine el_call' (by assumption) (by assumption) Xg ?_
      intro el eld ep h' F' N' l1 l2
      k_lt l1
      k_lt2 l2)
     k_steps
     all_goals (try dsimp only)
     have NN := (by assumption : News g L' _ [(el, elO [] ep eld), (eld, dictOf [] 0)])
     have nog : ∀ {a : Addr}, g.get? a = none → s.heap.get? a = none := fun {a} ha => by
       cases q : s.heap.get? a with
       | none => rfl
       | some o => rw [up _ _ q] at ha; cases ha
     exact hR _ _ _ _ _ (G.sub (by assumption)) (NN _ (.head _)).1 (NN _ (.tail _ (.head _))).1 (.inr ⟨rfl, nog (NN _ (.head _)).2.2, nog (NN _ (.tail _ (.head _))).2.2, by k_ne⟩)
   | some r =>
     rw [hN] at hR
     dsimp only [Option.map, Option.getD] at hR ⊢
     have CL := cls_of w (cOf_ne TL.isC p)
     have SN := (selfAt_live TL LVg hN).inst
     k_with_none
     k_with "getAttr ref" => (
      (with_reducible show wpAny _ _ (getAttr (Value.ref _) (Str.ofString "errors") _) _ _ _)
      refine get_slot' (by assumption) Xg (InstAt.up SN (Fr.sub (by assumption))) CL.g5 CL.ic CL.a5 (by k_is) (by k_is) CL.s5 rfl (by rfl) ?_)
     k_steps
     all_goals (try dsimp only)
     exact hR _ _ _ _ _ (G.sub (by assumption)) (Fr.sub (by assumption) _ _ (LVg _ (TL.el _ r hN).1)) (Fr.sub (by assumption) _ _ (LVg _ (TL.el _ r hN).2)) (.inl ⟨r, rfl, TL.el _ r hN⟩))
end Ez
end
section
example : True := by
  w_top off
  trivial
open PySem PySem.W PySem.Calls PyProof.Rows
namespace Ez
local macro_rules | `(tactic| ktr_rel) => `(tactic| first
  | assumption
  | exact KTup.app (by ktr_rel)
  | exact KTup.cons (by ktr_rel)
  | exact AtomsAre.take _ (by ktr_rel)
  | exact ok_take _ (by ktr_rel)
  | exact Or.inl (by assumption))
local macro_rules | `(tactic| k_inst) => `(tactic| exact InstAt.up (by assumption) (fun b o e => Fr.keep (by k_asm) b o e))
local macro_rules | `(tactic| k_inst) => `(tactic| exact InstAt.bare (by assumption))
local macro_rules | `(tactic| walk_at "getAttr ref") => `(tactic| (k_here; k_dflt (first
  | (refine' get_slot' ?k1 ?k2 ?k3 ?k4 ?k5 ?k6 ?k7 ?k8 ?k9 ?k10 ?k11 ?_; (case k1 => k_asm); (case k2 => k_asm); (case k3 => k_inst); (case k4 => k_is); (case k5 => k_is); (case k6 => k_is); (case k7 => k_is); (case k8 => k_is); (case k9 => k_is); (case k10 => k_slotget); (case k11 => k_handed); k_whole))))
local macro_rules | `(tactic| walk_at "call builtin:len") => `(tactic| (k_here; (with_reducible show wpAny _ _ (call (Value.builtin "len") [Value.ref _]) _ _ _); refine len_tuple (by is_tup) (by (simp only [List.size_toArray]; omega)) ?_))
example (w : World) (h : Heap) (X : (hd.heap_39 w.params).In h) (e : PySem.Challenge.rw_ez0022_01.prog = Pg) : True := by
  revert X e
  k_fill
  intros
  trivial
local macro_rules | `(tactic| walk_at "subscriptTail") => `(tactic| (k_here; (with_reducible show wpAny _ _ (subscriptTail _ (PySem.Expr.Slice none (some _) none _) (Value.ref _) (Value.ref _)) _ _ _); (with_unfolding_all refine slice_int (by k_asm) (by k_asm) (by ktr_rel) (by omega) (by omega) ?_); intro a' h' tl' F' N' K'; (try k_sweep)))
local macro_rules | `(tactic| walk_at "call builtin:min") => `(tactic| (k_here; (with_reducible show wpAny _ _ (call (Value.builtin "min") [Value.int _ _, Value.int _ _]) _ _ _); refine min_two' rfl (by k_asm) (by k_asm) ?_; intro h' tk' tv' F' N'; (try k_sweep)))
local macro_rules | `(tactic| walk_at "compareOp Eq ref ref") => `(tactic| (k_here; (with_reducible show wpAny _ _ (compareOp CmpOp.Eq (Value.ref _) (Value.ref _)) _ _ _); refine' kpath_eq ?k1 ?k2 ?k3 ?k4 ?k5 ?k6 ?k7 ?k8 ?k9 ?_; (case k1 => k_asm); (case k2 => k_asm); (case k3 => ktr_rel); (case k4 => ktr_rel); (case k5 => ktr_rel); (case k6 => ktr_rel); (case k7 => ktr_rel); (case k8 => ktr_rel); (case k9 => ktr_units); k_whole))
local macro_rules | `(tactic| walk_at "compareOp NotEq ref ref") => `(tactic| (k_here; (with_reducible show wpAny _ _ (compareOp CmpOp.NotEq (Value.ref _) (Value.ref _)) _ _ _); refine' kpath_ne ?k1 ?k2 ?k3 ?k4 ?k5 ?k6 ?k7 ?k8 ?k9 ?_; (case k1 => k_asm); (case k2 => k_asm); (case k3 => ktr_rel); (case k4 => ktr_rel); (case k5 => ktr_rel); (case k6 => ktr_rel); (case k7 => ktr_rel); (case k8 => ktr_rel); (case k9 => ktr_units); k_whole))
local macro_rules | `(tactic| walk_at "getAttr ref") => `(tactic| (k_here; k_dflt (refine' get_own ?k1 ?k2 ?k3 ?k4 ?k5 ?k6 ?k7 ?k8 ?k9 ?_; (case k1 => k_asm); (case k2 => k_asm); (case k3 => k_inst); (case k4 => k_is); (case k5 => k_is); (case k6 => k_is); (case k7 => k_is); (case k8 => assumption); (case k9 => k_handed); k_whole)))
local macro_rules | `(tactic| walk_at "getAttrBy ref") => `(tactic| (k_here; k_dflt (refine' kbm_ownBy ?k1 ?k2 ?k3 ?k4 ?k5 ?k6 ?k7 ?k8 ?k9 ?_; (case k1 => k_asm); (case k2 => k_asm); (case k3 => k_inst); (case k4 => k_is); (case k5 => k_is); (case k6 => k_is); (case k7 => k_is); (case k8 => assumption); (case k9 => k_handed); k_whole)))
local macro_rules | `(tactic| walk_at $s:str) => `(tactic| k_extra $s)
theorem nadd_all {w : World} {mean : ExcName → Option Value} {mg mb : Str → Option Value} {hT : Heap} {D : Errs} {ch : Nat → List Nat} {C rt : Addr} {f i : Nat}
   (X : (hd.heap_39 w.params).In hT) (T : Top hd.view_39 L0 mean mg mb hT) (V : ∀ i, i < 6 → ErrV D hT i) (O : D.Ok) (GR : Grp D hT ch) (hi : i < 6)
   (rec1 : ∀ j ∈ ch i, RAdd w hT D ch C rt f j) : ∀ n d, (keyOf C D i).length - d = n → d < (keyOf C D i).length → NAdd w hT D ch C rt (f + 1) i d := by
  intro n
  induction n with
  | zero => intro d h h2; omega
  | succ n ih => intro d h h2; exact c_nadd X T V O GR hi h2 rec1 fun h3 => ih (d + 1) (by omega) h3
theorem radd_all {w : World} {mean : ExcName → Option Value} {mg mb : Str → Option Value} {hT : Heap} {D : Errs} {ch : Nat → List Nat} {C rt : Addr}
   (X : (hd.heap_39 w.params).In hT) (T : Top hd.view_39 L0 mean mg mb hT) (V : ∀ i, i < 6 → ErrV D hT i) (O : D.Ok) (GR : Grp D hT ch) : ∀ f j, j < 6 → 6 - j ≤ f → RAdd w hT D ch C rt f j := by
  intro f
  induction f with
  | zero => intro j h1 h2; omega
  | succ f ih =>
    intro j h1 h2
    exact c_radd X T V O GR h1 fun h3 => nadd_all X T V O GR h1 (fun a ha => ih a (GR.lt j a ha).2 (by have := (GR.lt j a ha).1; omega)) _ 0 rfl h3
end Ez
end
section
example : True := by
  w_top off
  trivial
open PySem PySem.W PySem.Calls PyProof.Rows
namespace Ez
/-- no iterator, or a cell -/
def NoItC (news : List (Addr × Obj)) : Prop := ∀ p ∈ news, p.2.cls ∉ iterCls ∨ ∃ v, p.2.data = .cell v
def ItO (o : Obj) : Prop := o.cls ∈ iterCls ∧ ∀ v, o.data ≠ .cell v
theorem NoItC.ne {g h : Heap} {L I : Addr} {io : Obj} {l : List (Addr × Obj)} (n : NoItC l) (hi : ItO io) (N : News g L h ((I, io) :: l)) : ∀ p ∈ l, p.1 ≠ I := by
  intro p hp e
  have e1 := (N p (.tail _ hp)).1
  have e2 := (N _ (.head _)).1
  rw [e] at e1
  have e3 := Option.some.inj (e1.symm.trans e2)
  rcases n p hp with q | ⟨v, q⟩
  · rw [e3] at q; exact q hi.1
  · rw [e3] at q; exact hi.2 v q
section
variable {prog : Program} {w : World} {A : Around} {E : Value → Shared → Prop} {s : Shared} {env : Env} {h₀ : Heap} {target : PySem.Expr} {body : List Stmt} {Q : Flow → Shared → Prop}
theorem turnsCoreI {I : Addr} {fp : List Addr} {n : Nat} {P : Nat → Value → Prop} {St : Nat → Heap → Prop} {m₀ : Str → Option Value} {news : List (Addr × Obj)} {io : Obj} (J : Nat → (Str → Option Value) → List (Addr × Obj) → Prop)
    (hI : I = s.heap.objs.size) (hf : io.isFreed = false) (hc : ∀ j h, St j h → ∃ o, h.get? I = some o ∧ ItO o) (W : Walks prog w A I (I :: fp) [I] n P St)
    (hgo : ∀ i v (s : Shared) (Q : Unit → Shared → Prop) (E : Value → Shared → Prop), St i s.heap → Q () s → wpAny (model prog w) A (letOwnedTupleGo target (.ref I) v) Q E s)
    (hfp : env.locals ∉ fp) (hst : St 0 (s.heap.push io)) (F : Fr h₀ env.locals s.heap m₀) (N : News h₀ env.locals s.heap news)
    (hj : J 0 m₀ news) (hJ : ∀ i m l, J i m l → NoItC l) (hfk : ∀ b ∈ fp, (∃ o, h₀.get? b = some o) ∨ ∃ o, ∀ i m l, J i m l → (b, o) ∈ l)
    (turn : ∀ i v m₁ news₁ h tk io, i < n → P i v → J i m₁ news₁ → Fr h₀ env.locals h m₁ → News h₀ env.locals h ((I, io) :: news₁) → NoItC news₁ → ItO io →
      wpAny (model prog w) A (assign target env v) (fun _ s₃ => wpAny (model prog w) A (execs body env) (TurnEnd h₀ env.locals (I, io) (J (i + 1)) { s with heap := h, toks := tk } Q) E s₃) E { s with heap := h, toks := tk })
    (done : ∀ m₁ news₁ h tk, J n m₁ news₁ → Fr h₀ env.locals h m₁ → News h₀ env.locals h news₁ → Q .next { s with heap := h, toks := tk }) :
    TurnsAt prog w A h₀ env target body Q E (.ref I) { s with heap := s.heap.push io } := by
  subst hI
  refine ⟨s.heap.objs.size, s.heap.objs.size :: fp, [s.heap.objs.size], n, _, _, St, m₀, news, J, rfl, KTurns.ofWalks W hgo, ?_, ?_, ?_, hst, F.push _, fun p hp => ⟨Heap.get?_push_of_some _ (N p hp).1, (N p hp).2⟩, hj, ?_, ?_⟩
  · intro hm
    rcases List.mem_cons.mp hm with e | hm
    · exact absurd F.ns.lt (e ▸ Nat.lt_irrefl _)
    · exact hfp hm
  · intro b hb
    rw [List.mem_singleton.mp hb]
    exact next_is_new F
  · intro p hp hI
    exact absurd (Heap.lt_size (N p hp).1) ((List.mem_singleton.mp hI) ▸ Nat.lt_irrefl _)
  · rintro i v m₁ news₁ hh' tk' own hin hP hJi hoff hofp hoat hown hst' F₁ N₁
    obtain ⟨oi, ho, hcl⟩ := hc _ _ hst'
    have hio : (s.heap.objs.size, oi) ∈ own := hown _ (.head _) (next_is_new F) _ ho
    have N₂ : News h₀ env.locals hh' ((s.heap.objs.size, oi) :: news₁) := fun p hp => (List.mem_cons.mp hp).elim (fun e => e ▸ N₁ _ (List.mem_append_left _ hio)) fun hp => N₁ p (List.mem_append_right _ hp)
    refine wpAny_mono (turn i v m₁ news₁ hh' tk' oi hin hP hJi F₁ N₂ (hJ _ _ _ hJi) hcl) (fun _ s₃ p => wpAny_mono p (fun f s₂ p => ?_) fun _ _ e => e) fun _ _ e => e
    have fin : (∃ h' tk m' news', s₂ = { s with heap := h', toks := tk } ∧ Fr h₀ env.locals h' m' ∧ News h₀ env.locals h' ((s.heap.objs.size, oi) :: news') ∧ J (i + 1) m' news') →
        LoopStepU h₀ env.locals [s.heap.objs.size] own (J (i + 1)) { s with heap := hh', toks := tk' } .next s₂ := by
      rintro ⟨h', tk, m', news', rfl, F', N', hJ'⟩
      have Nown : News h₀ env.locals h' (own ++ news') := by
        intro p hp
        rcases List.mem_append.mp hp with hp | hp
        · have a1 := hoat p hp
          have a2 := N₁ p (List.mem_append_left _ hp)
          rcases List.mem_cons.mp (hofp p hp) with e | e
          · have e2 : p.2 = oi := Option.some.inj (a1.symm.trans (by rw [e]; exact ho))
            have e3 : p = (s.heap.objs.size, oi) := Prod.ext e e2
            rw [e3]
            exact N' _ (.head _)
          · rcases hfk _ e with ⟨o, q⟩ | ⟨o, q⟩
            · rw [a2.2.2] at q; cases q
            · have b1 := (N₂ _ (.tail _ (q _ _ _ hJi))).1
              have e2 : p.2 = o := Option.some.inj (a1.symm.trans b1)
              have e3 : p = (p.1, o) := Prod.ext rfl e2
              rw [e3]
              exact N' _ (.tail _ (q _ _ _ hJ'))
        · exact N' p (.tail _ hp)
      refine LoopStepU.intro (s₁ := { s with heap := hh', toks := tk' }) F' Nown (fun p hp hI => ?_) hJ'
      exact NoItC.ne (hJ _ _ _ hJ') hcl N' p hp (List.mem_singleton.mp hI)
    cases f with
    | ret v => exact .ret p
    | brk => exact .brk p
    | next => exact .next (fin p)
    | cont => exact .cont (fin p)
  · rintro h' tk m' news' F' N' _ hJn
    exact done m' news' h' tk hJn F' N'
theorem turns_list {r : Addr} {vs : List Value} {m₀ : Str → Option Value} {news : List (Addr × Obj)} (J : Nat → (Str → Option Value) → List (Addr × Obj) → Prop)
    (hh : A.handled = none) (hr : s.heap.IsList r vs.toArray) (hrL : env.locals ≠ r) (F : Fr h₀ env.locals s.heap m₀) (N : News h₀ env.locals s.heap news)
    (hj : J 0 m₀ news) (hJ : ∀ i m l, J i m l → NoItC l) (hfk : (∃ o, h₀.get? r = some o) ∨ ∃ o, ∀ i m l, J i m l → (r, o) ∈ l)
    (turn : ∀ i v m₁ news₁ h tk I io, vs[i]? = some v → J i m₁ news₁ → Fr h₀ env.locals h m₁ → News h₀ env.locals h ((I, io) :: news₁) → NoItC news₁ → ItO io →
      wpAny (model prog w) A (assign target env v) (fun _ s₃ => wpAny (model prog w) A (execs body env) (TurnEnd h₀ env.locals (I, io) (J (i + 1)) { s with heap := h, toks := tk } Q) E s₃) E { s with heap := h, toks := tk })
    (done : ∀ m₁ news₁ h tk, J vs.length m₁ news₁ → Fr h₀ env.locals h m₁ → News h₀ env.locals h news₁ → Q .next { s with heap := h, toks := tk }) :
    wpAny (model prog w) A (pyIter (.ref r)) (fun it s₂ => TurnsAt prog w A h₀ env target body Q E it s₂) E s := by
  refine wpAny_pyIter_list hr ?_
  have hne : r ≠ s.heap.objs.size := by
    obtain ⟨o, ho, _⟩ := hr
    exact Nat.ne_of_lt (Heap.lt_size ho)
  have W := Walks.list (prog := prog) (w := w) hh s.heap.objs.size r hne vs.toArray
  have hsz : vs.toArray.size = vs.length := by simp
  rw [hsz] at W
  refine turnsCoreI (fp := [r]) J rfl rfl (fun j h st => ?_) W (fun i v s Q E st q => letGo_listiter st.1 q) (fun h => hrL (List.mem_singleton.mp h)) ?_ F N hj hJ (fun b hb => by rw [List.mem_singleton.mp hb]; exact hfk) ?_ done
  · obtain ⟨⟨o, ho, hc, hd⟩, _⟩ := st
    exact ⟨o, ho, by rw [hc]; decide, fun v z => by rw [hd] at z; cases z⟩
  · exact ⟨⟨_, Heap.get?_push_size _ rfl, rfl, rfl⟩, hr.at fun _ e => Heap.get?_push_of_some _ e⟩
  · rintro i v m₁ news₁ h tk io hi hv hJi F₁ N₁ hN hcl
    exact turn i v m₁ news₁ h tk _ io (by simpa using hv) hJi F₁ N₁ hN hcl
end

section
variable {w : World} {A : Around} {R : Result → Shared → Prop} {s : Shared} {name qual : Str} {params : Arguments} {body : List Stmt} {scope : Scope} {dV kV doc pm cdv ct oc : Value} {an od : Option Addr}
  {osl : Array (Option Value)} {f : Addr} {args : Args} {binds : List (Str × Value)} {hT : Heap} {mean : ExcName → Option Value} {mg mb : Str → Option Value}
theorem enterC (X : (hd.heap_39 w.params).In hT) (T : Top hd.view_39 L0 mean mg mb hT) (S : Sub hT s.heap) (led : List (Addr × Obj))
    (hl : ∀ p ∈ led, s.heap.get? p.1 = some p.2 ∧ hT.get? p.1 = none)
    (ho : (hd.heap_39 w.params).lookup f = some ⟨oc, od, .func (fnX name qual params body scope [] dV kV doc pm an cdv ct), osl⟩) (hcd : codeIn (hd.heap_39 w.params) cdv qual = true)
    (hroom : A.depth < recursionLimit) (hbind : BindsTo s (fnX name qual params body scope [] dV kV doc pm an cdv ct) args binds)
    (hkind : (binds.all fun y => scope.names.lookup y.1 == some .local || scope.names.lookup y.1 == some .cell) = true)
    (hnd : ((cellsFrom 0 scope.names []).map (·.1)).Nodup)
    (h : ∀ g L' h₁ tk cells, Sub hT g → Gnd s.heap led g → Fr g L' h₁ (bindL (envOfC qual scope L' f cdv).kindOf binds fun _ => none) → News g L' h₁ (cells ++ led) → 
      CellsAre (bindC (envOfC qual scope L' f cdv).kindOf binds fun _ => none) (cellsFrom (L' + 1) scope.names []) cells → (hd.heap_39 w.params).In g → Top hd.view_39 L0 mean mg mb g → (∀ p ∈ led, p.1 < L') →
      wpAny (model Pg w) (A.deeper (envOfC qual scope L' f cdv)) (execs body (envOfC qual scope L' f cdv))
        (fun fl s' => R (.ok (.ret (match fl with | .ret v => v | _ => .none))) s')
        (fun e s' => wpAny (model Pg w) (A.deeper (envOfC qual scope L' f cdv)) (leaving (envOfC qual scope L' f cdv) e) (fun _ s'' => R (.error e) s'') (fun e' s'' => R (.error e') s'') s')
        { s with heap := h₁, toks := tk })
    (hco : scope.isCoroutine = false) (hgen : scope.isGenerator = false) (hk : scope.kind = .function) : codeAny (model Pg w) A (.call (.ref f) args) R s := by
  have up : ∀ b o, s.heap.get? b = some o → b ∉ led.map (·.1) → (hideAll s.heap (led.map (·.1))).get? b = some o := fun b o e n => hideAll_get _ e n
  have st : Sub hT (hideAll s.heap (led.map (·.1))) := fun b o e => up b o (S b o e) (fun hm => by
    obtain ⟨p, hp, rfl⟩ := List.mem_map.mp hm
    rw [(hl p hp).2] at e; cases e)
  refine codeAny_call_function hroom (S _ _ (X _ _ ho)) rfl hco hgen rfl (codeRec_of (X.keeps S) hcd) (hbind _ _ _ _ ?_)
  refine wpAny_newFunctionEnv_cells hk (kindsX hkind _) fun env' he s' x => ?_
  subst he
  refine ⟨(T.nolimit.keeps S).keeps x.toInCall.keep, codeAny_func ?_⟩
  obtain ⟨h₁, tk, rfl, _⟩ := x.done
  have hk₁ := x.toInCall.keep
  obtain ⟨cells, NC, Y⟩ := Cl.news (h₀ := s.heap) (Nat.le_refl _) fun n c hm => ⟨x.cell n c (lookup_of_mem_nodup (cellsFrom_names scope.names 0 (s.heap.objs.size + 1) [] [] rfl ▸ hnd) hm), x.above n c hm⟩
  refine h _ s.heap.objs.size h₁ tk cells st ⟨up, fun b o e => of_hideAll _ e⟩ ⟨x.toInCall.ns, fun b o e => hk₁ b o (of_hideAll _ e), Nat.le_of_eq (hideAll_size _ _)⟩ (fun p hp => ?_) Y (X.keeps st) (T.keeps st) (fun p hp => Heap.lt_size (hl p hp).1)
  rcases List.mem_append.mp hp with hp | hp
  · refine ⟨(NC p hp).1, (NC p hp).2.1, ?_⟩
    cases q : (hideAll s.heap (led.map (·.1))).get? p.1 with
    | none => rfl
    | some o => have := of_hideAll _ q; rw [(NC p hp).2.2] at this; cases this
  · exact ⟨hk₁ _ _ (hl p hp).1, Nat.ne_of_lt (Heap.lt_size (hl p hp).1), hideAll_none _ (List.mem_map_of_mem hp)⟩
end
end Ez
end
section
example : True := by
  w_top off
  trivial
open PySem PySem.W PySem.Calls PyProof.Rows
namespace Ez
example (w : World) (h : Heap) (X : (hd.heap_39 w.params).In h) (e : PySem.Challenge.rw_ez0022_01.prog = Pg) : True := by
  revert X e
  k_fill
  intros
  trivial
theorem el_fiter (w : World) : findIn (hd.heap_39 w.params) (.ref 159) "__iter__" = some (some (.builtin "list.__iter__")) := by k_is
theorem el_titer (w : World) : typeIn (hd.heap_39 w.params) (.builtin "list.__iter__") = some (.type "wrapper_descriptor") := by k_is
theorem check_slot {M : Model} {A : Around} {E : Value → Shared → Prop} {s : Shared} {i owner n : String} {self : Value} {rest : List Value} {kw : List (Str × Value)} {Q : Unit → Shared → Prop}
    (hk : builtinKind i = some .slot) (hs : splitId i = some (owner, n)) (hi : Looks M s.heap (isInstance self (.type owner)) true) (ha : argsOk i ⟨self :: rest, kw⟩) (q : Q () s) :
    wpAny M A (checkBuiltinCall i ⟨self :: rest, kw⟩) Q E s := by
  simp only [checkBuiltinCall, hk, hs]
  refine wpAny_bind (hi.here ?_)
  rw [if_neg (by decide)]
  cases hsig : Manifest.signature? i with
  | none => exact wpAny_pure q
  | some sig =>
    simp only [argsOk, hsig] at ha
    have h2 : Bind.checkArgs i sig ⟨self :: rest, kw⟩ = pure () := ha
    show wpAny M A (Bind.checkArgs i sig ⟨self :: rest, kw⟩) Q E s
    rw [h2]; exact wpAny_pure q
theorem call_sub_slot {prog : Program} {w : World} {A : Around} {E : Value → Shared → Prop} {s : Shared} {id owner n : String} {b : Builtin} {self : Value} {rest : List Value} {Q : Value → Shared → Prop} (hk : builtinKind id = some .slot) (hs : splitId id = some (owner, n)) (hp : plainId id = true)
    (hi : Looks (model prog w) s.heap (isInstance self (.type owner)) true) (ha : argsOk id ⟨self :: rest, []⟩) (hb : entryFor table id = some b)
    (hc : wpAny (model prog w) A.in1 (b ⟨self :: rest, []⟩) (fun fin s' => ∃ v, fin = .done (.ret v) ∧ Q v s') E s) : wpAny (model prog w) A (call (.builtin id) (self :: rest)) Q E s := by
  refine wpAny_call (codeAny_call_builtin hp hb (check_slot hk hs hi ha (wpAny_mono hc (fun fin s' h' => ?_) fun _ _ h' => h')))
  obtain ⟨v, rfl, hv⟩ := h'; exact hv
theorem iter_blt {M : Model} {A : Around} {E : Value → Shared → Prop} {s : Shared} {K : Frag} {x C : Addr} {ox : Obj} {od : Option Obj} {id : String} {Q : Value → Shared → Prop} (X : K.In s.heap) (I : InstAt s.heap x ox C od) (hs : findIn K (.ref C) "__iter__" = some (some (.builtin id)))
    (ht : typeIn K (.builtin id) = some (.type "wrapper_descriptor"))
    (h : wpAny M A (call (.builtin id) [.ref x]) (fun it s' => ∃ T' r, s'.TypeIs it T' ∧ typeLookup (.type T') "__next__" = pure (some r) ∧ Q it s') E s) : wpAny M A (pyIter (.ref x)) Q E s := by
  have bw : Looks M s.heap (bindSpecial (.builtin id) (.ref x)) (.builtin id, [.ref x]) := by
    unfold bindSpecial
    exact (looks_typeIn X ht).andThen (Looks.of_pure (by kernel_rfl))
  have fin : wpAny M A (call (.builtin id) [.ref x] >>= fun v => pure (some v)) (fun r s' => ∃ v, r = some v ∧ ∃ T' r, s'.TypeIs v T' ∧ typeLookup (.type T') "__next__" = pure (some r) ∧ Q v s') E s :=
    wpAny_bind (wpAny_mono h (fun v s' h' => wpAny_pure ⟨v, rfl, h'⟩) fun _ _ z => z)
  have one : ∀ refuse : Sem Value, wpAny M A (callSpecialIfBoundUnlessNone? (.ref x) "__iter__" refuse) (fun r s' => ∃ v, r = some v ∧ ∃ T' r, s'.TypeIs v T' ∧ typeLookup (.type T') "__next__" = pure (some r) ∧ Q v s') E s := by
    intro refuse
    simp only [callSpecialIfBoundUnlessNone?, bindSpecialIfBound?]
    refine wpAny_holding (wpAny_bind (wpAny_bind (wpAny_bind (I.type.here ((looks_findIn X hs).here ?_)))))
    refine wpAny_bind (wpAny_askSetting (wpAny_ite ?_))
    have fin2 : wpAny M A (if (Value.builtin id == Value.none) = true then (refuse >>= fun v => pure (some v)) else (call (.builtin id) [.ref x] >>= fun v => pure (some v))) (fun r s' => ∃ v, r = some v ∧ ∃ T' r, s'.TypeIs v T' ∧ typeLookup (.type T') "__next__" = pure (some r) ∧ Q v s') E s := by
      rw [if_neg (show ¬ ((Value.builtin id == Value.none) = true) from Bool.false_ne_true)]
      exact fin
    split
    · exact wpAny_bind (bw.here (wpAny_pure (by exact fin2)))
    · exact wpAny_tryCatch (wpAny_bind (bw.here (wpAny_pure (by exact fin2))))
  unfold pyIter
  refine wpAny_bind (wpAny_bind (I.type.here ((looks_findIn X hs).here ?_)))
  show wpAny M A (callSpecialIfBoundUnlessNone? (.ref x) "__iter__" _ >>= _) Q E s
  refine wpAny_bind (wpAny_mono (one _) (fun r s' hr => ?_) fun _ _ z => z)
  obtain ⟨v, rfl, T', r, hT, hl, hQ⟩ := hr
  exact wpAny_bind (wpAny_specialOf hT hl (wpAny_pure hQ))
section
variable {w : World} {A : Around} {E : Value → Shared → Prop} {s : Shared} {el eld : Addr} {items : List Value} {ep : Nat}
theorem bind_wrap {K : Frag} {M : Model} {h : Heap} (X : K.In h) {id : String} (self : Value) (e : typeIn K (.builtin id) = some (.type "wrapper_descriptor")) : Looks M h (bindSpecial (.builtin id) self) (.builtin id, [self]) := by
  unfold bindSpecial
  exact (looks_typeIn X e).andThen (Looks.of_pure (by kernel_rfl))
theorem el_iter_call {Q : Value → Shared → Prop} (X : (hd.heap_39 w.params).In s.heap) (I : InstAt s.heap el (elO items ep eld) 159 (some (dictOf [] 0)))
    (h : Q (.ref s.heap.objs.size) { s with heap := s.heap.push { cls := .type "list_iterator", data := .fields #[.ref el, .int 0 0] } }) : wpAny (model Pg w) A (call (.builtin "list.__iter__") [.ref el]) Q E s := by
  refine call_sub_slot (owner := "list") (n := "__iter__") (by decide +kernel) (by decide +kernel) (by decide +kernel) (el_isList (P := w.params) X I) (args_list_iter _) entry_list_iter ?_
  show wpAny _ _ (do ret (← newFields "list_iterator" [.ref el, rawInt 0])) _ _ s
  exact wpAny_bind (wpAny_newObj_type (wpAny_pure ⟨_, rfl, h⟩))
theorem el_iter {Q : Value → Shared → Prop} (X : (hd.heap_39 w.params).In s.heap) (ho : s.heap.get? el = some (elO items ep eld)) (hde : s.heap.get? eld = some (dictOf [] 0))
    (h : Q (.ref s.heap.objs.size) { s with heap := s.heap.push { cls := .type "list_iterator", data := .fields #[.ref el, .int 0 0] } }) : wpAny (model Pg w) A (pyIter (.ref el)) Q E s := by
  have I := el_inst ho hde
  exact iter_blt X I (el_fiter w) (el_titer w) (el_iter_call X I ⟨"list_iterator", _, ⟨_, Heap.get?_push_size _ rfl, rfl⟩, slot_listiter_next.lookup, h⟩)
end
/-- an object holds those items -/
def Dat (h : Heap) (a : Addr) (items : Array Value) : Prop := ∃ o n, h.get? a = some o ∧ o.data = .seq items n
theorem Dat.at {h h' : Heap} {a : Addr} {items : Array Value} (x : Dat h a items) (k : ∀ o, h.get? a = some o → h'.get? a = some o) : Dat h' a items := by
  obtain ⟨o, n, ho, r⟩ := x
  exact ⟨o, n, k o ho, r⟩
section
variable {prog : Program} {w : World} {A : Around} {E : Value → Shared → Prop} {s : Shared}
theorem dat_item {it l : Addr} {i : Nat} {items : Array Value} {x : Value} {Q : Option Value → Shared → Prop} (hit : s.heap.IsListIter it l i) (hl : Dat s.heap l items) (hx : items[i]? = some x)
    (hQ : ∀ h', h'.IsListIter it l (i + 1) → Heap.SameBut it s.heap h' → Q (some x) { s with heap := h' }) : wpAny (model prog w) A (pyNext (.ref it)) Q E s := by
  obtain ⟨o, ho, hc, hd⟩ := id hit
  obtain ⟨ol, nl, hol, hdl⟩ := hl
  unfold pyNext
  refine wpAny_bind (wpAny_attempt (wpAny_callSpecial?_slot (name := Str.ofString "__next__") hit.typeIs slot_listiter_next
    (wpAny_call_entry slot_listiter_next hit.typeIs entry_listiter_next ?_ (args_listiter_next _))))
  show wpAny _ _ (field (.ref it) 0 >>= _) _ _ s
  refine wpAny_bind (wpAny_field ho hd (x := .ref l) rfl ?_)
  show wpAny _ _ (if (Value.ref l == Value.none) = true then _ else _) _ _ s
  rw [if_neg (show ¬ ((Value.ref l == Value.none) = true) from Bool.false_ne_true)]
  show wpAny _ _ (field (.ref it) 1 >>= _) _ _ s
  refine wpAny_bind (wpAny_field ho hd (x := .int i 0) rfl ?_)
  show wpAny _ _ (seqItems? (.ref l) >>= _) _ _ s
  refine wpAny_bind (wpAny_seqItems hol hdl ?_)
  simp only [Int.toNat_natCast, hx]
  refine wpAny_bind (wpAny_setField ho hd (by simp) (wpAny_pure ⟨x, rfl, wpAny_pure (hQ _ ?_ (Heap.SameBut.update ..))⟩))
  exact ⟨_, Heap.get?_update_self _ ho (Obj.isFreed_of_fields (Obj.data_mapFields hd _)), (Obj.cls_mapFields ..).trans hc, by
    rw [Obj.data_mapFields hd]; simp [rawInt]⟩
theorem dat_end {it l : Addr} {i : Nat} {items : Array Value} {Q : Option Value → Shared → Prop} (hh : A.handled = none)
    (hit : s.heap.IsListIter it l i) (hl : Dat s.heap l items) (hx : items[i]? = none)
    (hQ : ∀ h', Heap.ExtBut it s.heap h' → Q none { s with heap := h' }) : wpAny (model prog w) A (pyNext (.ref it)) Q E s := by
  obtain ⟨o, ho, hc, hd⟩ := id hit
  obtain ⟨ol, nl, hol, hdl⟩ := hl
  unfold pyNext
  refine wpAny_bind (wpAny_attempt (wpAny_callSpecial?_slot (name := Str.ofString "__next__") hit.typeIs slot_listiter_next
    (wpAny_call_entry slot_listiter_next hit.typeIs entry_listiter_next ?_ (args_listiter_next _))))
  show wpAny _ _ (field (.ref it) 0 >>= _) _ _ s
  refine wpAny_bind (wpAny_field ho hd (x := .ref l) rfl ?_)
  show wpAny _ _ (if (Value.ref l == Value.none) = true then _ else _) _ _ s
  rw [if_neg (show ¬ ((Value.ref l == Value.none) = true) from Bool.false_ne_true)]
  show wpAny _ _ (field (.ref it) 1 >>= _) _ _ s
  refine wpAny_bind (wpAny_field ho hd (x := .int i 0) rfl ?_)
  show wpAny _ _ (seqItems? (.ref l) >>= _) _ _ s
  refine wpAny_bind (wpAny_seqItems hol hdl ?_)
  simp only [Int.toNat_natCast, hx]
  refine wpAny_bind (wpAny_rule (wpAny_bind (wpAny_setField ho hd (by simp) ?_)))
  show wpAny _ _ (newExc (.type "StopIteration") [] >>= _) _ _ _
  refine wpAny_bind ?_
  simp only [newExc, newTuple]
  refine wpAny_bind (wpAny_newObj_type ?_ (by size_fits))
  refine wpAny_bind (m := firstArgMember _ _) (wpAny_of_eq (a := Value.none) (by first | rfl | (simp only [firstArgMember]; rfl)) ?_)
  refine wpAny_newObj_type ?_ (by size_fits)
  simp only [raiseNew]
  refine wpAny_bind (wpAny_handled ?_)
  rw [show A.in1.handled = none from hh]
  refine wpAny_bind (wpAny_pure (wpAny_throw ?_))
  refine wpAny_bind (wpAny_isInstance (T := "StopIteration") (b := true) ⟨_, Heap.get?_push_size _ rfl, rfl⟩ isSubtype_stop ?_)
  exact wpAny_pure (hQ _ (((Heap.SameBut.update ..).extBut.push _).push _))
theorem walks_dat {A : Around} (hh : A.handled = none) (I ax : Addr) (hne : ax ≠ I) (items : Array Value) :
    Walks prog w A I [I, ax] [I] items.size (fun i v => items[i]? = some v) (fun i h => h.IsListIter I ax i ∧ Dat h ax items) where
  sub := fun b hb => by simp at hb; simp [hb]
  frame := fun _ _ _ st hk => ⟨st.1.at fun o e => hk I (by simp) o e, st.2.at fun o e => hk ax (by simp) o e⟩
  item := fun i s Q E hi st hQ => by
    refine dat_item st.1 st.2 (x := items[i]) (by simp [hi]) fun h' hit' hs' => ?_
    exact hQ _ h' s.toks (by simp [hi]) ⟨hit', st.2.at fun o e => hs'.extBut _ _ hne e⟩ fun b o hb e => hs'.extBut b o (fun h => hb (by simp [h])) e
  done := fun s Q E st hQ => dat_end hh st.1 st.2 (by simp) fun h' he' => hQ h' s.toks fun b o hb e => he' b o (fun h => hb (by simp [h])) e
  self := fun _ _ _ _ st hQ => wpAny_pyIter_listiter st.1 hQ
end
def SrcE (h₀ : Heap) (ax : Addr) (its : Array Value) (news : List (Addr × Obj)) : Prop := Dat h₀ ax its ∨ ∃ o n, (ax, o) ∈ news ∧ o.data = .seq its n
theorem SrcE.dat {h₀ h : Heap} {L ax : Addr} {its : Array Value} {news : List (Addr × Obj)} (x : SrcE h₀ ax its news) (k : ∀ b o, h₀.get? b = some o → h.get? b = some o) (N : News h₀ L h news) : Dat h ax its := by
  rcases x with ⟨o, n, e, r⟩ | ⟨o, n, hm, r⟩
  · exact ⟨o, n, k _ _ e, r⟩
  · exact ⟨o, n, (N _ hm).1, r⟩
theorem dat_st {h₀ : Heap} {L ax I : Addr} {its : Array Value} : ∀ i (h h' : Heap) (o : Obj) (nw : List (Addr × Obj)), (h.IsListIter I ax i ∧ Dat h ax its) → h.get? I = some o → h'.get? I = some o → (∀ b o, h₀.get? b = some o → h'.get? b = some o) → News h₀ L h' nw → SrcE h₀ ax its nw → (h'.IsListIter I ax i ∧ Dat h' ax its) :=
  fun i h h' o nw st e e' k N S => ⟨by obtain ⟨o', q, r⟩ := st.1; rw [e] at q; cases q; exact ⟨o, e', r⟩, S.dat k N⟩
def ElSrc (w : World) (A : Around) (h₀ : Heap) (L : Addr) (m : Str → Option Value) (env : Env) (elt : PySem.Expr) (x : Str) (scope : Scope) (cl : List (Str × Addr)) (Fin : Shared → List Value → List (Addr × Obj) → Prop) (xv : Value) (s₁ : Shared) : Prop :=
  ∃ ax its ep eld news, xv = .ref ax ∧ A.handled = none ∧ Fr h₀ L s₁.heap m ∧ News h₀ L s₁.heap news ∧ (hd.heap_39 w.params).In h₀ ∧ SrcE h₀ ax (List.toArray its) news ∧ s₁.heap.get? ax = some (elO its ep eld) ∧ s₁.heap.get? eld = some (dictOf [] 0) ∧ its.length ≤ sizeLine ∧
    ∀ s₂ : Shared, (∃ h, s₂ = { s₁ with heap := h }) → LCg.CompRest Pg w A h₀ L m env elt x scope cl s₂ (SrcE h₀ ax (List.toArray its)) (fun i v => its.toArray[i]? = some v) (Fin s₂) its.toArray.size 0 [] news
section
variable {w : World} {A : Around} {E : Value → Shared → Prop} {s : Shared} {h₀ : Heap} {L : Addr} {m : Str → Option Value} {env : Env}
theorem ListComp_E {elt iter : PySem.Expr} {x : Str} {px : Pos} {scope : Scope} {cl : List (Str × Addr)} {pos : Pos} {Q : Value → Shared → Prop} (F₀ : Fr h₀ L s.heap m)
    (hclos : closureFor scope env = pure cl) (hcell : ∀ y ∈ scope.names, y.2 ≠ .cell) (hkind : scope.kind = .function)
    (hnames : ∀ y ∈ scope.names, y.2 = .local → scope.names.lookup y.1 = some .local) (hx : scope.names.lookup x = some .local)
    (h : wpAny (model Pg w) A (eval iter env) (ElSrc w A h₀ L m env elt x scope cl (fun s₂ => LCg.FinE h₀ L m s₂ Q)) E s)
    (hs : ∀ x, foldedSetIterable iter env x = pure x := by intro _; rfl) :
    wpAny (model Pg w) A (eval (.ListComp elt [⟨.Name x px, iter, [], 0⟩] scope pos) env) Q E s := by
  rw [eval_ListComp]
  refine wpAny_comprehension_free (use := none) rfl hs hclos hkind hnames (wpAny_mono h (fun xv s₁ h₁ => ?_) fun _ _ e => e)
  obtain ⟨ax, its, ep, eld, news, rfl, hh, F, N, X, S, ho, hde, hsz, R⟩ := h₁
  have hl := S.dat F.keep N
  have hlt : ax < s₁.heap.objs.size := Heap.lt_size ho
  refine el_iter (X.keeps F.keep) ho hde ?_
  have up : ∀ b o, s₁.heap.get? b = some o → (s₁.heap.push { cls := .type "list_iterator", data := .fields #[.ref ax, .int 0 0] }).get? b = some o := fun b o e => Heap.get?_push_of_some _ e
  refine LCg.block_U (walks_dat hh s₁.heap.objs.size ax (Nat.ne_of_lt hlt) its.toArray) (by rw [List.size_toArray]; exact hsz) (fun i h st => by obtain ⟨o, e, _⟩ := st.1; exact ⟨o, e⟩) dat_st hcell hkind hx ⟨⟨_, Heap.get?_push_size _ rfl, rfl, rfl⟩, hl.at fun o e => up _ _ e⟩ (fun b hb => ?_)
    (F.keeps up) (N.grown up) (Nat.ne_of_lt F.ns.lt) (next_is_new F) (fun p hp => Nat.ne_of_lt (Heap.lt_size (N p hp).1)) S (R _ ⟨_, rfl⟩) ?_
  · show b < (s₁.heap.push _).objs.size
    rw [Heap.size_push]
    rcases List.mem_cons.mp hb with rfl | hb
    · exact Nat.lt_succ_self _
    · rw [List.mem_singleton.mp hb]; exact Nat.lt_succ_of_lt hlt
  · intro D C h tk m' ys news' F' N' o1 hn hC₀ hD₀ hCL hDL hCD offC fin
    refine ⟨m', hn, fun h'' hs'' => fin D h'' tk (F'.change hs'' hCL hC₀) (fun p hp => ?_) o1⟩
    refine ⟨hs''.extBut _ _ ?_ (N' p hp).1, (N' p hp).2⟩
    rcases List.mem_cons.mp hp with rfl | hp
    · exact Ne.symm hCD
    · exact offC p hp
theorem Assign_ListComp_E {elt iter : PySem.Expr} {x y : Str} {px py : Pos} {scope : Scope} {cl : List (Str × Addr)} {pos spos : Pos} {Q : Flow → Shared → Prop} (F₀ : Fr h₀ L s.heap m) (hLe : env.locals = L)
    (hsw : swapsWith (.ListComp elt [⟨.Name x px, iter, [], 0⟩] scope pos) (some (.Name y py)) spos.line env = pure true)
    (hclos : closureFor scope env = pure cl) (hcell : ∀ z ∈ scope.names, z.2 ≠ .cell) (hkind : scope.kind = .function)
    (hnames : ∀ z ∈ scope.names, z.2 = .local → scope.names.lookup z.1 = some .local) (hx : scope.names.lookup x = some .local)
    (hy : env.kindOf y = some .local) (hp : (env.scope.kind == .class || (env.scope.kind == .module && env.locals != env.globals)) = false)
    (h : wpAny (model Pg w) A (eval iter env) (ElSrc w A h₀ L m env elt x scope cl (fun s₂ => LCg.FinA h₀ L m s₂ y Q)) E s)
    (hs : ∀ x, foldedSetIterable iter env x = pure x := by intro _; rfl) :
    wpAny (model Pg w) A (exec (.Assign [.Name y py] (.ListComp elt [⟨.Name x px, iter, [], 0⟩] scope pos) spos) env) Q E s := by
  subst hLe
  rw [exec_Assign_Name_used _ _ _ _ hsw]
  refine wpAny_bind (wpAny_standAt (wpAny_bind ?_))
  show wpAny _ A (do let _ ← comprehension (.ListComp elt [⟨.Name x px, iter, [], 0⟩] scope pos) scope env _ (newList []) false (eval iter env) (some (assign (.Name y py) env))) _ _ s
  refine wpAny_bind (wpAny_mono (wpAny_comprehension_free (use := some (assign (.Name y py) env)) (Q := fun _ s' => Q .next s') rfl hs hclos hkind hnames
    (wpAny_mono h (fun xv s₁ h₁ => ?_) fun _ _ e => e)) (fun _ s' hq => wpAny_pure (wpAny_pure hq)) fun _ _ e => e)
  obtain ⟨ax, its, ep, eld, news, rfl, hh, F, N, X, S, ho, hde, hsz, R⟩ := h₁
  have hl := S.dat F.keep N
  have hlt : ax < s₁.heap.objs.size := Heap.lt_size ho
  refine el_iter (X.keeps F.keep) ho hde ?_
  have up : ∀ b o, s₁.heap.get? b = some o → (s₁.heap.push { cls := .type "list_iterator", data := .fields #[.ref ax, .int 0 0] }).get? b = some o := fun b o e => Heap.get?_push_of_some _ e
  refine LCg.block_U (walks_dat hh s₁.heap.objs.size ax (Nat.ne_of_lt hlt) its.toArray) (by rw [List.size_toArray]; exact hsz) (fun i h st => by obtain ⟨o, e, _⟩ := st.1; exact ⟨o, e⟩) dat_st hcell hkind hx ⟨⟨_, Heap.get?_push_size _ rfl, rfl, rfl⟩, hl.at fun o e => up _ _ e⟩ (fun b hb => ?_)
    (F.keeps up) (N.grown up) (Nat.ne_of_lt F.ns.lt) (next_is_new F) (fun p hp => Nat.ne_of_lt (Heap.lt_size (N p hp).1)) S (R _ ⟨_, rfl⟩) ?_
  · show b < (s₁.heap.push _).objs.size
    rw [Heap.size_push]
    rcases List.mem_cons.mp hb with rfl | hb
    · exact Nat.lt_succ_self _
    · rw [List.mem_singleton.mp hb]; exact Nat.lt_succ_of_lt hlt
  · intro D C h' tk m' ys news' F' N' o1 hn hC₀ hD₀ hCL hDL hCD offC fin
    show wpAny _ A (assign (.Name y py) env (.ref D)) _ _ _
    refine wpAny_assign_Name (wpAny_storeName_local hy F'.ns (fun h₂ hn₂ hs₂ => ?_) hp)
    have hL₀ : h₀.get? env.locals = none := Heap.get?_none_of_le F'.above
    have F₂ : Fr h₀ env.locals h₂ (fun z => if z = y then some (.ref D) else m z) := ⟨hn₂, fun b o e => hs₂.extBut b o (fun q => by rw [q, hL₀] at e; cases e) (F'.keep b o e), F'.above⟩
    refine ⟨m', hn.sameBut hs₂ hCL, fun h'' hs'' => fin D h'' _ (F₂.change hs'' hCL hC₀) (fun p hp => ?_) o1⟩
    have z : h₂.get? p.1 = some p.2 := hs₂.extBut _ _ (N' p hp).2.1 (N' p hp).1
    refine ⟨hs''.extBut _ _ ?_ z, (N' p hp).2⟩
    rcases List.mem_cons.mp hp with rfl | hp
    · exact Ne.symm hCD
    · exact offC p hp
end
end Ez
end
section
example : True := by
  w_top off
  trivial
open PySem PySem.W PySem.Calls PyProof.Rows PySem.SeqAt
namespace Ez
def pathLt : List Atom → List Atom → Bool
  | _, [] => false
  | [], _ :: _ => true
  | a :: p, b :: q => if a = b then pathLt p q else atomLt a b
theorem AtomsAre.inj : ∀ {vs : List Value} {p q : List Atom}, AtomsAre vs p → AtomsAre vs q → p = q
  | [], [], [], _, _ => rfl
  | v :: vs, a :: p, b :: q, h1, h2 => by
    rw [AtomsAre.inj h1.2 h2.2]
    congr 1
    rcases Atom.isV_cases h1.1 with ⟨x, t, rfl, rfl⟩ | ⟨x, t, rfl, rfl⟩ <;> rcases Atom.isV_cases h2.1 with ⟨y, u, rfl, e⟩ | ⟨y, u, rfl, e⟩ <;> cases e <;> rfl
  | [], _ :: _, _, h, _ => h.elim
  | [], [], _ :: _, _, h => h.elim
  | _ :: _, [], _, h, _ => h.elim
  | _ :: _, _ :: _, [], _, h => h.elim
theorem rc_lt_atoms {prog : Program} {w : World} {A : Around} {E : Value → Shared → Prop} {s : Shared} {Q : Value → Shared → Prop} {a b : Atom} {u v : Value} (ha : a.isV u = true) (hb : b.isV v = true) (hk : sameKind a b = true) (h : Q (.bool (atomLt a b)) s) :
    wpAny (model prog w) A (richCompare .Lt u v) Q E s := by
  rcases Atom.isV_cases ha with ⟨x, t, rfl, rfl⟩ | ⟨x, t, rfl, rfl⟩ <;> rcases Atom.isV_cases hb with ⟨y, u, rfl, rfl⟩ | ⟨y, u, rfl, rfl⟩ <;> (try cases hk)
  · exact show wpAny (model prog w) A (compareOp .Lt _ _) Q E s from lt_str h
  · exact show wpAny (model prog w) A (compareOp .Lt _ _) Q E s from wpAny_lt_int h
theorem Comp.tail {a : Atom} {p q : List Atom} (h : Comp (a :: p) (a :: q)) : Comp p q := fun i x y e hx hy => h (i + 1) x y (by simp [e]) (by simpa using hx) (by simpa using hy)
theorem tuple_lt_meets (l b : Addr) (vx vy : List Value) (n n2 : Nat) (dd dd2 : Option Addr) (sl sl2 : Array (Option Value)) (px py : List Atom) :
    Meets (Builtin.«tuple.__lt__» ⟨[.ref l, .ref b], []⟩)
      (fun A R s => s.heap.get? l = some { cls := .type "tuple", dict := dd, data := .seq vx.toArray n, slots := sl } ∧ s.heap.get? b = some { cls := .type "tuple", dict := dd2, data := .seq vy.toArray n2, slots := sl2 } ∧
        AtomsAre vx px ∧ AtomsAre vy py ∧ Comp px py ∧ R (.ok (.ret (.bool (pathLt px py)))) s) :=
  .of_wp fun prog w A R s h => by
    obtain ⟨hp, g, d, tk, os⟩ := s; obtain ⟨hl, hb, hx, hy, hc, h⟩ := h
    have f2 := AutoSeq1.sub_tuple_tuple
    wp_walk using wpAny_loadPart' hl, wpAny_loadPart' hb, wpAny_forIn_list _ (fun rest b s' => b.1 = none ∧ s' = ⟨hp, g, d, tk, os⟩ ∧ ∃ i, i ≤ min px.length py.length ∧ rest = (vx.toArray.toList.zip vy.toArray.toList).drop i ∧ Comp (px.drop i) (py.drop i) ∧
      R (.ok (.ret (.bool (pathLt (px.drop i) (py.drop i))))) ⟨hp, g, d, tk, os⟩) _
    case turn =>
      rintro ⟨y, x⟩ rest b s' ⟨hb', rfl, i, hi, hz, hci, hR⟩
      have hlt : i < (vx.toArray.toList.zip vy.toArray.toList).length := by
        rcases Nat.lt_or_ge i (vx.toArray.toList.zip vy.toArray.toList).length with h' | h'
        · exact h'
        · rw [List.drop_of_length_le h'] at hz; cases hz
      rw [List.drop_eq_getElem_cons hlt] at hz
      injection hz with hyx hrest
      have hm : i < min vx.length vy.length := by simpa using hlt
      have h1 : i < vx.length := by omega
      have h2 : i < vy.length := by omega
      have l1 := hx.len
      have l2 := hy.len
      have hy' : y = vx[i] := by have := congrArg Prod.fst hyx; simpa using this
      have hx' : x = vy[i] := by have := congrArg Prod.snd hyx; simpa using this
      obtain ⟨va, e1, ia⟩ := hx.get i (List.getElem?_eq_getElem (show i < px.length by omega))
      obtain ⟨vb, e2, ib⟩ := hy.get i (List.getElem?_eq_getElem (show i < py.length by omega))
      rw [List.getElem?_eq_getElem h1] at e1
      rw [List.getElem?_eq_getElem h2] at e2
      obtain rfl := Option.some.inj e1
      obtain rfl := Option.some.inj e2
      subst hy' hx'
      rw [List.drop_eq_getElem_cons (show i < px.length by omega), List.drop_eq_getElem_cons (show i < py.length by omega)] at hR hci
      refine wpAny_bind ((atomKind prog w).eqBool (show (atomKind prog w).is px[i] vx[i] = true from ia) (show (atomKind prog w).is py[i] vy[i] = true from ib) ?_)
      by_cases hab : px[i] = py[i]
      · rw [decide_eq_true hab]
        rw [pathLt, if_pos hab] at hR
        rw [hab] at hci
        wp_walk
        exact ⟨rfl, rfl, i + 1, by omega, hrest, hci.tail, hR⟩
      · rw [decide_eq_false hab]
        rw [pathLt, if_neg hab] at hR
        have hk := hci 0 px[i] py[i] rfl rfl rfl
        wp_walk using rc_lt_atoms ia ib hk
        exact ⟨_, rfl, by simpa using hR⟩
    case fin =>
      rintro ⟨b1, b2⟩ s' ⟨hb', rfl, i, hi, hz, hci, hR⟩
      simp only at hb'
      subst hb'
      have l1 := hx.len
      have l2 := hy.len
      have hge : min vx.length vy.length ≤ i := by
        rcases Nat.lt_or_ge i (vx.toArray.toList.zip vy.toArray.toList).length with h' | h'
        · rw [List.drop_eq_getElem_cons h'] at hz; cases hz
        · simpa using h'
      have hfin : pathLt (px.drop i) (py.drop i) = decide (vx.length < vy.length) := by
        rcases Nat.lt_or_ge px.length py.length with q | q
        · rw [List.drop_of_length_le (show px.length ≤ i by omega), List.drop_eq_getElem_cons (show i < py.length by omega), decide_eq_true (by omega)]
          rfl
        · rw [List.drop_of_length_le (show py.length ≤ i by omega), decide_eq_false (by omega)]
          cases px.drop i <;> rfl
      rw [hfin] at hR
      wp_walk
      exact ⟨_, rfl, by simpa [Builtin.Tuple.tupleCompareSizes] using hR⟩
    case h =>
      exact ⟨rfl, rfl, 0, Nat.zero_le _, rfl, by simpa using hc, by simpa using h⟩
theorem lt_path {prog : Program} {w : World} {A : Around} {E : Value → Shared → Prop} {s : Shared} {x y : Addr} {vx vy : List Value} {px py : List Atom} {Q : Value → Shared → Prop} (hx : IsTup s.heap x vx.toArray) (hy : IsTup s.heap y vy.toArray) (ax : AtomsAre vx px) (ay : AtomsAre vy py) (hc : Comp px py) (hu : A.units < cLine)
    (h : Q (.bool (pathLt px py)) s) : wpAny (model prog w) A (compareOp .Lt (.ref x) (.ref y)) Q E s := by
  obtain ⟨⟨cls, dd, data, sl⟩, ho, hcl, n, hd⟩ := id hx
  obtain ⟨⟨cls2, dd2, data2, sl2⟩, ho2, hc2, n2, hd2⟩ := id hy
  simp only at hcl hd hc2 hd2
  subst hcl hd hc2 hd2
  exact show wpAny (model prog w) A (richCompare .Lt _ _) Q E s from richCompare_meets_room (op := .Lt) ⟨_, ho, rfl⟩ ⟨_, ho2, rfl⟩ F.slot_tuple_lt F.entry_tuple_lt (F.args_tuple_lt_2 _ _) (tuple_lt_meets x y vx vy n n2 dd dd2 sl sl2 px py)
    ⟨ho, ho2, ax, ay, hc, show Value.bool (pathLt px py) ≠ Value.notImplemented ∧ Q (.bool (pathLt px py)) s from ⟨(fun z => nomatch z), h⟩⟩ hu
theorem eqAt_atoms {A : Around} {s : Shared} {vx vy : List Value} {px py : List Atom} (ax : AtomsAre vx px) (ay : AtomsAre vy py) : ∀ j (h1 : j < vx.toArray.size) (h2 : j < vy.toArray.size), EqAt A s vx.toArray[j] vy.toArray[j] (decide (px[j]? = py[j]?)) := by
  intro j h1 h2 prog w E Q h
  have l1 := ax.len
  have l2 := ay.len
  rw [List.size_toArray] at h1 h2
  have g1 : px[j]? = some (px[j]'(by omega)) := List.getElem?_eq_getElem (by omega)
  have g2 : py[j]? = some (py[j]'(by omega)) := List.getElem?_eq_getElem (by omega)
  obtain ⟨va, e1, ia⟩ := ax.get j g1
  obtain ⟨vb, e2, ib⟩ := ay.get j g2
  rw [List.getElem?_eq_getElem h1] at e1
  rw [List.getElem?_eq_getElem h2] at e2
  obtain rfl := Option.some.inj e1
  obtain rfl := Option.some.inj e2
  refine (atomKind prog w).eqBool (show (atomKind prog w).is _ _ = true from ia) (show (atomKind prog w).is _ _ = true from ib) ?_
  rw [g1, g2] at h
  simpa using h
theorem all_eq_paths {px py : List Atom} : ((List.range (min px.length py.length)).all (fun j => decide (px[j]? = py[j]?)) && px.length == py.length) = decide (px = py) := by
  rw [Bool.eq_iff_iff]
  simp only [Bool.and_eq_true, List.all_eq_true, List.mem_range, decide_eq_true_eq, beq_iff_eq]
  constructor
  · rintro ⟨h1, h2⟩
    refine List.ext_getElem? fun j => ?_
    by_cases hj : j < px.length
    · exact h1 j (by omega)
    · rw [List.getElem?_eq_none (by omega), List.getElem?_eq_none (by omega)]
  · rintro rfl
    exact ⟨fun _ _ => rfl, rfl⟩
theorem eqAt_path {A : Around} {s : Shared} {x y : Addr} {vx vy : List Value} {px py : List Atom} (hx : IsTup s.heap x vx.toArray) (hy : IsTup s.heap y vy.toArray) (ax : AtomsAre vx px) (ay : AtomsAre vy py) (hu : A.units < cLine) : EqAt A s (.ref x) (.ref y) (decide (px = py)) := by
  by_cases hxy : x = y
  · subst hxy
    obtain ⟨o, ho, _, n, hd⟩ := hx
    obtain ⟨o', ho', _, n', hd'⟩ := hy
    rw [ho] at ho'; cases ho'
    rw [hd] at hd'
    injection hd' with e1 e2
    have e3 : vx = vy := by simpa using e1
    subst e3
    rw [decide_eq_true (ax.inj ay)]
    exact EqAt.same _
  · have := RcAt.tuples hx hy hu (eqAt_atoms ax ay)
    rw [List.size_toArray, List.size_toArray, ax.len, ay.len, all_eq_paths] at this
    exact EqAt.of_refs hxy this
end Ez
end
section
example : True := by
  w_top off
  trivial
open PySem PySem.W PySem.Calls PyProof.Rows PySem.SeqAt
namespace Ez
/-- a sort of what is sorted: each asked pair is (k+1, k), each answer false -/
def runF {α : Type} (n : Nat) : KasT α → Option α
  | .ret a => some a
  | .ask i j k => if i = j + 1 ∧ i < n then runF n (k false) else none
theorem runF_ok {n : Nat} (h2 : 2 ≤ n) (h6 : n ≤ 6) : (runF n (kas_sort n)).map (·.toList) = some (List.range n) := by
  have : n = 2 ∨ n = 3 ∨ n = 4 ∨ n = 5 ∨ n = 6 := by omega
  rcases this with rfl | rfl | rfl | rfl | rfl <;> decide +kernel
theorem kasWp_runF {α : Type} {n : Nat} {cmp : Nat → Nat → (Bool → Shared → Prop) → Shared → Prop} {G : Shared → Prop}
    (hc : ∀ k C s, k + 1 < n → G s → (∀ s', G s' → C false s') → cmp (k + 1) k C s) : ∀ (t : KasT α) (p : α), runF n t = some p → ∀ (s : Shared) (Q : α → Shared → Prop), G s → (∀ s', G s' → Q p s') → t.kasWp cmp Q s
  | .ret a, p, h, s, Q, g, hq => by
    cases h
    exact hq s g
  | .ask i j k, p, h, s, Q, g, hq => by
    unfold runF at h
    by_cases hij : i = j + 1 ∧ i < n
    · rw [if_pos hij] at h
      obtain ⟨rfl, hlt⟩ := hij
      exact hc j _ s hlt g fun s' g' => kasWp_runF hc (k false) p h s' Q g' hq
    · rw [if_neg hij] at h; cases h
structure Errs.Lt (D : Errs) : Prop where
  d : ∀ i j, pathLt (D.kd i) (D.kd j) = !pathLe (D.kd j) (D.kd i)
  s : ∀ i j, pathLt (D.ks i) (D.ks j) = !pathLe (D.ks j) (D.ks i)
section
variable {w : World} {A : Around} {E : Value → Shared → Prop} {s : Shared} {h₀ : Heap} {L l : Addr} {m : Str → Option Value} {news : List (Addr × Obj)} {D : Errs}
theorem sorted_small {prog : Program} {vs : List Value} {Q : Value → Shared → Prop} (hl : s.heap.IsList l vs.toArray) (h2 : vs.length < 2)
    (h : Q (.ref (s.heap.objs.size + 1)) { s with heap := sortedAll s.heap vs vs.toArray }) : wpAny (model prog w) A (call (.builtin "sorted") [.ref l]) Q E s := by
  refine Calls.call_function_entry kind_sorted plain_sorted entry_sorted (args_sorted1 _) ?_
  unfold Builtin.«sorted»
  refine wpAny_bind (m := checkCount "sorted" 1 1 _) (wpAny_pure ?_)
  refine wpAny_bind (collect_list hl ?_ (by rw [sizeLine_eq]; omega))
  refine wpAny_bind (wpAny_newList ?_ (by rw [sizeLine_eq]; omega))
  have hsz : ((s.heap.push (seqObj "list" #[] 0)).update s.heap.objs.size (Obj.mapSeq (· ++ vs.toArray))).objs.size = s.heap.objs.size + 1 := by
    rw [Heap.size_update, size_push']
  have hoL : (((s.heap.push (seqObj "list" #[] 0)).update s.heap.objs.size (Obj.mapSeq (· ++ vs.toArray))).push (seqObj "list" vs.toArray 0)).get? (s.heap.objs.size + 1) = some (seqObj "list" vs.toArray 0) := by
    rw [← hsz]; exact Heap.get?_push_size _ rfl
  show wpAny _ _ _ _ _ { s with heap := ((s.heap.push (seqObj "list" #[] 0)).update s.heap.objs.size (Obj.mapSeq (· ++ vs.toArray))).push (seqObj "list" vs.toArray 0) }
  rw [hsz]
  refine wpAny_bind (wpAny_holding (wpAny_call_entry slot_list_sort ⟨_, hoL, rfl⟩ entry_list_sort ?body (args_list_sort _)))
  case body =>
    have h' : Q (.ref (s.heap.objs.size + 1)) { s with heap := sortedHeap (((s.heap.push (seqObj "list" #[] 0)).update s.heap.objs.size (Obj.mapSeq (· ++ vs.toArray))).push (seqObj "list" vs.toArray 0)) (s.heap.objs.size + 1) vs vs.toArray } := h
    generalize ((s.heap.push (seqObj "list" #[] 0)).update s.heap.objs.size (Obj.mapSeq (· ++ vs.toArray))).push (seqObj "list" vs.toArray 0) = hp at hoL h'
    generalize s.heap.objs.size + 1 = a at hoL h'
    rw [list_sort_plain]
    have ha : a < hp.objs.size := Heap.lt_size hoL
    refine wpAny_bind (listItems_at hoL rfl ?_)
    refine wpAny_bind (listUpdate_at hoL rfl ?_ (by rw [List.size_toArray, sizeLine_eq]; omega) (Nat.zero_le _))
    obtain ⟨e1, ho1⟩ : ∃ e1, (hp.update a (Obj.mapSeq fun _ => #[])).get? a = some (seqObj "list" #[] e1) := ⟨_, get?_update_seq hoL (fun _ => #[])⟩
    refine wpAny_bind (seqEpoch_at ho1 rfl ?_)
    refine wpAny_bind (wpAny_newTuple ?_ (by show vs.length ≤ _; rw [sizeLine_eq]; omega))
    refine wpAny_bind (wpAny_newList ?_ (Nat.zero_le _))
    refine wpAny_holding ?_
    have ho6 : (((hp.update a (Obj.mapSeq fun _ => #[])).push (seqObj "tuple" vs.toArray 0)).push (seqObj "list" #[] 0)).get? a = some (seqObj "list" #[] e1) := Heap.get?_push_of_some _ (Heap.get?_push_of_some _ ho1)
    show wpAny _ _ _ _ _ { s with heap := ((hp.update a (Obj.mapSeq fun _ => #[])).push (seqObj "tuple" vs.toArray 0)).push (seqObj "list" #[] 0) }
    dsimp only
    have hn2 : vs.toArray.size < 2 := by rw [List.size_toArray]; exact h2
    rw [if_pos hn2, if_pos hn2]
    refine wpAny_bind (wpAny_pure ?_)
    rw [StateT.run_pure]
    refine wpAny_bind (wpAny_pure ?_)
    dsimp only
    have hout : (arrOf (SortSt.mk' general' (vs.toArray.zip vs.toArray) #[] 7 none)).map (·.2) = vs.toArray := by
      show (vs.toArray.zip vs.toArray).map (·.2) = vs.toArray
      apply Array.toList_inj.mp
      simp [List.map_snd_zip]
    rw [hout]
    refine wpAny_bind (seqEpoch_at ho6 rfl ?_)
    refine wpAny_bind (listUpdate_at ho6 rfl ?_ (Nat.zero_le _) (by rw [List.size_toArray, sizeLine_eq]; omega))
    simp only [bne_self_eq_false, Bool.false_eq_true, if_false]
    exact wpAny_pure ⟨_, rfl, wpAny_pure ⟨_, rfl, h'⟩⟩
theorem katTups_of {h : Heap} : ∀ (ts : List Addr) (is : List Nat), ts.length = is.length → (∀ (k t i : Nat), ts[k]? = some t → is[k]? = some i → h.get? t = some (tupO [.ref (D.dp i), .ref (D.sp i)])) → KatTups h (ts.map Value.ref) (is.map fun i => Value.ref (D.dp i))
  | [], [], _, _ => KatTups.nil
  | t :: ts, i :: is, hl, ht => KatTups.cons (ht 0 t i rfl rfl) rfl rfl rfl (katTups_of ts is (by simpa using hl) fun k t' i' h1 h2 => ht (k + 1) t' i' (by simpa using h1) (by simpa using h2))
theorem le_lt_d (LT : D.Lt) {i j : Nat} (h : D.le i j = true) (hne : D.kd j ≠ D.kd i) : pathLt (D.kd j) (D.kd i) = false := by
  unfold Errs.le keyLe Errs.key at h
  simp only at h
  rw [if_pos hne.symm] at h
  rw [LT.d, h]; rfl
theorem le_lt_s (LT : D.Lt) {i j : Nat} (h : D.le i j = true) (he : D.kd j = D.kd i) : pathLt (D.ks j) (D.ks i) = false := by
  unfold Errs.le keyLe Errs.key at h
  simp only at h
  rw [if_neg (by simp [he])] at h
  rw [LT.s, h]; rfl
theorem sorted_pairs {is : List Nat} {ts : List Addr} {Q : Value → Shared → Prop} (F : Fr h₀ L s.heap m) (N : News h₀ L s.heap news) (hl : s.heap.IsList l (ts.map Value.ref).toArray) (hlen : ts.length = is.length) (h6 : is.length ≤ 6)
    (ht : ∀ (k t i : Nat), ts[k]? = some t → is[k]? = some i → (t, tupO [.ref (D.dp i), .ref (D.sp i)]) ∈ news) (V : ∀ i ∈ is, ErrV D h₀ i) (hs : is.Pairwise fun i j => D.le i j = true) (O : D.Ok) (LT : D.Lt) (hU : A.units + 8 < cLine)
    (hQ : ∀ D' h' tk c, Fr h₀ L h' m → News h₀ L h' ((D', seqObj "list" (ts.map Value.ref).toArray c) :: news) → (∀ q ∈ news, q.1 < D') → Q (.ref D') { s with heap := h', toks := tk }) : wpAny (model Pg w) A (call (.builtin "sorted") [.ref l]) Q E s := by
  have hvl : (ts.map Value.ref).length = is.length := by rw [List.length_map, hlen]
  rcases Nat.lt_or_ge is.length 2 with h2 | h2
  · refine sorted_small hl (by rw [hvl]; exact h2) ?_
    obtain ⟨e, he⟩ := sortedAll_at s.heap (ts.map Value.ref) (ts.map Value.ref).toArray
    exact hQ _ _ s.toks e (F.kept fun _ _ => sortedAll_old) (N.kept_cons F (fun _ _ => sortedAll_old) (Nat.le_succ _) he) fun p hp => Nat.lt_succ_of_lt (Heap.lt_size (N p hp).1)
  · refine kat_sorted F N hl (by rw [hvl]; exact h2) (by rw [hvl]; omega) fun D' e1 h' F' N' hlt => ?_
    have hT : ∀ v ∈ is.map (fun i => Value.ref (D.dp i)), Looks (model Pg w) h' (typeOf v) (.type "tuple") := by
      intro v hv
      obtain ⟨i, hi, rfl⟩ := List.mem_map.mp hv
      obtain ⟨o, ho, hc, _⟩ := (V i hi).pd.tup
      have hh := F'.keep _ _ ho
      rw [← hc]
      exact (show Looks (model Pg w) h' (typeOf (.ref (D.dp i))) o.cls from (Looks.ld hh).andThen .now)
    refine kat_kind (T := .type "tuple") (katTups_of ts is hlen fun k t i h1 h2 => (N' _ (.tail _ (ht k t i h1 h2))).1) (by rw [List.length_map]; omega) hT rfl ?_
    rw [hvl]
    obtain ⟨p, hp, hpl⟩ : ∃ p, runF is.length (kas_sort is.length) = some p ∧ p.toList = List.range is.length := by
      have := runF_ok h2 h6
      cases q : runF is.length (kas_sort is.length) with
      | none => rw [q] at this; cases this
      | some p => rw [q] at this; exact ⟨p, rfl, Option.some.inj this⟩
    refine kasWp_runF (G := fun s' => ∃ h'' tk, s' = { s with heap := h'', toks := tk } ∧ Fr h₀ L h'' m ∧ News h₀ L h'' ((D', seqObj "list" #[] e1) :: news)) ?_ (kas_sort is.length) p hp _ _ ⟨h', _, rfl, F', N'⟩ ?_
    · rintro k C s' hk ⟨h'', tk, rfl, F2, N2⟩ hC
      have hts : k + 1 < ts.length := by omega
      have e1 : (ts.map Value.ref).getD (k + 1) Value.none = .ref (ts[k + 1]) := by simp [List.getD, hts]
      have e2 : (ts.map Value.ref).getD k Value.none = .ref (ts[k]) := by simp [List.getD, show k < ts.length by omega]
      unfold kas_ask
      rw [e1, e2]
      have m1 := N2 _ (.tail _ (ht (k + 1) ts[k + 1] is[k + 1] (List.getElem?_eq_getElem hts) (List.getElem?_eq_getElem hk)))
      have m2 := N2 _ (.tail _ (ht k ts[k] is[k] (List.getElem?_eq_getElem (by omega)) (List.getElem?_eq_getElem (by omega))))
      have hle : D.le is[k] is[k + 1] = true := List.pairwise_iff_getElem.mp hs k (k + 1) (by omega) hk (Nat.lt_succ_self k)
      have Va := V is[k + 1] (List.getElem_mem hk)
      have Vb := V is[k] (List.getElem_mem (by omega))
      generalize hia : is[k + 1] = ia at *
      generalize hib : is[k] = ib at *
      have keep := F2.keep
      have Pa := Va.pd.up (h' := h'') keep
      have Pb := Vb.pd.up (h' := h'') keep
      have Sa := Va.ps.up (h' := h'') keep
      have Sb := Vb.ps.up (h' := h'') keep
      refine kat_lt m1.1 rfl m2.1 rfl ?_
      show KatLex _ _ _ _ (decide (2 < 2)) _ [(.ref (D.dp ia), .ref (D.dp ib)), (.ref (D.sp ia), .ref (D.sp ib))] 0 _
      refine kat_cons (eqAt_path Pa.tup Pb.tup Pa.ats Pb.ats (by show A.units + 1 + 1 < _ ; omega) _ _ _ _ ?_)
      by_cases hd : D.kd ia = D.kd ib
      · rw [decide_eq_true hd]
        refine kat_yes (kat_cons (eqAt_path Sa.tup Sb.tup Sa.ats Sb.ats (by show A.units + 1 + 1 < _ ; omega) _ _ _ _ ?_))
        by_cases hks : D.ks ia = D.ks ib
        · rw [decide_eq_true hks]
          exact kat_yes (kat_nil (hC _ ⟨_, _, rfl, F2, N2⟩))
        · rw [decide_eq_false hks]
          refine kat_no (kat_one _ _ (lt_path Sa.tup Sb.tup Sa.ats Sb.ats (O.cs ia ib) (by show A.units + 1 + 1 < _ ; omega) ?_))
          rw [le_lt_s LT hle hd]
          exact hC _ ⟨_, _, rfl, F2, N2⟩
      · rw [decide_eq_false hd]
        refine kat_no (kat_one _ _ (lt_path Pa.tup Pb.tup Pa.ats Pb.ats (O.cd ia ib) (by show A.units + 1 + 1 < _ ; omega) ?_))
        rw [le_lt_d LT hle hd]
        exact hC _ ⟨_, _, rfl, F2, N2⟩
    · rintro s' ⟨h'', tk, rfl, F2, N2⟩
      refine KasFin.intro F2 N2 (.head fun p hp => Nat.ne_of_lt (hlt p hp)) fun h3 c F3 N3 => ?_
      have eout : (p.toList.map fun i => (ts.map Value.ref).getD i Value.none) = ts.map Value.ref := by
        rw [hpl, ← hvl]
        refine List.ext_getElem (by simp) fun j h1 h2 => ?_
        have : j < ts.length := by simpa using h2
        simp [List.getD, this]
      rw [eout] at N3
      exact hQ D' h3 tk c F3 N3 hlt
end
end Ez
end
section
example : True := by
  w_top off
  trivial
open PySem PySem.W PySem.Calls PyProof.Rows
namespace Ez
section
variable {prog : Program} {w : World} {A : Around} {h₀ : Heap} {L : Addr} {m : Str → Option Value} {env : Env} {ct elt : PySem.Expr} {x : Str} {scope : Scope} {cl : List (Str × Addr)} {s : Shared} {S : List (Addr × Obj) → Prop} {P : Nat → Value → Prop} {Fin : List Value → List (Addr × Obj) → Prop} {news : List (Addr × Obj)}
theorem compT_inv {n : Nat} (J : Nat → List Value → List (Addr × Obj) → Prop) (h0 : J 0 [] news)
    (turn : ∀ i ys nw v I oI C oC D m₂ h tk (E' : Value → Shared → Prop), i < n → J i ys nw → P i v → LCg.NsObj oC m₂ → m₂ x = some v → Fr h₀ L h m → News h₀ L h ((I, oI) :: (C, oC) :: (D, LCg.lst ys) :: nw) → LCg.Off3 I C D nw → ((@Ne Nat I C) ∧ (@Ne Nat I D) ∧ (@Ne Nat C D)) →
      wpAny (model prog w) A (isTrue ct (compEnvC scope cl C env) (eval ct (compEnvC scope cl C env))) (fun ok s' => if ok = true then
        wpAny (model prog w) A (eval elt (compEnvC scope cl C env)) (LCg.CompEnd h₀ L m { s with heap := h, toks := tk } I oI C oC D (LCg.lst ys) S (fun y news' => J (i + 1) (ys ++ [y]) news')) E' s'
        else LCg.CompEnd h₀ L m { s with heap := h, toks := tk } I oI C oC D (LCg.lst ys) S (fun _ news' => J (i + 1) ys news') Value.none s') E' { s with heap := h, toks := tk })
    (fin : ∀ ys nw, J n ys nw → Fin ys nw) : LCt.CompRestT prog w A h₀ L m env ct elt x scope cl s S P Fin n 0 [] news := by
  have key : ∀ (j i : Nat) (ys : List Value) (nw : List (Addr × Obj)), i + j = n → J i ys nw → LCt.CompRestT prog w A h₀ L m env ct elt x scope cl s S P Fin j i ys nw := by
    intro j
    induction j with
    | zero =>
      intro i ys nw hi hJ
      have e : i = n := by omega
      subst e
      exact LCt.CompRestT.zero (fin ys nw hJ)
    | succ j ih =>
      intro i ys nw hi hJ
      refine LCt.CompRestT.succ ?_
      intro v I oI C oC D m₂ h tk E' hv hC hx F N off ne
      refine wpAny_mono (turn i ys nw v I oI C oC D m₂ h tk E' (by omega) hJ hv hC hx F N off ne) (fun ok s' hq => ?_) fun _ _ e => e
      cases ok with
      | true =>
        simp only [if_true] at hq ⊢
        refine wpAny_mono hq (fun y s₂ hq => ?_) fun _ _ e => e
        obtain ⟨h', tk', nw', e, F', N', off', hS, hJ'⟩ := hq
        exact ⟨h', tk', nw', e, F', N', off', hS, ih (i + 1) _ nw' (by omega) hJ'⟩
      | false =>
        simp only [Bool.false_eq_true, if_false] at hq ⊢
        obtain ⟨h', tk', nw', e, F', N', off', hS, hJ'⟩ := hq
        exact ⟨h', tk', nw', e, F', N', off', hS, ih (i + 1) _ nw' (by omega) hJ'⟩
  exact key n 0 [] news (by omega) h0
theorem comp_inv {n : Nat} (J : Nat → List Value → List (Addr × Obj) → Prop) (h0 : J 0 [] news)
    (turn : ∀ i ys nw v I oI C oC D m₂ h tk (E' : Value → Shared → Prop), i < n → J i ys nw → P i v → LCg.NsObj oC m₂ → m₂ x = some v → Fr h₀ L h m → News h₀ L h ((I, oI) :: (C, oC) :: (D, LCg.lst ys) :: nw) → LCg.Off3 I C D nw → ((@Ne Nat I C) ∧ (@Ne Nat I D) ∧ (@Ne Nat C D)) →
      wpAny (model prog w) A (eval elt (compEnvC scope cl C env)) (LCg.CompEnd h₀ L m { s with heap := h, toks := tk } I oI C oC D (LCg.lst ys) S (fun y news' => J (i + 1) (ys ++ [y]) news')) E' { s with heap := h, toks := tk })
    (fin : ∀ ys nw, J n ys nw → Fin ys nw) : LCg.CompRest prog w A h₀ L m env elt x scope cl s S P Fin n 0 [] news := by
  have key : ∀ (j i : Nat) (ys : List Value) (nw : List (Addr × Obj)), i + j = n → J i ys nw → LCg.CompRest prog w A h₀ L m env elt x scope cl s S P Fin j i ys nw := by
    intro j
    induction j with
    | zero =>
      intro i ys nw hi hJ
      have e : i = n := by omega
      subst e
      exact LCg.CompRest.zero (fin ys nw hJ)
    | succ j ih =>
      intro i ys nw hi hJ
      refine LCg.CompRest.succ ?_
      intro v I oI C oC D m₂ h tk E' hv hC hx F N off ne
      refine wpAny_mono (turn i ys nw v I oI C oC D m₂ h tk E' (by omega) hJ hv hC hx F N off ne) (fun y s₂ hq => ?_) fun _ _ e => e
      obtain ⟨h', tk', nw', e, F', N', off', hS, hJ'⟩ := hq
      exact ⟨h', tk', nw', e, F', N', off', hS, ih (i + 1) _ nw' (by omega) hJ'⟩
  exact key n 0 [] news (by omega) h0
end
end Ez
end
section
example : True := by
  w_top off
  trivial
open PySem PySem.W PySem.Calls PyProof.Rows PySem.SeqAt
namespace Ez
theorem ints_eq {a b : List Int} (p : a.Perm b) (ha : a.Pairwise (· ≤ ·)) (hb : b.Pairwise (· ≤ ·)) : a = b := List.Perm.eq_of_pairwise (fun a b _ _ h1 h2 => Int.le_antisymm h1 h2) ha hb p
theorem ne_lists_same {prog : Program} {w : World} {A : Around} {E : Value → Shared → Prop} {s : Shared} {x y : Addr} {vs us : List Value} {Q : Value → Shared → Prop} (hx : s.heap.IsList x vs.toArray) (hy : s.heap.IsList y us.toArray) (hl : vs.length = us.length) (hu : A.units < cLine)
    (he : ∀ j (h1 : j < vs.toArray.size) (h2 : j < us.toArray.size), EqAt A.in1 s vs.toArray[j] us.toArray[j] true) (h : Q (.bool false) s) : wpAny (model prog w) A (compareOp .NotEq (.ref x) (.ref y)) Q E s := by
  refine show wpAny (model prog w) A (richCompare .NotEq (.ref x) (.ref y)) Q E s from RcNeAt.lists hx hy (by simp [hl]) hu (e := fun _ => true) he prog w E Q ?_
  rw [show (List.range vs.toArray.size).all (fun _ => true) = true from List.all_eq_true.mpr fun _ _ => rfl]
  exact h
theorem ne_ints_same {prog : Program} {w : World} {A : Around} {E : Value → Shared → Prop} {s : Shared} {x y : Addr} {vs us : List Value} {ns : List Int} {Q : Value → Shared → Prop} (hx : s.heap.IsList x vs.toArray) (hy : s.heap.IsList y us.toArray) (iv : IntsAre vs ns) (iu : IntsAre us ns) (hu : A.units < cLine)
    (h : Q (.bool false) s) : wpAny (model prog w) A (compareOp .NotEq (.ref x) (.ref y)) Q E s := by
  refine ne_lists_same hx hy (iv.length.trans iu.length.symm) hu (fun j h1 h2 => ?_) h
  intro prog w E Q hQ
  have l1 := iv.length
  have l2 := iu.length
  rw [List.size_toArray] at h1 h2
  have hj : j < ns.length := by omega
  obtain ⟨t, e1⟩ := iv.get j ns[j] (by simp [hj])
  obtain ⟨u, e2⟩ := iu.get j ns[j] (by simp [hj])
  rw [List.getElem?_eq_getElem h1] at e1
  rw [List.getElem?_eq_getElem h2] at e2
  have e1' : vs.toArray[j] = .int ns[j] t := by simpa using e1
  have e2' : us.toArray[j] = .int ns[j] u := by simpa using e2
  rw [e1', e2']
  exact wpAny_eqBool_int (by simpa using hQ)
end Ez
end
section
example : True := by
  w_top off
  trivial
open PySem PySem.W PySem.Calls PyProof.Rows
namespace Ez
local macro_rules | `(tactic| ktr_rel) => `(tactic| first
  | assumption
  | exact KTup.app (by ktr_rel)
  | exact KTup.cons (by ktr_rel)
  | exact AtomsAre.take _ (by ktr_rel)
  | exact ok_take _ (by ktr_rel)
  | exact Or.inl (by assumption))
local macro_rules | `(tactic| k_inst) => `(tactic| exact InstAt.up (by assumption) (fun b o e => Fr.keep (by k_asm) b o e))
local macro_rules | `(tactic| k_inst) => `(tactic| exact InstAt.bare (by assumption))
local macro_rules | `(tactic| walk_at "getAttr ref") => `(tactic| (k_here; k_dflt (first
  | (refine' get_slot' ?k1 ?k2 ?k3 ?k4 ?k5 ?k6 ?k7 ?k8 ?k9 ?k10 ?k11 ?_; (case k1 => k_asm); (case k2 => k_asm); (case k3 => k_inst); (case k4 => k_is); (case k5 => k_is); (case k6 => k_is); (case k7 => k_is); (case k8 => k_is); (case k9 => k_is); (case k10 => k_slotget); (case k11 => k_handed); k_whole))))
local macro_rules | `(tactic| walk_at "call builtin:len") => `(tactic| (k_here; (with_reducible show wpAny _ _ (call (Value.builtin "len") [Value.ref _]) _ _ _); refine len_tuple (by is_tup) (by (simp only [List.size_toArray]; omega)) ?_))
example (w : World) (h : Heap) (X : (hd.heap_39 w.params).In h) (e : PySem.Challenge.rw_ez0022_01.prog = Pg) : True := by
  revert X e
  k_fill
  intros
  trivial
local macro_rules | `(tactic| walk_at "subscriptTail") => `(tactic| (k_here; (with_reducible show wpAny _ _ (subscriptTail _ (PySem.Expr.Slice none (some _) none _) (Value.ref _) (Value.ref _)) _ _ _); (with_unfolding_all refine slice_int (by k_asm) (by k_asm) (by ktr_rel) (by omega) (by omega) ?_); intro a' h' tl' F' N' K'; (try k_sweep)))
local macro_rules | `(tactic| walk_at "call builtin:min") => `(tactic| (k_here; (with_reducible show wpAny _ _ (call (Value.builtin "min") [Value.int _ _, Value.int _ _]) _ _ _); refine min_two' rfl (by k_asm) (by k_asm) ?_; intro h' tk' tv' F' N'; (try k_sweep)))
local macro_rules | `(tactic| walk_at "compareOp Eq ref ref") => `(tactic| (k_here; (with_reducible show wpAny _ _ (compareOp CmpOp.Eq (Value.ref _) (Value.ref _)) _ _ _); refine' kpath_eq ?k1 ?k2 ?k3 ?k4 ?k5 ?k6 ?k7 ?k8 ?k9 ?_; (case k1 => k_asm); (case k2 => k_asm); (case k3 => ktr_rel); (case k4 => ktr_rel); (case k5 => ktr_rel); (case k6 => ktr_rel); (case k7 => ktr_rel); (case k8 => ktr_rel); (case k9 => ktr_units); k_whole))
local macro_rules | `(tactic| walk_at "compareOp NotEq ref ref") => `(tactic| (k_here; (with_reducible show wpAny _ _ (compareOp CmpOp.NotEq (Value.ref _) (Value.ref _)) _ _ _); refine' kpath_ne ?k1 ?k2 ?k3 ?k4 ?k5 ?k6 ?k7 ?k8 ?k9 ?_; (case k1 => k_asm); (case k2 => k_asm); (case k3 => ktr_rel); (case k4 => ktr_rel); (case k5 => ktr_rel); (case k6 => ktr_rel); (case k7 => ktr_rel); (case k8 => ktr_rel); (case k9 => ktr_units); k_whole))
local macro_rules | `(tactic| walk_at "getAttr ref") => `(tactic| (k_here; k_dflt (refine' get_own ?k1 ?k2 ?k3 ?k4 ?k5 ?k6 ?k7 ?k8 ?k9 ?_; (case k1 => k_asm); (case k2 => k_asm); (case k3 => k_inst); (case k4 => k_is); (case k5 => k_is); (case k6 => k_is); (case k7 => k_is); (case k8 => assumption); (case k9 => k_handed); k_whole)))
local macro_rules | `(tactic| walk_at "getAttrBy ref") => `(tactic| (k_here; k_dflt (refine' kbm_ownBy ?k1 ?k2 ?k3 ?k4 ?k5 ?k6 ?k7 ?k8 ?k9 ?_; (case k1 => k_asm); (case k2 => k_asm); (case k3 => k_inst); (case k4 => k_is); (case k5 => k_is); (case k6 => k_is); (case k7 => k_is); (case k8 => assumption); (case k9 => k_handed); k_whole)))
local macro_rules | `(tactic| walk_at $s:str) => `(tactic| k_extra $s)
def nearL (key : Nat → List Atom) (p : List Atom) (n : Nat) : List Int := ((List.range n).filter fun a => decide ((key a).take p.length = p)).map fun a : Nat => ((a : Nat) : Int)
theorem nearL_succ {key : Nat → List Atom} {p : List Atom} {n : Nat} : nearL key p (n + 1) = nearL key p n ++ (if (key n).take p.length = p then [(n : Int)] else []) := by
  unfold nearL
  rw [List.range_succ, List.filter_append, List.map_append]
  congr 1
  by_cases h : (key n).take p.length = p <;> simp [h]
theorem errs_no {key : Nat → List Atom} {D : Errs} {N : List Atom → Option NRec} {S : List Nat} {p : List Atom} (IV : Inv D key N S []) (hS : S.Perm (List.range 6)) (h : N p = none) : ([] : List Nat).Perm (S.filter fun i => decide (key i = p)) := by
  refine List.Perm.of_eq (List.filter_eq_nil_iff.mpr fun i hi z => ?_).symm
  have := (IV.dom p).mpr (.inl ⟨i, hi, by rw [of_decide_eq_true z]; exact List.prefix_rfl⟩)
  rw [h] at this; cases this
def nearN (key : Nat → List Atom) (p : List Atom) : List Nat := (List.range 6).filter fun a => decide ((key a).take p.length = p)
def exactL (key : Nat → List Atom) (p : List Atom) (n : Nat) : List Int := (((nearN key p).take n).filter fun a => decide (key a = p)).map fun a : Nat => ((a : Nat) : Int)
theorem exactL_succ {key : Nat → List Atom} {p : List Atom} {n k : Nat} (h : (nearN key p)[n]? = some k) : exactL key p (n + 1) = exactL key p n ++ (if key k = p then [(k : Int)] else []) := by
  unfold exactL
  rw [List.take_add_one, h, List.filter_append, List.map_append]
  congr 1
  by_cases h : key k = p <;> simp [h]
theorem nearL_N {key : Nat → List Atom} {p : List Atom} : nearL key p 6 = (nearN key p).map fun a : Nat => ((a : Nat) : Int) := rfl
theorem exact_eq {key : Nat → List Atom} {p : List Atom} {S errs : List Nat} {ns : List Int} (hS : S.Perm (List.range 6)) (he : errs.Perm (S.filter fun i => decide (key i = p))) (hn : ns.Perm (errs.map fun a : Nat => ((a : Nat) : Int))) (hp : ns.Pairwise (· ≤ ·)) :
    ns = exactL key p (nearN key p).length := by
  refine ints_eq (hn.trans ?_) hp ?_
  · unfold exactL
    rw [List.take_of_length_le (Nat.le_refl _)]
    refine List.Perm.map _ (he.trans ((hS.filter _).trans ?_))
    unfold nearN
    rw [List.filter_filter]
    refine List.Perm.of_eq (List.filter_congr fun a _ => ?_)
    by_cases h : key a = p
    · subst h; simp
    · simp [h]
  · unfold exactL
    rw [List.take_of_length_le (Nat.le_refl _)]
    have : (List.range 6).Pairwise (· ≤ ·) := by decide
    have h2 := (this.filter fun a => decide ((key a).take p.length = p)).filter fun a => decide (key a = p)
    refine List.pairwise_map.mpr (h2.imp fun h => ?_)
    omega
structure PCls (w : World) (C : Addr) : Prop where
  g : plainGet (hd.heap_39 w.params) C "path" = true
  a : findIn (hd.heap_39 w.params) (.ref C) "path" = some (some (.ref 244))
  s : slotIn (hd.heap_39 w.params) 244 C = some 3
theorem pcls_of (w : World) {C : Addr} (h : C = 240 ∨ C = 303 ∨ C = 315) : PCls w C := by
  rcases h with rfl | rfl | rfl <;> exact ⟨by k_is, by k_is, by k_is⟩
theorem near_of {key : Nat → List Atom} {D : Errs} {N : List Atom → Option NRec} {S : List Nat} {p : List Atom} (IV : Inv D key N S []) (hS : S.Perm (List.range 6)) : (N p).isSome = true ↔ (nearN key p ≠ [] ∨ p = []) := by
  rw [IV.dom p]
  constructor
  · rintro (⟨i, hi, hp⟩ | hp)
    · left
      intro z
      have hi6 : i ∈ List.range 6 := hS.mem_iff.mp hi
      have : i ∈ nearN key p := List.mem_filter.mpr ⟨hi6, by simpa using (List.prefix_iff_eq_take.mp hp).symm⟩
      rw [z] at this; cases this
    · exact .inr (List.prefix_nil.mp hp)
  · rintro (h | h)
    · left
      obtain ⟨i, hi⟩ := List.exists_mem_of_ne_nil _ h
      obtain ⟨h1, h2⟩ := List.mem_filter.mp hi
      exact ⟨i, hS.mem_iff.mpr h1, List.prefix_iff_eq_take.mpr (by simpa using (of_decide_eq_true h2).symm)⟩
    · exact .inr (by rw [h]; exact List.nil_prefix)
theorem near_ne {key : Nat → List Atom} {D : Errs} {N : List Atom → Option NRec} {S : List Nat} {p : List Atom} {r : NRec} (IV : Inv D key N S []) (hS : S.Perm (List.range 6)) (h : N p = Option.some r) : 0 < (nearN key p).length := by
  rcases (near_of IV hS).mp (by rw [h]; rfl) with z | z
  · exact List.length_pos_iff.mpr z
  · subst z
    unfold nearN
    simp
    exact ⟨0, by decide⟩
theorem near_no {key : Nat → List Atom} {D : Errs} {N : List Atom → Option NRec} {S : List Nat} {p : List Atom} (IV : Inv D key N S []) (hS : S.Perm (List.range 6)) (h : N p = none) : nearN key p = [] ∧ p ≠ [] := by
  have := fun z => (near_of (p := p) IV hS).mpr z
  rw [h] at this
  constructor
  · rcases Classical.em (nearN key p = []) with z | z
    · exact z
    · cases this (.inl z)
  · intro z; cases this (.inr z)
set_option maxRecDepth 100000 in
set_option maxHeartbeats 8000000 in
theorem c_fits {w : World} {mean : ExcName → Option Value} {mg mb : Str → Option Value} {hT : Heap} {D : Errs} {C rt tb pl : Addr} {N : List Atom → Option NRec} {led : Led} {S : List Nat} {tq : List Addr} {dp un : Nat} {outer : List Env} {s : Shared} {R : Result → Shared → Prop}
   (X : (hd.heap_39 w.params).In hT) (T : Top hd.view_39 L0 mean mg mb hT) (SB : Sub hT s.heap) (LV : Live s.heap led) (TL : TreeL w D hT C rt N led) (IV : Inv D (keyOf C D) N S []) (hS : S.Perm (List.range 6))
   (V : ∀ i, i < 6 → ErrV D hT i) (O : D.Ok) (LT : D.Lt)
   (htb : hT.IsList tb (tq.map Value.ref).toArray) (htq : ∀ q ∈ tq, ∃ vs p, PathAt hT q vs p ∧ p.length ≤ 8) (hpl : hT.IsList pl ((List.range 6).map fun i => Value.ref (adOf C D i)).toArray)
   (hA : dp < 500) (hU : un < 5000)
   (hR : ∀ h' tk, Sub s.heap h' → R (.ok (.ret (.bool true))) { s with heap := h', toks := tk }) :
   codeAny (model Pg w) (AT dp un outer) (.call (.ref 345) ⟨[.ref rt, .ref tb, .ref pl], []⟩) R s := by
  obtain ⟨r0, hr0, hr0n, hr0p⟩ := TL.root
  have FC := fcls_of w TL.isC
  (k_dflt (refine' enterC (binds := [(Str.ofString "tree", .ref rt), (Str.ofString "table", .ref tb), (Str.ofString "paths", .ref pl)]) X T SB [] ?hl ?ho ?hcd ?hroom ?hb ?hkind ?hnd ?_ ?c1 ?c2 ?c3; (case hl => intro p hp; cases hp); (case ho => k_is); (case hcd => k_is); (case hroom => simp only [recursionLimit]; omega); (case hb => exact BindsTo.of_eq rfl); (case hkind => rfl); (case hnd => decide +kernel); (case c1 => rfl); (case c2 => rfl); (case c3 => rfl))
   intro g L' h₁ tk₀ cells Sg G F Nw Y Xg Tg hltl
   k_cells Y
   (try simp only [List.cons_append, List.nil_append] at Nw)
   have up : Sub s.heap g := fun b o e => G.up b o e (by simp)
   have LVg : Live g led := fun e he => up _ _ (LV e he)
   have SR := (selfAt_live TL LVg hr0).inst
   rw [hr0n] at SR
   have F1 : Fr g L' h₁ (fun y => if y = Str.ofString "table" then some (.ref tb) else if y = Str.ofString "tree" then some (.ref rt) else none) := by exact F
   clear F
   (try dsimp only); (try k_fold)
   k_with_none
   k_with "exec For Name Name cons nil" => (refine For_turns (by assumption) ?_)
   k_with "pyIter ref" => (refine hold_on ?_)
   k_steps
   refine Hold.off ?_
   have Na := (by assumption : News g L' _ _)
   have Fa := (by assumption : Fr g L' _ _)
   have htbg : g.IsList tb (tq.map Value.ref).toArray := htb.at fun o e => Sg _ _ e
   have hplg : g.IsList pl ((List.range 6).map fun i => Value.ref (adOf C D i)).toArray := hpl.at fun o e => Sg _ _ e
   have htbL : L' ≠ tb := fun z => by
     obtain ⟨o, ho, _⟩ := htbg
     exact absurd (Nat.lt_of_lt_of_le (Heap.lt_size ho) Fa.above) (by rw [z]; exact Nat.lt_irrefl _)
   refine turns_list (vs := tq.map Value.ref) (fun n m l => (∀ z, (["path", "found", "node", "near", "both"] : List Str).contains z = false → m z = (if z = Str.ofString "table" then some (.ref tb) else if z = Str.ofString "tree" then some (.ref rt) else none)) ∧ ∃ oa ob, l = [(L' + 1 + 1, oa), (L' + 1, ob)] ∧ (∃ va, oa.data = .cell va) ∧ ob.data = .cell (some (.ref pl))) rfl (htbg.at fun o e => Fa.keep _ _ e) htbL Fa Na ⟨fun _ _ => rfl, _, _, rfl, ⟨_, by assumption⟩, by assumption⟩ ?hJ (.inl ⟨_, htbg.choose_spec.1⟩) ?turn ?done
   (case hJ => (rintro i m l ⟨_, oa, ob, rfl, ⟨va, hoa⟩, hob⟩ p hp; simp only [List.mem_cons, List.not_mem_nil, or_false] at hp; rcases hp with rfl | rfl; exact .inr ⟨_, hoa⟩; exact .inr ⟨_, hob⟩))
   (case turn => (
     rintro n v m₁ news₁ h tk I io hv ⟨hm, oa, ob, rfl, ⟨va, hoa⟩, hob⟩ F₁ N₁ hN hcl
     obtain ⟨q, hq, rfl⟩ : ∃ q, tq[n]? = some q ∧ Value.ref q = v := by
       rw [List.getElem?_map] at hv
       cases z : tq[n]? with
       | none => rw [z] at hv; cases hv
       | some j => rw [z] at hv; exact ⟨j, rfl, Option.some.inj hv⟩
     obtain ⟨vs, p, hqT, hpl8⟩ := htq q (List.mem_of_getElem? hq)
     have hqg := hqT.up Sg
     have n1 := NoItC.ne hN hcl N₁ (L' + 1 + 1, oa) (.head _)
     have n2 := NoItC.ne hN hcl N₁ (L' + 1, ob) (.tail _ (.head _))
     rw [split_S hm] at F₁
     have n3 : L' + 1 ≠ L' + 1 + 1 := Nat.ne_of_lt (Nat.lt_succ_self _)
     refine wpAny_assign_Name ?_
     k_dflt (refine storeX_C (c := L' + 1 + 1) F₁ N₁ (by rfl) (.tail n1.symm (.head (fun p hp => by rw [List.mem_singleton.mp hp]; exact n3))) hoa ?_)
     intro h2 oa2 F2 N2 hoa2
     clear F₁ N₁
     k_with_none
     k_with "getMethod ref" => (
      (with_reducible show wpAny _ _ (getMethod (Value.ref _) (Str.ofString "fetch_errors_from") _) _ _ _)
      refine method_inst (by assumption) Xg (InstAt.up SR (Fr.sub (by assumption))) FC.ge FC.ae (by k_is) (by rfl) ?_)
     k_with "call ref" => ((with_reducible show wpAny _ _ (call (Value.ref 279) _) _ _ _); refine hold_on ?_)
     k_steps
     refine Hold.off ?_
     have Fa := (by assumption : Fr g L' _ _)
     have Na := (by assumption : News g L' _ [(I, io), (L' + 1 + 1, oa2), (L' + 1, ob)])
     refine wpAny_call (codeAny_weaken (dp := dp + 1) (un := un + 3) rfl rfl (Nat.le_refl _) (Nat.le_refl _) (c_ferr X T (Sg.trans (Fr.sub Fa)) (fun e he => Fr.sub Fa _ _ (LVg e he)) TL (hqg.up (Fr.sub Fa)) hpl8 (by omega) (by omega) ?_))
     intro h3 tk3 el eld ep hs3 hel heldO hcase
     have F3 := frSub Fa hs3
     have N3 := newsSub Na hs3
     have fresh : ∀ a, _ → g.get? a = none ∧ a ≠ L' := fun a (ha : Heap.get? _ a = none) => by
       obtain ⟨oL, _, _, hL, _⟩ := Fa.ns
       refine ⟨?_, fun z => by rw [z, hL] at ha; cases ha⟩
       cases q : g.get? a with
       | none => rfl
       | some o => rw [Fa.keep _ _ q] at ha; cases ha
     clear Fa Na F2 N2
     rcases hcase with ⟨r, hNp, mel, meld⟩ | ⟨hNp, fel, feld, feled⟩
     · rw [hNp] at hel
       dsimp only [Option.map, Option.getD] at hel
       k_with_none
       k_with "getMethod ref" => (
        (with_reducible show wpAny _ _ (getMethod (Value.ref _) (Str.ofString "fetch_node_from") _) _ _ _)
        refine method_inst (by assumption) Xg (InstAt.up SR (Fr.sub (by assumption))) FC.g FC.a (by k_is) (by rfl) ?_)
       k_with "call ref" => (
        (with_reducible show wpAny _ _ (call (Value.ref 286) _) _ _ _)
        refine wpAny_call (codeAny_weaken (dp := dp + 1) (un := un + 3) rfl rfl (Nat.le_refl _) (Nat.le_refl _) (c_fnode X T (Sg.trans (Fr.sub (by assumption : Fr g L' _ _))) (fun e he => Fr.sub (by assumption : Fr g L' _ _) _ _ (LVg e he)) TL (hqg.up (Fr.sub (by assumption))) hpl8 (by omega) (by omega) ?_))
        intro h' tk' hs'
        rw [hNp]
        dsimp only [Option.map, Option.getD]
        have F' := frSub (by assumption) hs'
        have N' := newsSub (by assumption) hs')
       k_with "exec Assign cons ListComp" => (k_here; k_dflt (refine LCt.Assign_ListComp_T (F₀ := by k_asm) (by rfl) (by with_unfolding_all rfl) (by with_unfolding_all rfl) (by decide) (by rfl) (by decide) (by rfl) (by rfl) (by rfl) ?_))
       k_with "CompSrcT" => (refine hold_on ?_)
       k_steps
       refine Hold.off ?_
       have Na := (by assumption : News g L' _ [(I, io), (L' + 1 + 1, oa2), (L' + 1, ob)])
       have Fa := (by assumption : Fr g L' _ _)
       refine LCt.CompSrcT.range (n := 6) rfl Fa Na (by assumption) (by decide) (by rfl) (Nat.le_of_ble_eq_true rfl) ?_
       intro gx
       clear Na Fa
       refine compT_inv (fun i ys nw => nw = [(I, io), (L' + 1 + 1, oa2), (L' + 1, ob)] ∧ IntsAre ys (nearL (keyOf C D) p i)) ⟨rfl, .nil⟩ ?tn ?fn
       (case tn => (
         rintro i ys nw v I2 oI2 C2 oC2 D2 m2 hh tk E' hi ⟨rfl, hys⟩ ⟨t, rfl⟩ hC hx F5 N5 off5 ne5
         have hVi := (V i hi).path C
         have hai := hVi.1.up Sg
         have htai := hai.tup
         have hali := hai.ats.len
         have hai8 := hVi.2
         have hvsl := hqg.ats.len
         have hi0 : ((0 : Int) + (i : Int)).toNat = i := by omega
         have hxp : ((List.range 6).map fun i => Value.ref (adOf C D i))[((0 : Int) + (i : Int)).toNat]? = some (.ref (adOf C D i)) := by rw [hi0, List.getElem?_map, List.getElem?_range hi]; rfl
         k_with_none
         k_with "subscriptTail" => (
          (with_reducible show wpAny _ _ (subscriptTail (PySem.Expr.Subscript _ _ _) (PySem.Expr.Slice none (some _) none _) (Value.ref _) (Value.ref _)) _ _ _)
          k_dflt (refine kba_turn (value' := PySem.Expr.Name (PySem.Str.ofString "_") ⟨0, 0, 0, 0⟩) (fun _ => rfl) ?_))
         k_with "subscriptTail" => (
          (with_reducible show wpAny _ _ (subscriptTail (PySem.Expr.Name _ _) (PySem.Expr.Slice none (some _) none _) (Value.ref _) (Value.ref _)) _ _ _)
          (with_unfolding_all refine slice_int (by k_asm) (by k_asm) (.inl htai) (by omega) (by omega) ?_)
          intro a' h' tl' F' N' K'
          have tupa := K'.tup F' N'
          have N'' := News.right N'
          clear N' K')
         k_with "subscriptTail" => (
          (with_reducible show wpAny _ _ (subscriptTail _ _ (Value.ref _) (Value.int _ _)) _ _ _)
          (with_unfolding_all refine item_listL (Heap.IsList.at hplg (fun o e => Fr.keep (by assumption) _ _ e)) (by omega) (by omega) hxp ?_))
         k_with "call builtin:len" => ((with_reducible show wpAny _ _ (call (Value.builtin "len") [Value.ref _]) _ _ _); refine len_tuple (IsTup.keeps hqg.tup (Fr.sub (by assumption))) (by (simp only [List.size_toArray]; omega)) ?_)
         k_with "compareOp Eq ref ref" => (
          (with_reducible show wpAny _ _ (compareOp CmpOp.Eq (Value.ref _) (Value.ref _)) _ _ _)
          refine path_eq ⟨tupa, hai.ats.take _, ok_take _ hai.ok⟩ (hqg.up (Fr.sub (by k_asm))) (by ktr_units) ?_)
         k_with "CompEnd" => (refine hold_on ?_)
         k_steps
         · refine Hold.off ?_
           rename List.take _ (keyOf C D i) = p => hq
           have hq' : (keyOf C D i).take p.length = p := by rw [← hvsl]; simpa using hq
           exact LCg.CompEnd.intro (by assumption) (by assumption) [(I, io), (L' + 1 + 1, oa2), (L' + 1, ob)] (fun p hp => hp) off5 trivial ⟨rfl, by rw [nearL_succ, if_pos hq']; exact hys.append (by rw [show ((0 : Int) + (i : Int)) = ((i : Nat) : Int) by omega]; exact .cons _ _ .nil)⟩
         · refine Hold.off ?_
           rename ¬ List.take _ (keyOf C D i) = p => hq
           have hq' : ¬ (keyOf C D i).take p.length = p := by rw [← hvsl]; simpa using hq
           exact LCg.CompEnd.intro (by assumption) (by assumption) [(I, io), (L' + 1 + 1, oa2), (L' + 1, ob)] (fun p hp => hp) off5 trivial ⟨rfl, by rw [nearL_succ, if_neg hq', List.append_nil]; exact hys⟩))
       (case fn => (
         rintro ysN nw ⟨rfl, hysN⟩ D3 h4 tk4 F6 N6 off6
         k_with_none
         k_with "eval ListComp" => (
          (with_reducible show wpAny _ _ (eval (PySem.Expr.ListComp _ [⟨_, _, [], _⟩] _ _) _) _ _ _)
          k_here; k_dflt (refine ListComp_E (F₀ := by k_asm) (by with_unfolding_all rfl) (by decide) (by rfl) (by decide) (by rfl) ?_))
         k_with "ElSrc" => (refine hold_on ?_)
         k_steps
         refine Hold.off ?_
         have Na := (by assumption : News g L' _ [(D3, LCg.lst ysN), (I, io), (L' + 1 + 1, oa2), (L' + 1, ob)])
         have Fa := (by assumption : Fr g L' _ _)
         have hel6 : r.errs.length ≤ 6 := by have := IV.len hNp; have := hS.length_eq; simp at this; omega
         have hej : ∀ (i : Nat) (v : Value), (D.refs r.errs).toArray[i]? = some v → ∃ j, r.errs[i]? = some j ∧ v = .ref (D.ea j) ∧ j < 6 := by
           intro i v hv
           have hv' : (r.errs.map fun i => Value.ref (D.ea i))[i]? = some v := by simpa [Errs.refs] using hv
           rw [List.getElem?_map] at hv'
           cases z : r.errs[i]? with
           | none => rw [z] at hv'; cases hv'
           | some j =>
             rw [z] at hv'
             refine ⟨j, rfl, (Option.some.inj hv').symm, ?_⟩
             have := hS.mem_iff.mp (IV.mem hNp (List.mem_of_getElem? z))
             simpa using this
         have hrl : (D.refs r.errs).length = r.errs.length := by simp [Errs.refs]
         have hra : (D.refs r.errs).toArray.size = r.errs.length := by rw [List.size_toArray, hrl]
         refine ⟨el, D.refs r.errs, ep, eld, _, rfl, rfl, Fa, Na, Xg, .inl ⟨_, _, LVg _ mel, rfl⟩, Fa.keep _ _ (LVg _ mel), Fa.keep _ _ (LVg _ meld), by rw [hrl, sizeLine_eq]; omega, ?_⟩
         rintro s2 ⟨gx, rfl⟩
         rw [hra]
         refine comp_inv (fun i ys nw => nw = [(D3, LCg.lst ysN), (I, io), (L' + 1 + 1, oa2), (L' + 1, ob)] ∧ IntsAre ys ((r.errs.take i).map fun a : Nat => ((a : Nat) : Int))) ⟨rfl, .nil⟩ ?t2 ?f2
         (case t2 => (
           rintro i ys nw v I2 oI2 C2 oC2 D2 m2 hh tk E' hi ⟨rfl, hys⟩ hv hC hx F5 N5 off5 ne5
           obtain ⟨j, hj, rfl, hj6⟩ := hej i v hv
           have Jo := ((V j hj6).obj.up Sg).inst
           have gv := (V j hj6).obj.gv
           k_with_none
           k_with "CompEnd" => (refine hold_on ?_)
           k_steps
           refine Hold.off ?_
           exact LCg.CompEnd.intro (by assumption) (by assumption) [(D3, LCg.lst ysN), (I, io), (L' + 1 + 1, oa2), (L' + 1, ob)] (fun p hp => hp) off5 (.inl ⟨_, _, LVg _ mel, rfl⟩) ⟨rfl, by rw [List.take_add_one, hj, List.map_append]; exact hys.append (.cons _ _ .nil)⟩))
         (case f2 => (
           rintro ysV nw ⟨rfl, hysV⟩ D4 h5 tk5 F7 N7 off7
           rw [List.take_of_length_le (Nat.le_refl _)] at hysV
           k_with_none
           k_with "eval ListComp" => (k_here; k_dflt (refine LCt.ListComp_T (F₀ := by k_asm) (by with_unfolding_all rfl) (by decide) (by rfl) (by decide) (by rfl) ?_))
           k_with "CompSrcT" => (refine hold_on ?_)
           k_with "call builtin:sorted" => (refine hold_on ?_)
           k_steps
           refine Hold.off ?_
           have Na := (by assumption : News g L' _ [(D4, LCg.lst ysV), (D3, LCg.lst ysN), (I, io), (L' + 1 + 1, oa2), (L' + 1, ob)])
           have Fa := (by assumption : Fr g L' _ _)
           refine kso_sorted Fa Na ⟨_, (Na _ (.head _)).1, rfl, _, rfl⟩ hysV (by rw [List.length_map]; omega) ?_
           intro D5 vs5 ns5 c5 h6 F8 N8 l8 i8 len8 p8 o8 _
           have hns := exact_eq (key := keyOf C D) hS (IV.errs p r hNp) p8 o8
           clear Na Fa
           k_with_none
           k_with "eval ListComp" => (k_here; k_dflt (refine LCt.ListComp_T (F₀ := by k_asm) (by with_unfolding_all rfl) (by decide) (by rfl) (by decide) (by rfl) ?_))
           k_with "CompSrcT" => (refine hold_on ?_)
           k_steps
           refine Hold.off ?_
           have Nb := (by assumption : News g L' _ [(D5, PySem.W.listOf vs5.toArray c5), (D4, LCg.lst ysV), (D3, LCg.lst ysN), (I, io), (L' + 1 + 1, oa2), (L' + 1, ob)])
           have Na : News g L' _ [(D5, PySem.W.listOf vs5.toArray c5), (D3, LCg.lst ysN), (I, io), (L' + 1 + 1, oa2), (L' + 1, ob)] := fun p hp => Nb p (by rcases List.mem_cons.mp hp with rfl | hp; exact .head _; exact .tail _ (.tail _ hp))
           have Fa := (by assumption : Fr g L' _ _)
           have hysl : ysN.length = (nearN (keyOf C D) p).length := by rw [hysN.length, nearL_N, List.length_map]
           have hnl : (nearN (keyOf C D) p).length ≤ 6 := Nat.le_trans (List.length_filter_le _ _) (by simp)
           have hyk : ∀ (i : Nat) (v : Value), ysN.toArray[i]? = some v → ∃ k t, (nearN (keyOf C D) p)[i]? = some k ∧ v = .int ((k : Nat) : Int) t ∧ k < 6 := by
             intro i v hv
             obtain ⟨a, t, e, ha⟩ := IntsAre.at hysN i v (by simpa using hv)
             rw [nearL_N, List.getElem?_map] at ha
             cases z : (nearN (keyOf C D) p)[i]? with
             | none => rw [z] at ha; cases ha
             | some k =>
               rw [z] at ha
               obtain rfl := Option.some.inj ha
               exact ⟨k, t, rfl, e, List.mem_range.mp (List.mem_filter.mp (List.mem_of_getElem? z)).1⟩
           refine LCt.CompSrcT.ledger (its := ysN.toArray) rfl Fa Na (.tail _ (.head _)) (by rw [List.size_toArray, hysl, sizeLine_eq]; omega) ?_
           intro gx
           clear Na Fa Nb
           rw [show ysN.toArray.size = (nearN (keyOf C D) p).length by rw [List.size_toArray, hysl]]
           refine compT_inv (fun i ys nw => nw = [(D5, PySem.W.listOf vs5.toArray c5), (D3, LCg.lst ysN), (I, io), (L' + 1 + 1, oa2), (L' + 1, ob)] ∧ IntsAre ys (exactL (keyOf C D) p i)) ⟨rfl, .nil⟩ ?t3 ?f3
           (case t3 => (
             rintro i ys nw v I2 oI2 C2 oC2 D2 m2 hh tk E' hi ⟨rfl, hys⟩ hv hC hx F5 N5 off5 ne5
             obtain ⟨k, t, hk, rfl, hk6⟩ := hyk i v hv
             have hVi := (V k hk6).path C
             have hai := hVi.1.up Sg
             have hi0 : ((k : Nat) : Int).toNat = k := by omega
             have hxp : ((List.range 6).map fun i => Value.ref (adOf C D i))[((k : Nat) : Int).toNat]? = some (.ref (adOf C D k)) := by rw [hi0, List.getElem?_map, List.getElem?_range hk6]; rfl
             k_with_none
             k_with "subscriptTail" => (
              (with_reducible show wpAny _ _ (subscriptTail _ _ (Value.ref _) (Value.int _ _)) _ _ _)
              (with_unfolding_all refine item_listL (Heap.IsList.at hplg (fun o e => Fr.keep (by assumption) _ _ e)) (by omega) (by omega) hxp ?_))
             k_with "compareOp Eq ref ref" => (
              (with_reducible show wpAny _ _ (compareOp CmpOp.Eq (Value.ref _) (Value.ref _)) _ _ _)
              refine path_eq (hai.up (Fr.sub (by k_asm))) (hqg.up (Fr.sub (by k_asm))) (by ktr_units) ?_)
             k_with "CompEnd" => (refine hold_on ?_)
             k_steps
             · refine Hold.off ?_
               rename keyOf C D k = p => hq
               exact LCg.CompEnd.intro (by assumption) (by assumption) [(D5, PySem.W.listOf vs5.toArray c5), (D3, LCg.lst ysN), (I, io), (L' + 1 + 1, oa2), (L' + 1, ob)] (fun p hp => hp) off5 (.inr ⟨_, .tail _ (.head _), rfl, _, rfl⟩) ⟨rfl, by rw [exactL_succ hk, if_pos hq]; exact hys.append (.cons _ _ .nil)⟩
             · refine Hold.off ?_
               rename ¬ keyOf C D k = p => hq
               exact LCg.CompEnd.intro (by assumption) (by assumption) [(D5, PySem.W.listOf vs5.toArray c5), (D3, LCg.lst ysN), (I, io), (L' + 1 + 1, oa2), (L' + 1, ob)] (fun p hp => hp) off5 (.inr ⟨_, .tail _ (.head _), rfl, _, rfl⟩) ⟨rfl, by rw [exactL_succ hk, if_neg hq, List.append_nil]; exact hys⟩))
           (case f3 => (
             rintro ysE nw ⟨rfl, hysE⟩ D6 h7 tk7 F9 N9 off9
             rw [hns] at i8
             k_with_none
             k_with "compareOp NotEq ref ref" => (refine hold_on ?_)
             k_steps
             refine Hold.off ?_
             have Na := (by assumption : News g L' _ ((D6, LCg.lst ysE) :: _))
             refine ne_ints_same ⟨_, (Na _ (.tail _ (.head _))).1, rfl, _, rfl⟩ ⟨_, (Na _ (.head _)).1, rfl, _, rfl⟩ i8 hysE (by ktr_units) ?_
             clear Na
             k_with_none
             k_with "exec Assign cons ListComp" => (k_here; k_dflt (refine Assign_ListComp_E (F₀ := by k_asm) (by rfl) (by with_unfolding_all rfl) (by with_unfolding_all rfl) (by decide) (by rfl) (by decide) (by rfl) (by rfl) (by rfl) ?_))
             k_with "ElSrc" => (refine hold_on ?_)
             k_steps
             refine Hold.off ?_
             have Nb := (by assumption : News g L' _ ((D6, LCg.lst ysE) :: _))
             have Na : News g L' _ [(D3, LCg.lst ysN), (I, io), (L' + 1 + 1, oa2), (L' + 1, ob)] := fun p hp => Nb p (.tail _ (.tail _ hp))
             have Fa := (by assumption : Fr g L' _ _)
             refine ⟨el, D.refs r.errs, ep, eld, _, rfl, rfl, Fa, Na, Xg, .inl ⟨_, _, LVg _ mel, rfl⟩, Fa.keep _ _ (LVg _ mel), Fa.keep _ _ (LVg _ meld), by rw [hrl, sizeLine_eq]; omega, ?_⟩
             rintro s2 ⟨gx, rfl⟩
             clear Nb Na Fa
             rw [hra]
             refine comp_inv (fun i ys nw => ∃ ts : List Addr, ts.length = i ∧ ys = ts.map Value.ref ∧ (∀ (k t j : Nat), ts[k]? = some t → r.errs[k]? = some j → (t, tupO [.ref (D.dp j), .ref (D.sp j)]) ∈ nw) ∧ ∀ e ∈ [(D3, LCg.lst ysN), (I, io), (L' + 1 + 1, oa2), (L' + 1, ob)], e ∈ nw) ⟨[], rfl, rfl, fun k t j h => by simp at h, fun e he => he⟩ ?t4 ?f4
             (case t4 => (
               rintro i ys nw v I2 oI2 C2 oC2 D2 m2 hh tk E' hi ⟨ts, htl, rfl, hts, hbase⟩ hv hC hx F5 N5 off5 ne5
               obtain ⟨j, hj, rfl, hj6⟩ := hej i v hv
               have Jo := ((V j hj6).obj.up Sg).inst
               have gd := (V j hj6).obj.gd
               have gs := (V j hj6).obj.gs
               k_with_none
               k_with "CompEnd" => (refine hold_on ?_)
               k_steps
               refine Hold.off ?_
               rename News g L' _ _ => Nz
               rename _ ∧ _ ∧ _ ∧ AllLt _ _ => lz
               rename Addr => az
               obtain ⟨la, lb, lc, _⟩ := lz
               refine LCg.CompEnd.intro (by assumption) Nz ((az, tupO [.ref (D.dp j), .ref (D.sp j)]) :: nw) (fun p hp => ?_) ⟨⟨(Nat.ne_of_lt la).symm, (Nat.ne_of_lt lb).symm, (Nat.ne_of_lt lc).symm⟩, off5⟩ (.inl ⟨_, _, LVg _ mel, rfl⟩) ⟨ts ++ [az], by rw [List.length_append, htl]; rfl, by rw [List.map_append]; rfl, ?_, fun e he => .tail _ (hbase e he)⟩
               · rcases List.mem_cons.mp hp with rfl | hp
                 · exact .tail _ (.head _)
                 · rcases List.mem_cons.mp hp with rfl | hp
                   · exact .tail _ (.tail _ (.head _))
                   · rcases List.mem_cons.mp hp with rfl | hp
                     · exact .tail _ (.tail _ (.tail _ (.head _)))
                     · rcases List.mem_cons.mp hp with rfl | hp
                       · exact .head _
                       · exact .tail _ (.tail _ (.tail _ (.tail _ hp)))
               · intro k t j' h1 h2
                 rcases Nat.lt_or_ge k ts.length with hk | hk
                 · rw [List.getElem?_append_left hk] at h1
                   exact .tail _ (hts k t j' h1 h2)
                 · rw [List.getElem?_append_right hk] at h1
                   have hk0 : k - ts.length = 0 := by
                     rcases Nat.eq_zero_or_pos (k - ts.length) with z | z
                     · exact z
                     · rw [List.getElem?_eq_none (by simp; omega)] at h1; cases h1
                   rw [hk0] at h1
                   have hki : k = i := by omega
                   rw [hki, hj] at h2
                   cases h1; cases h2
                   exact .head _))
             (case f4 => (
               rintro ysB nw ⟨ts, htl, rfl, hts, hbase⟩ D7 h8 tk8 F10 N10 off10
               have Nx : News g L' h8 [(D7, LCg.lst (ts.map Value.ref)), (D3, LCg.lst ysN), (I, io), (L' + 1 + 1, oa2), (L' + 1, ob)] := fun p hp => by
                 rcases List.mem_cons.mp hp with rfl | hp
                 · exact N10 _ (.head _)
                 · exact N10 p (.tail _ (hbase p hp))
               have NF : Hold (News g L' h8 ((D7, LCg.lst (ts.map Value.ref)) :: nw)) := Hold.off N10
               clear N10
               k_with_none
               k_with "call builtin:sorted" => (refine hold_on ?_)
               k_steps
               refine Hold.off ?_
               have Fa := (by assumption : Fr g L' h8 _)
               replace NF := hold_on NF
               refine sorted_pairs (D := D) (is := r.errs) Fa NF ⟨_, (NF _ (.head _)).1, rfl, _, rfl⟩ htl hel6 (fun k t j h1 h2 => .tail _ (hts k t j h1 h2)) (fun j hj => (V j (by simpa using hS.mem_iff.mp (IV.mem hNp hj))).up Sg) (IV.sorted p r hNp) O LT (Nat.lt_of_le_of_lt (Nat.add_le_add_left (by decide : 8 ≤ 64) _) (by ktr_units)) ?_
               intro D8 h9 tk9 c9 F11 N11 l11
               have Nx2 : News g L' h9 [(D8, seqObj "list" (ts.map Value.ref).toArray c9), (D7, LCg.lst (ts.map Value.ref)), (D3, LCg.lst ysN), (I, io), (L' + 1 + 1, oa2), (L' + 1, ob)] := fun p hp => by
                 rcases List.mem_cons.mp hp with rfl | hp
                 · exact N11 _ (.head _)
                 · rcases List.mem_cons.mp hp with rfl | hp
                   · exact N11 _ (.tail _ (.head _))
                   · exact N11 p (.tail _ (.tail _ (hbase p hp)))
               clear NF N11 Nx Fa l11
               k_with_none
               k_with "compareOp NotEq ref ref" => (refine hold_on ?_)
               k_steps
               refine Hold.off ?_
               have Na := (by assumption : News g L' _ ((D8, seqObj "list" (ts.map Value.ref).toArray c9) :: _))
               refine ne_lists_same ⟨_, (Na _ (.tail _ (.head _))).1, rfl, _, rfl⟩ ⟨_, (Na _ (.head _)).1, rfl, _, rfl⟩ rfl (by ktr_units) (fun j h1 h2 => PySem.SeqAt.EqAt.same _) ?_
               clear Na
               k_with_none
               k_with "compareOp Eq ref ref" => (refine hold_on ?_)
               k_steps
               refine Hold.off ?_
               rename News g L' _ (_ :: (D8, _) :: _) => Na
               have hnz := near_ne IV hS hNp
               have PC := pcls_of w (cOf_ne TL.isC p)
               have CLp := cls_of w (cOf_ne TL.isC p)
               have SNg := (selfAt_live TL LVg hNp).inst
               have hptg : PathAt g r.pt r.vs p := by
                 obtain ⟨k1, k2, k3⟩ := TL.pt p r hNp
                 refine ⟨?_, k2, k3⟩
                 rcases k1 with k1 | k1
                 · exact IsTup.keeps k1 Sg
                 · exact ⟨_, LVg _ k1, rfl, _, rfl⟩
               refine PySem.SeqAt.eq_list_lengthsAt (items := ysN.toArray) (items2 := #[]) ⟨_, (Na _ (.tail _ (.tail _ (.tail _ (.head _))))).1, rfl, _, rfl⟩ ⟨_, (Na _ (.head _)).1, rfl, _, rfl⟩ (by rw [List.size_toArray, hysl]; exact bne_iff_ne.mpr (Nat.ne_of_gt hnz)) (by ktr_units) ?_
               have Ny := fun p hp => Na p (.tail _ (.tail _ (.tail _ (.tail _ hp))))
               k_with_none
               k_with "getAttr ref" => (
                (with_reducible show wpAny _ _ (getAttr (Value.ref _) (Str.ofString "path") _) _ _ _)
                refine get_slot' (by assumption) Xg (InstAt.up SNg (Fr.sub (by assumption))) PC.g CLp.ic PC.a (by k_is) (by k_is) PC.s rfl (by rfl) ?_)
               k_with "compareOp NotEq ref ref" => (refine hold_on ?_)
               k_steps
               refine Hold.off ?_
               refine path_ne (hptg.up (Fr.sub (by assumption))) (hqg.up (Fr.sub (by assumption))) (by ktr_units) ?_
               rw [decide_eq_true rfl]
               k_with_none
               k_steps
               all_goals (try dsimp only)
               exact TurnEnd.next' [(L' + 1 + 1, oa2), (L' + 1, ob)] (by assumption) (by assumption) (by k_mem) (fun p hp => by simp only [List.mem_cons, List.not_mem_nil, or_false] at hp; rcases hp with rfl | rfl <;> k_mem) ⟨(by intro z hz; simp at hz; simp [hz]), oa2, ob, rfl, ⟨_, hoa2⟩, hob⟩))))))))
     · rw [hNp] at hel
       dsimp only [Option.map, Option.getD] at hel
       have N3b : News g L' h3 [(I, io), (L' + 1 + 1, oa2), (L' + 1, ob), (el, elO (D.refs []) ep eld), (eld, dictOf [] 0)] := fun q hq => by
         simp only [List.mem_cons, List.not_mem_nil, or_false] at hq
         rcases hq with rfl | rfl | rfl | rfl | rfl
         · exact N3 _ (.head _)
         · exact N3 _ (.tail _ (.head _))
         · exact N3 _ (.tail _ (.tail _ (.head _)))
         · exact ⟨hel, (fresh _ fel).2, (fresh _ fel).1⟩
         · exact ⟨heldO, (fresh _ feld).2, (fresh _ feld).1⟩
       clear N3
       k_with_none
       k_with "getMethod ref" => (
        (with_reducible show wpAny _ _ (getMethod (Value.ref _) (Str.ofString "fetch_node_from") _) _ _ _)
        refine method_inst (by assumption) Xg (InstAt.up SR (Fr.sub (by assumption))) FC.g FC.a (by k_is) (by rfl) ?_)
       k_with "call ref" => (
        (with_reducible show wpAny _ _ (call (Value.ref 286) _) _ _ _)
        refine wpAny_call (codeAny_weaken (dp := dp + 1) (un := un + 3) rfl rfl (Nat.le_refl _) (Nat.le_refl _) (c_fnode X T (Sg.trans (Fr.sub (by assumption : Fr g L' _ _))) (fun e he => Fr.sub (by assumption : Fr g L' _ _) _ _ (LVg e he)) TL (hqg.up (Fr.sub (by assumption))) hpl8 (by omega) (by omega) ?_))
        intro h' tk' hs'
        rw [hNp]
        dsimp only [Option.map, Option.getD]
        have F' := frSub (by assumption) hs'
        have N' := newsSub (by assumption) hs')
       k_with "exec Assign cons ListComp" => (k_here; k_dflt (refine LCt.Assign_ListComp_T (F₀ := by k_asm) (by rfl) (by with_unfolding_all rfl) (by with_unfolding_all rfl) (by decide) (by rfl) (by decide) (by rfl) (by rfl) (by rfl) ?_))
       k_with "CompSrcT" => (refine hold_on ?_)
       k_steps
       refine Hold.off ?_
       have Na := (by assumption : News g L' _ [(I, io), (L' + 1 + 1, oa2), (L' + 1, ob), (el, elO (D.refs []) ep eld), (eld, dictOf [] 0)])
       have Fa := (by assumption : Fr g L' _ _)
       refine LCt.CompSrcT.range (n := 6) rfl Fa Na (by assumption) (by decide) (by rfl) (Nat.le_of_ble_eq_true rfl) ?_
       intro gx
       clear Na Fa
       refine compT_inv (fun i ys nw => nw = [(I, io), (L' + 1 + 1, oa2), (L' + 1, ob), (el, elO (D.refs []) ep eld), (eld, dictOf [] 0)] ∧ IntsAre ys (nearL (keyOf C D) p i)) ⟨rfl, .nil⟩ ?tn ?fn
       (case tn => (
         rintro i ys nw v I2 oI2 C2 oC2 D2 m2 hh tk E' hi ⟨rfl, hys⟩ ⟨t, rfl⟩ hC hx F5 N5 off5 ne5
         have hVi := (V i hi).path C
         have hai := hVi.1.up Sg
         have htai := hai.tup
         have hali := hai.ats.len
         have hai8 := hVi.2
         have hvsl := hqg.ats.len
         have hi0 : ((0 : Int) + (i : Int)).toNat = i := by omega
         have hxp : ((List.range 6).map fun i => Value.ref (adOf C D i))[((0 : Int) + (i : Int)).toNat]? = some (.ref (adOf C D i)) := by rw [hi0, List.getElem?_map, List.getElem?_range hi]; rfl
         k_with_none
         k_with "subscriptTail" => (
          (with_reducible show wpAny _ _ (subscriptTail (PySem.Expr.Subscript _ _ _) (PySem.Expr.Slice none (some _) none _) (Value.ref _) (Value.ref _)) _ _ _)
          k_dflt (refine kba_turn (value' := PySem.Expr.Name (PySem.Str.ofString "_") ⟨0, 0, 0, 0⟩) (fun _ => rfl) ?_))
         k_with "subscriptTail" => (
          (with_reducible show wpAny _ _ (subscriptTail (PySem.Expr.Name _ _) (PySem.Expr.Slice none (some _) none _) (Value.ref _) (Value.ref _)) _ _ _)
          (with_unfolding_all refine slice_int (by k_asm) (by k_asm) (.inl htai) (by omega) (by omega) ?_)
          intro a' h' tl' F' N' K'
          have tupa := K'.tup F' N'
          have N'' := News.right N'
          clear N' K')
         k_with "subscriptTail" => (
          (with_reducible show wpAny _ _ (subscriptTail _ _ (Value.ref _) (Value.int _ _)) _ _ _)
          (with_unfolding_all refine item_listL (Heap.IsList.at hplg (fun o e => Fr.keep (by assumption) _ _ e)) (by omega) (by omega) hxp ?_))
         k_with "call builtin:len" => ((with_reducible show wpAny _ _ (call (Value.builtin "len") [Value.ref _]) _ _ _); refine len_tuple (IsTup.keeps hqg.tup (Fr.sub (by assumption))) (by (simp only [List.size_toArray]; omega)) ?_)
         k_with "compareOp Eq ref ref" => (
          (with_reducible show wpAny _ _ (compareOp CmpOp.Eq (Value.ref _) (Value.ref _)) _ _ _)
          refine path_eq ⟨tupa, hai.ats.take _, ok_take _ hai.ok⟩ (hqg.up (Fr.sub (by k_asm))) (by ktr_units) ?_)
         k_with "CompEnd" => (refine hold_on ?_)
         k_steps
         · refine Hold.off ?_
           rename List.take _ (keyOf C D i) = p => hq
           have hq' : (keyOf C D i).take p.length = p := by rw [← hvsl]; simpa using hq
           exact LCg.CompEnd.intro (by assumption) (by assumption) [(I, io), (L' + 1 + 1, oa2), (L' + 1, ob), (el, elO (D.refs []) ep eld), (eld, dictOf [] 0)] (fun p hp => hp) off5 trivial ⟨rfl, by rw [nearL_succ, if_pos hq']; exact hys.append (by rw [show ((0 : Int) + (i : Int)) = ((i : Nat) : Int) by omega]; exact .cons _ _ .nil)⟩
         · refine Hold.off ?_
           rename ¬ List.take _ (keyOf C D i) = p => hq
           have hq' : ¬ (keyOf C D i).take p.length = p := by rw [← hvsl]; simpa using hq
           exact LCg.CompEnd.intro (by assumption) (by assumption) [(I, io), (L' + 1 + 1, oa2), (L' + 1, ob), (el, elO (D.refs []) ep eld), (eld, dictOf [] 0)] (fun p hp => hp) off5 trivial ⟨rfl, by rw [nearL_succ, if_neg hq', List.append_nil]; exact hys⟩))
       (case fn => (
         rintro ysN nw ⟨rfl, hysN⟩ D3 h4 tk4 F6 N6 off6
         k_with_none
         k_with "eval ListComp" => (
          (with_reducible show wpAny _ _ (eval (PySem.Expr.ListComp _ [⟨_, _, [], _⟩] _ _) _) _ _ _)
          k_here; k_dflt (refine ListComp_E (F₀ := by k_asm) (by with_unfolding_all rfl) (by decide) (by rfl) (by decide) (by rfl) ?_))
         k_with "ElSrc" => (refine hold_on ?_)
         k_steps
         refine Hold.off ?_
         have Na := (by assumption : News g L' _ [(D3, LCg.lst ysN), (I, io), (L' + 1 + 1, oa2), (L' + 1, ob), (el, elO (D.refs []) ep eld), (eld, dictOf [] 0)])
         have Fa := (by assumption : Fr g L' _ _)
         have hel6 : ([] : List Nat).length ≤ 6 := Nat.zero_le _
         have hnn := near_no IV hS hNp
         have hej : ∀ (i : Nat) (v : Value), (D.refs ([] : List Nat)).toArray[i]? = some v → ∃ j, ([] : List Nat)[i]? = some j ∧ v = .ref (D.ea j) ∧ j < 6 := by
           intro i v hv
           simp [Errs.refs] at hv
         have hrl : (D.refs ([] : List Nat)).length = ([] : List Nat).length := by simp [Errs.refs]
         have hra : (D.refs ([] : List Nat)).toArray.size = ([] : List Nat).length := by rw [List.size_toArray, hrl]
         refine ⟨el, D.refs ([] : List Nat), ep, eld, _, rfl, rfl, Fa, Na, Xg, .inr ⟨_, _, (by k_mem : (el, elO (D.refs []) ep eld) ∈ _), rfl⟩, (Na (el, elO (D.refs []) ep eld) (by k_mem)).1, (Na (eld, dictOf [] 0) (by k_mem)).1, by rw [hrl, sizeLine_eq]; omega, ?_⟩
         rintro s2 ⟨gx, rfl⟩
         rw [hra]
         refine comp_inv (fun i ys nw => nw = [(D3, LCg.lst ysN), (I, io), (L' + 1 + 1, oa2), (L' + 1, ob), (el, elO (D.refs []) ep eld), (eld, dictOf [] 0)] ∧ IntsAre ys ((([] : List Nat).take i).map fun a : Nat => ((a : Nat) : Int))) ⟨rfl, .nil⟩ ?t2 ?f2
         (case t2 => (
           rintro i ys nw v I2 oI2 C2 oC2 D2 m2 hh tk E' hi ⟨rfl, hys⟩ hv hC hx F5 N5 off5 ne5
           obtain ⟨j, hj, rfl, hj6⟩ := hej i v hv
           cases hj))
         (case f2 => (
           rintro ysV nw ⟨rfl, hysV⟩ D4 h5 tk5 F7 N7 off7
           rw [List.take_of_length_le (Nat.le_refl _)] at hysV
           k_with_none
           k_with "eval ListComp" => (k_here; k_dflt (refine LCt.ListComp_T (F₀ := by k_asm) (by with_unfolding_all rfl) (by decide) (by rfl) (by decide) (by rfl) ?_))
           k_with "CompSrcT" => (refine hold_on ?_)
           k_with "call builtin:sorted" => (refine hold_on ?_)
           k_steps
           refine Hold.off ?_
           have Na := (by assumption : News g L' _ [(D4, LCg.lst ysV), (D3, LCg.lst ysN), (I, io), (L' + 1 + 1, oa2), (L' + 1, ob), (el, elO (D.refs []) ep eld), (eld, dictOf [] 0)])
           have Fa := (by assumption : Fr g L' _ _)
           refine kso_sorted Fa Na ⟨_, (Na _ (.head _)).1, rfl, _, rfl⟩ hysV (by rw [List.length_map]; omega) ?_
           intro D5 vs5 ns5 c5 h6 F8 N8 l8 i8 len8 p8 o8 _
           have hns := exact_eq (key := keyOf C D) (errs := []) hS (errs_no IV hS hNp) p8 o8
           clear Na Fa
           k_with_none
           k_with "eval ListComp" => (k_here; k_dflt (refine LCt.ListComp_T (F₀ := by k_asm) (by with_unfolding_all rfl) (by decide) (by rfl) (by decide) (by rfl) ?_))
           k_with "CompSrcT" => (refine hold_on ?_)
           k_steps
           refine Hold.off ?_
           have Nb := (by assumption : News g L' _ [(D5, PySem.W.listOf vs5.toArray c5), (D4, LCg.lst ysV), (D3, LCg.lst ysN), (I, io), (L' + 1 + 1, oa2), (L' + 1, ob), (el, elO (D.refs []) ep eld), (eld, dictOf [] 0)])
           have Na : News g L' _ [(D5, PySem.W.listOf vs5.toArray c5), (D3, LCg.lst ysN), (I, io), (L' + 1 + 1, oa2), (L' + 1, ob), (el, elO (D.refs []) ep eld), (eld, dictOf [] 0)] := fun p hp => Nb p (by rcases List.mem_cons.mp hp with rfl | hp; exact .head _; exact .tail _ (.tail _ hp))
           have Fa := (by assumption : Fr g L' _ _)
           have hysl : ysN.length = (nearN (keyOf C D) p).length := by rw [hysN.length, nearL_N, List.length_map]
           have hnl : (nearN (keyOf C D) p).length ≤ 6 := Nat.le_trans (List.length_filter_le _ _) (by simp)
           have hyk : ∀ (i : Nat) (v : Value), ysN.toArray[i]? = some v → ∃ k t, (nearN (keyOf C D) p)[i]? = some k ∧ v = .int ((k : Nat) : Int) t ∧ k < 6 := by
             intro i v hv
             obtain ⟨a, t, e, ha⟩ := IntsAre.at hysN i v (by simpa using hv)
             rw [nearL_N, List.getElem?_map] at ha
             cases z : (nearN (keyOf C D) p)[i]? with
             | none => rw [z] at ha; cases ha
             | some k =>
               rw [z] at ha
               obtain rfl := Option.some.inj ha
               exact ⟨k, t, rfl, e, List.mem_range.mp (List.mem_filter.mp (List.mem_of_getElem? z)).1⟩
           refine LCt.CompSrcT.ledger (its := ysN.toArray) rfl Fa Na (.tail _ (.head _)) (by rw [List.size_toArray, hysl, sizeLine_eq]; omega) ?_
           intro gx
           clear Na Fa Nb
           rw [show ysN.toArray.size = (nearN (keyOf C D) p).length by rw [List.size_toArray, hysl]]
           refine compT_inv (fun i ys nw => nw = [(D5, PySem.W.listOf vs5.toArray c5), (D3, LCg.lst ysN), (I, io), (L' + 1 + 1, oa2), (L' + 1, ob), (el, elO (D.refs []) ep eld), (eld, dictOf [] 0)] ∧ IntsAre ys (exactL (keyOf C D) p i)) ⟨rfl, .nil⟩ ?t3 ?f3
           (case t3 => (
             rintro i ys nw v I2 oI2 C2 oC2 D2 m2 hh tk E' hi ⟨rfl, hys⟩ hv hC hx F5 N5 off5 ne5
             obtain ⟨k, t, hk, rfl, hk6⟩ := hyk i v hv
             have hVi := (V k hk6).path C
             have hai := hVi.1.up Sg
             have hi0 : ((k : Nat) : Int).toNat = k := by omega
             have hxp : ((List.range 6).map fun i => Value.ref (adOf C D i))[((k : Nat) : Int).toNat]? = some (.ref (adOf C D k)) := by rw [hi0, List.getElem?_map, List.getElem?_range hk6]; rfl
             k_with_none
             k_with "subscriptTail" => (
              (with_reducible show wpAny _ _ (subscriptTail _ _ (Value.ref _) (Value.int _ _)) _ _ _)
              (with_unfolding_all refine item_listL (Heap.IsList.at hplg (fun o e => Fr.keep (by assumption) _ _ e)) (by omega) (by omega) hxp ?_))
             k_with "compareOp Eq ref ref" => (
              (with_reducible show wpAny _ _ (compareOp CmpOp.Eq (Value.ref _) (Value.ref _)) _ _ _)
              refine path_eq (hai.up (Fr.sub (by k_asm))) (hqg.up (Fr.sub (by k_asm))) (by ktr_units) ?_)
             k_with "CompEnd" => (refine hold_on ?_)
             k_steps
             · refine Hold.off ?_
               rename keyOf C D k = p => hq
               exact LCg.CompEnd.intro (by assumption) (by assumption) [(D5, PySem.W.listOf vs5.toArray c5), (D3, LCg.lst ysN), (I, io), (L' + 1 + 1, oa2), (L' + 1, ob), (el, elO (D.refs []) ep eld), (eld, dictOf [] 0)] (fun p hp => hp) off5 (.inr ⟨_, .tail _ (.head _), rfl, _, rfl⟩) ⟨rfl, by rw [exactL_succ hk, if_pos hq]; exact hys.append (.cons _ _ .nil)⟩
             · refine Hold.off ?_
               rename ¬ keyOf C D k = p => hq
               exact LCg.CompEnd.intro (by assumption) (by assumption) [(D5, PySem.W.listOf vs5.toArray c5), (D3, LCg.lst ysN), (I, io), (L' + 1 + 1, oa2), (L' + 1, ob), (el, elO (D.refs []) ep eld), (eld, dictOf [] 0)] (fun p hp => hp) off5 (.inr ⟨_, .tail _ (.head _), rfl, _, rfl⟩) ⟨rfl, by rw [exactL_succ hk, if_neg hq, List.append_nil]; exact hys⟩))
           (case f3 => (
             rintro ysE nw ⟨rfl, hysE⟩ D6 h7 tk7 F9 N9 off9
             rw [hns] at i8
             k_with_none
             k_with "compareOp NotEq ref ref" => (refine hold_on ?_)
             k_steps
             refine Hold.off ?_
             have Na := (by assumption : News g L' _ ((D6, LCg.lst ysE) :: _))
             refine ne_ints_same ⟨_, (Na _ (.tail _ (.head _))).1, rfl, _, rfl⟩ ⟨_, (Na _ (.head _)).1, rfl, _, rfl⟩ i8 hysE (by ktr_units) ?_
             clear Na
             k_with_none
             k_with "exec Assign cons ListComp" => (k_here; k_dflt (refine Assign_ListComp_E (F₀ := by k_asm) (by rfl) (by with_unfolding_all rfl) (by with_unfolding_all rfl) (by decide) (by rfl) (by decide) (by rfl) (by rfl) (by rfl) ?_))
             k_with "ElSrc" => (refine hold_on ?_)
             k_steps
             refine Hold.off ?_
             have Nb := (by assumption : News g L' _ ((D6, LCg.lst ysE) :: _))
             have Na : News g L' _ [(D3, LCg.lst ysN), (I, io), (L' + 1 + 1, oa2), (L' + 1, ob), (el, elO (D.refs []) ep eld), (eld, dictOf [] 0)] := fun p hp => Nb p (.tail _ (.tail _ hp))
             have Fa := (by assumption : Fr g L' _ _)
             refine ⟨el, D.refs ([] : List Nat), ep, eld, _, rfl, rfl, Fa, Na, Xg, .inr ⟨_, _, (by k_mem : (el, elO (D.refs []) ep eld) ∈ _), rfl⟩, (Na (el, elO (D.refs []) ep eld) (by k_mem)).1, (Na (eld, dictOf [] 0) (by k_mem)).1, by rw [hrl, sizeLine_eq]; omega, ?_⟩
             rintro s2 ⟨gx, rfl⟩
             clear Nb Na Fa
             rw [hra]
             refine comp_inv (fun i ys nw => ∃ ts : List Addr, ts.length = i ∧ ys = ts.map Value.ref ∧ (∀ (k t j : Nat), ts[k]? = some t → ([] : List Nat)[k]? = some j → (t, tupO [.ref (D.dp j), .ref (D.sp j)]) ∈ nw) ∧ ∀ e ∈ [(D3, LCg.lst ysN), (I, io), (L' + 1 + 1, oa2), (L' + 1, ob), (el, elO (D.refs []) ep eld), (eld, dictOf [] 0)], e ∈ nw) ⟨[], rfl, rfl, fun k t j h => by simp at h, fun e he => he⟩ ?t4 ?f4
             (case t4 => (
               rintro i ys nw v I2 oI2 C2 oC2 D2 m2 hh tk E' hi ⟨ts, htl, rfl, hts, hbase⟩ hv hC hx F5 N5 off5 ne5
               obtain ⟨j, hj, rfl, hj6⟩ := hej i v hv
               cases hj))
             (case f4 => (
               rintro ysB nw ⟨ts, htl, rfl, hts, hbase⟩ D7 h8 tk8 F10 N10 off10
               have Nx : News g L' h8 [(D7, LCg.lst (ts.map Value.ref)), (D3, LCg.lst ysN), (I, io), (L' + 1 + 1, oa2), (L' + 1, ob), (el, elO (D.refs []) ep eld), (eld, dictOf [] 0)] := fun p hp => by
                 rcases List.mem_cons.mp hp with rfl | hp
                 · exact N10 _ (.head _)
                 · exact N10 p (.tail _ (hbase p hp))
               have NF : Hold (News g L' h8 ((D7, LCg.lst (ts.map Value.ref)) :: nw)) := Hold.off N10
               clear N10
               k_with_none
               k_with "call builtin:sorted" => (refine hold_on ?_)
               k_steps
               refine Hold.off ?_
               have Fa := (by assumption : Fr g L' h8 _)
               replace NF := hold_on NF
               refine sorted_pairs (D := D) (is := ([] : List Nat)) Fa NF ⟨_, (NF _ (.head _)).1, rfl, _, rfl⟩ htl hel6 (fun k t j h1 h2 => .tail _ (hts k t j h1 h2)) (fun j hj => nomatch hj) .nil O LT (Nat.lt_of_le_of_lt (Nat.add_le_add_left (by decide : 8 ≤ 64) _) (by ktr_units)) ?_
               intro D8 h9 tk9 c9 F11 N11 l11
               have Nx2 : News g L' h9 [(D8, seqObj "list" (ts.map Value.ref).toArray c9), (D7, LCg.lst (ts.map Value.ref)), (D3, LCg.lst ysN), (I, io), (L' + 1 + 1, oa2), (L' + 1, ob), (el, elO (D.refs []) ep eld), (eld, dictOf [] 0)] := fun p hp => by
                 rcases List.mem_cons.mp hp with rfl | hp
                 · exact N11 _ (.head _)
                 · rcases List.mem_cons.mp hp with rfl | hp
                   · exact N11 _ (.tail _ (.head _))
                   · exact N11 p (.tail _ (.tail _ (hbase p hp)))
               clear NF N11 Nx Fa l11
               k_with_none
               k_with "compareOp NotEq ref ref" => (refine hold_on ?_)
               k_steps
               refine Hold.off ?_
               have Na := (by assumption : News g L' _ ((D8, seqObj "list" (ts.map Value.ref).toArray c9) :: _))
               refine ne_lists_same ⟨_, (Na _ (.tail _ (.head _))).1, rfl, _, rfl⟩ ⟨_, (Na _ (.head _)).1, rfl, _, rfl⟩ rfl (by ktr_units) (fun j h1 h2 => PySem.SeqAt.EqAt.same _) ?_
               clear Na
               k_with_none
               k_with "compareOp Eq ref ref" => (refine hold_on ?_)
               k_steps
               refine Hold.off ?_
               rename News g L' _ (_ :: (D8, _) :: _) => Na
               have hysN0 : ysN = [] := List.length_eq_zero_iff.mp (by rw [hysl, hnn.1]; rfl)
               subst hysN0
               refine PySem.SeqAt.eq_listAt (items := #[]) (items2 := #[]) (e := fun _ => true) ⟨_, (Na _ (.tail _ (.tail _ (.tail _ (.head _))))).1, rfl, _, rfl⟩ ⟨_, (Na _ (.head _)).1, rfl, _, rfl⟩ rfl (by ktr_units) (fun j h1 h2 => by simp at h1) ?_
               rw [show (List.range (#[] : Array Value).size).all (fun _ => true) = true from rfl]
               have Ny := fun p hp => Na p (.tail _ (.tail _ (.tail _ (.tail _ hp))))
               k_with_none
               k_with "compareOp NotEq ref ref" => (refine hold_on ?_)
               k_steps
               refine Hold.off ?_
               rename News g L' _ (_ :: _ :: (D8, _) :: _) => Nw2
               refine path_ne (q := []) (vb := []) (hqg.up (Fr.sub (by assumption))) ⟨⟨_, (Nw2 _ (.head _)).1, rfl, _, rfl⟩, trivial, rfl⟩ (by ktr_units) ?_
               rw [decide_eq_false hnn.2]
               k_with_none
               k_steps
               all_goals (try dsimp only)
               exact TurnEnd.next' [(L' + 1 + 1, oa2), (L' + 1, ob)] (by assumption) (by assumption) (by k_mem) (fun p hp => by simp only [List.mem_cons, List.not_mem_nil, or_false] at hp; rcases hp with rfl | rfl <;> k_mem) ⟨(by intro z hz; simp at hz; simp [hz]), oa2, ob, rfl, ⟨_, hoa2⟩, hob⟩))))))))))
   (case done => (
     rintro m₁ news₁ h tk ⟨hm, oa, ob, rfl, ⟨va, hoa⟩, hob⟩ F₁ N₁
     rw [split_S hm] at F₁
     k_with_none
     k_steps
     all_goals (try dsimp only)
     exact hR _ _ (G.sub (by assumption)))))
end Ez
end
section
example : True := by
  w_top off
  trivial
open PySem PySem.W PySem.Calls PyProof.Rows
namespace Ez
local macro_rules | `(tactic| ktr_rel) => `(tactic| first
  | assumption
  | exact KTup.app (by ktr_rel)
  | exact KTup.cons (by ktr_rel)
  | exact AtomsAre.take _ (by ktr_rel)
  | exact ok_take _ (by ktr_rel)
  | exact Or.inl (by assumption))
local macro_rules | `(tactic| k_inst) => `(tactic| exact InstAt.up (by assumption) (fun b o e => Fr.keep (by k_asm) b o e))
local macro_rules | `(tactic| k_inst) => `(tactic| exact InstAt.bare (by assumption))
local macro_rules | `(tactic| walk_at "getAttr ref") => `(tactic| (k_here; k_dflt (first
  | (refine' get_slot' ?k1 ?k2 ?k3 ?k4 ?k5 ?k6 ?k7 ?k8 ?k9 ?k10 ?k11 ?_; (case k1 => k_asm); (case k2 => k_asm); (case k3 => k_inst); (case k4 => k_is); (case k5 => k_is); (case k6 => k_is); (case k7 => k_is); (case k8 => k_is); (case k9 => k_is); (case k10 => k_slotget); (case k11 => k_handed); k_whole))))
local macro_rules | `(tactic| walk_at "call builtin:len") => `(tactic| (k_here; (with_reducible show wpAny _ _ (call (Value.builtin "len") [Value.ref _]) _ _ _); refine len_tuple (by is_tup) (by (simp only [List.size_toArray]; omega)) ?_))
example (w : World) (h : Heap) (X : (hd.heap_39 w.params).In h) (e : PySem.Challenge.rw_ez0022_01.prog = Pg) : True := by
  revert X e
  k_fill
  intros
  trivial
local macro_rules | `(tactic| walk_at "subscriptTail") => `(tactic| (k_here; (with_reducible show wpAny _ _ (subscriptTail _ (PySem.Expr.Slice none (some _) none _) (Value.ref _) (Value.ref _)) _ _ _); (with_unfolding_all refine slice_int (by k_asm) (by k_asm) (by ktr_rel) (by omega) (by omega) ?_); intro a' h' tl' F' N' K'; (try k_sweep)))
local macro_rules | `(tactic| walk_at "call builtin:min") => `(tactic| (k_here; (with_reducible show wpAny _ _ (call (Value.builtin "min") [Value.int _ _, Value.int _ _]) _ _ _); refine min_two' rfl (by k_asm) (by k_asm) ?_; intro h' tk' tv' F' N'; (try k_sweep)))
local macro_rules | `(tactic| walk_at "compareOp Eq ref ref") => `(tactic| (k_here; (with_reducible show wpAny _ _ (compareOp CmpOp.Eq (Value.ref _) (Value.ref _)) _ _ _); refine' kpath_eq ?k1 ?k2 ?k3 ?k4 ?k5 ?k6 ?k7 ?k8 ?k9 ?_; (case k1 => k_asm); (case k2 => k_asm); (case k3 => ktr_rel); (case k4 => ktr_rel); (case k5 => ktr_rel); (case k6 => ktr_rel); (case k7 => ktr_rel); (case k8 => ktr_rel); (case k9 => ktr_units); k_whole))
local macro_rules | `(tactic| walk_at "compareOp NotEq ref ref") => `(tactic| (k_here; (with_reducible show wpAny _ _ (compareOp CmpOp.NotEq (Value.ref _) (Value.ref _)) _ _ _); refine' kpath_ne ?k1 ?k2 ?k3 ?k4 ?k5 ?k6 ?k7 ?k8 ?k9 ?_; (case k1 => k_asm); (case k2 => k_asm); (case k3 => ktr_rel); (case k4 => ktr_rel); (case k5 => ktr_rel); (case k6 => ktr_rel); (case k7 => ktr_rel); (case k8 => ktr_rel); (case k9 => ktr_units); k_whole))
local macro_rules | `(tactic| walk_at "getAttr ref") => `(tactic| (k_here; k_dflt (refine' get_own ?k1 ?k2 ?k3 ?k4 ?k5 ?k6 ?k7 ?k8 ?k9 ?_; (case k1 => k_asm); (case k2 => k_asm); (case k3 => k_inst); (case k4 => k_is); (case k5 => k_is); (case k6 => k_is); (case k7 => k_is); (case k8 => assumption); (case k9 => k_handed); k_whole)))
local macro_rules | `(tactic| walk_at "getAttrBy ref") => `(tactic| (k_here; k_dflt (refine' kbm_ownBy ?k1 ?k2 ?k3 ?k4 ?k5 ?k6 ?k7 ?k8 ?k9 ?_; (case k1 => k_asm); (case k2 => k_asm); (case k3 => k_inst); (case k4 => k_is); (case k5 => k_is); (case k6 => k_is); (case k7 => k_is); (case k8 => assumption); (case k9 => k_handed); k_whole)))
local macro_rules | `(tactic| walk_at $s:str) => `(tactic| k_extra $s)
def usualL : List Int := [21, 37, 54, 162, 109, 245]
set_option maxRecDepth 100000 in
set_option maxHeartbeats 8000000 in
theorem c_usual {w : World} {mean : ExcName → Option Value} {mg mb : Str → Option Value} {hT : Heap} {dp un : Nat} {outer : List Env} {s : Shared} {R : Result → Shared → Prop}
   (X : (hd.heap_39 w.params).In hT) (T : Top hd.view_39 L0 mean mg mb hT) (SB : Sub hT s.heap) (hA : dp < 600) (hU : un < 6000)
   (hR : ∀ h' tk l vs c, Sub s.heap h' → s.heap.get? l = none → h'.get? l = some (PySem.W.listOf (List.toArray vs) c) → IntsAre vs usualL → R (.ok (.ret (.ref l))) { s with heap := h', toks := tk }) :
   codeAny (model Pg w) (AT dp un outer) (.call (.ref 340) ⟨[], []⟩) R s := by
  (k_dflt (refine' enterH (binds := []) X T SB [] ?hl ?ho ?hcd ?hroom ?hb ?hloc ?_ ?c1 ?c2 ?c3 ?c4; (case hl => intro p hp; cases hp); (case ho => k_is); (case hcd => k_is); (case hroom => simp only [recursionLimit]; omega); (case hb => exact BindsTo.of_eq rfl); (case hloc => exact locs (by rfl)); (case c1 => rfl); (case c2 => rfl); (case c3 => rfl); (case c4 => decide))
   intro g L' h₁ tk₀ Sg G F Nw Xg Tg
   have up : Sub s.heap g := fun b o e => G.up b o e (by simp)
   (try dsimp only); (try k_fold)
   k_with_none
   k_steps
   all_goals (try dsimp only)
   rename News _ _ _ _ => NN
   have m := NN _ (.head _)
   refine hR _ _ _ _ _ (G.sub (by assumption)) ?_ m.1 (.cons _ _ (.cons _ _ (.cons _ _ (.cons _ _ (.cons _ _ (.cons _ _ .nil))))))
   cases q : s.heap.get? _ with
   | none => rfl
   | some o => rw [up _ _ q] at m; cases m.2.2)
end Ez
end
section
example : True := by
  w_top off
  trivial
open PySem PySem.W PySem.Calls PyProof.Rows
namespace Ez
local macro_rules | `(tactic| ktr_rel) => `(tactic| first
  | assumption
  | exact KTup.app (by ktr_rel)
  | exact KTup.cons (by ktr_rel)
  | exact AtomsAre.take _ (by ktr_rel)
  | exact ok_take _ (by ktr_rel)
  | exact Or.inl (by assumption))
local macro_rules | `(tactic| k_inst) => `(tactic| exact InstAt.up (by assumption) (fun b o e => Fr.keep (by k_asm) b o e))
local macro_rules | `(tactic| k_inst) => `(tactic| exact InstAt.bare (by assumption))
local macro_rules | `(tactic| walk_at "getAttr ref") => `(tactic| (k_here; k_dflt (first
  | (refine' get_slot' ?k1 ?k2 ?k3 ?k4 ?k5 ?k6 ?k7 ?k8 ?k9 ?k10 ?k11 ?_; (case k1 => k_asm); (case k2 => k_asm); (case k3 => k_inst); (case k4 => k_is); (case k5 => k_is); (case k6 => k_is); (case k7 => k_is); (case k8 => k_is); (case k9 => k_is); (case k10 => k_slotget); (case k11 => k_handed); k_whole))))
local macro_rules | `(tactic| walk_at "call builtin:len") => `(tactic| (k_here; (with_reducible show wpAny _ _ (call (Value.builtin "len") [Value.ref _]) _ _ _); refine len_tuple (by is_tup) (by (simp only [List.size_toArray]; omega)) ?_))
example (w : World) (h : Heap) (X : (hd.heap_39 w.params).In h) (e : PySem.Challenge.rw_ez0022_01.prog = Pg) : True := by
  revert X e
  k_fill
  intros
  trivial
local macro_rules | `(tactic| walk_at "subscriptTail") => `(tactic| (k_here; (with_reducible show wpAny _ _ (subscriptTail _ (PySem.Expr.Slice none (some _) none _) (Value.ref _) (Value.ref _)) _ _ _); (with_unfolding_all refine slice_int (by k_asm) (by k_asm) (by ktr_rel) (by omega) (by omega) ?_); intro a' h' tl' F' N' K'; (try k_sweep)))
local macro_rules | `(tactic| walk_at "call builtin:min") => `(tactic| (k_here; (with_reducible show wpAny _ _ (call (Value.builtin "min") [Value.int _ _, Value.int _ _]) _ _ _); refine min_two' rfl (by k_asm) (by k_asm) ?_; intro h' tk' tv' F' N'; (try k_sweep)))
local macro_rules | `(tactic| walk_at "compareOp Eq ref ref") => `(tactic| (k_here; (with_reducible show wpAny _ _ (compareOp CmpOp.Eq (Value.ref _) (Value.ref _)) _ _ _); refine' kpath_eq ?k1 ?k2 ?k3 ?k4 ?k5 ?k6 ?k7 ?k8 ?k9 ?_; (case k1 => k_asm); (case k2 => k_asm); (case k3 => ktr_rel); (case k4 => ktr_rel); (case k5 => ktr_rel); (case k6 => ktr_rel); (case k7 => ktr_rel); (case k8 => ktr_rel); (case k9 => ktr_units); k_whole))
local macro_rules | `(tactic| walk_at "compareOp NotEq ref ref") => `(tactic| (k_here; (with_reducible show wpAny _ _ (compareOp CmpOp.NotEq (Value.ref _) (Value.ref _)) _ _ _); refine' kpath_ne ?k1 ?k2 ?k3 ?k4 ?k5 ?k6 ?k7 ?k8 ?k9 ?_; (case k1 => k_asm); (case k2 => k_asm); (case k3 => ktr_rel); (case k4 => ktr_rel); (case k5 => ktr_rel); (case k6 => ktr_rel); (case k7 => ktr_rel); (case k8 => ktr_rel); (case k9 => ktr_units); k_whole))
local macro_rules | `(tactic| walk_at "getAttr ref") => `(tactic| (k_here; k_dflt (refine' get_own ?k1 ?k2 ?k3 ?k4 ?k5 ?k6 ?k7 ?k8 ?k9 ?_; (case k1 => k_asm); (case k2 => k_asm); (case k3 => k_inst); (case k4 => k_is); (case k5 => k_is); (case k6 => k_is); (case k7 => k_is); (case k8 => assumption); (case k9 => k_handed); k_whole)))
local macro_rules | `(tactic| walk_at "getAttrBy ref") => `(tactic| (k_here; k_dflt (refine' kbm_ownBy ?k1 ?k2 ?k3 ?k4 ?k5 ?k6 ?k7 ?k8 ?k9 ?_; (case k1 => k_asm); (case k2 => k_asm); (case k3 => k_inst); (case k4 => k_is); (case k5 => k_is); (case k6 => k_is); (case k7 => k_is); (case k8 => assumption); (case k9 => k_handed); k_whole)))
local macro_rules | `(tactic| walk_at $s:str) => `(tactic| k_extra $s)
def placeT : List (List Atom) := [[.s (Str.ofString "a")], [], [.s (Str.ofString "a"), .i 0], [.s (Str.ofString "a"), .i 1], [.s (Str.ofString "b")], [.s (Str.ofString "a"), .i 0, .s (Str.ofString "x")], [.s (Str.ofString "b"), .s (Str.ofString "y")]]
def ruleT : List (List Atom) := [[.s (Str.ofString "a"), .s (Str.ofString "max")], [], [.s (Str.ofString "a"), .s (Str.ofString "min")], [.s (Str.ofString "a"), .s (Str.ofString "schema")], [.s (Str.ofString "b"), .s (Str.ofString "type")], [.s (Str.ofString "a"), .s (Str.ofString "schema"), .s (Str.ofString "x"), .s (Str.ofString "min")], [.s (Str.ofString "b")]]
theorem placesK (w : World) : ∃ oc od sl n, (hd.heap_39 w.params).lookup 325 = some ⟨oc, od, .seq #[.ref 318, .ref 319, .ref 320, .ref 321, .ref 322, .ref 323, .ref 324] n, sl⟩ ∧ oc = .type "list" := ⟨_, _, _, _, by k_is, by rfl⟩
theorem rulesK (w : World) : ∃ oc od sl n, (hd.heap_39 w.params).lookup 333 = some ⟨oc, od, .seq #[.ref 326, .ref 327, .ref 328, .ref 329, .ref 330, .ref 331, .ref 332] n, sl⟩ ∧ oc = .type "list" := ⟨_, _, _, _, by k_is, by rfl⟩
theorem range7 {a : Nat} : ∀ p, p < 7 → ((List.range 7).map fun p => Value.ref (a + p))[p]? = some (.ref (a + p)) := fun p hp => by rw [List.getElem?_map, List.getElem?_range hp]; rfl
theorem placesAt {w : World} {h : Heap} (X : (hd.heap_39 w.params).In h) : h.IsList 325 ((List.range 7).map fun p => Value.ref (318 + p)).toArray := by
  obtain ⟨oc, od, sl, n, e, hc⟩ := placesK w
  exact ⟨_, X _ _ e, hc, n, rfl⟩
theorem rulesAt {w : World} {h : Heap} (X : (hd.heap_39 w.params).In h) : h.IsList 333 ((List.range 7).map fun p => Value.ref (326 + p)).toArray := by
  obtain ⟨oc, od, sl, n, e, hc⟩ := rulesK w
  exact ⟨_, X _ _ e, hc, n, rfl⟩
theorem path_key {w : World} {a : Addr} (vs : List Value) (q : List Atom) (hq : ∃ oc od sl n, (hd.heap_39 w.params).lookup a = some ⟨oc, od, .seq vs.toArray n, sl⟩ ∧ oc = .type "tuple") (ha : AtomsAre vs q) (ho : q.all Atom.ok = true) : ∃ vs, ∀ h, (hd.heap_39 w.params).In h → PathAt h a vs q := by
  obtain ⟨oc, od, sl, n, e, hc⟩ := hq
  exact ⟨vs, fun h X => ⟨⟨_, X _ _ e, hc, n, rfl⟩, ha, ho⟩⟩
theorem place_at (w : World) (p : Nat) (hp : p < 7) : ∃ vs, ∀ h, (hd.heap_39 w.params).In h → PathAt h (318 + p) vs (placeT.getD p []) := by
  have : p = 0 ∨ p = 1 ∨ p = 2 ∨ p = 3 ∨ p = 4 ∨ p = 5 ∨ p = 6 := by omega
  rcases this with rfl | rfl | rfl | rfl | rfl | rfl | rfl
  · exact path_key (a := 318) ([.str (Str.ofString "a") _] : List Value) _ ⟨_, _, _, _, by k_is, by rfl⟩ ⟨by decide +kernel, trivial⟩ (by decide +kernel)
  · exact path_key (a := 319) ([] : List Value) _ ⟨_, _, _, _, by k_is, by rfl⟩ trivial (by decide +kernel)
  · exact path_key (a := 320) ([.str (Str.ofString "a") _, .int 0 _] : List Value) _ ⟨_, _, _, _, by k_is, by rfl⟩ ⟨by decide +kernel, ⟨by decide +kernel, trivial⟩⟩ (by decide +kernel)
  · exact path_key (a := 321) ([.str (Str.ofString "a") _, .int 1 _] : List Value) _ ⟨_, _, _, _, by k_is, by rfl⟩ ⟨by decide +kernel, ⟨by decide +kernel, trivial⟩⟩ (by decide +kernel)
  · exact path_key (a := 322) ([.str (Str.ofString "b") _] : List Value) _ ⟨_, _, _, _, by k_is, by rfl⟩ ⟨by decide +kernel, trivial⟩ (by decide +kernel)
  · exact path_key (a := 323) ([.str (Str.ofString "a") _, .int 0 _, .str (Str.ofString "x") _] : List Value) _ ⟨_, _, _, _, by k_is, by rfl⟩ ⟨by decide +kernel, ⟨by decide +kernel, ⟨by decide +kernel, trivial⟩⟩⟩ (by decide +kernel)
  · exact path_key (a := 324) ([.str (Str.ofString "b") _, .str (Str.ofString "y") _] : List Value) _ ⟨_, _, _, _, by k_is, by rfl⟩ ⟨by decide +kernel, ⟨by decide +kernel, trivial⟩⟩ (by decide +kernel)
theorem rule_at (w : World) (p : Nat) (hp : p < 7) : ∃ vs, ∀ h, (hd.heap_39 w.params).In h → PathAt h (326 + p) vs (ruleT.getD p []) := by
  have : p = 0 ∨ p = 1 ∨ p = 2 ∨ p = 3 ∨ p = 4 ∨ p = 5 ∨ p = 6 := by omega
  rcases this with rfl | rfl | rfl | rfl | rfl | rfl | rfl
  · exact path_key (a := 326) ([.str (Str.ofString "a") _, .str (Str.ofString "max") _] : List Value) _ ⟨_, _, _, _, by k_is, by rfl⟩ ⟨by decide +kernel, ⟨by decide +kernel, trivial⟩⟩ (by decide +kernel)
  · exact path_key (a := 327) ([] : List Value) _ ⟨_, _, _, _, by k_is, by rfl⟩ trivial (by decide +kernel)
  · exact path_key (a := 328) ([.str (Str.ofString "a") _, .str (Str.ofString "min") _] : List Value) _ ⟨_, _, _, _, by k_is, by rfl⟩ ⟨by decide +kernel, ⟨by decide +kernel, trivial⟩⟩ (by decide +kernel)
  · exact path_key (a := 329) ([.str (Str.ofString "a") _, .str (Str.ofString "schema") _] : List Value) _ ⟨_, _, _, _, by k_is, by rfl⟩ ⟨by decide +kernel, ⟨by decide +kernel, trivial⟩⟩ (by decide +kernel)
  · exact path_key (a := 330) ([.str (Str.ofString "b") _, .str (Str.ofString "type") _] : List Value) _ ⟨_, _, _, _, by k_is, by rfl⟩ ⟨by decide +kernel, ⟨by decide +kernel, trivial⟩⟩ (by decide +kernel)
  · exact path_key (a := 331) ([.str (Str.ofString "a") _, .str (Str.ofString "schema") _, .str (Str.ofString "x") _, .str (Str.ofString "min") _] : List Value) _ ⟨_, _, _, _, by k_is, by rfl⟩ ⟨by decide +kernel, ⟨by decide +kernel, ⟨by decide +kernel, ⟨by decide +kernel, trivial⟩⟩⟩⟩ (by decide +kernel)
  · exact path_key (a := 332) ([.str (Str.ofString "b") _] : List Value) _ ⟨_, _, _, _, by k_is, by rfl⟩ ⟨by decide +kernel, trivial⟩ (by decide +kernel)
end Ez
end
section
example : True := by
  w_top off
  trivial
open PySem PySem.W PySem.Calls PyProof.Rows
namespace Ez
theorem allObj_mono : ∀ {ws : List (Addr × String)} {k k' : List (Addr × Obj) → Prop}, AllObj ws k → (∀ its, k its → k' its) → AllObj ws k'
  | [], _, _, h, f => f [] h
  | _ :: _, _, _, h, f => fun o ho => allObj_mono (h o ho) fun its => f _
section
variable {prog : Program} {w : World} {A : Around} {E : Value → Shared → Prop} {h₀ : Heap} {env : Env} {target : PySem.Expr} {body : List Stmt} {Q : Flow → Shared → Prop} {s : Shared} {ws : List (Addr × String)} {keep : List (Addr × Obj)}
theorem items_inv (J : Nat → (Str → Option Value) → List (Addr × Obj) → Prop) : ∀ (xs : List Itm) (i : Nat) (m : Str → Option Value) (news : List (Addr × Obj)), J i m news → (∀ i m l, J i m l → SubL keep l) →
    (∀ k a m₁ l v h tk, xs[k]? = some a → J (i + k) m₁ l → a.Is v h → Fr h₀ env.locals h m₁ → AllObj ws (fun its => News h₀ env.locals h (its ++ l) →
      wpAny (model prog w) A (assign target env v) (fun _ s₂ => wpAny (model prog w) A (execs body env) (UnrPostW h₀ env.locals { s with heap := h, toks := tk } its (fun m' n' => J (i + k + 1) m' n') Q) E s₂) E { s with heap := h, toks := tk })) →
    (∀ m l h tk, J (i + xs.length) m l → Fr h₀ env.locals h m → News h₀ env.locals h l → Q .next { s with heap := h, toks := tk }) → ItemsRest prog w A E h₀ env target body Q s ws keep xs m news
  | [], i, m, news, hJ, _, _, done => fun h tk F N => done m news h tk hJ F N
  | a :: r, i, m, news, hJ, hk, turn, done => by
    intro v h tk ha F
    refine allObj_mono (turn 0 a m news v h tk rfl hJ ha F) fun its hits N => ?_
    refine wpAny_mono (hits N) (fun _ s₂ h₂ => wpAny_mono h₂ (fun f s₃ p => ?_) fun _ _ e => e) fun _ _ e => e
    have ih := fun m' n' (hJ' : J (i + 0 + 1) m' n') => items_inv J r (i + 1) m' n' hJ' hk (fun k a m₁ l v h tk e hj => by
      have := turn (k + 1) a m₁ l v h tk (by simpa using e) (by rw [show i + (k + 1) = i + 1 + k by omega]; exact hj)
      rw [show i + (k + 1) + 1 = i + 1 + k + 1 by omega] at this
      exact this) (fun m l h tk hj => done m l h tk (by rw [List.length_cons, show i + (r.length + 1) = i + 1 + r.length by omega]; exact hj))
    cases f with
    | ret v => exact p
    | brk => exact p
    | next =>
      obtain ⟨h', tk', m', n', e, F', N', off, hj⟩ := p
      exact ⟨h', tk', m', n', e, F', N', off, hk _ _ _ hj, ih m' n' hj⟩
    | cont =>
      obtain ⟨h', tk', m', n', e, F', N', off, hj⟩ := p
      exact ⟨h', tk', m', n', e, F', N', off, hk _ _ _ hj, ih m' n' hj⟩
end
end Ez
end
section
example : True := by
  w_top off
  trivial
open PySem PySem.W PySem.Calls PyProof.Rows
namespace Ez
local macro_rules | `(tactic| ktr_rel) => `(tactic| first
  | assumption
  | exact KTup.app (by ktr_rel)
  | exact KTup.cons (by ktr_rel)
  | exact AtomsAre.take _ (by ktr_rel)
  | exact ok_take _ (by ktr_rel)
  | exact Or.inl (by assumption))
local macro_rules | `(tactic| k_inst) => `(tactic| exact InstAt.up (by assumption) (fun b o e => Fr.keep (by k_asm) b o e))
local macro_rules | `(tactic| k_inst) => `(tactic| exact InstAt.bare (by assumption))
local macro_rules | `(tactic| walk_at "getAttr ref") => `(tactic| (k_here; k_dflt (first
  | (refine' get_slot' ?k1 ?k2 ?k3 ?k4 ?k5 ?k6 ?k7 ?k8 ?k9 ?k10 ?k11 ?_; (case k1 => k_asm); (case k2 => k_asm); (case k3 => k_inst); (case k4 => k_is); (case k5 => k_is); (case k6 => k_is); (case k7 => k_is); (case k8 => k_is); (case k9 => k_is); (case k10 => k_slotget); (case k11 => k_handed); k_whole))))
local macro_rules | `(tactic| walk_at "call builtin:len") => `(tactic| (k_here; (with_reducible show wpAny _ _ (call (Value.builtin "len") [Value.ref _]) _ _ _); refine len_tuple (by is_tup) (by (simp only [List.size_toArray]; omega)) ?_))
example (w : World) (h : Heap) (X : (hd.heap_39 w.params).In h) (e : PySem.Challenge.rw_ez0022_01.prog = Pg) : True := by
  revert X e
  k_fill
  intros
  trivial
local macro_rules | `(tactic| walk_at "subscriptTail") => `(tactic| (k_here; (with_reducible show wpAny _ _ (subscriptTail _ (PySem.Expr.Slice none (some _) none _) (Value.ref _) (Value.ref _)) _ _ _); (with_unfolding_all refine slice_int (by k_asm) (by k_asm) (by ktr_rel) (by omega) (by omega) ?_); intro a' h' tl' F' N' K'; (try k_sweep)))
local macro_rules | `(tactic| walk_at "call builtin:min") => `(tactic| (k_here; (with_reducible show wpAny _ _ (call (Value.builtin "min") [Value.int _ _, Value.int _ _]) _ _ _); refine min_two' rfl (by k_asm) (by k_asm) ?_; intro h' tk' tv' F' N'; (try k_sweep)))
local macro_rules | `(tactic| walk_at "compareOp Eq ref ref") => `(tactic| (k_here; (with_reducible show wpAny _ _ (compareOp CmpOp.Eq (Value.ref _) (Value.ref _)) _ _ _); refine' kpath_eq ?k1 ?k2 ?k3 ?k4 ?k5 ?k6 ?k7 ?k8 ?k9 ?_; (case k1 => k_asm); (case k2 => k_asm); (case k3 => ktr_rel); (case k4 => ktr_rel); (case k5 => ktr_rel); (case k6 => ktr_rel); (case k7 => ktr_rel); (case k8 => ktr_rel); (case k9 => ktr_units); k_whole))
local macro_rules | `(tactic| walk_at "compareOp NotEq ref ref") => `(tactic| (k_here; (with_reducible show wpAny _ _ (compareOp CmpOp.NotEq (Value.ref _) (Value.ref _)) _ _ _); refine' kpath_ne ?k1 ?k2 ?k3 ?k4 ?k5 ?k6 ?k7 ?k8 ?k9 ?_; (case k1 => k_asm); (case k2 => k_asm); (case k3 => ktr_rel); (case k4 => ktr_rel); (case k5 => ktr_rel); (case k6 => ktr_rel); (case k7 => ktr_rel); (case k8 => ktr_rel); (case k9 => ktr_units); k_whole))
local macro_rules | `(tactic| walk_at "getAttr ref") => `(tactic| (k_here; k_dflt (refine' get_own ?k1 ?k2 ?k3 ?k4 ?k5 ?k6 ?k7 ?k8 ?k9 ?_; (case k1 => k_asm); (case k2 => k_asm); (case k3 => k_inst); (case k4 => k_is); (case k5 => k_is); (case k6 => k_is); (case k7 => k_is); (case k8 => assumption); (case k9 => k_handed); k_whole)))
local macro_rules | `(tactic| walk_at "getAttrBy ref") => `(tactic| (k_here; k_dflt (refine' kbm_ownBy ?k1 ?k2 ?k3 ?k4 ?k5 ?k6 ?k7 ?k8 ?k9 ?_; (case k1 => k_asm); (case k2 => k_asm); (case k3 => k_inst); (case k4 => k_is); (case k5 => k_is); (case k6 => k_is); (case k7 => k_is); (case k8 => assumption); (case k9 => k_handed); k_whole)))
local macro_rules | `(tactic| walk_at $s:str) => `(tactic| k_extra $s)
set_option maxRecDepth 100000 in
set_option maxHeartbeats 8000000 in
theorem c_veinit {w : World} {mean : ExcName → Option Value} {mg mb : Str → Option Value} {hT : Heap} {x xd dpA spA : Addr} {code : Int} {ct : Tok} {val inf : Value} {dp un : Nat} {outer : List Env} {s : Shared} {R : Result → Shared → Prop}
   (X : (hd.heap_39 w.params).In hT) (T : Top hd.view_39 L0 mean mg mb hT) (SB : Sub hT s.heap) (hx : s.heap.get? x = some (instObj 138 xd)) (hxd : s.heap.get? xd = some (dictOf [] 0)) (hxT : hT.get? x = none) (hxdT : hT.get? xd = none) (hlt : xd < x) (hA : dp < 600) (hU : un < 6000)
   (hR : ∀ h' tk es n, (∀ b o, s.heap.get? b = some o → b ≠ xd → h'.get? b = some o) → ErrAt h' x xd es n dpA spA code ct val inf → R (.ok (.ret .none)) { s with heap := h', toks := tk }) :
   codeAny (model Pg w) (AT dp un outer) (.call (.ref 80) ⟨[.ref x, .ref dpA, .ref spA, .int code ct, .none, .none, val, inf], []⟩) R s := by
  k_lt2 hlt
  (k_dflt (refine' enterH X T SB [(x, instObj 138 xd), (xd, dictOf [] 0)] ?hl ?ho ?hcd ?hroom ?hb ?hloc ?_ ?c1 ?c2 ?c3 ?c4; (case hl => (intro p hp; rcases List.mem_cons.mp hp with rfl | hp; exact ⟨hx, hxT⟩; obtain rfl := List.mem_singleton.mp hp; exact ⟨hxd, hxdT⟩)); (case ho => k_is); (case hcd => k_is); (case hroom => simp only [recursionLimit]; omega); (case hb => exact BindsTo.of_eq rfl); (case hloc => exact locs (by rfl)); (case c1 => rfl); (case c2 => rfl); (case c3 => rfl); (case c4 => decide))
   intro g L' h₁ tk₀ Sg G F N Xg Tg
   (try dsimp only); (try k_fold)
   k_with_none
   k_steps
   all_goals (try dsimp only)
   rename News _ _ _ _ => NN
   rename Fr _ _ _ _ => FF
   refine hR _ _ _ _ (fun b o e n => ?_) ⟨⟨(NN _ (.head _)).1, rfl, rfl, (NN _ (.tail _ (.head _))).1⟩, by rfl, by rfl, by rfl, by rfl, by rfl⟩
   by_cases hb : b = x
   · subst hb
     rw [hx] at e; cases e
     exact (NN _ (.head _)).1
   · exact FF.keep _ _ (G.up _ _ e (by simp [hb, n])))
end Ez
end
section
example : True := by
  w_top off
  trivial
open PySem PySem.W PySem.Calls PyProof.Rows
namespace Ez
local macro_rules | `(tactic| ktr_rel) => `(tactic| first
  | assumption
  | exact KTup.app (by ktr_rel)
  | exact KTup.cons (by ktr_rel)
  | exact AtomsAre.take _ (by ktr_rel)
  | exact ok_take _ (by ktr_rel)
  | exact Or.inl (by assumption))
local macro_rules | `(tactic| k_inst) => `(tactic| exact InstAt.up (by assumption) (fun b o e => Fr.keep (by k_asm) b o e))
local macro_rules | `(tactic| k_inst) => `(tactic| exact InstAt.bare (by assumption))
local macro_rules | `(tactic| walk_at "getAttr ref") => `(tactic| (k_here; k_dflt (first
  | (refine' get_slot' ?k1 ?k2 ?k3 ?k4 ?k5 ?k6 ?k7 ?k8 ?k9 ?k10 ?k11 ?_; (case k1 => k_asm); (case k2 => k_asm); (case k3 => k_inst); (case k4 => k_is); (case k5 => k_is); (case k6 => k_is); (case k7 => k_is); (case k8 => k_is); (case k9 => k_is); (case k10 => k_slotget); (case k11 => k_handed); k_whole))))
local macro_rules | `(tactic| walk_at "call builtin:len") => `(tactic| (k_here; (with_reducible show wpAny _ _ (call (Value.builtin "len") [Value.ref _]) _ _ _); refine len_tuple (by is_tup) (by (simp only [List.size_toArray]; omega)) ?_))
example (w : World) (h : Heap) (X : (hd.heap_39 w.params).In h) (e : PySem.Challenge.rw_ez0022_01.prog = Pg) : True := by
  revert X e
  k_fill
  intros
  trivial
local macro_rules | `(tactic| walk_at "subscriptTail") => `(tactic| (k_here; (with_reducible show wpAny _ _ (subscriptTail _ (PySem.Expr.Slice none (some _) none _) (Value.ref _) (Value.ref _)) _ _ _); (with_unfolding_all refine slice_int (by k_asm) (by k_asm) (by ktr_rel) (by omega) (by omega) ?_); intro a' h' tl' F' N' K'; (try k_sweep)))
local macro_rules | `(tactic| walk_at "call builtin:min") => `(tactic| (k_here; (with_reducible show wpAny _ _ (call (Value.builtin "min") [Value.int _ _, Value.int _ _]) _ _ _); refine min_two' rfl (by k_asm) (by k_asm) ?_; intro h' tk' tv' F' N'; (try k_sweep)))
local macro_rules | `(tactic| walk_at "compareOp Eq ref ref") => `(tactic| (k_here; (with_reducible show wpAny _ _ (compareOp CmpOp.Eq (Value.ref _) (Value.ref _)) _ _ _); refine' kpath_eq ?k1 ?k2 ?k3 ?k4 ?k5 ?k6 ?k7 ?k8 ?k9 ?_; (case k1 => k_asm); (case k2 => k_asm); (case k3 => ktr_rel); (case k4 => ktr_rel); (case k5 => ktr_rel); (case k6 => ktr_rel); (case k7 => ktr_rel); (case k8 => ktr_rel); (case k9 => ktr_units); k_whole))
local macro_rules | `(tactic| walk_at "compareOp NotEq ref ref") => `(tactic| (k_here; (with_reducible show wpAny _ _ (compareOp CmpOp.NotEq (Value.ref _) (Value.ref _)) _ _ _); refine' kpath_ne ?k1 ?k2 ?k3 ?k4 ?k5 ?k6 ?k7 ?k8 ?k9 ?_; (case k1 => k_asm); (case k2 => k_asm); (case k3 => ktr_rel); (case k4 => ktr_rel); (case k5 => ktr_rel); (case k6 => ktr_rel); (case k7 => ktr_rel); (case k8 => ktr_rel); (case k9 => ktr_units); k_whole))
local macro_rules | `(tactic| walk_at "getAttr ref") => `(tactic| (k_here; k_dflt (refine' get_own ?k1 ?k2 ?k3 ?k4 ?k5 ?k6 ?k7 ?k8 ?k9 ?_; (case k1 => k_asm); (case k2 => k_asm); (case k3 => k_inst); (case k4 => k_is); (case k5 => k_is); (case k6 => k_is); (case k7 => k_is); (case k8 => assumption); (case k9 => k_handed); k_whole)))
local macro_rules | `(tactic| walk_at "getAttrBy ref") => `(tactic| (k_here; k_dflt (refine' kbm_ownBy ?k1 ?k2 ?k3 ?k4 ?k5 ?k6 ?k7 ?k8 ?k9 ?_; (case k1 => k_asm); (case k2 => k_asm); (case k3 => k_inst); (case k4 => k_is); (case k5 => k_is); (case k6 => k_is); (case k7 => k_is); (case k8 => assumption); (case k9 => k_handed); k_whole)))
local macro_rules | `(tactic| walk_at $s:str) => `(tactic| k_extra $s)
def compB : List Atom → List Atom → Bool
  | a :: p, b :: q => sameKind a b && (if a = b then compB p q else true)
  | _, _ => true
theorem comp_of : ∀ {p q : List Atom}, compB p q = true → Comp p q
  | [], _, _, i, a, b, _, ha, _ => by simp at ha
  | _ :: _, [], _, i, a, b, _, _, hb => by simp at hb
  | a0 :: p, b0 :: q, h, 0, a, b, _, ha, hb => by
    simp at ha hb
    subst ha hb
    unfold compB at h
    exact (Bool.and_eq_true_iff.mp h).1
  | a0 :: p, b0 :: q, h, i + 1, a, b, e, ha, hb => by
    simp only [List.take_succ_cons, List.cons.injEq] at e
    unfold compB at h
    have h2 := (Bool.and_eq_true_iff.mp h).2
    rw [if_pos e.1] at h2
    exact comp_of h2 i a b e.2 (by simpa using ha) (by simpa using hb)
structure TabOk (T : Nat → List Atom) : Prop where
  refl : ∀ p, p < 7 → pathLe (T p) (T p) = true
  trans : ∀ p, p < 7 → ∀ q, q < 7 → ∀ r, r < 7 → pathLe (T p) (T q) = true → pathLe (T q) (T r) = true → pathLe (T p) (T r) = true
  total : ∀ p, p < 7 → ∀ q, q < 7 → pathLe (T p) (T q) = true ∨ pathLe (T q) (T p) = true
  anti : ∀ p, p < 7 → ∀ q, q < 7 → pathLe (T p) (T q) = true → pathLe (T q) (T p) = true → T p = T q
  comp : ∀ p, p < 7 → ∀ q, q < 7 → compB (T p) (T q) = true
  lt : ∀ p, p < 7 → ∀ q, q < 7 → pathLt (T p) (T q) = !pathLe (T q) (T p)
theorem placeOk : TabOk fun p => placeT.getD p [] := by constructor <;> decide +kernel
theorem ruleOk : TabOk fun p => ruleT.getD p [] := by constructor <;> decide +kernel
theorem errs_ok {D : Errs} {P R : Nat → Nat} (hP : ∀ i, P i < 7) (hR : ∀ i, R i < 7) (hd : ∀ i, D.kd i = placeT.getD (P i) []) (hs : ∀ i, D.ks i = ruleT.getD (R i) []) : D.Ok ∧ D.Lt := by
  have d1 : ∀ i, pathLe (D.kd i) (D.kd i) = true := fun i => by rw [hd]; exact placeOk.refl _ (hP i)
  have s1 : ∀ i, pathLe (D.ks i) (D.ks i) = true := fun i => by rw [hs]; exact ruleOk.refl _ (hR i)
  have d2 : ∀ i j k, pathLe (D.kd i) (D.kd j) = true → pathLe (D.kd j) (D.kd k) = true → pathLe (D.kd i) (D.kd k) = true := fun i j k => by rw [hd, hd, hd]; exact placeOk.trans _ (hP i) _ (hP j) _ (hP k)
  have s2 : ∀ i j k, pathLe (D.ks i) (D.ks j) = true → pathLe (D.ks j) (D.ks k) = true → pathLe (D.ks i) (D.ks k) = true := fun i j k => by rw [hs, hs, hs]; exact ruleOk.trans _ (hR i) _ (hR j) _ (hR k)
  have d3 : ∀ i j, pathLe (D.kd i) (D.kd j) = true ∨ pathLe (D.kd j) (D.kd i) = true := fun i j => by rw [hd, hd]; exact placeOk.total _ (hP i) _ (hP j)
  have s3 : ∀ i j, pathLe (D.ks i) (D.ks j) = true ∨ pathLe (D.ks j) (D.ks i) = true := fun i j => by rw [hs, hs]; exact ruleOk.total _ (hR i) _ (hR j)
  have d4 : ∀ i j, pathLe (D.kd i) (D.kd j) = true → pathLe (D.kd j) (D.kd i) = true → D.kd i = D.kd j := fun i j => by rw [hd, hd]; exact placeOk.anti _ (hP i) _ (hP j)
  have un : ∀ i j, D.le i j = if D.kd i ≠ D.kd j then pathLe (D.kd i) (D.kd j) else pathLe (D.ks i) (D.ks j) := fun i j => rfl
  refine ⟨⟨fun i => ?_, fun i j k h1 h2 => ?_, fun i j => ?_, fun i j => comp_of (by rw [hd, hd]; exact placeOk.comp _ (hP i) _ (hP j)), fun i j => comp_of (by rw [hs, hs]; exact ruleOk.comp _ (hR i) _ (hR j))⟩, ⟨fun i j => by rw [hd, hd]; exact placeOk.lt _ (hP i) _ (hP j), fun i j => by rw [hs, hs]; exact ruleOk.lt _ (hR i) _ (hR j)⟩⟩
  · rw [un, if_neg (by simp)]; exact s1 i
  · rw [un] at h1 h2 ⊢
    by_cases a : D.kd i = D.kd j
    · by_cases b : D.kd j = D.kd k
      · rw [if_neg (by simp [a])] at h1
        rw [if_neg (by simp [b])] at h2
        rw [if_neg (by simp [a, b])]
        exact s2 i j k h1 h2
      · rw [if_pos b] at h2
        rw [if_pos (by rw [a]; exact b), a]
        exact h2
    · rw [if_pos a] at h1
      by_cases b : D.kd j = D.kd k
      · rw [if_pos (by rw [← b]; exact a), ← b]
        exact h1
      · rw [if_pos b] at h2
        by_cases c : D.kd i = D.kd k
        · exfalso
          rw [← c] at h2
          exact a (d4 i j h1 h2)
        · rw [if_pos c]
          exact d2 i j k h1 h2
  · rw [un, un]
    by_cases a : D.kd i = D.kd j
    · rw [if_neg (by simp [a]), if_neg (by simp [a])]
      exact s3 i j
    · rw [if_pos a, if_pos (Ne.symm a)]
      exact d3 i j
/-- every error hangs under one top -/
def fp (a1 a2 a3 a4 a5 : Nat) (k : Nat) : Nat := [0, a1, a2, a3, a4, a5].getD k 0
def chF (par : Nat → Nat) (q : Nat) : List Nat := (List.range 6).filter fun j => decide (q < j ∧ par j = q)
def topF (par : Nat → Nat) : List Nat := (List.range 6).filter fun q => decide (par q = q)
theorem fp_perm : ∀ a1, a1 < 2 → ∀ a2, a2 < 3 → ∀ a3, a3 < 4 → ∀ a4, a4 < 5 → ∀ a5, a5 < 6 → ((topF (fp a1 a2 a3 a4 a5)).flatMap (desc (chF (fp a1 a2 a3 a4 a5)) 6)).isPerm (List.range 6) = true := by decide +kernel
theorem perm_of {par : Nat → Nat} (hp : ∀ k, k < 6 → par k ≤ k) : ((topF par).flatMap (desc (chF par) 6)).Perm (List.range 6) := by
  have e : ∀ k, k < 6 → par k = fp (par 1) (par 2) (par 3) (par 4) (par 5) k := by
    intro k hk
    have : k = 0 ∨ k = 1 ∨ k = 2 ∨ k = 3 ∨ k = 4 ∨ k = 5 := by omega
    rcases this with rfl | rfl | rfl | rfl | rfl | rfl
    · have := hp 0 (by decide); show par 0 = 0; omega
    all_goals rfl
  have h := fp_perm (par 1) (by have := hp 1 (by decide); omega) (par 2) (by have := hp 2 (by decide); omega) (par 3) (by have := hp 3 (by decide); omega) (par 4) (by have := hp 4 (by decide); omega) (par 5) (by have := hp 5 (by decide); omega)
  have h2 := List.isPerm_iff.mp h
  have et : topF par = topF (fp (par 1) (par 2) (par 3) (par 4) (par 5)) := List.filter_congr fun q hq => by rw [e q (List.mem_range.mp hq)]
  have ec : ∀ q, chF par q = chF (fp (par 1) (par 2) (par 3) (par 4) (par 5)) q := fun q => List.filter_congr fun j hj => by rw [e j (List.mem_range.mp hj)]
  have ed : (desc (chF par) 6) = desc (chF (fp (par 1) (par 2) (par 3) (par 4) (par 5))) 6 := by rw [show chF par = chF (fp (par 1) (par 2) (par 3) (par 4) (par 5)) from funext ec]
  rw [et, ed]
  exact h2
end Ez
end
section
example : True := by
  w_top off
  trivial
open PySem PySem.W PySem.Calls PyProof.Rows
namespace Ez
local macro_rules | `(tactic| ktr_rel) => `(tactic| first
  | assumption
  | exact KTup.app (by ktr_rel)
  | exact KTup.cons (by ktr_rel)
  | exact AtomsAre.take _ (by ktr_rel)
  | exact ok_take _ (by ktr_rel)
  | exact Or.inl (by assumption))
local macro_rules | `(tactic| k_inst) => `(tactic| exact InstAt.up (by assumption) (fun b o e => Fr.keep (by k_asm) b o e))
local macro_rules | `(tactic| k_inst) => `(tactic| exact InstAt.bare (by assumption))
local macro_rules | `(tactic| walk_at "getAttr ref") => `(tactic| (k_here; k_dflt (first
  | (refine' get_slot' ?k1 ?k2 ?k3 ?k4 ?k5 ?k6 ?k7 ?k8 ?k9 ?k10 ?k11 ?_; (case k1 => k_asm); (case k2 => k_asm); (case k3 => k_inst); (case k4 => k_is); (case k5 => k_is); (case k6 => k_is); (case k7 => k_is); (case k8 => k_is); (case k9 => k_is); (case k10 => k_slotget); (case k11 => k_handed); k_whole))))
local macro_rules | `(tactic| walk_at "call builtin:len") => `(tactic| (k_here; (with_reducible show wpAny _ _ (call (Value.builtin "len") [Value.ref _]) _ _ _); refine len_tuple (by is_tup) (by (simp only [List.size_toArray]; omega)) ?_))
example (w : World) (h : Heap) (X : (hd.heap_39 w.params).In h) (e : PySem.Challenge.rw_ez0022_01.prog = Pg) : True := by
  revert X e
  k_fill
  intros
  trivial
local macro_rules | `(tactic| walk_at "subscriptTail") => `(tactic| (k_here; (with_reducible show wpAny _ _ (subscriptTail _ (PySem.Expr.Slice none (some _) none _) (Value.ref _) (Value.ref _)) _ _ _); (with_unfolding_all refine slice_int (by k_asm) (by k_asm) (by ktr_rel) (by omega) (by omega) ?_); intro a' h' tl' F' N' K'; (try k_sweep)))
local macro_rules | `(tactic| walk_at "call builtin:min") => `(tactic| (k_here; (with_reducible show wpAny _ _ (call (Value.builtin "min") [Value.int _ _, Value.int _ _]) _ _ _); refine min_two' rfl (by k_asm) (by k_asm) ?_; intro h' tk' tv' F' N'; (try k_sweep)))
local macro_rules | `(tactic| walk_at "compareOp Eq ref ref") => `(tactic| (k_here; (with_reducible show wpAny _ _ (compareOp CmpOp.Eq (Value.ref _) (Value.ref _)) _ _ _); refine' kpath_eq ?k1 ?k2 ?k3 ?k4 ?k5 ?k6 ?k7 ?k8 ?k9 ?_; (case k1 => k_asm); (case k2 => k_asm); (case k3 => ktr_rel); (case k4 => ktr_rel); (case k5 => ktr_rel); (case k6 => ktr_rel); (case k7 => ktr_rel); (case k8 => ktr_rel); (case k9 => ktr_units); k_whole))
local macro_rules | `(tactic| walk_at "compareOp NotEq ref ref") => `(tactic| (k_here; (with_reducible show wpAny _ _ (compareOp CmpOp.NotEq (Value.ref _) (Value.ref _)) _ _ _); refine' kpath_ne ?k1 ?k2 ?k3 ?k4 ?k5 ?k6 ?k7 ?k8 ?k9 ?_; (case k1 => k_asm); (case k2 => k_asm); (case k3 => ktr_rel); (case k4 => ktr_rel); (case k5 => ktr_rel); (case k6 => ktr_rel); (case k7 => ktr_rel); (case k8 => ktr_rel); (case k9 => ktr_units); k_whole))
local macro_rules | `(tactic| walk_at "getAttr ref") => `(tactic| (k_here; k_dflt (refine' get_own ?k1 ?k2 ?k3 ?k4 ?k5 ?k6 ?k7 ?k8 ?k9 ?_; (case k1 => k_asm); (case k2 => k_asm); (case k3 => k_inst); (case k4 => k_is); (case k5 => k_is); (case k6 => k_is); (case k7 => k_is); (case k8 => assumption); (case k9 => k_handed); k_whole)))
local macro_rules | `(tactic| walk_at "getAttrBy ref") => `(tactic| (k_here; k_dflt (refine' kbm_ownBy ?k1 ?k2 ?k3 ?k4 ?k5 ?k6 ?k7 ?k8 ?k9 ?_; (case k1 => k_asm); (case k2 => k_asm); (case k3 => k_inst); (case k4 => k_is); (case k5 => k_is); (case k6 => k_is); (case k7 => k_is); (case k8 => assumption); (case k9 => k_handed); k_whole)))
local macro_rules | `(tactic| walk_at $s:str) => `(tactic| k_extra $s)
def abI (d : Int) (k : Nat) : Nat := ((d.fdiv 49).fmod ((k : Int) + 1)).toNat
def plI (d : Int) : Nat := (d.fmod 7).toNat
def ruI (d : Int) : Nat := ((d.fdiv 7).fmod 7).toNat
abbrev noI (ds : List Int) (a : Nat) : Prop := placeT.getD (plI (ds.getD a 0)) [] = [] ∨ ruleT.getD (ruI (ds.getD a 0)) [] = []
def parI (ds : List Int) (k : Nat) : Nat := if noI ds (abI (ds.getD k 0) k) then k else abI (ds.getD k 0) k
structure ErrRec where
  ea : Addr
  ed : Addr
  es : List DictEntry
  en : Nat
  ct : Tok
  vt : Tok
  inf : Value
def chL (ds : List Int) (q : Nat) : List Nat := (List.range 6).filter fun j => decide (q < j ∧ parI ds j = q)
structure ErrIn (nw : List (Addr × Obj)) (er : Nat → ErrRec) (ds : List Int) (q : Nat) : Prop where
  o : ((er q).ea, instObj 138 (er q).ed) ∈ nw
  d : ((er q).ed, dictOf (er q).es (er q).en) ∈ nw
  gd : getL "document_path" (er q).es = some (some (.ref (318 + plI (ds.getD q 0))))
  gs : getL "schema_path" (er q).es = some (some (.ref (326 + ruI (ds.getD q 0))))
  gc : getL "code" (er q).es = some (some (.int (if chL ds q = [] then 66 else 129) (er q).ct))
  gv : getL "value" (er q).es = some (some (.int (q : Nat) (er q).vt))
  gi : getL "info" (er q).es = some (some (er q).inf)
  ch : chL ds q ≠ [] → ∃ ti li, (er q).inf = .ref ti ∧ (ti, tupO [.ref li]) ∈ nw ∧ (li, LCg.lst ((chL ds q).map fun j => Value.ref (er j).ea)) ∈ nw
theorem abI_le (d : Int) (k : Nat) : abI d k ≤ k := by
  unfold abI
  have := Int.fmod_lt_of_pos (d.fdiv 49) (show (0 : Int) < (k : Int) + 1 by omega)
  have := Int.fmod_nonneg_of_pos (d.fdiv 49) (show (0 : Int) < (k : Int) + 1 by omega)
  omega
theorem chL_gt {ds : List Int} {q j : Nat} (h : j ∈ chL ds q) : q < j ∧ j < 6 ∧ parI ds j = q := by
  obtain ⟨h1, h2⟩ := List.mem_filter.mp h
  have := of_decide_eq_true h2
  exact ⟨this.1, List.mem_range.mp h1, this.2⟩
theorem below_eq (ds : List Int) {k : Nat} (hk : k < 6) : (((List.range k).map fun j => 6 - k + j).filter fun q => decide (parI ds q = 5 - k)) = chL ds (5 - k) := by
  have e : List.range 6 = List.range (6 - k) ++ (List.range k).map fun j => 6 - k + j := by
    have : k = 0 ∨ k = 1 ∨ k = 2 ∨ k = 3 ∨ k = 4 ∨ k = 5 := by omega
    rcases this with rfl | rfl | rfl | rfl | rfl | rfl <;> rfl
  unfold chL
  have h1 : (List.range (6 - k)).filter (fun j => decide (5 - k < j ∧ parI ds j = 5 - k)) = [] := List.filter_eq_nil_iff.mpr fun q hq => by
    have := List.mem_range.mp hq
    simp
    intro h
    omega
  rw [e, List.filter_append, h1, List.nil_append]
  refine List.filter_congr fun q hq => ?_
  obtain ⟨j, hj, rfl⟩ := List.mem_map.mp hq
  exact decide_eq_decide.mpr ⟨fun h => ⟨by omega, h⟩, fun h => h.2⟩
theorem ErrIn.mono {nw nw' : List (Addr × Obj)} {er er' : Nat → ErrRec} {ds : List Int} {q : Nat} (h : ErrIn nw er ds q) (hs : ∀ p ∈ nw, p ∈ nw') (he : ∀ j, q ≤ j → er' j = er j) : ErrIn nw' er' ds q := by
  have e0 := he q (Nat.le_refl _)
  refine ⟨by rw [e0]; exact hs _ h.o, by rw [e0]; exact hs _ h.d, by rw [e0]; exact h.gd, by rw [e0]; exact h.gs, by rw [e0]; exact h.gc, by rw [e0]; exact h.gv, by rw [e0]; exact h.gi, fun hc => ?_⟩
  obtain ⟨ti, li, h1, h2, h3⟩ := h.ch hc
  refine ⟨ti, li, by rw [e0]; exact h1, hs _ h2, ?_⟩
  have e : ((chL ds q).map fun j => Value.ref (er' j).ea) = (chL ds q).map fun j => Value.ref (er j).ea := List.map_congr_left fun j hj => by rw [he j (Nat.le_of_lt (chL_gt hj).1)]
  rw [e]
  exact hs _ h3
theorem ne_nil_of {prog : Program} {w : World} {A : Around} {E : Value → Shared → Prop} {s : Shared} {g : Heap} {L x y : Addr} {zs : List Value} {l : List (Addr × Obj)} {Q : Value → Shared → Prop} (N : News g L s.heap l) (hy : (y, PySem.W.listOf #[] 0) ∈ l) (hx : (x, LCg.lst zs) ∈ l) (hu : A.units < cLine)
    (h : Q (.bool (!zs.isEmpty)) s) : wpAny (model prog w) A (compareOp .NotEq (.ref x) (.ref y)) Q E s := by
  cases zs with
  | nil => exact ne_lists_same (vs := []) (us := []) ⟨_, (N _ hx).1, rfl, _, rfl⟩ ⟨_, (N _ hy).1, rfl, _, rfl⟩ rfl hu (fun j h1 h2 => by simp at h1) h
  | cons z zs => exact show wpAny (model prog w) A (richCompare .NotEq (.ref x) (.ref y)) Q E s from PySem.SeqAt.RcNeAt.lists_lengths (items := (z :: zs).toArray) (items2 := #[]) ⟨_, (N _ hx).1, rfl, _, rfl⟩ ⟨_, (N _ hy).1, rfl, _, rfl⟩ (by simp) hu prog w E Q h
theorem fr_keep1 {g h h' : Heap} {L xd : Addr} {m : Str → Option Value} (F : Fr g L h m) (hL : xd ≠ L) (h0 : g.get? xd = none) (k : ∀ b o, h.get? b = some o → b ≠ xd → h'.get? b = some o) : Fr g L h' m := by
  obtain ⟨oL, e1, e2, e, r⟩ := F.ns
  exact ⟨⟨oL, e1, e2, k _ _ e hL.symm, r⟩, fun b o eb => k _ _ (F.keep _ _ eb) fun z => (by rw [z, h0] at eb; cases eb), F.above⟩
theorem down_items {g h : Heap} {L il : Addr} {t5 t4 t3 t2 t1 t0 : Tok} {ni : Nat} {rest l0 : List (Addr × Obj)} (N : News g L h ((il, PySem.W.listOf #[.int 5 t5, .int 4 t4, .int 3 t3, .int 2 t2, .int 1 t1, .int 0 t0] ni) :: rest)) (hs : ∀ p ∈ l0, p ∈ rest) :
    ∃ vi : List Value, (∀ k a, ((vi.map Itm.val : List Itm))[k]? = some a → k < 6 ∧ ∃ t, a = .val (.int ((5 - k : Nat) : Int) t)) ∧ News g L h ((il, PySem.W.listOf vi.toArray ni) :: l0) ∧ vi.length = 6 := by
  refine ⟨[.int 5 t5, .int 4 t4, .int 3 t3, .int 2 t2, .int 1 t1, .int 0 t0], fun k a hk => ?_, fun p hp => ?_, rfl⟩
  · have hk6 := (List.getElem?_eq_some_iff.mp hk).1
    have hk7 : k < 6 := by simpa using hk6
    refine ⟨hk7, ?_⟩
    have : k = 0 ∨ k = 1 ∨ k = 2 ∨ k = 3 ∨ k = 4 ∨ k = 5 := by omega
    rcases this with rfl | rfl | rfl | rfl | rfl | rfl <;> (simp at hk; exact ⟨_, hk.symm⟩)
  · rcases List.mem_cons.mp hp with rfl | hp
    · exact N _ (.head _)
    · exact N p (.tail _ (hs p hp))
theorem news_ne {g h : Heap} {L a b : Addr} {o o' : Obj} {l : List (Addr × Obj)} (N : News g L h l) (ha : (a, o) ∈ l) (hb : (b, o') ∈ l) (hd : o.data ≠ o'.data) : a ≠ b := fun e => by
  subst e
  exact hd (congrArg Obj.data (Option.some.inj ((N _ ha).1.symm.trans (N _ hb).1)))
def dsOf (ns : List Int) : List Int := ((ns.take 6).map fun a : Int => a.fmod 65536) ++ usualL.drop ((ns.take 6).map fun a : Int => a.fmod 65536).length
theorem dsOf_len (ns : List Int) : (dsOf ns).length = 6 := by
  unfold dsOf
  rw [List.length_append, List.length_drop, List.length_map, List.length_take]
  have : usualL.length = 6 := rfl
  omega
theorem dsOf_nn {ns : List Int} {d : Int} (h : d ∈ dsOf ns) : 0 ≤ d := by
  rcases List.mem_append.mp h with h | h
  · obtain ⟨a, _, rfl⟩ := List.mem_map.mp h
    exact Int.fmod_nonneg_of_pos _ (by decide)
  · have h2 := List.mem_of_mem_drop h
    have key : ∀ x ∈ usualL, (0 : Int) ≤ x := by decide
    exact key d h2
end Ez
end
section
example : True := by
  w_top off
  trivial
open PySem PySem.W PySem.Calls PyProof.Rows
namespace Ez
local macro_rules | `(tactic| ktr_rel) => `(tactic| first
  | assumption
  | exact KTup.app (by ktr_rel)
  | exact KTup.cons (by ktr_rel)
  | exact AtomsAre.take _ (by ktr_rel)
  | exact ok_take _ (by ktr_rel)
  | exact Or.inl (by assumption))
local macro_rules | `(tactic| k_inst) => `(tactic| exact InstAt.up (by assumption) (fun b o e => Fr.keep (by k_asm) b o e))
local macro_rules | `(tactic| k_inst) => `(tactic| exact InstAt.bare (by assumption))
local macro_rules | `(tactic| walk_at "getAttr ref") => `(tactic| (k_here; k_dflt (first
  | (refine' get_slot' ?k1 ?k2 ?k3 ?k4 ?k5 ?k6 ?k7 ?k8 ?k9 ?k10 ?k11 ?_; (case k1 => k_asm); (case k2 => k_asm); (case k3 => k_inst); (case k4 => k_is); (case k5 => k_is); (case k6 => k_is); (case k7 => k_is); (case k8 => k_is); (case k9 => k_is); (case k10 => k_slotget); (case k11 => k_handed); k_whole))))
local macro_rules | `(tactic| walk_at "call builtin:len") => `(tactic| (k_here; (with_reducible show wpAny _ _ (call (Value.builtin "len") [Value.ref _]) _ _ _); refine len_tuple (by is_tup) (by (simp only [List.size_toArray]; omega)) ?_))
example (w : World) (h : Heap) (X : (hd.heap_39 w.params).In h) (e : PySem.Challenge.rw_ez0022_01.prog = Pg) : True := by
  revert X e
  k_fill
  intros
  trivial
local macro_rules | `(tactic| walk_at "subscriptTail") => `(tactic| (k_here; (with_reducible show wpAny _ _ (subscriptTail _ (PySem.Expr.Slice none (some _) none _) (Value.ref _) (Value.ref _)) _ _ _); (with_unfolding_all refine slice_int (by k_asm) (by k_asm) (by ktr_rel) (by omega) (by omega) ?_); intro a' h' tl' F' N' K'; (try k_sweep)))
local macro_rules | `(tactic| walk_at "call builtin:min") => `(tactic| (k_here; (with_reducible show wpAny _ _ (call (Value.builtin "min") [Value.int _ _, Value.int _ _]) _ _ _); refine min_two' rfl (by k_asm) (by k_asm) ?_; intro h' tk' tv' F' N'; (try k_sweep)))
local macro_rules | `(tactic| walk_at "compareOp Eq ref ref") => `(tactic| (k_here; (with_reducible show wpAny _ _ (compareOp CmpOp.Eq (Value.ref _) (Value.ref _)) _ _ _); refine' kpath_eq ?k1 ?k2 ?k3 ?k4 ?k5 ?k6 ?k7 ?k8 ?k9 ?_; (case k1 => k_asm); (case k2 => k_asm); (case k3 => ktr_rel); (case k4 => ktr_rel); (case k5 => ktr_rel); (case k6 => ktr_rel); (case k7 => ktr_rel); (case k8 => ktr_rel); (case k9 => ktr_units); k_whole))
local macro_rules | `(tactic| walk_at "compareOp NotEq ref ref") => `(tactic| (k_here; (with_reducible show wpAny _ _ (compareOp CmpOp.NotEq (Value.ref _) (Value.ref _)) _ _ _); refine' kpath_ne ?k1 ?k2 ?k3 ?k4 ?k5 ?k6 ?k7 ?k8 ?k9 ?_; (case k1 => k_asm); (case k2 => k_asm); (case k3 => ktr_rel); (case k4 => ktr_rel); (case k5 => ktr_rel); (case k6 => ktr_rel); (case k7 => ktr_rel); (case k8 => ktr_rel); (case k9 => ktr_units); k_whole))
local macro_rules | `(tactic| walk_at "getAttr ref") => `(tactic| (k_here; k_dflt (refine' get_own ?k1 ?k2 ?k3 ?k4 ?k5 ?k6 ?k7 ?k8 ?k9 ?_; (case k1 => k_asm); (case k2 => k_asm); (case k3 => k_inst); (case k4 => k_is); (case k5 => k_is); (case k6 => k_is); (case k7 => k_is); (case k8 => assumption); (case k9 => k_handed); k_whole)))
local macro_rules | `(tactic| walk_at "getAttrBy ref") => `(tactic| (k_here; k_dflt (refine' kbm_ownBy ?k1 ?k2 ?k3 ?k4 ?k5 ?k6 ?k7 ?k8 ?k9 ?_; (case k1 => k_asm); (case k2 => k_asm); (case k3 => k_inst); (case k4 => k_is); (case k5 => k_is); (case k6 => k_is); (case k7 => k_is); (case k8 => assumption); (case k9 => k_handed); k_whole)))
local macro_rules | `(tactic| walk_at $s:str) => `(tactic| k_extra $s)
theorem len8 (p : Nat) : (placeT.getD p []).length ≤ 8 ∧ (ruleT.getD p []).length ≤ 8 := by
  rcases Nat.lt_or_ge p 7 with h | h
  · have : ∀ p, p < 7 → (placeT.getD p []).length ≤ 8 ∧ (ruleT.getD p []).length ≤ 8 := by decide +kernel
    exact this p h
  · have e1 : placeT.getD p [] = [] := by rw [List.getD_eq_getElem?_getD, List.getElem?_eq_none (show placeT.length ≤ p from h)]; rfl
    have e2 : ruleT.getD p [] = [] := by rw [List.getD_eq_getElem?_getD, List.getElem?_eq_none (show ruleT.length ≤ p from h)]; rfl
    rw [e1, e2]; decide
theorem plI_lt (d : Int) : plI d < 7 := by unfold plI; have := Int.fmod_nonneg_of_pos d (show (0 : Int) < 7 by decide); have := Int.fmod_lt_of_pos d (show (0 : Int) < 7 by decide); omega
theorem ruI_lt (d : Int) : ruI d < 7 := by unfold ruI; have := Int.fmod_nonneg_of_pos (d.fdiv 7) (show (0 : Int) < 7 by decide); have := Int.fmod_lt_of_pos (d.fdiv 7) (show (0 : Int) < 7 by decide); omega
noncomputable def pvI (w : World) (p : Nat) : List Value := if h : p < 7 then Classical.choose (place_at w p h) else []
noncomputable def rvI (w : World) (p : Nat) : List Value := if h : p < 7 then Classical.choose (rule_at w p h) else []
theorem pvI_at (w : World) {p : Nat} (hp : p < 7) {h : Heap} (X : (hd.heap_39 w.params).In h) : PathAt h (318 + p) (pvI w p) (placeT.getD p []) := by
  unfold pvI
  rw [dif_pos hp]
  exact Classical.choose_spec (place_at w p hp) h X
theorem rvI_at (w : World) {p : Nat} (hp : p < 7) {h : Heap} (X : (hd.heap_39 w.params).In h) : PathAt h (326 + p) (rvI w p) (ruleT.getD p []) := by
  unfold rvI
  rw [dif_pos hp]
  exact Classical.choose_spec (rule_at w p hp) h X
noncomputable def errsD (w : World) (er : Nat → ErrRec) (ds : List Int) : Errs where
  ea := fun i => (er i).ea
  ed := fun i => (er i).ed
  dp := fun i => 318 + plI (ds.getD i 0)
  sp := fun i => 326 + ruI (ds.getD i 0)
  es := fun i => (er i).es
  en := fun i => (er i).en
  vd := fun i => pvI w (plI (ds.getD i 0))
  vs := fun i => rvI w (ruI (ds.getD i 0))
  kd := fun i => placeT.getD (plI (ds.getD i 0)) []
  ks := fun i => ruleT.getD (ruI (ds.getD i 0)) []
  code := fun i => if chL ds i = [] then 66 else 129
  ct := fun i => (er i).ct
  vt := fun i => (er i).vt
  inf := fun i => (er i).inf
theorem errsD_ok (w : World) (er : Nat → ErrRec) (ds : List Int) : (errsD w er ds).Ok ∧ (errsD w er ds).Lt :=
  errs_ok (P := fun i => plI (ds.getD i 0)) (R := fun i => ruI (ds.getD i 0)) (fun i => plI_lt _) (fun i => ruI_lt _) (fun i => rfl) (fun i => rfl)
theorem errsD_v {w : World} {er : Nat → ErrRec} {ds : List Int} {hT : Heap} {nw : List (Addr × Obj)} (X : (hd.heap_39 w.params).In hT) (hn : ∀ p ∈ nw, hT.get? p.1 = some p.2) (her : ∀ q, q < 6 → ErrIn nw er ds q) : ∀ i, i < 6 → ErrV (errsD w er ds) hT i := fun i hi => by
  have e := her i hi
  exact ⟨⟨⟨hn _ e.o, rfl, rfl, hn _ e.d⟩, e.gd, e.gs, e.gc, e.gv, e.gi⟩, pvI_at w (plI_lt _) X, rvI_at w (ruI_lt _) X, (len8 _).1, (len8 _).2⟩
theorem par_of_ch {ds : List Int} {i j : Nat} (h : j ∈ chL ds i) : abI (ds.getD j 0) j = i ∧ ¬ noI ds i := by
  obtain ⟨h1, h2, h3⟩ := chL_gt h
  unfold parI at h3
  by_cases hn : noI ds (abI (ds.getD j 0) j)
  · rw [if_pos hn] at h3; omega
  · rw [if_neg hn] at h3
    exact ⟨h3, h3 ▸ hn⟩
theorem errsD_g {w : World} {er : Nat → ErrRec} {ds : List Int} {hT : Heap} {nw : List (Addr × Obj)} (hn : ∀ p ∈ nw, hT.get? p.1 = some p.2) (her : ∀ q, q < 6 → ErrIn nw er ds q) : Grp (errsD w er ds) hT (chL ds) := by
  refine ⟨fun i hi => rfl, fun i hi hc => ?_, fun i j hj => ⟨(chL_gt hj).1, (chL_gt hj).2.1⟩, fun i h => ?_⟩
  · obtain ⟨ti, li, h1, h2, h3⟩ := (her i hi).ch hc
    exact ⟨ti, li, h1, ⟨_, hn _ h2, rfl, _, rfl⟩, ⟨_, hn _ h3, rfl, _, rfl⟩⟩
  · rcases hc : chL ds i with _ | ⟨j, r⟩
    · rfl
    · exact absurd h (par_of_ch (j := j) (by rw [hc]; exact .head _)).2
theorem tree_ground {w : World} {mean : ExcName → Option Value} {mg mb : Str → Option Value} {g h1 : Heap} {L x xd : Addr} {m : Str → Option Value} {o1 o2 : Obj} {rest : List (Addr × Obj)} (Xg : (hd.heap_39 w.params).In g) (Tg : Top hd.view_39 L0 mean mg mb g) (F1 : Fr g L h1 m) (N1 : News g L h1 ((x, o1) :: (xd, o2) :: rest))
    (hl : ∀ p ∈ rest, p.1 ≠ x ∧ p.1 ≠ xd) : ∃ hT, Sub hT h1 ∧ hT.get? x = none ∧ hT.get? xd = none ∧ (∀ p ∈ rest, hT.get? p.1 = some p.2) ∧ (hd.heap_39 w.params).In hT ∧ Top hd.view_39 L0 mean mg mb hT := by
  have st : ∀ b o, g.get? b = some o → (hideAll h1 [x, xd]).get? b = some o := fun b o e => hideAll_get _ (F1.keep b o e) (fun hm => by
    rcases List.mem_cons.mp hm with z | z
    · rw [z, (N1 _ (.head _)).2.2] at e; cases e
    · rw [List.mem_singleton.mp z, (N1 _ (.tail _ (.head _))).2.2] at e; cases e)
  refine ⟨hideAll h1 [x, xd], fun b o e => of_hideAll _ e, hideAll_none _ (.head _), hideAll_none _ (.tail _ (.head _)), fun p hp => hideAll_get _ (N1 p (.tail _ (.tail _ hp))).1 (fun hm => ?_), Xg.keeps st, Tg.keeps st⟩
  rcases List.mem_cons.mp hm with z | z
  · exact (hl p hp).1 z
  · exact (hl p hp).2 (List.mem_singleton.mp z)
theorem topF_eq (ds : List Int) : ((List.range 6).filter fun q => decide (parI ds q = q)) = topF (parI ds) := rfl
theorem chF_eq (ds : List Int) : chF (parI ds) = chL ds := rfl
theorem parI_le (ds : List Int) (k : Nat) : parI ds k ≤ k := by
  unfold parI
  split
  · exact Nat.le_refl _
  · exact abI_le _ _
theorem law_perm (ds : List Int) : ((topF (parI ds)).flatMap (desc (chL ds) 6)).Perm (List.range 6) := by
  rw [← chF_eq]
  exact perm_of fun k _ => parI_le ds k
theorem tree_after {g h1 h' : Heap} {L x xd : Addr} {m : Str → Option Value} {o1 o2 : Obj} {rest : List (Addr × Obj)} {led' : Led} (F1 : Fr g L h1 m) (N1 : News g L h1 ((x, o1) :: (xd, o2) :: rest)) (hl : ∀ p ∈ rest, p.1 ≠ x ∧ p.1 ≠ xd) (A : After h1 [(x, o1), (xd, o2)] h' led') :
    Fr g L h' m ∧ News g L h' (rest ++ led') := by
  refine After.step (tl := rest) F1 (fun p hp => N1 p ?_) A (fun p hp hm => ?_)
  · rcases List.mem_append.mp hp with h | h
    · exact .tail _ (.tail _ h)
    · rcases List.mem_cons.mp h with rfl | h
      · exact .head _
      · rw [List.mem_singleton.mp h]; exact .tail _ (.head _)
  · rcases List.mem_cons.mp hm with z | z
    · exact (hl p hp).1 z
    · exact (hl p hp).2 (List.mem_singleton.mp z)
theorem map6 {α : Type} {ds : List Int} (h : ds.length = 6) (f : Int → α) : ds.map f = (List.range 6).map fun i => f (ds.getD i 0) := by
  refine List.ext_getElem (by simp [h]) fun i h1 h2 => ?_
  have hi : i < ds.length := by simpa using h1
  simp [List.getD, hi]
theorem htq_p {w : World} {hT : Heap} (X : (hd.heap_39 w.params).In hT) : ∀ q ∈ (List.range 7).map (fun p => 318 + p), ∃ vs p, PathAt hT q vs p ∧ p.length ≤ 8 := fun q hq => by
  obtain ⟨p, hp, rfl⟩ := List.mem_map.mp hq
  exact ⟨_, _, pvI_at w (List.mem_range.mp hp) X, (len8 p).1⟩
theorem htq_r {w : World} {hT : Heap} (X : (hd.heap_39 w.params).In hT) : ∀ q ∈ (List.range 7).map (fun p => 326 + p), ∃ vs p, PathAt hT q vs p ∧ p.length ≤ 8 := fun q hq => by
  obtain ⟨p, hp, rfl⟩ := List.mem_map.mp hq
  exact ⟨_, _, rvI_at w (List.mem_range.mp hp) X, (len8 p).2⟩
theorem after_sub {hT h1 h' : Heap} {x xd : Addr} {o1 o2 : Obj} {led' : Led} (T1 : Sub hT h1) (T2 : hT.get? x = none) (T3 : hT.get? xd = none) (A : After h1 [(x, o1), (xd, o2)] h' led') : Sub hT h' := fun b o e => A.keep b o (T1 b o e) fun hm => by
  rcases List.mem_cons.mp hm with z | z
  · rw [z, T2] at e; cases e
  · rw [List.mem_singleton.mp z, T3] at e; cases e
end Ez
end
section
example : True := by
  w_top off
  trivial
open PySem PySem.W PySem.Calls PyProof.Rows
namespace Ez
local macro_rules | `(tactic| ktr_rel) => `(tactic| first
  | assumption
  | exact KTup.app (by ktr_rel)
  | exact KTup.cons (by ktr_rel)
  | exact AtomsAre.take _ (by ktr_rel)
  | exact ok_take _ (by ktr_rel)
  | exact Or.inl (by assumption))
local macro_rules | `(tactic| k_inst) => `(tactic| exact InstAt.up (by assumption) (fun b o e => Fr.keep (by k_asm) b o e))
local macro_rules | `(tactic| k_inst) => `(tactic| exact InstAt.bare (by assumption))
local macro_rules | `(tactic| walk_at "getAttr ref") => `(tactic| (k_here; k_dflt (first
  | (refine' get_slot' ?k1 ?k2 ?k3 ?k4 ?k5 ?k6 ?k7 ?k8 ?k9 ?k10 ?k11 ?_; (case k1 => k_asm); (case k2 => k_asm); (case k3 => k_inst); (case k4 => k_is); (case k5 => k_is); (case k6 => k_is); (case k7 => k_is); (case k8 => k_is); (case k9 => k_is); (case k10 => k_slotget); (case k11 => k_handed); k_whole))))
local macro_rules | `(tactic| walk_at "call builtin:len") => `(tactic| (k_here; (with_reducible show wpAny _ _ (call (Value.builtin "len") [Value.ref _]) _ _ _); refine len_tuple (by is_tup) (by (simp only [List.size_toArray]; omega)) ?_))
example (w : World) (h : Heap) (X : (hd.heap_39 w.params).In h) (e : PySem.Challenge.rw_ez0022_01.prog = Pg) : True := by
  revert X e
  k_fill
  intros
  trivial
local macro_rules | `(tactic| walk_at "subscriptTail") => `(tactic| (k_here; (with_reducible show wpAny _ _ (subscriptTail _ (PySem.Expr.Slice none (some _) none _) (Value.ref _) (Value.ref _)) _ _ _); (with_unfolding_all refine slice_int (by k_asm) (by k_asm) (by ktr_rel) (by omega) (by omega) ?_); intro a' h' tl' F' N' K'; (try k_sweep)))
local macro_rules | `(tactic| walk_at "call builtin:min") => `(tactic| (k_here; (with_reducible show wpAny _ _ (call (Value.builtin "min") [Value.int _ _, Value.int _ _]) _ _ _); refine min_two' rfl (by k_asm) (by k_asm) ?_; intro h' tk' tv' F' N'; (try k_sweep)))
local macro_rules | `(tactic| walk_at "compareOp Eq ref ref") => `(tactic| (k_here; (with_reducible show wpAny _ _ (compareOp CmpOp.Eq (Value.ref _) (Value.ref _)) _ _ _); refine' kpath_eq ?k1 ?k2 ?k3 ?k4 ?k5 ?k6 ?k7 ?k8 ?k9 ?_; (case k1 => k_asm); (case k2 => k_asm); (case k3 => ktr_rel); (case k4 => ktr_rel); (case k5 => ktr_rel); (case k6 => ktr_rel); (case k7 => ktr_rel); (case k8 => ktr_rel); (case k9 => ktr_units); k_whole))
local macro_rules | `(tactic| walk_at "compareOp NotEq ref ref") => `(tactic| (k_here; (with_reducible show wpAny _ _ (compareOp CmpOp.NotEq (Value.ref _) (Value.ref _)) _ _ _); refine' kpath_ne ?k1 ?k2 ?k3 ?k4 ?k5 ?k6 ?k7 ?k8 ?k9 ?_; (case k1 => k_asm); (case k2 => k_asm); (case k3 => ktr_rel); (case k4 => ktr_rel); (case k5 => ktr_rel); (case k6 => ktr_rel); (case k7 => ktr_rel); (case k8 => ktr_rel); (case k9 => ktr_units); k_whole))
local macro_rules | `(tactic| walk_at "getAttr ref") => `(tactic| (k_here; k_dflt (refine' get_own ?k1 ?k2 ?k3 ?k4 ?k5 ?k6 ?k7 ?k8 ?k9 ?_; (case k1 => k_asm); (case k2 => k_asm); (case k3 => k_inst); (case k4 => k_is); (case k5 => k_is); (case k6 => k_is); (case k7 => k_is); (case k8 => assumption); (case k9 => k_handed); k_whole)))
local macro_rules | `(tactic| walk_at "getAttrBy ref") => `(tactic| (k_here; k_dflt (refine' kbm_ownBy ?k1 ?k2 ?k3 ?k4 ?k5 ?k6 ?k7 ?k8 ?k9 ?_; (case k1 => k_asm); (case k2 => k_asm); (case k3 => k_inst); (case k4 => k_is); (case k5 => k_is); (case k6 => k_is); (case k7 => k_is); (case k8 => assumption); (case k9 => k_handed); k_whole)))
local macro_rules | `(tactic| walk_at $s:str) => `(tactic| k_extra $s)
set_option maxRecDepth 100000 in
set_option maxHeartbeats 8000000 in
theorem law_holds : PySem.Challenge.rw_ez0022_01.Holds := by
  refine hd ?_
  k_fill
  k_go0
  rename World => w
  rename IntsAre _ _ => hI
  rename List Int => ns
  rename (Frag.In _ _) => Xg
  rename Top _ _ _ _ _ _ => Tg
  rename Heap.IsList _ _ _ => hsl
  rename Fr _ _ _ _ => F
  rename News _ _ _ _ => Nw
  rename Below _ _ _ _ => K0
  rename ¬ _ < _ => hns
  rename Shared => s1
  rename CellsAre _ _ _ => X0
  have hY := CellsAre.three X0
  obtain ⟨c3, c2, c1, hE, d3, d2, d1⟩ := hY
  rw [hE] at Nw
  have F1 := (show Fr s1.heap s1.heap.objs.size _ (fun y => if y = Str.ofString "script" then some (Value.ref _) else none) from F)
  clear F X0
  k_with_none
  k_with "exec Assign cons ListComp" => (k_here; k_dflt (refine LCg.Assign_ListComp_U (F₀ := by k_asm) (by rfl) (by with_unfolding_all rfl) (by with_unfolding_all rfl) (by decide) (by rfl) (by decide) (by rfl) (by rfl) (by rfl) ?_))
  k_with "CompSrc" => (refine hold_on ?_)
  k_steps
  refine Hold.off ?_
  rename IntsAre _ (List.take 6 _) => hI6
  rename Addr => sl6
  rename List Value => vs6
  rename News _ _ _ _ => Na
  rename Fr _ _ _ _ => Fa
  refine LCg.CompSrc.ledger rfl Fa Na (.head _) (by rw [List.size_toArray, hI6.length, List.length_take, sizeLine_eq]; omega) ?_
  intro gx
  clear Na Fa
  (try dsimp only)
  rw [show ∀ ws : List Value, ws.toArray.size = ws.length from fun ws => List.size_toArray, hI6.length]
  refine comp_inv (fun i ys nw => nw = [(sl6, PySem.W.listOf vs6.toArray 0), (s1.heap.objs.size + 1 + 1 + 1, c3), (s1.heap.objs.size + 1 + 1, c2), (s1.heap.objs.size + 1, c1)] ∧ IntsAre ys ((List.take i (List.take 6 ns)).map fun a : Int => a.fmod 65536)) ⟨rfl, IntsAre.nil⟩ ?t1 ?f1
  (case t1 => (
    rintro i ys nw v I2 oI2 C2 oC2 D2 m2 hh tk E' hi ⟨rfl, hys⟩ hv hC hx F5 N5 off5 ne5
    obtain ⟨a, ta, rfl, ha⟩ := IntsAre.at hI6 i v (by simpa using hv)
    k_with_none
    k_with "CompEnd" => (refine hold_on ?_)
    k_steps
    refine Hold.off ?_
    exact LCg.CompEnd.intro (by assumption) (by assumption) [(sl6, PySem.W.listOf vs6.toArray 0), (s1.heap.objs.size + 1 + 1 + 1, c3), (s1.heap.objs.size + 1 + 1, c2), (s1.heap.objs.size + 1, c1)] (fun p hp => hp) off5 (.inr ⟨_, .head _, rfl, _, rfl⟩) ⟨rfl, by rw [List.take_add_one, ha, List.map_append]; exact hys.append (.cons _ _ .nil)⟩))
  (case f1 => (
    rintro ysD nw ⟨rfl, hysD⟩ D1 h2 tk2 F2 N2 off2
    (try dsimp only)
    rw [List.take_of_length_le (Nat.le_refl _)] at hysD
    replace N2 : News s1.heap s1.heap.objs.size h2 [(D1, LCg.lst ysD), (s1.heap.objs.size + 1 + 1 + 1, c3), (s1.heap.objs.size + 1 + 1, c2), (s1.heap.objs.size + 1, c1)] := fun p hp => N2 p (by rcases List.mem_cons.mp hp with rfl | hp; exact .head _; exact .tail _ (.tail _ hp))
    k_with_none
    k_with "exec Assign cons ListComp" => (k_here; k_dflt (refine LCg.Assign_ListComp_U (F₀ := by k_asm) (by rfl) (by with_unfolding_all rfl) (by with_unfolding_all rfl) (by decide) (by rfl) (by decide) (by rfl) (by rfl) (by rfl) ?_))
    k_with "CompSrc" => (refine hold_on ?_)
    k_with "call ref" => ((with_reducible show wpAny _ _ (call (Value.ref 340) _) _ _ _); refine hold_on ?_)
    k_steps
    refine Hold.off ?_
    have Fa := (by assumption : Fr s1.heap s1.heap.objs.size _ _)
    have Na := (by assumption : News s1.heap s1.heap.objs.size _ ((D1, LCg.lst ysD) :: _))
    refine wpAny_call (codeAny_weaken (dp := 320) (un := 60) rfl rfl (by show 302 ≤ 320; omega) (Nat.le_of_ble_eq_true rfl) (c_usual Xg Tg (Fr.sub Fa) (by decide) (by decide) ?_))
    intro h3 tk3 lu vsu cu hs3 fu hu iu
    have F3 := frSub Fa hs3
    have N3 : News s1.heap s1.heap.objs.size h3 [(lu, PySem.W.listOf (List.toArray vsu) cu), (D1, LCg.lst ysD), (s1.heap.objs.size + 1 + 1 + 1, c3), (s1.heap.objs.size + 1 + 1, c2), (s1.heap.objs.size + 1, c1)] := fun p hp => by
      rcases List.mem_cons.mp hp with rfl | hp
      · obtain ⟨oL, _, _, hL, _⟩ := Fa.ns
        refine ⟨hu, fun z => (by have z2 : lu = _ := z; rw [z2, hL] at fu; cases fu), ?_⟩
        cases q : s1.heap.get? lu with
        | none => rfl
        | some o => rw [Fa.keep _ _ q] at fu; cases fu
      · exact newsSub Na hs3 p hp
    clear Fa Na F2 N2
    k_with_none
    k_with "exec Assign cons ListComp" => (k_here; k_dflt (refine LCg.Assign_ListComp_U (F₀ := by k_asm) (by rfl) (by with_unfolding_all rfl) (by with_unfolding_all rfl) (by decide) (by rfl) (by decide) (by rfl) (by rfl) (by rfl) ?_))
    k_with "CompSrc" => (refine hold_on ?_)
    k_with "subscriptTail" => ((with_reducible show wpAny _ _ (subscriptTail (PySem.Expr.Call _ _ _ _) _ (Value.ref _) (Value.ref _)) _ _ _); refine hold_on ?_)
    k_steps
    refine Hold.off ?_
    k_dflt (refine kba_turn (value' := PySem.Expr.Name (PySem.Str.ofString "_") ⟨0, 0, 0, 0⟩) (fun _ => rfl) ?_)
    have Fa := (by assumption : Fr s1.heap s1.heap.objs.size _ _)
    have Na := (by assumption : News s1.heap s1.heap.objs.size _ ((lu, _) :: _))
    refine kmk_slice_ints Fa Na ⟨_, (Na _ (.head _)).1, rfl, _, rfl⟩ (.int _ _) .none iu (kmk_from iu (by omega)) rfl ?_ (by with_unfolding_all rfl) (by intro _; rfl) (by rw [List.size_toArray, iu.length, sizeLine_eq]; decide)
    intro lt vt h4 F4 N4 l4 it ct0 lt0
    clear Fa Na
    k_with_none
    k_with "binaryOp Add ref ref" => (refine hold_on ?_)
    k_steps
    refine Hold.off ?_
    have Fa := (by assumption : Fr s1.heap s1.heap.objs.size _ _)
    have Na := (by assumption : News s1.heap s1.heap.objs.size _ ((lt, _) :: _))
    refine kmk_add_ints Fa Na ⟨_, (Na _ (.tail _ (.tail _ (.head _)))).1, rfl, _, rfl⟩ ⟨_, (Na _ (.head _)).1, rfl, _, rfl⟩ hysD it ?_ (by rw [List.length_map, List.length_take, List.length_drop, sizeLine_eq]; have : usualL.length = 6 := rfl; omega)
    intro dl us h5 F5 N5 l5 iu5
    replace N5 : News s1.heap s1.heap.objs.size h5 [(dl, PySem.W.listOf us.toArray 0), (s1.heap.objs.size + 1 + 1 + 1, c3), (s1.heap.objs.size + 1 + 1, c2), (s1.heap.objs.size + 1, c1)] := fun p hp => N5 p (by rcases List.mem_cons.mp hp with rfl | hp; exact .head _; exact .tail _ (.tail _ (.tail _ (.tail _ hp))))
    replace iu5 : IntsAre us (dsOf ns) := iu5
    have hds := dsOf_len ns
    have hnn := fun d (h : d ∈ dsOf ns) => dsOf_nn h
    generalize dsOf ns = ds at iu5 hds hnn
    clear Fa Na it ct0 lt0 iu hysD
    k_with_none
    k_with "exec Assign cons ListComp" => (k_here; k_dflt (refine LCg.Assign_ListComp_U (F₀ := by k_asm) (by rfl) (by with_unfolding_all rfl) (by with_unfolding_all rfl) (by decide) (by rfl) (by decide) (by rfl) (by rfl) (by rfl) ?_))
    k_with "CompSrc" => (refine hold_on ?_)
    k_steps
    refine Hold.off ?_
    have Fa := (by assumption : Fr s1.heap s1.heap.objs.size _ _)
    have Na := (by assumption : News s1.heap s1.heap.objs.size _ ((dl, _) :: _))
    have husl := iu5.length
    have pl7 := fun {h : Heap} (k : ∀ b o, s1.heap.get? b = some o → h.get? b = some o) => placesAt (X := Frag.In.keeps Xg k)
    have rl7 := fun {h : Heap} (k : ∀ b o, s1.heap.get? b = some o → h.get? b = some o) => rulesAt (X := Frag.In.keeps Xg k)
    refine LCg.CompSrc.ledger rfl Fa Na (.head _) (by rw [List.size_toArray, husl, hds, sizeLine_eq]; decide) ?_
    intro gx2
    clear Na Fa
    (try dsimp only)
    rw [show us.toArray.size = 6 by rw [List.size_toArray, husl, hds]]
    refine comp_inv (fun i ys nw => nw = [(dl, PySem.W.listOf us.toArray 0), (s1.heap.objs.size + 1 + 1 + 1, c3), (s1.heap.objs.size + 1 + 1, c2), (s1.heap.objs.size + 1, c1)] ∧ ys = (ds.take i).map fun d : Int => Value.ref (318 + (d.fmod 7).toNat)) ⟨rfl, rfl⟩ ?t2 ?f2
    (case t2 => (
      rintro i ys nw v I2 oI2 C2 oC2 D2 m2 hh tk E' hi ⟨rfl, rfl⟩ hv hC hx F5 N5 off5 ne5
      obtain ⟨a, ta, rfl, ha⟩ := IntsAre.at iu5 i v (by simpa using hv)
      have ha0 := hnn a (List.mem_of_getElem? ha)
      have h7a : 0 ≤ a.fmod 7 := Int.fmod_nonneg_of_pos _ (by decide)
      have h7b : a.fmod 7 < 7 := Int.fmod_lt_of_pos _ (by decide)
      have h7 : (a.fmod 7).toNat < 7 := by omega
      k_with_none
      k_with "subscriptTail" => (
       (with_reducible show wpAny _ _ (subscriptTail _ _ (Value.ref _) (Value.int _ _)) _ _ _)
       (with_unfolding_all refine item_listL (pl7 (Fr.keep (by assumption))) h7a (by omega) (range7 _ h7) ?_))
      k_with "CompEnd" => (refine hold_on ?_)
      k_steps
      refine Hold.off ?_
      exact LCg.CompEnd.intro (by assumption) (by assumption) [(dl, PySem.W.listOf us.toArray 0), (s1.heap.objs.size + 1 + 1 + 1, c3), (s1.heap.objs.size + 1 + 1, c2), (s1.heap.objs.size + 1, c1)] (fun p hp => hp) off5 (.inr ⟨_, .head _, rfl, _, rfl⟩) ⟨rfl, by rw [List.take_add_one, ha, List.map_append]; rfl⟩))
    (case f2 => (
      rintro ysP nw ⟨rfl, rfl⟩ plA h6 tk6 F6 N6 off6
      (try dsimp only)
      k_with_none
      k_with "exec Assign cons ListComp" => (k_here; k_dflt (refine LCg.Assign_ListComp_U (F₀ := by k_asm) (by rfl) (by with_unfolding_all rfl) (by with_unfolding_all rfl) (by decide) (by rfl) (by decide) (by rfl) (by rfl) (by rfl) ?_))
      k_with "CompSrc" => (refine hold_on ?_)
      k_steps
      refine Hold.off ?_
      have Fa := (by assumption : Fr s1.heap s1.heap.objs.size _ _)
      have Na := (by assumption : News s1.heap s1.heap.objs.size _ ((plA, _) :: _))
      refine LCg.CompSrc.ledger rfl Fa Na (.tail _ (.head _)) (by rw [List.size_toArray, husl, hds, sizeLine_eq]; decide) ?_
      intro gx3
      clear Na Fa
      (try dsimp only)
      rw [show us.toArray.size = 6 by rw [List.size_toArray, husl, hds]]
      refine comp_inv (fun i ys nw => nw = [(plA, LCg.lst ((ds.take 6).map fun d : Int => Value.ref (318 + (d.fmod 7).toNat))), (dl, PySem.W.listOf us.toArray 0), (s1.heap.objs.size + 1 + 1 + 1, c3), (s1.heap.objs.size + 1 + 1, c2), (s1.heap.objs.size + 1, c1)] ∧ ys = (ds.take i).map fun d : Int => Value.ref (326 + ((d.fdiv 7).fmod 7).toNat)) ⟨rfl, rfl⟩ ?t3 ?f3
      (case t3 => (
        rintro i ys nw v I2 oI2 C2 oC2 D2 m2 hh tk E' hi ⟨rfl, rfl⟩ hv hC hx F5 N5 off5 ne5
        obtain ⟨a, ta, rfl, ha⟩ := IntsAre.at iu5 i v (by simpa using hv)
        have ha0 := hnn a (List.mem_of_getElem? ha)
        have h7a : 0 ≤ (a.fdiv 7).fmod 7 := Int.fmod_nonneg_of_pos _ (by decide)
        have h7b : (a.fdiv 7).fmod 7 < 7 := Int.fmod_lt_of_pos _ (by decide)
        have h7 : ((a.fdiv 7).fmod 7).toNat < 7 := by omega
        k_with_none
        k_with "subscriptTail" => (
         (with_reducible show wpAny _ _ (subscriptTail _ _ (Value.ref _) (Value.int _ _)) _ _ _)
         (with_unfolding_all refine item_listL (rl7 (Fr.keep (by assumption))) h7a (by omega) (range7 _ h7) ?_))
        k_with "CompEnd" => (refine hold_on ?_)
        k_steps
        refine Hold.off ?_
        exact LCg.CompEnd.intro (by assumption) (by assumption) [(plA, LCg.lst ((ds.take 6).map fun d : Int => Value.ref (318 + (d.fmod 7).toNat))), (dl, PySem.W.listOf us.toArray 0), (s1.heap.objs.size + 1 + 1 + 1, c3), (s1.heap.objs.size + 1 + 1, c2), (s1.heap.objs.size + 1, c1)] (fun p hp => hp) off5 (.inr ⟨_, .tail _ (.head _), rfl, _, rfl⟩) ⟨rfl, by rw [List.take_add_one, ha, List.map_append]; rfl⟩))
      (case f3 => (
        rintro ysR nw ⟨rfl, rfl⟩ rlA h7 tk7 F7 N7 off7
        rw [List.take_of_length_le (show ds.length ≤ 6 by omega)] at N7
        (try dsimp only)
        k_with_none
        k_with "storeName" => ((with_reducible show wpAny _ _ (storeName _ (Str.ofString "parents") _) _ _ _); refine hold_on ?_)
        k_steps
        refine Hold.off ?_
        rename Addr => pa
        rename _ < pa ∧ _ => lpa
        obtain ⟨q1, q2, q3, q4, q5, q6⟩ := lpa
        have Fa := (by assumption : Fr s1.heap s1.heap.objs.size _ _)
        have Na := (by assumption : News s1.heap s1.heap.objs.size _ ((pa, _) :: _))
        have n21 : s1.heap.objs.size + 1 + 1 ≠ s1.heap.objs.size + 1 := Nat.ne_of_gt (Nat.lt_succ_self _)
        have n31 : s1.heap.objs.size + 1 + 1 + 1 ≠ s1.heap.objs.size + 1 := Nat.ne_of_gt (Nat.lt_of_lt_of_le (Nat.lt_succ_self _) (Nat.le_succ _))
        have n32 : s1.heap.objs.size + 1 + 1 + 1 ≠ s1.heap.objs.size + 1 + 1 := Nat.ne_of_gt (Nat.lt_succ_self _)
        have nc : ∀ {a : Addr} {o : Obj}, (a, o) ∈ [(pa, PySem.W.listOf #[] 0), (rlA, LCg.lst (ds.map fun d : Int => Value.ref (326 + ((d.fdiv 7).fmod 7).toNat))), (plA, LCg.lst (ds.map fun d : Int => Value.ref (318 + (d.fmod 7).toNat))), (dl, PySem.W.listOf us.toArray 0), (s1.heap.objs.size + 1 + 1 + 1, c3), (s1.heap.objs.size + 1 + 1, c2), (s1.heap.objs.size + 1, c1)] → o.data ≠ c1.data → a ≠ s1.heap.objs.size + 1 := fun h hd => news_ne Na h (by k_mem) hd
        k_dflt (refine' storeX_C (c := s1.heap.objs.size + 1) (o := c1) Fa Na (by rfl) ?U d1 ?_)
        (case U => exact .tail (nc (.head _) (by rw [d1]; intro z; cases z)) (.tail (nc (.tail _ (.head _)) (by rw [d1]; intro z; cases z)) (.tail (nc (.tail _ (.tail _ (.head _))) (by rw [d1]; intro z; cases z)) (.tail (nc (.tail _ (.tail _ (.tail _ (.head _)))) (by rw [d1]; intro z; cases z)) (.tail n31 (.tail n21 (.head (fun p hp => nomatch hp))))))))
        intro h8 c1b F8 N8 d1b
        clear Fa Na nc
        k_with_none
        k_with "exec For Tuple Call cons nil" => (refine For_turns (by assumption) ?_)
        k_with "call type:enumerate" => (refine hold_on ?_)
        k_steps
        refine Hold.off ?_
        have Fa := (by assumption : Fr s1.heap s1.heap.objs.size _ _)
        have Na := (by assumption : News s1.heap s1.heap.objs.size _ ((pa, _) :: _))
        obtain ⟨m8, F9, hm1, hm2, hm3⟩ : ∃ m8, Fr s1.heap s1.heap.objs.size _ m8 ∧ m8 (Str.ofString "rules") = some (.ref rlA) ∧ m8 (Str.ofString "places") = some (.ref plA) ∧ m8 (Str.ofString "drawn") = some (.ref dl) := ⟨_, Fa, rfl, rfl, rfl⟩
        have em : m8 = (fun z => if z = Str.ofString "rules" then some (.ref rlA) else if z = Str.ofString "places" then some (.ref plA) else if z = Str.ofString "drawn" then some (.ref dl) else m8 z) := by
          funext z
          by_cases z1 : z = Str.ofString "rules"
          · subst z1; rw [if_pos rfl, hm1]
          · rw [if_neg z1]
            by_cases z2 : z = Str.ofString "places"
            · subst z2; rw [if_pos rfl, hm2]
            · rw [if_neg z2]
              by_cases z3 : z = Str.ofString "drawn"
              · subst z3; rw [if_pos rfl, hm3]
              · rw [if_neg z3]
        clear Fa
        refine ktu_enum rfl F9 Na (lo := PySem.W.listOf us.toArray 0) (by k_mem) rfl rfl rfl ?_
        intro I hIlt
        refine items_inv (fun i m l => (∀ z, (["place", "one", "above"] : List Str).contains z = false → m z = m8 z) ∧ ∃ ys n o2, l = [(pa, PySem.W.listOf (List.toArray ys) n), (rlA, LCg.lst (ds.map fun d : Int => Value.ref (326 + ruI d))), (plA, LCg.lst (ds.map fun d : Int => Value.ref (318 + plI d))), (dl, PySem.W.listOf us.toArray 0), (s1.heap.objs.size + 1 + 1 + 1, c3), (s1.heap.objs.size + 1 + 1, o2), (s1.heap.objs.size + 1, c1b)] ∧ IntsAre ys ((List.range i).map fun k => ((parI ds k : Nat) : Int)) ∧ ∃ v, o2.data = .cell v) _ 0 m8 _ ⟨fun _ _ => rfl, [], 0, c2, rfl, .nil, ⟨_, d2⟩⟩ ?hk ?turn ?done
        (case hk => (rintro i m l ⟨_, ys, n, o2, rfl, _⟩; exact ⟨.tail _ (.tail _ (.tail _ (.head _))), trivial⟩))
        (case turn => (
          intro k a m₁ l v h tk hxk hJ ha F₁
          rw [Nat.zero_add] at hJ
          obtain ⟨hm, ys, n, o2, rfl, hys, v2, ho2⟩ := hJ
          have hk6 : k < 6 := by
            have := (List.getElem?_eq_some_iff.mp hxk).1
            rw [enumItems_length] at this
            omega
          obtain ⟨u, hu⟩ : ∃ u, us[k]? = some u := ⟨_, List.getElem?_eq_getElem (by omega)⟩
          rw [enumItems_get us 0 k hu] at hxk
          obtain rfl := Option.some.inj hxk
          obtain ⟨T, t, rfl, hT⟩ := ha
          obtain ⟨d, td, rfl, hd⟩ := IntsAre.at iu5 k u hu
          rw [Nat.zero_add] at hT
          rw [split_S hm] at F₁
          rw [em] at F₁
          refine .cons fun oE hE => .cons fun oI hI' => .nil fun N₁ => ?_
          simp only [List.cons_append, List.nil_append] at N₁
          k_with_none
          k_with "storeName" => ((with_reducible show wpAny _ _ (storeName _ (Str.ofString "place") _) _ _ _); refine hold_on ?_)
          k_steps
          refine Hold.off ?_
          have Fb := (by assumption : Fr s1.heap s1.heap.objs.size _ _)
          have Nb := (by assumption : News s1.heap s1.heap.objs.size _ ((I + 1, oE) :: (I, oI) :: _))
          have hI2 : s1.heap.objs.size + 1 + 1 < I := hIlt (s1.heap.objs.size + 1 + 1, c2) (by k_mem)
          have nb : ∀ {a : Addr} {o : Obj}, (a, o) ∈ _ → o.data ≠ o2.data → a ≠ s1.heap.objs.size + 1 + 1 := fun h hd => news_ne Nb h (.tail _ (.tail _ (.tail _ (.tail _ (.tail _ (.tail _ (.tail _ (.head _)))))))) hd
          have nI : I ≠ s1.heap.objs.size + 1 + 1 := Nat.ne_of_gt hI2
          have nI1 : I + 1 ≠ s1.heap.objs.size + 1 + 1 := Nat.ne_of_gt (Nat.lt_succ_of_lt hI2)
          k_dflt (refine' storeX_C (c := s1.heap.objs.size + 1 + 1) (o := o2) Fb Nb (by rfl) ?U ho2 ?_)
          (case U => exact .tail nI1 (.tail nI (.tail (nb (.tail _ (.tail _ (.head _))) (by rw [ho2]; intro z; cases z)) (.tail (nb (.tail _ (.tail _ (.tail _ (.head _)))) (by rw [ho2]; intro z; cases z)) (.tail (nb (.tail _ (.tail _ (.tail _ (.tail _ (.head _))))) (by rw [ho2]; intro z; cases z)) (.tail (nb (.tail _ (.tail _ (.tail _ (.tail _ (.tail _ (.head _)))))) (by rw [ho2]; intro z; cases z)) (.tail n32 (.head (fun p hp => by rw [List.mem_singleton.mp hp]; exact n21.symm)))))))))
          intro h9 o2b F10 N10 ho2b
          clear Fb Nb nb
          k_with_none
          k_with "binaryOp Mod int int" => (refine hold_on ?_)
          k_steps
          refine Hold.off ?_
          refine mod_int (by omega) ?_
          have hab0 : 0 ≤ (d.fdiv 49).fmod ((k : Int) + 1) := Int.fmod_nonneg_of_pos _ (by omega)
          have hab1 : (d.fdiv 49).fmod ((k : Int) + 1) < (k : Int) + 1 := Int.fmod_lt_of_pos _ (by omega)
          have habn : ((d.fdiv 49).fmod ((k : Int) + 1)).toNat = abI d k := rfl
          have habk := abI_le d k
          have hdk : ds.getD k 0 = d := by simp [List.getD, hd]
          obtain ⟨e, he⟩ : ∃ e, ds[abI d k]? = some e := ⟨_, List.getElem?_eq_getElem (by omega)⟩
          have hde : ds.getD (abI d k) 0 = e := by simp [List.getD, he]
          have he7 : plI e < 7 := by unfold plI; have := Int.fmod_nonneg_of_pos e (show (0 : Int) < 7 by decide); have := Int.fmod_lt_of_pos e (show (0 : Int) < 7 by decide); omega
          have hr7 : ruI e < 7 := by unfold ruI; have := Int.fmod_nonneg_of_pos (e.fdiv 7) (show (0 : Int) < 7 by decide); have := Int.fmod_lt_of_pos (e.fdiv 7) (show (0 : Int) < 7 by decide); omega
          obtain ⟨pvs, hpv⟩ := place_at w (plI e) he7
          obtain ⟨rvs, hrv⟩ := rule_at w (ruI e) hr7
          have hpx : (ds.map fun d : Int => Value.ref (318 + plI d))[((d.fdiv 49).fmod ((k : Int) + 1)).toNat]? = some (.ref (318 + plI e)) := by rw [habn, List.getElem?_map, he]; rfl
          have hrx : (ds.map fun d : Int => Value.ref (326 + ruI d))[((d.fdiv 49).fmod ((k : Int) + 1)).toNat]? = some (.ref (326 + ruI e)) := by rw [habn, List.getElem?_map, he]; rfl
          k_with_none
          k_with "subscriptTail" => (
           (with_reducible show wpAny _ _ (subscriptTail _ _ (Value.ref plA) (Value.int _ _)) _ _ _)
           (with_unfolding_all refine item_listL (l := ds.map fun d : Int => Value.ref (318 + plI d)) ⟨_, (News.get (by k_asm) (by k_mem : (plA, LCg.lst (ds.map fun d : Int => Value.ref (318 + plI d))) ∈ _)), rfl, _, rfl⟩ hab0 (by omega) hpx ?_))
          k_with "subscriptTail" => (
           (with_reducible show wpAny _ _ (subscriptTail _ _ (Value.ref rlA) (Value.int _ _)) _ _ _)
           (with_unfolding_all refine item_listL (l := ds.map fun d : Int => Value.ref (326 + ruI d)) ⟨_, (News.get (by k_asm) (by k_mem : (rlA, LCg.lst (ds.map fun d : Int => Value.ref (326 + ruI d))) ∈ _)), rfl, _, rfl⟩ hab0 (by omega) hrx ?_))
          k_with "compareOp In ref ref" => (refine hold_on ?_)
          k_steps
          refine Hold.off ?_
          have Nc := (by assumption : News s1.heap _ _ ((_, PySem.W.listOf _ 0) :: (_, tupO []) :: (I + 1, oE) :: _))
          have Fc := (by assumption : Fr s1.heap _ _ _)
          have kc : ∀ b o, s1.heap.get? b = some o → _ := Fc.keep
          have hpp := hpv _ (Frag.In.keeps Xg kc)
          have hrr := hrv _ (Frag.In.keeps Xg kc)
          have hne : (318 : Nat) + plI e ≠ 326 + ruI e := by omega
          refine PySem.SeqAt.in_listAt (items := #[.ref (318 + plI e), .ref (326 + ruI e)]) (fun y => if y = .ref (318 + plI e) then decide (placeT.getD (plI e) [] = []) else decide (ruleT.getD (ruI e) [] = [])) ⟨_, (Nc _ (.head _)).1, rfl, _, rfl⟩ ?he ?_
          (case he => (
            intro y hy
            have hy' : y = .ref (318 + plI e) ∨ y = .ref (326 + ruI e) := by simpa using hy
            rcases hy' with rfl | rfl
            · rw [if_pos rfl]
              exact eqAt_path hpp.tup (vy := []) ⟨_, (Nc _ (.tail _ (.head _))).1, rfl, _, rfl⟩ hpp.ats trivial (Nat.lt_of_le_of_lt (Nat.le_add_right _ 64) (by ktr_units))
            · rw [if_neg (fun z => hne (by injection z with z; exact z.symm))]
              exact eqAt_path hrr.tup (vy := []) ⟨_, (Nc _ (.tail _ (.head _))).1, rfl, _, rfl⟩ hrr.ats trivial (Nat.lt_of_le_of_lt (Nat.le_add_right _ 64) (by ktr_units))))
          have hany : ((#[.ref (318 + plI e), .ref (326 + ruI e)] : Array Value).any fun y => if y = .ref (318 + plI e) then decide (placeT.getD (plI e) [] = []) else decide (ruleT.getD (ruI e) [] = [])) = decide (noI ds (abI d k)) := by
            have h2 : (Value.ref (326 + ruI e) = Value.ref (318 + plI e)) = False := by
              apply eq_false
              intro z; injection z with z; exact hne z.symm
            have hnoI : noI ds (abI d k) ↔ (placeT.getD (plI e) [] = [] ∨ ruleT.getD (ruI e) [] = []) := by unfold noI; rw [hde]
            rw [show decide (noI ds (abI d k)) = decide (placeT.getD (plI e) [] = [] ∨ ruleT.getD (ruI e) [] = []) from decide_eq_decide.mpr hnoI]
            simp [h2]
          rw [hany]
          have Nd : News s1.heap _ _ [(I + 1, oE), (I, oI), (pa, PySem.W.listOf (List.toArray ys) n), (rlA, LCg.lst (ds.map fun d : Int => Value.ref (326 + ruI d))), (plA, LCg.lst (ds.map fun d : Int => Value.ref (318 + plI d))), (dl, PySem.W.listOf us.toArray 0), (s1.heap.objs.size + 1 + 1 + 1, c3), (s1.heap.objs.size + 1 + 1, o2b), (s1.heap.objs.size + 1, c1b)] := fun p hp => Nc p (.tail _ (.tail _ hp))
          clear Nc
          have hIp : pa < I := hIlt (pa, PySem.W.listOf #[] 0) (by k_mem)
          by_cases hno : noI ds (abI d k)
          · rw [decide_eq_true hno]
            k_with_none
            k_with "call builtin:list.append" => (refine hold_on ?_)
            k_steps
            refine Hold.off ?_
            have Fd := (by assumption : Fr s1.heap _ _ _)
            have Ne := (by assumption : News s1.heap _ _ ((I + 1, oE) :: _))
            refine append_K Fd Ne (.tail (Nat.ne_of_gt (Nat.lt_succ_of_lt hIp)) (.tail (Nat.ne_of_gt hIp) (.head (fun p hp => by simp only [List.mem_cons, List.not_mem_nil, or_false] at hp; rcases hp with rfl | rfl | rfl | rfl | rfl | rfl; exact Nat.ne_of_lt q1; exact Nat.ne_of_lt q2; exact Nat.ne_of_lt q3; exact Nat.ne_of_lt q4; exact Nat.ne_of_lt q5; exact Nat.ne_of_lt q6)))) ?_ (by rw [List.size_toArray, hys.length, List.length_map, List.length_range, sizeLine_eq]; omega)
            intro h10 F11 N11
            rw [List.push_toArray] at N11
            clear Fd Ne
            k_with_none
            k_steps
            all_goals (try dsimp only)
            refine ⟨_, _, _, _, rfl, by assumption, by assumption, ?_, ⟨(by intro z hz; simp at hz; simp [hz]; exact (congrFun em z).symm), _, _, o2b, rfl, ?_, ⟨_, ho2b⟩⟩⟩
            · intro p hp q hq
              have hq' : q.1 = I + 1 ∨ q.1 = I := by
                simp only [List.mem_cons, List.not_mem_nil, or_false] at hq
                rcases hq with rfl | rfl
                · exact .inl rfl
                · exact .inr rfl
              have hp' : p.1 < I := by
                simp only [List.mem_cons, List.not_mem_nil, or_false] at hp
                rcases hp with rfl | rfl | rfl | rfl | rfl | rfl | rfl
                · exact hIp
                · exact Nat.lt_trans q1 hIp
                · exact Nat.lt_trans q2 hIp
                · exact Nat.lt_trans q3 hIp
                · exact Nat.lt_trans q4 hIp
                · exact Nat.lt_trans q5 hIp
                · exact Nat.lt_trans q6 hIp
              rcases hq' with e | e
              · rw [e]; exact Nat.ne_of_lt (Nat.lt_succ_of_lt hp')
              · rw [e]; exact Nat.ne_of_lt hp'
            · rw [Nat.zero_add, List.range_succ, List.map_append]
              refine hys.append ?_
              have hpk : ((parI ds k : Nat) : Int) = ((k : Nat) : Int) := by unfold parI; rw [hdk, if_pos hno]
              rw [show List.map (fun k => ((parI ds k : Nat) : Int)) [k] = [((k : Nat) : Int)] by simp [hpk]]
              exact .cons _ _ .nil
          · rw [decide_eq_false hno]
            k_with_none
            k_with "call builtin:list.append" => (refine hold_on ?_)
            k_steps
            refine Hold.off ?_
            have Fd := (by assumption : Fr s1.heap _ _ _)
            have Ne := (by assumption : News s1.heap _ _ ((I + 1, oE) :: _))
            refine append_K Fd Ne (.tail (Nat.ne_of_gt (Nat.lt_succ_of_lt hIp)) (.tail (Nat.ne_of_gt hIp) (.head (fun p hp => by simp only [List.mem_cons, List.not_mem_nil, or_false] at hp; rcases hp with rfl | rfl | rfl | rfl | rfl | rfl; exact Nat.ne_of_lt q1; exact Nat.ne_of_lt q2; exact Nat.ne_of_lt q3; exact Nat.ne_of_lt q4; exact Nat.ne_of_lt q5; exact Nat.ne_of_lt q6)))) ?_ (by rw [List.size_toArray, hys.length, List.length_map, List.length_range, sizeLine_eq]; omega)
            intro h10 F11 N11
            rw [List.push_toArray] at N11
            clear Fd Ne
            k_with_none
            k_steps
            all_goals (try dsimp only)
            refine ⟨_, _, _, _, rfl, by assumption, by assumption, ?_, ⟨(by intro z hz; simp at hz; simp [hz]; exact (congrFun em z).symm), _, _, o2b, rfl, ?_, ⟨_, ho2b⟩⟩⟩
            · intro p hp q hq
              have hq' : q.1 = I + 1 ∨ q.1 = I := by
                simp only [List.mem_cons, List.not_mem_nil, or_false] at hq
                rcases hq with rfl | rfl
                · exact .inl rfl
                · exact .inr rfl
              have hp' : p.1 < I := by
                simp only [List.mem_cons, List.not_mem_nil, or_false] at hp
                rcases hp with rfl | rfl | rfl | rfl | rfl | rfl | rfl
                · exact hIp
                · exact Nat.lt_trans q1 hIp
                · exact Nat.lt_trans q2 hIp
                · exact Nat.lt_trans q3 hIp
                · exact Nat.lt_trans q4 hIp
                · exact Nat.lt_trans q5 hIp
                · exact Nat.lt_trans q6 hIp
              rcases hq' with e | e
              · rw [e]; exact Nat.ne_of_lt (Nat.lt_succ_of_lt hp')
              · rw [e]; exact Nat.ne_of_lt hp'
            · rw [Nat.zero_add, List.range_succ, List.map_append]
              refine hys.append ?_
              have hpk : ((parI ds k : Nat) : Int) = (d.fdiv 49).fmod ((k : Int) + 1) := by unfold parI; rw [hdk, if_neg hno, ← habn]; exact Int.toNat_of_nonneg hab0
              rw [show List.map (fun k => ((parI ds k : Nat) : Int)) [k] = [(d.fdiv 49).fmod ((k : Int) + 1)] by simp [hpk]]
              exact .cons _ _ .nil))
        (case done => (
          intro m₁ l h tk hJ F₁ N₁
          rw [show 0 + (enumItems 0 us).length = 6 by rw [enumItems_length]; omega] at hJ
          obtain ⟨hm, ys, n, o2, rfl, hys, v2, ho2⟩ := hJ
          rw [split_S hm] at F₁
          rw [em] at F₁
          k_with_none
          k_with "storeName" => ((with_reducible show wpAny _ _ (storeName _ (Str.ofString "made") _) _ _ _); refine hold_on ?_)
          k_steps
          refine Hold.off ?_
          rename Addr => md
          rename Obj => mo
          rename Obj.IsDictOf (PySem.strKind _ _) _ _ => hMd0
          have hMd := isDict_nil hMd0
          have hMlo := (by assumption : (md == sysModules) = false)
          rename _ < md ∧ _ => lmd
          obtain ⟨e1, e2, e3, e4, e5, e6, e7⟩ := lmd
          have Fb := (by assumption : Fr s1.heap _ _ _)
          have Nb := (by assumption : News s1.heap _ _ ((md, mo) :: _))
          k_dflt (refine' storeX_C (c := s1.heap.objs.size + 1 + 1 + 1) (o := c3) Fb Nb (by rfl) ?U d3 ?_)
          (case U => exact .tail (Nat.ne_of_gt e5) (.tail (Nat.ne_of_gt q4) (.tail (news_ne Nb (.tail _ (.tail _ (.head _))) (.tail _ (.tail _ (.tail _ (.tail _ (.tail _ (.head _)))))) (by rw [d3]; intro z; cases z)) (.tail (news_ne Nb (.tail _ (.tail _ (.tail _ (.head _)))) (.tail _ (.tail _ (.tail _ (.tail _ (.tail _ (.head _)))))) (by rw [d3]; intro z; cases z)) (.tail (news_ne Nb (.tail _ (.tail _ (.tail _ (.tail _ (.head _))))) (.tail _ (.tail _ (.tail _ (.tail _ (.tail _ (.head _)))))) (by rw [d3]; intro z; cases z)) (.head (fun p hp => by simp only [List.mem_cons, List.not_mem_nil, or_false] at hp; rcases hp with rfl | rfl; exact n32.symm; exact n31.symm)))))))
          intro h11 c3b F12 N12 d3b
          clear Fb Nb
          have hysl : ys.length = 6 := by rw [hys.length, List.length_map, List.length_range]
          k_with_none
          k_with "exec For Name List cons nil" => (refine For_turns (by assumption) ?_)
          k_with "pyIter ref" => (refine hold_on ?_)
          k_steps
          refine Hold.off ?_
          rename Addr => il
          have Fa := (by assumption : Fr s1.heap _ _ _)
          have Nb := (by assumption : News s1.heap _ _ ((il, _) :: (md, mo) :: _))
          obtain ⟨m9, F13, hn1, hn2⟩ : ∃ m9, Fr s1.heap s1.heap.objs.size _ m9 ∧ m9 (Str.ofString "rules") = some (.ref rlA) ∧ m9 (Str.ofString "places") = some (.ref plA) := ⟨_, Fa, rfl, rfl⟩
          have em9 : m9 = (fun z => if z = Str.ofString "rules" then some (.ref rlA) else if z = Str.ofString "places" then some (.ref plA) else m9 z) := by
            funext z
            by_cases z1 : z = Str.ofString "rules"
            · subst z1; rw [if_pos rfl, hn1]
            · rw [if_neg z1]
              by_cases z2 : z = Str.ofString "places"
              · subst z2; rw [if_pos rfl, hn2]
              · rw [if_neg z2]
          obtain ⟨vi, hvi, Na, hvil⟩ := down_items Nb (l0 := [(md, mo), (pa, PySem.W.listOf ys.toArray n), (rlA, LCg.lst (ds.map fun d : Int => Value.ref (326 + ruI d))), (plA, LCg.lst (ds.map fun d : Int => Value.ref (318 + plI d))), (s1.heap.objs.size + 1 + 1 + 1, c3b), (s1.heap.objs.size + 1 + 1, o2), (s1.heap.objs.size + 1, c1b)]) (fun p hp => by simp only [List.mem_cons, List.not_mem_nil, or_false] at hp; rcases hp with rfl | rfl | rfl | rfl | rfl | rfl | rfl <;> k_mem)
          clear Fa Nb
          refine iter_listTurns rfl F13 Na (lo := PySem.W.listOf vi.toArray 0) (.head _) rfl rfl ?_
          intro I hIlt
          refine items_inv (fun k m l => (∀ z, (["place", "below"] : List Str).contains z = false → m z = m9 z) ∧ ∃ er mo' kvs o2' nw, l = (il, PySem.W.listOf vi.toArray 0) :: (md, mo') :: (pa, PySem.W.listOf ys.toArray n) :: (rlA, LCg.lst (ds.map fun d : Int => Value.ref (326 + ruI d))) :: (plA, LCg.lst (ds.map fun d : Int => Value.ref (318 + plI d))) :: (s1.heap.objs.size + 1 + 1 + 1, c3b) :: (s1.heap.objs.size + 1 + 1, o2') :: (s1.heap.objs.size + 1, c1b) :: nw ∧ mo'.IsDictOf (atomKind Pg w) kvs ∧ (∀ q : Nat, q < 6 → valueAt kvs (.i (q : Int)) = if 6 - k ≤ q then some (.ref (er q).ea) else none) ∧ kvs.length = k ∧ (∀ q, 6 - k ≤ q → q < 6 → ErrIn nw er ds q) ∧ (∀ p ∈ nw, p.1 ≠ I ∧ p.1 ≠ md ∧ p.1 ≠ s1.heap.objs.size + 1 + 1) ∧ ∃ v, o2'.data = .cell v) _ 0 m9 _ ⟨fun _ _ => rfl, fun _ => ⟨0, 0, [], 0, 0, 0, .none⟩, mo, [], o2, [], rfl, hMd, fun q hq => (if_neg (by omega)).symm, rfl, fun q h1 h2 => by omega, (fun p hp => nomatch hp), ⟨_, ho2⟩⟩ ?hk2 ?turn2 ?done2
          (case hk2 => (rintro i m l ⟨_, er, mo', kvs, o2', nw, rfl, _⟩; exact ⟨.head _, trivial⟩))
          (case turn2 => (
            intro k a m₁ l v h tk hxk hJ ha F₁
            rw [Nat.zero_add] at hJ
            obtain ⟨hm, er, mo', kvs, o2', nw, rfl, hmo, hkv, hkl, her, hnw, vo2, ho2'⟩ := hJ
            obtain ⟨hk6, t, rfl⟩ := hvi k a hxk
            obtain rfl : v = .int ((5 - k : Nat) : Int) t := ha
            rw [split_S hm] at F₁
            rw [em9] at F₁
            refine .cons fun oI hI' => .nil fun N₁ => ?_
            simp only [List.cons_append, List.nil_append] at N₁
            have hI2 : s1.heap.objs.size + 1 + 1 < I := hIlt (s1.heap.objs.size + 1 + 1, o2) (by k_mem)
            have hIm : md < I := hIlt (md, mo) (by k_mem)
            have nb : ∀ {a : Addr} {o : Obj}, (a, o) ∈ _ → o.data ≠ o2'.data → a ≠ s1.heap.objs.size + 1 + 1 := fun h hd => news_ne N₁ h (.tail _ (.tail _ (.tail _ (.tail _ (.tail _ (.tail _ (.tail _ (.head _)))))))) hd
            refine wpAny_assign_Name ?_
            k_dflt (refine' storeX_C (c := s1.heap.objs.size + 1 + 1) (o := o2') F₁ N₁ (by rfl) ?U ho2' ?_)
            (case U => exact .tail (Nat.ne_of_gt hI2) (.tail (nb (.tail _ (.head _)) (by rw [ho2']; intro z; cases z)) (.tail (Nat.ne_of_gt e6) (.tail (nb (.tail _ (.tail _ (.tail _ (.head _)))) (by rw [ho2']; intro z; cases z)) (.tail (nb (.tail _ (.tail _ (.tail _ (.tail _ (.head _))))) (by rw [ho2']; intro z; cases z)) (.tail (nb (.tail _ (.tail _ (.tail _ (.tail _ (.tail _ (.head _)))))) (by rw [ho2']; intro z; cases z)) (.tail n32 (.head (fun p hp => by rcases List.mem_cons.mp hp with rfl | hp; exact n21.symm; exact (hnw p hp).2.2)))))))))
            intro h12 o2b F14 N14 ho2b
            clear nb N₁ F₁
            k_with_none
            k_with "exec Assign cons ListComp" => (k_here; k_dflt (refine LCt.Assign_ListComp_T (F₀ := by k_asm) (by rfl) (by with_unfolding_all rfl) (by with_unfolding_all rfl) (by decide) (by rfl) (by decide) (by rfl) (by rfl) (by rfl) ?_))
            k_with "CompSrcT" => (refine hold_on ?_)
            k_steps
            refine Hold.off ?_
            have Fa := (by assumption : Fr s1.heap _ _ _)
            have Nb := (by assumption : News s1.heap _ _ ((I, oI) :: _))
            have hk06 : k = 0 ∨ k = 1 ∨ k = 2 ∨ k = 3 ∨ k = 4 ∨ k = 5 := by omega
            have hsm : Builtin.Range.small (((5 - k : Nat) : Int) + 1) 6 1 = true := by rcases hk06 with rfl | rfl | rfl | rfl | rfl | rfl <;> rfl
            have hrs : Builtin.Range.rangeSize (((5 - k : Nat) : Int) + 1) 6 1 = ((k : Nat) : Int) := by rcases hk06 with rfl | rfl | rfl | rfl | rfl | rfl <;> rfl
            with_reducible rename IsRange _ _ _ _ _ _ _ _ => hrg
            refine LCt.CompSrcT.range (n := k) rfl Fa Nb hrg hsm hrs (by rw [sizeLine_eq]; omega) ?_
            intro gx4
            clear Fa Nb
            (try dsimp only)
            refine compT_inv (fun i zs nw2 => nw2 = (I, oI) :: (il, PySem.W.listOf vi.toArray 0) :: (md, mo') :: (pa, PySem.W.listOf ys.toArray n) :: (rlA, LCg.lst (ds.map fun d : Int => Value.ref (326 + ruI d))) :: (plA, LCg.lst (ds.map fun d : Int => Value.ref (318 + plI d))) :: (s1.heap.objs.size + 1 + 1 + 1, c3b) :: (s1.heap.objs.size + 1 + 1, o2b) :: (s1.heap.objs.size + 1, c1b) :: nw ∧ zs = (((List.range i).map fun j => 6 - k + j).filter fun q => decide (parI ds q = 5 - k)).map fun q => Value.ref (er q).ea) ⟨rfl, rfl⟩ ?t5 ?f5
            (case t5 => (
              rintro i zs nw2 v I2 oI2 C2 oC2 D2 m2 hh tk E' hi ⟨rfl, rfl⟩ ⟨t2, rfl⟩ hC hx F5 N5 off5 ne5
              obtain ⟨q, hq⟩ : ∃ q, q = 6 - k + i := ⟨_, rfl⟩
              have hq6 : q < 6 := by omega
              have hqv : ((5 - k : Nat) : Int) + 1 + (i : Int) = (q : Int) := by omega
              rw [hqv] at hx
              have hqn : ((q : Nat) : Int).toNat = q := by omega
              obtain ⟨tq, hyq⟩ : ∃ tq, ys[q]? = some (.int ((parI ds q : Nat) : Int) tq) := hys.get q _ (by rw [List.getElem?_map, List.getElem?_range hq6]; rfl)
              have hyq' : ys[((q : Nat) : Int).toNat]? = some (.int ((parI ds q : Nat) : Int) tq) := by rw [hqn]; exact hyq
              have hvq : valueAt kvs (.i ((q : Nat) : Int)) = some (.ref (er q).ea) := by rw [hkv q hq6, if_pos (by omega)]
              have hqk0 : Atom.isV (.i ((q : Nat) : Int)) (.int ((q : Nat) : Int) t2) = true := by simp [Atom.isV]
              have hqk : (atomKind Pg w).is (.i ((q : Nat) : Int)) (.int ((q : Nat) : Int) t2) = true := hqk0
              have hfl : (((List.range (i + 1)).map fun j => 6 - k + j).filter fun q => decide (parI ds q = 5 - k)) = (((List.range i).map fun j => 6 - k + j).filter fun q => decide (parI ds q = 5 - k)) ++ (if parI ds q = 5 - k then [q] else []) := by
                rw [List.range_succ, List.map_append, List.filter_append]
                show _ ++ List.filter (fun q => decide (parI ds q = 5 - k)) [6 - k + i] = _
                rw [← hq, List.filter_cons, List.filter_nil]
                by_cases z : parI ds q = 5 - k
                · rw [if_pos z, if_pos (decide_eq_true z)]
                · rw [if_neg z, if_neg (by rw [decide_eq_false z]; exact Bool.false_ne_true)]
              k_with_none
              k_with "subscriptTail" => (
               (with_reducible show wpAny _ _ (subscriptTail _ _ (Value.ref pa) (Value.int _ _)) _ _ _)
               refine hold_on ?_)
              k_with "subscriptTail" => (
               (with_reducible show wpAny _ _ (subscriptTail _ _ (Value.ref il) (Value.int _ _)) _ _ _)
               (with_unfolding_all refine item_listL (l := ys) ⟨_, (News.get (by k_asm) (by k_mem : (pa, PySem.W.listOf ys.toArray n) ∈ _)), rfl, _, rfl⟩ (by omega) (by omega) hyq' ?_))
              k_with "subscriptTail" => (
               (with_reducible show wpAny _ _ (subscriptTail _ _ (Value.ref md) (Value.int _ _)) _ _ _)
               (with_unfolding_all refine kda_item (knd := atomKind Pg w) (k := .i ((q : Nat) : Int)) (by k_asm) (by k_mem : (md, mo') ∈ _) hmo (by show Atom.isV _ _ = true; simp [Atom.isV]) hvq ?_))
              k_with "CompEnd" => (refine hold_on ?_)
              k_steps
              refine Hold.off ?_
              have Fz := (by assumption : Fr s1.heap _ _ _)
              have Nz := (by assumption : News s1.heap _ _ ((I2, _) :: _))
              have hq0 : (0 : Int) ≤ ((q : Nat) : Int) := Int.natCast_nonneg q
              have hq63 : ((q : Nat) : Int) < 2 ^ 63 := by omega
              refine item_listL (l := ys) ⟨_, (Nz (pa, PySem.W.listOf ys.toArray n) (by k_mem)).1, rfl, _, rfl⟩ hq0 hq63 hyq' ?_ (by with_unfolding_all rfl) (by intro _; with_unfolding_all rfl)
              k_with_none
              k_with "compareOp Eq int int" => (refine hold_on ?_)
              k_steps
              refine Hold.off ?_
              k_with_none
              k_with "subscriptTail" => ((with_reducible show wpAny _ _ (subscriptTail _ _ (Value.ref md) (Value.int _ _)) _ _ _); refine hold_on ?_)
              k_with "CompEnd" => (refine hold_on ?_)
              k_steps
              · refine Hold.off ?_
                rename ((parI ds q : Nat) : Int) = _ => hpq
                have hpq' : parI ds q = 5 - k := by omega
                have Nz := (by assumption : News s1.heap _ _ ((I2, _) :: _))
                refine kda_item (knd := atomKind Pg w) (k := .i ((q : Nat) : Int)) Nz (by k_mem : (md, mo') ∈ _) hmo hqk hvq ?_ (by with_unfolding_all rfl) (by intro _; with_unfolding_all rfl)
                exact LCg.CompEnd.intro (by assumption) (by assumption) ((I, oI) :: (il, PySem.W.listOf vi.toArray 0) :: (md, mo') :: (pa, PySem.W.listOf ys.toArray n) :: (rlA, LCg.lst (ds.map fun d : Int => Value.ref (326 + ruI d))) :: (plA, LCg.lst (ds.map fun d : Int => Value.ref (318 + plI d))) :: (s1.heap.objs.size + 1 + 1 + 1, c3b) :: (s1.heap.objs.size + 1 + 1, o2b) :: (s1.heap.objs.size + 1, c1b) :: nw) (fun p hp => hp) off5 trivial ⟨rfl, by rw [hfl, if_pos hpq', List.map_append]; rfl⟩
              · refine Hold.off ?_
                rename ¬ ((parI ds q : Nat) : Int) = _ => hpq
                have hpq' : ¬ parI ds q = 5 - k := by omega
                exact LCg.CompEnd.intro (by assumption) (by assumption) ((I, oI) :: (il, PySem.W.listOf vi.toArray 0) :: (md, mo') :: (pa, PySem.W.listOf ys.toArray n) :: (rlA, LCg.lst (ds.map fun d : Int => Value.ref (326 + ruI d))) :: (plA, LCg.lst (ds.map fun d : Int => Value.ref (318 + plI d))) :: (s1.heap.objs.size + 1 + 1 + 1, c3b) :: (s1.heap.objs.size + 1 + 1, o2b) :: (s1.heap.objs.size + 1, c1b) :: nw) (fun p hp => hp) off5 trivial ⟨rfl, by rw [hfl, if_neg hpq', List.append_nil]⟩))
            (case f5 => (
              rintro zs nw2 ⟨rfl, rfl⟩ bl h13 tk13 F15 N15 off15
              (try dsimp only)
              rw [below_eq ds hk6] at N15
              obtain ⟨p, hp⟩ : ∃ p, p = 5 - k := ⟨_, rfl⟩
              have hp6 : p < 6 := by omega
              obtain ⟨d, hd⟩ : ∃ d, ds[p]? = some d := ⟨_, List.getElem?_eq_getElem (by omega)⟩
              have hdg : ds.getD p 0 = d := by simp [List.getD, hd]
              have hpn : (((5 - k : Nat) : Int)).toNat = p := by omega
              have hp0 : (0 : Int) ≤ (((5 - k : Nat) : Int)) := Int.natCast_nonneg _
              have hp63 : (((5 - k : Nat) : Int)) < 2 ^ 63 := by omega
              have hpx : (ds.map fun d : Int => Value.ref (318 + plI d))[(((5 - k : Nat) : Int)).toNat]? = some (.ref (318 + plI d)) := by rw [hpn, List.getElem?_map, hd]; rfl
              have hrx : (ds.map fun d : Int => Value.ref (326 + ruI d))[(((5 - k : Nat) : Int)).toNat]? = some (.ref (326 + ruI d)) := by rw [hpn, List.getElem?_map, hd]; rfl
              rw [← hp] at N15
              by_cases hch : chL ds p = []
              · have hze : ((chL ds p).map fun q => Value.ref (er q).ea).isEmpty = true := by rw [hch]; rfl
                k_with_none
                k_with "subscriptTail" => (
                 (with_reducible show wpAny _ _ (subscriptTail _ _ (Value.ref plA) (Value.int _ _)) _ _ _)
                 refine item_listL (l := ds.map fun d : Int => Value.ref (318 + plI d)) ⟨_, (News.get (by k_asm) (by k_mem : (plA, LCg.lst (ds.map fun d : Int => Value.ref (318 + plI d))) ∈ _)), rfl, _, rfl⟩ hp0 hp63 hpx ?_ (by with_unfolding_all rfl) (by intro _; with_unfolding_all rfl))
                k_with "subscriptTail" => (
                 (with_reducible show wpAny _ _ (subscriptTail _ _ (Value.ref rlA) (Value.int _ _)) _ _ _)
                 refine item_listL (l := ds.map fun d : Int => Value.ref (326 + ruI d)) ⟨_, (News.get (by k_asm) (by k_mem : (rlA, LCg.lst (ds.map fun d : Int => Value.ref (326 + ruI d))) ∈ _)), rfl, _, rfl⟩ hp0 hp63 hrx ?_ (by with_unfolding_all rfl) (by intro _; with_unfolding_all rfl))
                k_with "compareOp NotEq ref ref" => (refine hold_on ?_)
                k_steps
                refine Hold.off ?_
                have Fz := (by assumption : Fr s1.heap _ _ _)
                have Nz := (by assumption : News s1.heap _ _ ((_, PySem.W.listOf #[] 0) :: (bl, _) :: _))
                refine ne_nil_of Nz (.head _) (.tail _ (.head _)) (Nat.lt_of_le_of_lt (Nat.le_add_right _ 64) (by ktr_units)) ?_
                rw [hze]
                clear Nz Fz
                k_with_none
                k_with "compareOp NotEq ref ref" => (refine hold_on ?_)
                k_steps
                refine Hold.off ?_
                have Nz := (by assumption : News s1.heap _ _ ((_, PySem.W.listOf #[] 0) :: (_, PySem.W.listOf #[] 0) :: (bl, _) :: _))
                refine ne_nil_of Nz (.head _) (.tail _ (.tail _ (.head _))) (Nat.lt_of_le_of_lt (Nat.le_add_right _ 64) (by ktr_units)) ?_
                rw [hze]
                clear Nz
                k_with_none
                k_with "call ref" => ((with_reducible show wpAny _ _ (call (Value.ref 138) _) _ _ _); refine hold_on ?_)
                k_steps
                refine Hold.off ?_
                have Fz := (by assumption : Fr s1.heap _ _ _)
                obtain ⟨ti, y1, y2, Nz0, hti⟩ : ∃ ti y1 y2, News s1.heap s1.heap.objs.size _ ((ti, tupO []) :: (y1, PySem.W.listOf #[] 0) :: (y2, PySem.W.listOf #[] 0) :: (bl, LCg.lst ((chL ds p).map fun q => Value.ref (er q).ea)) :: (I, oI) :: (il, PySem.W.listOf vi.toArray 0) :: (md, mo') :: (pa, PySem.W.listOf ys.toArray n) :: (rlA, LCg.lst (ds.map fun d : Int => Value.ref (326 + ruI d))) :: (plA, LCg.lst (ds.map fun d : Int => Value.ref (318 + plI d))) :: (s1.heap.objs.size + 1 + 1 + 1, c3b) :: (s1.heap.objs.size + 1 + 1, o2b) :: (s1.heap.objs.size + 1, c1b) :: nw) ∧ ti = _ := ⟨_, _, _, by assumption, rfl⟩
                rw [← hti]
                clear hti
                have Nz : News s1.heap s1.heap.objs.size _ ((ti, tupO []) :: (bl, LCg.lst ((chL ds p).map fun q => Value.ref (er q).ea)) :: (I, oI) :: (il, PySem.W.listOf vi.toArray 0) :: (md, mo') :: (pa, PySem.W.listOf ys.toArray n) :: (rlA, LCg.lst (ds.map fun d : Int => Value.ref (326 + ruI d))) :: (plA, LCg.lst (ds.map fun d : Int => Value.ref (318 + plI d))) :: (s1.heap.objs.size + 1 + 1 + 1, c3b) :: (s1.heap.objs.size + 1 + 1, o2b) :: (s1.heap.objs.size + 1, c1b) :: nw) := fun q hq => Nz0 q (by rcases List.mem_cons.mp hq with rfl | hq; exact .head _; exact .tail _ (.tail _ (.tail _ hq)))
                clear Nz0
                refine call_cls Fz Xg Nz (by k_is) (by k_is) (by k_is) ?_
                intro x xd h14 F16 N16 l16 l17
                clear Fz Nz
                refine codeAny_weaken (dp := 340) (un := 90) rfl rfl (Nat.le_of_ble_eq_true rfl) (Nat.le_of_ble_eq_true rfl) (c_veinit Xg Tg (Fr.sub F16) (N16 _ (.head _)).1 (N16 _ (.tail _ (.head _))).1 (N16 _ (.head _)).2.2 (N16 _ (.tail _ (.head _))).2.2 l17 (by decide) (by decide) ?_)
                intro h15 tk15 es en keep15 hErr
                refine ⟨rfl, ?_⟩
                obtain ⟨ct, hErr2⟩ : ∃ ct, ErrAt h15 x xd es en (318 + plI d) (326 + ruI d) 66 ct (.int ((5 - k : Nat) : Int) t) (.ref ti) := ⟨_, hErr⟩
                have F17 := fr_keep1 F16 (N16 _ (.tail _ (.head _))).2.1 (N16 _ (.tail _ (.head _))).2.2 keep15
                have N17a : ∀ q, q ∈ ((ti, tupO []) :: (bl, LCg.lst ((chL ds p).map fun q => Value.ref (er q).ea)) :: (I, oI) :: (il, PySem.W.listOf vi.toArray 0) :: (md, mo') :: (pa, PySem.W.listOf ys.toArray n) :: (rlA, LCg.lst (ds.map fun d : Int => Value.ref (326 + ruI d))) :: (plA, LCg.lst (ds.map fun d : Int => Value.ref (318 + plI d))) :: (s1.heap.objs.size + 1 + 1 + 1, c3b) :: (s1.heap.objs.size + 1 + 1, o2b) :: (s1.heap.objs.size + 1, c1b) :: nw : List (Addr × Obj)) → h15.get? q.1 = some q.2 ∧ q.1 ≠ s1.heap.objs.size ∧ s1.heap.get? q.1 = none := fun q hq => by
                  have z := N16 q (.tail _ (.tail _ hq))
                  exact ⟨keep15 _ _ z.1 (Nat.ne_of_lt (l16 q hq)), z.2⟩
                have N17 : News s1.heap _ h15 ((md, mo') :: (x, instObj 138 xd) :: (xd, dictOf es en) :: (ti, tupO []) :: (bl, LCg.lst ((chL ds p).map fun q => Value.ref (er q).ea)) :: (I, oI) :: (il, PySem.W.listOf vi.toArray 0) :: (pa, PySem.W.listOf ys.toArray n) :: (rlA, LCg.lst (ds.map fun d : Int => Value.ref (326 + ruI d))) :: (plA, LCg.lst (ds.map fun d : Int => Value.ref (318 + plI d))) :: (s1.heap.objs.size + 1 + 1 + 1, c3b) :: (s1.heap.objs.size + 1 + 1, o2b) :: (s1.heap.objs.size + 1, c1b) :: nw) := fun q hq => by
                  rcases List.mem_cons.mp hq with rfl | hq
                  · exact N17a _ (by k_mem)
                  rcases List.mem_cons.mp hq with rfl | hq
                  · exact ⟨hErr.inst.at_, (N16 _ (.head _)).2⟩
                  rcases List.mem_cons.mp hq with rfl | hq
                  · exact ⟨hErr.inst.dict, (N16 _ (.tail _ (.head _))).2⟩
                  rcases List.mem_cons.mp hq with rfl | hq
                  · exact N17a _ (by k_mem)
                  rcases List.mem_cons.mp hq with rfl | hq
                  · exact N17a _ (by k_mem)
                  rcases List.mem_cons.mp hq with rfl | hq
                  · exact N17a _ (by k_mem)
                  rcases List.mem_cons.mp hq with rfl | hq
                  · exact N17a _ (by k_mem)
                  exact N17a q (.tail _ (.tail _ (.tail _ (.tail _ (.tail _ hq)))))
                have xmd : md < xd := l16 (md, mo') (by k_mem)
                have xI : I < xd := l16 (I, oI) (by k_mem)
                have xL2 : s1.heap.objs.size + 1 + 1 < xd := l16 (s1.heap.objs.size + 1 + 1, o2b) (by k_mem)
                clear N16 F16 N17a keep15
                k_with_none
                k_with "setItem ref int" => (refine hold_on ?_)
                k_steps
                refine Hold.off ?_
                have Fy := (by assumption : Fr s1.heap _ _ _)
                have Ny := (by assumption : News s1.heap _ _ ((md, mo') :: (x, _) :: _))
                have hkp : valueAt kvs (.i ((5 - k : Nat) : Int)) = none := by rw [hkv (5 - k) (by omega), if_neg (by omega)]
                have hst := valueAt_new (v := Value.ref x) hkp
                have hkey0 : Atom.isV (.i ((5 - k : Nat) : Int)) (.int ((5 - k : Nat) : Int) t) = true := by simp [Atom.isV]
                have hkey : (atomKind Pg w).is (.i ((5 - k : Nat) : Int)) (.int ((5 - k : Nat) : Int) t) = true := hkey0
                obtain ⟨mes, mep, mex, mda, _⟩ := id hmo
                refine kda_set (knd := atomKind Pg w) Fy Ny (UpdF.head (fun q hq => ?nmd)) hmo hkey (by rw [hkl, sizeLine_eq]; omega) ?_
                (case nmd => (
                  rcases List.mem_cons.mp hq with rfl | hq
                  · exact Nat.ne_of_gt (Nat.lt_trans xmd l17)
                  rcases List.mem_cons.mp hq with rfl | hq
                  · exact Nat.ne_of_gt xmd
                  rcases List.mem_cons.mp hq with rfl | hq
                  · exact news_ne Ny (.tail _ (.tail _ (.tail _ (.head _)))) (.head _) (by rw [mda]; intro z; cases z)
                  rcases List.mem_cons.mp hq with rfl | hq
                  · exact news_ne Ny (.tail _ (.tail _ (.tail _ (.tail _ (.head _))))) (.head _) (by rw [mda]; intro z; cases z)
                  rcases List.mem_cons.mp hq with rfl | hq
                  · exact Nat.ne_of_gt hIm
                  rcases List.mem_cons.mp hq with rfl | hq
                  · exact news_ne Ny (.tail _ (.tail _ (.tail _ (.tail _ (.tail _ (.tail _ (.head _))))))) (.head _) (by rw [mda]; intro z; cases z)
                  rcases List.mem_cons.mp hq with rfl | hq
                  · exact Nat.ne_of_lt e1
                  rcases List.mem_cons.mp hq with rfl | hq
                  · exact Nat.ne_of_lt e2
                  rcases List.mem_cons.mp hq with rfl | hq
                  · exact Nat.ne_of_lt e3
                  rcases List.mem_cons.mp hq with rfl | hq
                  · exact Nat.ne_of_lt e5
                  rcases List.mem_cons.mp hq with rfl | hq
                  · exact Nat.ne_of_lt e6
                  rcases List.mem_cons.mp hq with rfl | hq
                  · exact Nat.ne_of_lt e7
                  exact (hnw q hq).2.1))
                intro h16 mo2 F18 N18 hmo2
                rw [hst.1] at hmo2
                have tI : ti ≠ I := fun z => by
                  have m1 := (Ny (ti, tupO []) (.tail _ (.tail _ (.tail _ (.head _))))).1
                  have m2 := (Ny (I, oI) (.tail _ (.tail _ (.tail _ (.tail _ (.tail _ (.head _))))))).1
                  rw [z] at m1
                  have := congrArg Obj.cls (Option.some.inj (m1.symm.trans m2))
                  rw [hI'] at this
                  injection this with this
                  exact absurd (show "tuple" = "list_iterator" from this) (by decide)
                have tL2 : ti ≠ s1.heap.objs.size + 1 + 1 := news_ne Ny (.tail _ (.tail _ (.tail _ (.head _)))) (by k_mem : (s1.heap.objs.size + 1 + 1, o2b) ∈ _) (by rw [ho2b]; intro z; cases z)
                have tmd : ti ≠ md := news_ne Ny (.tail _ (.tail _ (.tail _ (.head _)))) (.head _) (by rw [mda]; intro z; cases z)
                have bL2 : bl ≠ s1.heap.objs.size + 1 + 1 := news_ne Ny (.tail _ (.tail _ (.tail _ (.tail _ (.head _))))) (by k_mem : (s1.heap.objs.size + 1 + 1, o2b) ∈ _) (by rw [ho2b]; intro z; cases z)
                have bmd : bl ≠ md := news_ne Ny (.tail _ (.tail _ (.tail _ (.tail _ (.head _))))) (.head _) (by rw [mda]; intro z; cases z)
                have bI : bl ≠ I := off15.1.symm
                clear Fy Ny
                k_with_none
                k_steps
                all_goals (try dsimp only)
                have Nw3 := (by assumption : News s1.heap _ _ ((md, mo2) :: (x, _) :: _))
                obtain ⟨er', her'⟩ : ∃ er' : Nat → ErrRec, er' = fun q => if q = p then ⟨x, xd, es, en, ct, t, .ref ti⟩ else er q := ⟨_, rfl⟩
                have ep : er' p = ⟨x, xd, es, en, ct, t, .ref ti⟩ := by rw [her']; exact if_pos rfl
                have eo : ∀ j, j ≠ p → er' j = er j := fun j hj => by rw [her']; exact if_neg hj
                have hmapE : ((chL ds p).map fun j => Value.ref (er' j).ea) = (chL ds p).map fun q => Value.ref (er q).ea := List.map_congr_left fun j hj => by rw [eo j (Nat.ne_of_gt (chL_gt hj).1)]
                refine ⟨_, _, _, _, rfl, by assumption, fun q hq => Nw3 q ?nn, ?off, ⟨(by intro z hz; simp at hz; simp [hz]; exact (congrFun em9 z).symm), er', mo2, kvs ++ [(.i ((5 - k : Nat) : Int), .ref x)], o2b, (x, instObj 138 xd) :: (xd, dictOf es en) :: (ti, tupO []) :: (bl, LCg.lst ((chL ds p).map fun q => Value.ref (er q).ea)) :: nw, rfl, hmo2, ?vv, ?ll, ?ee, ?ap, ⟨_, ho2b⟩⟩⟩
                (case nn => (
                  simp only [List.cons_append, List.nil_append] at hq
                  simp only [List.mem_cons] at hq ⊢
                  rcases hq with h | h | h | h | h | h | h | h | h | h | h | h | h | h <;> simp [h]))
                (case off => (
                  intro q hq q2 hq2
                  obtain rfl := List.mem_singleton.mp hq2
                  show q.1 ≠ I
                  simp only [List.mem_cons] at hq
                  rcases hq with rfl | rfl | rfl | rfl | rfl | rfl | rfl | rfl | rfl | rfl | rfl | rfl | hq
                  · exact Nat.ne_of_lt (hIlt (il, PySem.W.listOf vi.toArray 0) (.head _))
                  · exact Nat.ne_of_lt hIm
                  · exact Nat.ne_of_lt (Nat.lt_trans e1 hIm)
                  · exact Nat.ne_of_lt (Nat.lt_trans e2 hIm)
                  · exact Nat.ne_of_lt (Nat.lt_trans e3 hIm)
                  · exact Nat.ne_of_lt (Nat.lt_trans e5 hIm)
                  · exact Nat.ne_of_lt (Nat.lt_trans e6 hIm)
                  · exact Nat.ne_of_lt (Nat.lt_trans e7 hIm)
                  · exact Nat.ne_of_gt (Nat.lt_trans xI l17)
                  · exact Nat.ne_of_gt xI
                  · exact tI
                  · exact bI
                  · exact (hnw q hq).1))
                (case vv => (
                  intro q hq
                  rw [Nat.zero_add, hst.2 (.i (q : Int))]
                  by_cases hqp : q = p
                  · rw [if_pos (by rw [hqp, hp]), if_pos (by omega), hqp, ep]
                  · rw [if_neg (fun z => hqp (by have z2 := Atom.i.inj z; omega)), hkv q hq, eo q hqp]
                    by_cases hq2 : 6 - k ≤ q
                    · rw [if_pos hq2, if_pos (by omega)]
                    · rw [if_neg hq2, if_neg (by omega)]))
                (case ll => (rw [List.length_append, hkl, List.length_singleton, Nat.zero_add]))
                (case ee => (
                  intro q h1 h2
                  rw [Nat.zero_add] at h1
                  by_cases hqp : q = p
                  · subst hqp
                    refine ⟨by rw [ep]; simp, by rw [ep]; simp, by rw [ep, hdg]; exact hErr2.gd, by rw [ep, hdg]; exact hErr2.gs, by rw [ep, if_pos hch]; exact hErr2.gc, by rw [ep]; have := hErr2.gv; rw [← hp] at this; exact this, by rw [ep]; exact hErr2.gi, fun hc => absurd hch hc⟩
                  · exact ErrIn.mono (her q (by omega) h2) (fun e he => .tail _ (.tail _ (.tail _ (.tail _ he)))) (fun j hj => eo j (by omega))))
                (case ap => (
                  intro q hq
                  simp only [List.mem_cons] at hq
                  rcases hq with rfl | rfl | rfl | rfl | hq
                  · exact ⟨Nat.ne_of_gt (Nat.lt_trans xI l17), Nat.ne_of_gt (Nat.lt_trans xmd l17), Nat.ne_of_gt (Nat.lt_trans xL2 l17)⟩
                  · exact ⟨Nat.ne_of_gt xI, Nat.ne_of_gt xmd, Nat.ne_of_gt xL2⟩
                  · exact ⟨tI, tmd, tL2⟩
                  · exact ⟨bI, bmd, bL2⟩
                  · exact hnw q hq))
              · have hze : ((chL ds p).map fun q => Value.ref (er q).ea).isEmpty = false := by rw [List.isEmpty_eq_false_iff]; simpa using hch
                k_with_none
                k_with "subscriptTail" => (
                 (with_reducible show wpAny _ _ (subscriptTail _ _ (Value.ref plA) (Value.int _ _)) _ _ _)
                 refine item_listL (l := ds.map fun d : Int => Value.ref (318 + plI d)) ⟨_, (News.get (by k_asm) (by k_mem : (plA, LCg.lst (ds.map fun d : Int => Value.ref (318 + plI d))) ∈ _)), rfl, _, rfl⟩ hp0 hp63 hpx ?_ (by with_unfolding_all rfl) (by intro _; with_unfolding_all rfl))
                k_with "subscriptTail" => (
                 (with_reducible show wpAny _ _ (subscriptTail _ _ (Value.ref rlA) (Value.int _ _)) _ _ _)
                 refine item_listL (l := ds.map fun d : Int => Value.ref (326 + ruI d)) ⟨_, (News.get (by k_asm) (by k_mem : (rlA, LCg.lst (ds.map fun d : Int => Value.ref (326 + ruI d))) ∈ _)), rfl, _, rfl⟩ hp0 hp63 hrx ?_ (by with_unfolding_all rfl) (by intro _; with_unfolding_all rfl))
                k_with "compareOp NotEq ref ref" => (refine hold_on ?_)
                k_steps
                refine Hold.off ?_
                have Fz := (by assumption : Fr s1.heap _ _ _)
                have Nz := (by assumption : News s1.heap _ _ ((_, PySem.W.listOf #[] 0) :: (bl, _) :: _))
                refine ne_nil_of Nz (.head _) (.tail _ (.head _)) (Nat.lt_of_le_of_lt (Nat.le_add_right _ 64) (by ktr_units)) ?_
                rw [hze]
                clear Nz Fz
                k_with_none
                k_with "compareOp NotEq ref ref" => (refine hold_on ?_)
                k_steps
                refine Hold.off ?_
                have Nz := (by assumption : News s1.heap _ _ ((_, PySem.W.listOf #[] 0) :: (_, PySem.W.listOf #[] 0) :: (bl, _) :: _))
                refine ne_nil_of Nz (.head _) (.tail _ (.tail _ (.head _))) (Nat.lt_of_le_of_lt (Nat.le_add_right _ 64) (by ktr_units)) ?_
                rw [hze]
                clear Nz
                k_with_none
                k_with "call ref" => ((with_reducible show wpAny _ _ (call (Value.ref 138) _) _ _ _); refine hold_on ?_)
                k_steps
                refine Hold.off ?_
                have Fz := (by assumption : Fr s1.heap _ _ _)
                obtain ⟨ti, y1, y2, Nz0, hti⟩ : ∃ ti y1 y2, News s1.heap s1.heap.objs.size _ ((ti, tupO [.ref bl]) :: (y1, PySem.W.listOf #[] 0) :: (y2, PySem.W.listOf #[] 0) :: (bl, LCg.lst ((chL ds p).map fun q => Value.ref (er q).ea)) :: (I, oI) :: (il, PySem.W.listOf vi.toArray 0) :: (md, mo') :: (pa, PySem.W.listOf ys.toArray n) :: (rlA, LCg.lst (ds.map fun d : Int => Value.ref (326 + ruI d))) :: (plA, LCg.lst (ds.map fun d : Int => Value.ref (318 + plI d))) :: (s1.heap.objs.size + 1 + 1 + 1, c3b) :: (s1.heap.objs.size + 1 + 1, o2b) :: (s1.heap.objs.size + 1, c1b) :: nw) ∧ ti = _ := ⟨_, _, _, by assumption, rfl⟩
                rw [← hti]
                clear hti
                have Nz : News s1.heap s1.heap.objs.size _ ((ti, tupO [.ref bl]) :: (bl, LCg.lst ((chL ds p).map fun q => Value.ref (er q).ea)) :: (I, oI) :: (il, PySem.W.listOf vi.toArray 0) :: (md, mo') :: (pa, PySem.W.listOf ys.toArray n) :: (rlA, LCg.lst (ds.map fun d : Int => Value.ref (326 + ruI d))) :: (plA, LCg.lst (ds.map fun d : Int => Value.ref (318 + plI d))) :: (s1.heap.objs.size + 1 + 1 + 1, c3b) :: (s1.heap.objs.size + 1 + 1, o2b) :: (s1.heap.objs.size + 1, c1b) :: nw) := fun q hq => Nz0 q (by rcases List.mem_cons.mp hq with rfl | hq; exact .head _; exact .tail _ (.tail _ (.tail _ hq)))
                clear Nz0
                refine call_cls Fz Xg Nz (by k_is) (by k_is) (by k_is) ?_
                intro x xd h14 F16 N16 l16 l17
                clear Fz Nz
                refine codeAny_weaken (dp := 340) (un := 90) rfl rfl (Nat.le_of_ble_eq_true rfl) (Nat.le_of_ble_eq_true rfl) (c_veinit Xg Tg (Fr.sub F16) (N16 _ (.head _)).1 (N16 _ (.tail _ (.head _))).1 (N16 _ (.head _)).2.2 (N16 _ (.tail _ (.head _))).2.2 l17 (by decide) (by decide) ?_)
                intro h15 tk15 es en keep15 hErr
                refine ⟨rfl, ?_⟩
                obtain ⟨ct, hErr2⟩ : ∃ ct, ErrAt h15 x xd es en (318 + plI d) (326 + ruI d) 129 ct (.int ((5 - k : Nat) : Int) t) (.ref ti) := ⟨_, hErr⟩
                have F17 := fr_keep1 F16 (N16 _ (.tail _ (.head _))).2.1 (N16 _ (.tail _ (.head _))).2.2 keep15
                have N17a : ∀ q, q ∈ ((ti, tupO [.ref bl]) :: (bl, LCg.lst ((chL ds p).map fun q => Value.ref (er q).ea)) :: (I, oI) :: (il, PySem.W.listOf vi.toArray 0) :: (md, mo') :: (pa, PySem.W.listOf ys.toArray n) :: (rlA, LCg.lst (ds.map fun d : Int => Value.ref (326 + ruI d))) :: (plA, LCg.lst (ds.map fun d : Int => Value.ref (318 + plI d))) :: (s1.heap.objs.size + 1 + 1 + 1, c3b) :: (s1.heap.objs.size + 1 + 1, o2b) :: (s1.heap.objs.size + 1, c1b) :: nw : List (Addr × Obj)) → h15.get? q.1 = some q.2 ∧ q.1 ≠ s1.heap.objs.size ∧ s1.heap.get? q.1 = none := fun q hq => by
                  have z := N16 q (.tail _ (.tail _ hq))
                  exact ⟨keep15 _ _ z.1 (Nat.ne_of_lt (l16 q hq)), z.2⟩
                have N17 : News s1.heap _ h15 ((md, mo') :: (x, instObj 138 xd) :: (xd, dictOf es en) :: (ti, tupO [.ref bl]) :: (bl, LCg.lst ((chL ds p).map fun q => Value.ref (er q).ea)) :: (I, oI) :: (il, PySem.W.listOf vi.toArray 0) :: (pa, PySem.W.listOf ys.toArray n) :: (rlA, LCg.lst (ds.map fun d : Int => Value.ref (326 + ruI d))) :: (plA, LCg.lst (ds.map fun d : Int => Value.ref (318 + plI d))) :: (s1.heap.objs.size + 1 + 1 + 1, c3b) :: (s1.heap.objs.size + 1 + 1, o2b) :: (s1.heap.objs.size + 1, c1b) :: nw) := fun q hq => by
                  rcases List.mem_cons.mp hq with rfl | hq
                  · exact N17a _ (by k_mem)
                  rcases List.mem_cons.mp hq with rfl | hq
                  · exact ⟨hErr.inst.at_, (N16 _ (.head _)).2⟩
                  rcases List.mem_cons.mp hq with rfl | hq
                  · exact ⟨hErr.inst.dict, (N16 _ (.tail _ (.head _))).2⟩
                  rcases List.mem_cons.mp hq with rfl | hq
                  · exact N17a _ (by k_mem)
                  rcases List.mem_cons.mp hq with rfl | hq
                  · exact N17a _ (by k_mem)
                  rcases List.mem_cons.mp hq with rfl | hq
                  · exact N17a _ (by k_mem)
                  rcases List.mem_cons.mp hq with rfl | hq
                  · exact N17a _ (by k_mem)
                  exact N17a q (.tail _ (.tail _ (.tail _ (.tail _ (.tail _ hq)))))
                have xmd : md < xd := l16 (md, mo') (by k_mem)
                have xI : I < xd := l16 (I, oI) (by k_mem)
                have xL2 : s1.heap.objs.size + 1 + 1 < xd := l16 (s1.heap.objs.size + 1 + 1, o2b) (by k_mem)
                clear N16 F16 N17a keep15
                k_with_none
                k_with "setItem ref int" => (refine hold_on ?_)
                k_steps
                refine Hold.off ?_
                have Fy := (by assumption : Fr s1.heap _ _ _)
                have Ny := (by assumption : News s1.heap _ _ ((md, mo') :: (x, _) :: _))
                have hkp : valueAt kvs (.i ((5 - k : Nat) : Int)) = none := by rw [hkv (5 - k) (by omega), if_neg (by omega)]
                have hst := valueAt_new (v := Value.ref x) hkp
                have hkey0 : Atom.isV (.i ((5 - k : Nat) : Int)) (.int ((5 - k : Nat) : Int) t) = true := by simp [Atom.isV]
                have hkey : (atomKind Pg w).is (.i ((5 - k : Nat) : Int)) (.int ((5 - k : Nat) : Int) t) = true := hkey0
                obtain ⟨mes, mep, mex, mda, _⟩ := id hmo
                refine kda_set (knd := atomKind Pg w) Fy Ny (UpdF.head (fun q hq => ?nmd)) hmo hkey (by rw [hkl, sizeLine_eq]; omega) ?_
                (case nmd => (
                  rcases List.mem_cons.mp hq with rfl | hq
                  · exact Nat.ne_of_gt (Nat.lt_trans xmd l17)
                  rcases List.mem_cons.mp hq with rfl | hq
                  · exact Nat.ne_of_gt xmd
                  rcases List.mem_cons.mp hq with rfl | hq
                  · exact news_ne Ny (.tail _ (.tail _ (.tail _ (.head _)))) (.head _) (by rw [mda]; intro z; cases z)
                  rcases List.mem_cons.mp hq with rfl | hq
                  · exact news_ne Ny (.tail _ (.tail _ (.tail _ (.tail _ (.head _))))) (.head _) (by rw [mda]; intro z; cases z)
                  rcases List.mem_cons.mp hq with rfl | hq
                  · exact Nat.ne_of_gt hIm
                  rcases List.mem_cons.mp hq with rfl | hq
                  · exact news_ne Ny (.tail _ (.tail _ (.tail _ (.tail _ (.tail _ (.tail _ (.head _))))))) (.head _) (by rw [mda]; intro z; cases z)
                  rcases List.mem_cons.mp hq with rfl | hq
                  · exact Nat.ne_of_lt e1
                  rcases List.mem_cons.mp hq with rfl | hq
                  · exact Nat.ne_of_lt e2
                  rcases List.mem_cons.mp hq with rfl | hq
                  · exact Nat.ne_of_lt e3
                  rcases List.mem_cons.mp hq with rfl | hq
                  · exact Nat.ne_of_lt e5
                  rcases List.mem_cons.mp hq with rfl | hq
                  · exact Nat.ne_of_lt e6
                  rcases List.mem_cons.mp hq with rfl | hq
                  · exact Nat.ne_of_lt e7
                  exact (hnw q hq).2.1))
                intro h16 mo2 F18 N18 hmo2
                rw [hst.1] at hmo2
                have tI : ti ≠ I := fun z => by
                  have m1 := (Ny (ti, tupO [.ref bl]) (.tail _ (.tail _ (.tail _ (.head _))))).1
                  have m2 := (Ny (I, oI) (.tail _ (.tail _ (.tail _ (.tail _ (.tail _ (.head _))))))).1
                  rw [z] at m1
                  have := congrArg Obj.cls (Option.some.inj (m1.symm.trans m2))
                  rw [hI'] at this
                  injection this with this
                  exact absurd (show "tuple" = "list_iterator" from this) (by decide)
                have tL2 : ti ≠ s1.heap.objs.size + 1 + 1 := news_ne Ny (.tail _ (.tail _ (.tail _ (.head _)))) (by k_mem : (s1.heap.objs.size + 1 + 1, o2b) ∈ _) (by rw [ho2b]; intro z; cases z)
                have tmd : ti ≠ md := news_ne Ny (.tail _ (.tail _ (.tail _ (.head _)))) (.head _) (by rw [mda]; intro z; cases z)
                have bL2 : bl ≠ s1.heap.objs.size + 1 + 1 := news_ne Ny (.tail _ (.tail _ (.tail _ (.tail _ (.head _))))) (by k_mem : (s1.heap.objs.size + 1 + 1, o2b) ∈ _) (by rw [ho2b]; intro z; cases z)
                have bmd : bl ≠ md := news_ne Ny (.tail _ (.tail _ (.tail _ (.tail _ (.head _))))) (.head _) (by rw [mda]; intro z; cases z)
                have bI : bl ≠ I := off15.1.symm
                clear Fy Ny
                k_with_none
                k_steps
                all_goals (try dsimp only)
                have Nw3 := (by assumption : News s1.heap _ _ ((md, mo2) :: (x, _) :: _))
                obtain ⟨er', her'⟩ : ∃ er' : Nat → ErrRec, er' = fun q => if q = p then ⟨x, xd, es, en, ct, t, .ref ti⟩ else er q := ⟨_, rfl⟩
                have ep : er' p = ⟨x, xd, es, en, ct, t, .ref ti⟩ := by rw [her']; exact if_pos rfl
                have eo : ∀ j, j ≠ p → er' j = er j := fun j hj => by rw [her']; exact if_neg hj
                have hmapE : ((chL ds p).map fun j => Value.ref (er' j).ea) = (chL ds p).map fun q => Value.ref (er q).ea := List.map_congr_left fun j hj => by rw [eo j (Nat.ne_of_gt (chL_gt hj).1)]
                refine ⟨_, _, _, _, rfl, by assumption, fun q hq => Nw3 q ?nn, ?off, ⟨(by intro z hz; simp at hz; simp [hz]; exact (congrFun em9 z).symm), er', mo2, kvs ++ [(.i ((5 - k : Nat) : Int), .ref x)], o2b, (x, instObj 138 xd) :: (xd, dictOf es en) :: (ti, tupO [.ref bl]) :: (bl, LCg.lst ((chL ds p).map fun q => Value.ref (er q).ea)) :: nw, rfl, hmo2, ?vv, ?ll, ?ee, ?ap, ⟨_, ho2b⟩⟩⟩
                (case nn => (
                  simp only [List.cons_append, List.nil_append] at hq
                  simp only [List.mem_cons] at hq ⊢
                  rcases hq with h | h | h | h | h | h | h | h | h | h | h | h | h | h <;> simp [h]))
                (case off => (
                  intro q hq q2 hq2
                  obtain rfl := List.mem_singleton.mp hq2
                  show q.1 ≠ I
                  simp only [List.mem_cons] at hq
                  rcases hq with rfl | rfl | rfl | rfl | rfl | rfl | rfl | rfl | rfl | rfl | rfl | rfl | hq
                  · exact Nat.ne_of_lt (hIlt (il, PySem.W.listOf vi.toArray 0) (.head _))
                  · exact Nat.ne_of_lt hIm
                  · exact Nat.ne_of_lt (Nat.lt_trans e1 hIm)
                  · exact Nat.ne_of_lt (Nat.lt_trans e2 hIm)
                  · exact Nat.ne_of_lt (Nat.lt_trans e3 hIm)
                  · exact Nat.ne_of_lt (Nat.lt_trans e5 hIm)
                  · exact Nat.ne_of_lt (Nat.lt_trans e6 hIm)
                  · exact Nat.ne_of_lt (Nat.lt_trans e7 hIm)
                  · exact Nat.ne_of_gt (Nat.lt_trans xI l17)
                  · exact Nat.ne_of_gt xI
                  · exact tI
                  · exact bI
                  · exact (hnw q hq).1))
                (case vv => (
                  intro q hq
                  rw [Nat.zero_add, hst.2 (.i (q : Int))]
                  by_cases hqp : q = p
                  · rw [if_pos (by rw [hqp, hp]), if_pos (by omega), hqp, ep]
                  · rw [if_neg (fun z => hqp (by have z2 := Atom.i.inj z; omega)), hkv q hq, eo q hqp]
                    by_cases hq2 : 6 - k ≤ q
                    · rw [if_pos hq2, if_pos (by omega)]
                    · rw [if_neg hq2, if_neg (by omega)]))
                (case ll => (rw [List.length_append, hkl, List.length_singleton, Nat.zero_add]))
                (case ee => (
                  intro q h1 h2
                  rw [Nat.zero_add] at h1
                  by_cases hqp : q = p
                  · subst hqp
                    refine ⟨by rw [ep]; simp, by rw [ep]; simp, by rw [ep, hdg]; exact hErr2.gd, by rw [ep, hdg]; exact hErr2.gs, by rw [ep, if_neg hch]; exact hErr2.gc, by rw [ep]; have := hErr2.gv; rw [← hp] at this; exact this, by rw [ep]; exact hErr2.gi, fun _ => ⟨ti, bl, by rw [ep], .tail _ (.tail _ (.head _)), by rw [hmapE]; exact .tail _ (.tail _ (.tail _ (.head _)))⟩⟩
                  · exact ErrIn.mono (her q (by omega) h2) (fun e he => .tail _ (.tail _ (.tail _ (.tail _ he)))) (fun j hj => eo j (by omega))))
                (case ap => (
                  intro q hq
                  simp only [List.mem_cons] at hq
                  rcases hq with rfl | rfl | rfl | rfl | hq
                  · exact ⟨Nat.ne_of_gt (Nat.lt_trans xI l17), Nat.ne_of_gt (Nat.lt_trans xmd l17), Nat.ne_of_gt (Nat.lt_trans xL2 l17)⟩
                  · exact ⟨Nat.ne_of_gt xI, Nat.ne_of_gt xmd, Nat.ne_of_gt xL2⟩
                  · exact ⟨tI, tmd, tL2⟩
                  · exact ⟨bI, bmd, bL2⟩
                  · exact hnw q hq))))))
          (case done2 => (
            intro m₁ l h tk hJ F₁ N₁
            rw [show 0 + (vi.map Itm.val).length = 6 by rw [List.length_map, hvil]] at hJ
            obtain ⟨hm, er, mo', kvs, o2', nw, rfl, hmo, hkv, hkl, her, hnw, vo2, ho2'⟩ := hJ
            rw [split_S hm] at F₁
            rw [em9] at F₁
            k_with_none
            k_with "exec Assign cons ListComp" => (k_here; k_dflt (refine LCt.Assign_ListComp_T (F₀ := by k_asm) (by rfl) (by with_unfolding_all rfl) (by with_unfolding_all rfl) (by decide) (by rfl) (by decide) (by rfl) (by rfl) (by rfl) ?_))
            k_with "CompSrcT" => (refine hold_on ?_)
            k_steps
            refine Hold.off ?_
            have Fa := (by assumption : Fr s1.heap _ _ _)
            have Nb := (by assumption : News s1.heap _ _ ((il, _) :: _))
            with_reducible rename IsRange _ _ _ _ _ _ _ _ => hrg
            refine LCt.CompSrcT.range (n := 6) rfl Fa Nb hrg (by decide) (by rfl) (Nat.le_of_ble_eq_true rfl) ?_
            intro gx5
            clear Fa Nb
            (try dsimp only)
            refine compT_inv (fun i zs nw2 => nw2 = (il, PySem.W.listOf vi.toArray 0) :: (md, mo') :: (pa, PySem.W.listOf ys.toArray n) :: (rlA, LCg.lst (ds.map fun d : Int => Value.ref (326 + ruI d))) :: (plA, LCg.lst (ds.map fun d : Int => Value.ref (318 + plI d))) :: (s1.heap.objs.size + 1 + 1 + 1, c3b) :: (s1.heap.objs.size + 1 + 1, o2') :: (s1.heap.objs.size + 1, c1b) :: nw ∧ zs = ((List.range i).filter fun q => decide (parI ds q = q)).map fun q => Value.ref (er q).ea) ⟨rfl, rfl⟩ ?t6 ?f6
            (case t6 => (
              rintro i zs nw2 v I2 oI2 C2 oC2 D2 m2 hh tk E' hi ⟨rfl, rfl⟩ ⟨t2, rfl⟩ hC hx F5 N5 off5 ne5
              have hqv : (0 : Int) + (i : Int) = (i : Int) := by omega
              rw [hqv] at hx
              clear hqv
              have hqn : ((i : Nat) : Int).toNat = i := by omega
              obtain ⟨tq, hyq⟩ : ∃ tq, ys[i]? = some (.int ((parI ds i : Nat) : Int) tq) := hys.get i _ (by rw [List.getElem?_map, List.getElem?_range hi]; rfl)
              have hyq' : ys[((i : Nat) : Int).toNat]? = some (.int ((parI ds i : Nat) : Int) tq) := by rw [hqn]; exact hyq
              clear hqn hyq
              have hvq : valueAt kvs (.i ((i : Nat) : Int)) = some (.ref (er i).ea) := by rw [hkv i hi, if_pos (by omega)]
              have hqk0 : Atom.isV (.i ((i : Nat) : Int)) (.int ((i : Nat) : Int) t2) = true := by simp [Atom.isV]
              have hqk : (atomKind Pg w).is (.i ((i : Nat) : Int)) (.int ((i : Nat) : Int) t2) = true := hqk0
              have hfl : ((List.range (i + 1)).filter fun q => decide (parI ds q = q)) = ((List.range i).filter fun q => decide (parI ds q = q)) ++ (if parI ds i = i then [i] else []) := by
                rw [List.range_succ, List.filter_append, List.filter_cons, List.filter_nil]
                by_cases z : parI ds i = i
                · rw [if_pos z, if_pos (decide_eq_true z)]
                · rw [if_neg z, if_neg (by rw [decide_eq_false z]; exact Bool.false_ne_true)]
              k_with_none
              k_with "subscriptTail" => ((with_reducible show wpAny _ _ (subscriptTail _ _ (Value.ref md) (Value.int _ _)) _ _ _); refine hold_on ?_)
              k_with "CompEnd" => (refine hold_on ?_)
              k_steps
              · refine Hold.off ?_
                with_reducible rename List.getD _ _ _ = _ => hpq
                rw [show ((List.range 6).map fun k => ((parI ds k : Nat) : Int)).getD ((i : Nat) : Int).toNat 0 = ((parI ds i : Nat) : Int) by rw [show ((i : Nat) : Int).toNat = i by omega, List.getD_eq_getElem?_getD, List.getElem?_map, List.getElem?_range hi]; rfl] at hpq
                have hpq' : parI ds i = i := by omega
                have Nz := (by assumption : News s1.heap _ _ ((I2, _) :: _))
                refine kda_item (knd := atomKind Pg w) (k := .i ((i : Nat) : Int)) Nz (by k_mem : (md, mo') ∈ _) hmo hqk hvq ?_ (by with_unfolding_all rfl) (by intro _; with_unfolding_all rfl)
                exact LCg.CompEnd.intro (by assumption) (by assumption) ((il, PySem.W.listOf vi.toArray 0) :: (md, mo') :: (pa, PySem.W.listOf ys.toArray n) :: (rlA, LCg.lst (ds.map fun d : Int => Value.ref (326 + ruI d))) :: (plA, LCg.lst (ds.map fun d : Int => Value.ref (318 + plI d))) :: (s1.heap.objs.size + 1 + 1 + 1, c3b) :: (s1.heap.objs.size + 1 + 1, o2') :: (s1.heap.objs.size + 1, c1b) :: nw) (fun p hp => hp) off5 trivial ⟨rfl, by rw [hfl, if_pos hpq', List.map_append]; rfl⟩
              · refine Hold.off ?_
                with_reducible rename List.getD _ _ _ ≠ _ => hpq
                rw [show ((List.range 6).map fun k => ((parI ds k : Nat) : Int)).getD ((i : Nat) : Int).toNat 0 = ((parI ds i : Nat) : Int) by rw [show ((i : Nat) : Int).toNat = i by omega, List.getD_eq_getElem?_getD, List.getElem?_map, List.getElem?_range hi]; rfl] at hpq
                have hpq' : ¬ parI ds i = i := by omega
                exact LCg.CompEnd.intro (by assumption) (by assumption) ((il, PySem.W.listOf vi.toArray 0) :: (md, mo') :: (pa, PySem.W.listOf ys.toArray n) :: (rlA, LCg.lst (ds.map fun d : Int => Value.ref (326 + ruI d))) :: (plA, LCg.lst (ds.map fun d : Int => Value.ref (318 + plI d))) :: (s1.heap.objs.size + 1 + 1 + 1, c3b) :: (s1.heap.objs.size + 1 + 1, o2') :: (s1.heap.objs.size + 1, c1b) :: nw) (fun p hp => hp) off5 trivial ⟨rfl, by rw [hfl, if_neg hpq', List.append_nil]⟩))
            (case f6 => (
              rintro zs nw2 ⟨rfl, rfl⟩ tl h17 tk17 F19 N19 off19
              (try dsimp only)
              k_with_none
              k_with "call ref" => ((with_reducible show wpAny _ _ (call (Value.ref 303) _) _ _ _); refine hold_on ?_)
              k_steps
              refine Hold.off ?_
              have Fa := (by assumption : Fr s1.heap _ _ _)
              have Na := (by assumption : News s1.heap _ _ ((tl, _) :: _))
              refine call_cls Fa Xg Na (by k_is) (by k_is) (by k_is) ?_
              intro x xd h18 F20 N20 l20 l21
              clear Fa Na
              obtain ⟨hT, T1, T2, T3, T4, XT, TT⟩ := tree_ground Xg Tg F20 N20 (fun p hp => ⟨Nat.ne_of_lt (Nat.lt_trans (l20 p hp) l21), Nat.ne_of_lt (l20 p hp)⟩)
              have hin : ∀ p ∈ nw, hT.get? p.1 = some p.2 := fun p hp => T4 p (.tail _ (.tail _ (.tail _ (.tail _ (.tail _ (.tail _ (.tail _ (.tail _ (.tail _ hp)))))))))
              have her6 : ∀ q, q < 6 → ErrIn nw er ds q := fun q hq => her q (by omega) hq
              have V := errsD_v XT hin her6
              have GR := errsD_g (w := w) hin her6
              obtain ⟨OK, LT⟩ := errsD_ok w er ds
              have hperm := law_perm ds
              have hsum : ((topF (parI ds)).flatMap (desc (chL ds) 6)).length ≤ 6 := by rw [hperm.length_eq]; exact Nat.le_refl _
              have htl := T4 _ (.head _)
              refine codeAny_weaken (dp := 340) (un := 90) rfl rfl (Nat.le_of_ble_eq_true rfl) (Nat.le_of_ble_eq_true rfl) (c_tinit (D := errsD w er ds) (ch := chL ds) (tops := topF (parI ds)) XT TT GR (.inl rfl) T1 (N20 _ (.head _)).1 (N20 _ (.tail _ (.head _))).1 T2 T3 l21 ⟨_, htl, rfl, _, rfl⟩ (fun q hq => List.mem_range.mp (List.mem_filter.mp hq).1) hsum (fun j hj => radd_all XT TT V OK GR 6 j hj (by omega)) (by decide) (by decide) ?_)
              intro h19 tk19 Nt led1 A1 TL1 IV1
              refine ⟨rfl, ?_⟩
              obtain ⟨F21, N21⟩ := tree_after F20 N20 (fun p hp => ⟨Nat.ne_of_lt (Nat.lt_trans (l20 p hp) l21), Nat.ne_of_lt (l20 p hp)⟩) A1
              have T5 := after_sub T1 T2 T3 A1
              simp only [List.cons_append] at N21
              have hpl1 : hT.IsList plA ((List.range 6).map fun i => Value.ref (adOf 303 (errsD w er ds) i)).toArray := by
                have := T4 (plA, LCg.lst (ds.map fun d : Int => Value.ref (318 + plI d))) (by k_mem)
                rw [map6 hds] at this
                exact ⟨_, this, rfl, _, rfl⟩
              have htb1 : hT.IsList 325 ((((List.range 7).map fun p => 318 + p)).map Value.ref).toArray := by
                rw [List.map_map]; exact placesAt XT
              clear F20 N20
              k_with_none
              k_with "call ref" => ((with_reducible show wpAny _ _ (call (Value.ref 345) _) _ _ _); refine hold_on ?_)
              k_steps
              refine Hold.off ?_
              refine wpAny_call (codeAny_weaken (dp := 340) (un := 90) rfl rfl (Nat.le_of_ble_eq_true rfl) (Nat.le_of_ble_eq_true rfl) (c_fits (tq := (List.range 7).map fun p => 318 + p) XT TT T5 A1.live TL1 IV1 hperm V OK LT htb1 (htq_p XT) hpl1 (by decide) (by decide) ?_))
              intro h20 tk20 hs20
              have F22 := frSub F21 hs20
              have N22 := newsSub N21 hs20
              clear F21 N21
              k_with_none
              k_with "call ref" => ((with_reducible show wpAny _ _ (call (Value.ref 315) _) _ _ _); refine hold_on ?_)
              k_steps
              refine Hold.off ?_
              have Fa := (by assumption : Fr s1.heap _ _ _)
              have Na := (by assumption : News s1.heap _ _ ((tl, _) :: _))
              refine call_cls Fa Xg Na (by k_is) (by k_is) (by k_is) ?_
              intro x2 xd2 h21 F23 N23 l23 l24
              clear Fa Na
              obtain ⟨hU, U1, U2, U3, U4, XU, TU⟩ := tree_ground Xg Tg F23 N23 (fun p hp => ⟨Nat.ne_of_lt (Nat.lt_trans (l23 p hp) l24), Nat.ne_of_lt (l23 p hp)⟩)
              have hin2 : ∀ p ∈ nw, hU.get? p.1 = some p.2 := fun p hp => U4 p (.tail _ (.tail _ (.tail _ (.tail _ (.tail _ (.tail _ (.tail _ (.tail _ (.tail _ (List.mem_append_left _ hp))))))))))
              have V2 := errsD_v XU hin2 her6
              have GR2 := errsD_g (w := w) hin2 her6
              have htl2 := U4 _ (.head _)
              refine codeAny_weaken (dp := 340) (un := 90) rfl rfl (Nat.le_of_ble_eq_true rfl) (Nat.le_of_ble_eq_true rfl) (c_tinit (D := errsD w er ds) (ch := chL ds) (tops := topF (parI ds)) XU TU GR2 (.inr rfl) U1 (N23 _ (.head _)).1 (N23 _ (.tail _ (.head _))).1 U2 U3 l24 ⟨_, htl2, rfl, _, rfl⟩ (fun q hq => List.mem_range.mp (List.mem_filter.mp hq).1) hsum (fun j hj => radd_all XU TU V2 OK GR2 6 j hj (by omega)) (by decide) (by decide) ?_)
              intro h22 tk22 Nt2 led2 A2 TL2 IV2
              refine ⟨rfl, ?_⟩
              obtain ⟨F24, N24⟩ := tree_after F23 N23 (fun p hp => ⟨Nat.ne_of_lt (Nat.lt_trans (l23 p hp) l24), Nat.ne_of_lt (l23 p hp)⟩) A2
              have U5 := after_sub U1 U2 U3 A2
              simp only [List.cons_append] at N24
              have hpl2 : hU.IsList rlA ((List.range 6).map fun i => Value.ref (adOf 315 (errsD w er ds) i)).toArray := by
                have := U4 (rlA, LCg.lst (ds.map fun d : Int => Value.ref (326 + ruI d))) (by k_mem)
                rw [map6 hds] at this
                exact ⟨_, this, rfl, _, rfl⟩
              have htb2 : hU.IsList 333 ((((List.range 7).map fun p => 326 + p)).map Value.ref).toArray := by
                rw [List.map_map]; exact rulesAt XU
              clear F23 N23
              k_with_none
              k_with "call ref" => ((with_reducible show wpAny _ _ (call (Value.ref 345) _) _ _ _); refine hold_on ?_)
              k_steps
              refine Hold.off ?_
              refine wpAny_call (codeAny_weaken (dp := 340) (un := 90) rfl rfl (Nat.le_of_ble_eq_true rfl) (Nat.le_of_ble_eq_true rfl) (c_fits (tq := (List.range 7).map fun p => 326 + p) XU TU U5 A2.live TL2 IV2 hperm V2 OK LT htb2 (htq_r XU) hpl2 (by decide) (by decide) ?_))
              intro h23 tk23 hs23
              have F25 := frSub F24 hs23
              have N25 := newsSub N24 hs23
              clear F24 N24
              k_with_none
              k_steps))))))))))))
end Ez
end
theorem PySem.Challenge.cw_ez0022_01_holds : PySem.Challenge.rw_ez0022_01.Holds :=
  Ez.law_holds
