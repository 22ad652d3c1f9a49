import PyProof.Rows.All
import Wide.All
import OpenK.AllK
import Wide.FinOn
import KE.KNestM
import KE.KxPercent
import KE.KCallOwn
import PySem.Challenge.RW_vj0020_01
open PySem PySem.W PyProof.Rows PySem.Calls PySem.Spec
set_option Elab.async false
set_option maxRecDepth 100000
set_option maxHeartbeats 8000000
namespace Mine
open_top hd for PySem.Challenge.rw_vj0020_01
-- Base
abbrev PG : Program := PySem.Challenge.rw_vj0020_01.row.prog

/-- what stands around a frame: the part that no step turns -/
def Amb (w : World) (A : Around) (h₀ : Heap) (L : Addr) : Prop :=
  ∃ (A₀ : Around) (base : Heap) (outer : List Env) (env : Env) (p : Program) (loose : List Str) (mean : ExcName → Option Value) (mg mb : Str → Option Value),
    Below A₀ base outer h₀ ∧ (Mine.hd.heap_39 w.params).In h₀ ∧ Top p loose mean mg mb h₀ ∧ A.frames = some (env :: outer) ∧ env.frame = some L ∧ env.scope.kind = .function ∧ PySem.Challenge.rw_vj0020_01 = PySem.Challenge.rw_vj0020_01

/-- addresses fall along the list -/
def Desc (l : List (Addr × Obj)) : Prop := (l.map (·.1)).Pairwise (fun a b => @LT.lt Nat _ b a)
theorem desc_nil : Desc [] := List.Pairwise.nil
theorem desc_cons {a : Addr} {o : Obj} {l : List (Addr × Obj)} (h : AllLt a l) (d : Desc l) : Desc ((a, o) :: l) := by
  refine List.Pairwise.cons (fun b hb => ?_) d
  obtain ⟨p, hp, rfl⟩ := List.mem_map.mp hb
  exact ktn_ltOf h p hp

/-- a call of f runs to its end, comes back with a value; what it made and keeps (tl) stands above the ledger -/
def Run (w : World) (f : Addr) (args : List Value) (kw : List (Str × Value)) (dN uN : Nat) (pre : List (Addr × Obj)) (Post : Value → List (Addr × Obj) → Prop) : Prop :=
  ∀ (A : Around) (h₀ : Heap) (L : Addr) (m : Str → Option Value) (s : Shared) (R : Result → Shared → Prop),
    Amb w A h₀ L → A.handled = none → Fr h₀ L s.heap m → News h₀ L s.heap pre → A.depth + dN ≤ 600 → A.units + uN ≤ 9000 →
    (∀ v tl h' tk', Fr h₀ L h' m → News h₀ L h' (tl ++ pre) → Desc tl → (∀ q ∈ tl, ∀ p ∈ pre, p.1 < q.1) → Post v tl → R (.ok (.ret v)) { s with heap := h', toks := tk' }) →
    codeAny (model PG w) A (.call (.ref f) ⟨args, kw⟩) R s

section
variable {prog : Program} {w : World} {A : Around} {E : Value → Shared → Prop} {s : Shared} {K : Frag} {C x p L : Addr} {i : Nat} {h₀ : Heap} {m : Str → Option Value} {news news' : List (Addr × Obj)} {ox ox' : Obj} {name : Str} {v : Value} {od : Option Obj}

theorem find_dataO {a g : Value} (hc : (clsIn K C).isSome = true) (ha : findIn K (.ref C) name = some (some a)) (hg : specialIn K a "__get__" = some (some g)) (ht : takesIn K a = some true) : findObj K C od name = some (.bind g a) := by
  obtain ⟨cd, hc⟩ := Option.isSome_iff_exists.mp hc
  unfold findObj
  rw [hc, Option.bind_some, ha, Option.bind_some]
  simp [hg, ht]

theorem get_slotO {expr : Bool} {Q : Value → Shared → Prop} (F : Fr h₀ L s.heap m) (X₀ : K.In h₀) (I : InstAt s.heap x ox C od) (hg : plainGet K C name = true) (hc : isClsIn K C = true)
    (ha : findIn K (.ref C) name = some (some (.ref p))) (hn : specialIn K (.ref p) "__get__" = some (some (.builtin "member_descriptor.__get__"))) (ht : takesIn K (.ref p) = some true) (hp : slotIn K p C = some i)
    (hv : (ox.slots[i]?).join = some v) (hh : handedIn v = true) (h : Q v { s with toks := s.toks + 1 }) : wpAny (model prog w) A (getAttr (.ref x) name expr) Q E s :=
  get_bind (X₀.keeps F.keep) I (plainGet_of hg).1 (find_dataO hc ha hn ht) (plainGet_of hg).2 (wpAny_call (slot_get (s := { s with toks := s.toks + 1 }) (X₀.keeps F.keep) I hp hv (handed_on hh h)))

theorem set_slotO {Q : Unit → Shared → Prop} (F : Fr h₀ L s.heap m) (X₀ : K.In h₀) (N : News h₀ L s.heap news) (I : InstAt s.heap x ox C od)
    (hs : findIn K (.ref C) "__setattr__" = some (some (.builtin "object.__setattr__"))) (hp : plainOver K C = true) (ht : takerIn K C name = some (some (.ref p))) (hT : typeIn K (.ref p) = some (.type "member_descriptor")) (hi : slotIn K p C = some i) (hz : i < 1000)
    (e : { ox with slots := (ox.slots ++ Array.replicate (i + 1 - ox.slots.size) none).setIfInBounds i (some v) } = ox') (hf : ox'.isFreed = false) (U : Upd x ox ox' news news')
    (h : ∀ h', Fr h₀ L h' m → News h₀ L h' news' → Q () { s with heap := h', toks := s.toks + 1 }) : wpAny (model prog w) A (setAttr (.ref x) name v) Q E s := by
  obtain ⟨pre, post, rfl, rfl, a, b⟩ := U.split
  exact set_plain (X₀.keeps F.keep) I hs (osa_descr (s := { s with toks := s.toks + 1 }) KF.slot_mset (X₀.keeps F.keep) I hp ht hT (slot_set (s := { s with toks := s.toks + 1 }) F N (X₀.keeps F.keep) I hi hz a b e hf fun h' F' N' => h h' F' N'))

theorem get_propO {expr : Bool} {Q : Value → Shared → Prop} {p fget : Addr} {rest : List Value} (F : Fr h₀ L s.heap m) (X₀ : K.In h₀) (I : InstAt s.heap x ox C od) (hg : plainGet K C name = true) (hc : isClsIn K C = true)
    (ha : findIn K (.ref C) name = some (some (.ref p))) (hn : specialIn K (.ref p) "__get__" = some (some (.builtin "property.__get__"))) (ht : takesIn K (.ref p) = some true) (hp : recIn K p "property" = some (.ref fget :: rest))
    (h : codeAny (model prog w) A.in1 (.call (.ref fget) ⟨[.ref x], []⟩) (fun r s' => match r with | .ok (.ret v) => wpAny (model prog w) A (handedOut v) Q E s' | .ok _ => False | .error e => wpAny (model prog w) A (noteIf true (.ref x) (.str name s.toks) e) (fun _ s'' => E e s'') E s') { s with toks := s.toks + 1 }) :
    wpAny (model prog w) A (getAttr (.ref x) name expr) Q E s :=
  get_bind (X₀.keeps F.keep) I (plainGet_of hg).1 (find_dataO hc ha hn ht) (plainGet_of hg).2 (wpAny_call (prop_get (s := { s with toks := s.toks + 1 }) (X₀.keeps F.keep) hp h))

theorem InstAt.of_newsB {C : Addr} {sl : Array (Option Value)} {h : Heap} (N : News h₀ L h news) (h1 : (x, (⟨.ref C, none, .plain, sl⟩ : Obj)) ∈ news) :
    InstAt h x ⟨.ref C, none, .plain, sl⟩ C none := ⟨(N _ h1).1, rfl, rfl, trivial⟩
end
-- the local lines of the walk
local macro_rules | `(tactic| k_room) => `(tactic| ((try simp only [depth_mark, depth_under_make, depth_under_kw, depth_in1, depth_deeper, depth_caller, recursionLimit]); omega))
local macro_rules | `(tactic| k_units) => `(tactic| (have hcL9 := cLine_is; ((try simp only [units_in1, units_deeper, Around.mark_units, units_caller] at *); omega)))
local macro_rules | `(tactic| walk_at "getAttr ref") => `(tactic| (k_here; k_dflt (first
  | (refine' get_slotO ?k1 ?k2 ?k3 ?k4 ?k5 ?k6 ?k7 ?k8 ?k9 ?k10 ?k11 ?_; (case k1 => k_asm); (case k2 => k_asm); (case k3 => k_inst); (case k4 => k_is); (case k5 => k_is); (case k6 => k_is); (case k7 => k_is); (case k8 => k_is); (case k9 => k_is); (case k10 => k_slotget); (case k11 => k_handed); k_whole)
  | (refine' get_propO ?k1 ?k2 ?k3 ?k4 ?k5 ?k6 ?k7 ?k8 ?k9 ?_; (case k1 => k_asm); (case k2 => k_asm); (case k3 => k_inst); (case k4 => k_is); (case k5 => k_is); (case k6 => k_is); (case k7 => k_is); (case k8 => k_is); (case k9 => k_is); k_whole; k_enter))))
local macro_rules | `(tactic| walk_at "getAttr ref") => `(tactic| (k_here; ks_any; k_dflt (refine' m_getSuper ?k1 ?k2 ?k3 ?k4 ?k5 ?k6 ?k7 ?k8 ?k9 ?_; (case k1 => k_asm); (case k2 => k_asm); (case k3 => k_asm); (case k4 => k_mem); (case k5 => k_inst); (case k6 => k_is); (case k7 => ks_is); (case k8 => k_is); (case k9 => decide); intro q' h' F' N' l1; (try k_lt l1))))
local macro_rules | `(tactic| walk_at "setAttr ref") => `(tactic| (k_here; k_dflt (
  (refine' set_slotO ?k1 ?k2 ?k3 ?k4 ?k5 ?k6 ?k7 ?k8 ?k9 ?k10 ?k11 ?k12 ?k13 ?_; (case k1 => k_asm); (case k2 => k_asm); (case k3 => k_asm); (case k4 => k_inst); (case k5 => k_is); (case k6 => k_is); (case k7 => k_is); (case k8 => k_is); (case k9 => k_is); (case k10 => decide); (case k11 => k_slotset); (case k12 => exact rfl); (case k13 => k_upd); k_whole; intro h' F' N'; (try k_sweep)))))
local macro_rules | `(tactic| k_enter) => `(tactic| (with_reducible show codeAny _ _ (Code.call _ _) _ _))
local macro_rules | `(tactic| walk_at "eval Name") => `(tactic| (k_here; (with_reducible show wpAny _ _ (eval _ (compEnvC _ _ _ _)) _ _ _); k_dflt (first
  | (refine' m_nameC ?N ?m ?l ?r ?v ?k ?x ?_; (case l => exact rfl); (case x => exact rfl); (case k => exact rfl); (case N => k_asm); (case m => k_mem); (case r => k_asm); (case v => first | assumption | rfl); k_whole)
  | (refine' m_nameG ?F ?X ?T ?g ?k ?x ?e ?_; (case g => exact rfl); (case k => exact rfl); (case x => exact rfl); (case F => k_asm); (case X => k_asm); (case T => k_asm); (case e => k_is); k_whole)
  | (refine' m_nameB ?F ?X ?T ?g ?b ?k ?x ?e ?v ?n ?_; (case g => exact rfl); (case b => exact rfl); (case k => exact rfl); (case x => exact rfl); (case F => k_asm); (case X => k_asm); (case T => k_asm); (case e => k_is); (case v => boot_by_name); (case n => decide); k_whole))))
local macro_rules | `(tactic| walk_at "m sub") => `(tactic| ((try simp only [List.cons_append, List.nil_append]); first
  | exact List.forall_mem_nil _
  | (refine' List.forall_mem_cons.mpr ⟨?a, ?b⟩; (case a => k_mem); (case b => walk_at "m sub"))
  | (intro p hp; (repeat (first | exact hp | refine List.Mem.tail _ ?_)))))
local macro_rules | `(tactic| walk_at "m ord") => `(tactic| first
  | exact List.forall_mem_nil _
  | (refine' List.forall_mem_cons.mpr ⟨ktn_ltOf ?a, ?b⟩; (case a => tbn_find); (case b => walk_at "m ord")))
local macro_rules | `(tactic| walk_at "m desc") => `(tactic| first
  | exact desc_nil
  | (refine' desc_cons ?a ?b; (case a => ((try simp only [AllLt, and_true]); first | exact trivial | (repeat' (first | refine And.intro ?_ ?_ | tbn_find | (refine ltN ?_; omega))))); (case b => walk_at "m desc")))
local macro_rules | `(tactic| walk_at "wpAt") => `(tactic| (walk_plain_pass; first
  | (ks_step "execs cons"; refine ks_wpAt_execs_cons ?_)
  | (ks_step "exec Expr"; refine ks_wpAt_Expr_any ?_)
  | (ks_step "exec Return"; refine ks_wpAt_Return_some ?_)
  | (ks_step "exec Assign"; first | refine ks_wpAt_Assign_Name ?_ | refine ks_wpAt_Assign_Attr ?_)
  | (ks_step "exec If"; refine ks_wpAt_If ?_)
  | (ks_step "eval BinOp"; refine ks_wpAt_BinOp2 ?_)
  | (ks_step "eval Call"; first | refine ks_wpAt_MethodCall ?_ | refine m_wpAt_MethodKW ?_)
  | (ks_step "attributeBase Call"; k_here; k_dflt (refine ks_node (by k_asm) (by k_asm) (by k_asm) (by k_asm) (by k_is) (by rfl) (by rfl) (by k_inst) (by k_is) (by rfl) (by first | rfl | decide +kernel) (by k_is) (by k_is) (by k_is) (by k_is) (by decide) (by rfl) (by rfl) (by rfl) (by rfl) (by decide +kernel) (by first | boot_by_name | rfl | kernel_rfl) ?_; intro so' h' F' N' l1; (try k_lt l1)))
  | ((fail_if_success ks_step "attributeBase Call"); refine wpAt_of_wpAny ?_)))
local macro_rules | `(tactic| k_in) => `(tactic| first | with_reducible assumption | exact Frag.In.keeps (by with_reducible assumption) (Fr.keep (by with_reducible assumption)))
-- Rules
abbrev itO (l : Addr) (i : Nat) : Obj := { cls := .type "list_iterator", data := .fields #[.ref l, .int i 0] }
abbrev lstO (its : List Value) (n : Nat) : Obj := { cls := .type "list", data := .seq its.toArray n }
abbrev tupO (its : List Value) (n : Nat) : Obj := { cls := .type "tuple", data := .seq its.toArray n }
/-- a node as it stands in a ledger -/
abbrev nodeO (d : Addr) (ch en ex ft st : Value) : Obj := ⟨.ref 99, some d, .plain, #[some ch, some en, some ex, some ft, some st]⟩
/-- an iterator over the list l (or the tuple l), at place i -/
def IsIt (o : Obj) (l : Addr) (i : Nat) : Prop := o.cls = .type "list_iterator" ∧ o.data = .fields #[.ref l, .int i 0]
def IsTit (o : Obj) (l : Addr) (i : Nat) : Prop := o.cls = .type "tuple_iterator" ∧ o.data = .fields #[.ref l, .int i 0]

section
variable {prog : Program} {w : World} {A : Around} {E : Value → Shared → Prop} {s : Shared} {K : Frag} {C x p L I l : Addr} {i : Nat} {h₀ h : Heap} {m : Str → Option Value} {news news' rest : List (Addr × Obj)} {its : List Value} {v : Value} {n : Nat} {env : Env} {g : Obj → List (Addr × Obj)} {o : Obj}

theorem newsSub (N : News h₀ L h news) (sub : ∀ p ∈ rest, p ∈ news) : News h₀ L h rest := fun p hp => N p (sub p hp)
theorem updF_mem (U : UpdF x o news g) : (x, o) ∈ news := by
  obtain ⟨pre, post, rfl, _, a, b⟩ := U.split
  simp
theorem updF_frnews {o' : Obj} {h' : Heap} (F : Fr h₀ L h m) (N : News h₀ L h news) (U : UpdF x o news g) (hs : Heap.SameBut x h h') (e : h'.get? x = some o') : Fr h₀ L h' m ∧ News h₀ L h' (g o') := by
  have z := N _ (updF_mem U)
  obtain ⟨pre, post, rfl, hg, a, b⟩ := U.split
  rw [hg]
  exact ⟨F.change hs z.2.1 z.2.2, news_set N a b hs e⟩

theorem m_next_item {Q : Option Value → Shared → Prop} (F : Fr h₀ L s.heap m) (N : News h₀ L s.heap news) (hl : (l, lstO its n) ∈ news) (hx : its[i]? = some v) (hI : IsIt o l i) (U : UpdF I o news g)
    (h : ∀ h' o', Fr h₀ L h' m → News h₀ L h' (g o') → IsIt o' l (i + 1) → Q (some v) { s with heap := h' }) : wpAny (model prog w) A (pyNext (.ref I)) Q E s := by
  refine wpAny_pyNext_list_item (l := l) (i := i) (items := its.toArray) ⟨_, (N _ (updF_mem U)).1, hI.1, hI.2⟩ ⟨_, (N _ hl).1, rfl, _, rfl⟩ (by simpa using hx) fun h' hi hs => ?_
  obtain ⟨o', e, r⟩ := hi
  obtain ⟨F', N'⟩ := updF_frnews F N U hs e
  exact h h' o' F' N' r
theorem m_next_end {Q : Option Value → Shared → Prop} (hh : A.handled = none) (F : Fr h₀ L s.heap m) (N : News h₀ L s.heap news) (hl : (l, lstO its n) ∈ news) (hx : its.length ≤ i) (hI : IsIt o l i) (hm : (I, o) ∈ news)
    (sub : ∀ p ∈ rest, p ∈ news) (off : ∀ p ∈ rest, p.1 ≠ I)
    (h : ∀ h', Fr h₀ L h' m → News h₀ L h' rest → Q none { s with heap := h' }) : wpAny (model prog w) A (pyNext (.ref I)) Q E s := by
  refine wpAny_pyNext_list_end (l := l) (i := i) (items := its.toArray) hh ⟨_, (N _ hm).1, hI.1, hI.2⟩ ⟨_, (N _ hl).1, rfl, _, rfl⟩ (by simpa using hx) fun h' hs => ?_
  have z := N _ hm
  refine h h' ⟨F.ns.at fun o e => hs L o (Ne.symm z.2.1) e, fun b x e => hs b x (fun q => ?_) (F.keep b x e), F.above⟩ fun p hp => ⟨hs _ _ (off p hp) (N p (sub p hp)).1, (N p (sub p hp)).2⟩
  rw [q, z.2.2] at e; cases e
theorem m_tnext_item {Q : Option Value → Shared → Prop} (F : Fr h₀ L s.heap m) (N : News h₀ L s.heap news) (hl : (l, tupO its n) ∈ news) (hx : its[i]? = some v) (hI : IsTit o l i) (U : UpdF I o news g)
    (h : ∀ h' o', Fr h₀ L h' m → News h₀ L h' (g o') → IsTit o' l (i + 1) → Q (some v) { s with heap := h' }) : wpAny (model prog w) A (pyNext (.ref I)) Q E s := by
  refine wpAny_pyNext_tuple_item (t := l) (i := i) (items := its.toArray) ⟨_, (N _ (updF_mem U)).1, hI.1, hI.2⟩ ⟨_, (N _ hl).1, rfl, _, rfl⟩ (by simpa using hx) fun h' hi hs => ?_
  obtain ⟨o', e, r⟩ := hi
  obtain ⟨F', N'⟩ := updF_frnews F N U hs e
  exact h h' o' F' N' r

theorem m_iter {Q : Value → Shared → Prop} (F : Fr h₀ L s.heap m) (N : News h₀ L s.heap news) (hl : (l, lstO its n) ∈ news)
    (h : ∀ I h', Fr h₀ L h' m → News h₀ L h' ((I, itO l 0) :: news) → (∀ p ∈ news, p.1 < I) → Q (.ref I) { s with heap := h' }) : wpAny (model prog w) A (call (.builtin "iter") [.ref l]) Q E s := by
  refine call_function_entry (by decide +kernel) (by decide +kernel) kdk_entry_iter (kdk_args_iter _) ?_
  unfold Builtin.«iter»
  refine wpAny_bind (m := someArgs "iter" 1 2 _) (wpAny_of_eq (a := [Value.ref l]) (by first | rfl | kernel_rfl!) ?_)
  show wpAny _ _ (pyIter (.ref l) >>= _) _ _ s
  refine wpAny_bind (wpAny_pyIter_list (items := its.toArray) ⟨_, (N _ hl).1, rfl, _, rfl⟩ ?_)
  exact wpAny_pure ⟨_, rfl, h _ _ (F.push _) (News.push F N _ rfl) (fun q hq => Heap.lt_size (N q hq).1)⟩
theorem m_pyIter {Q : Value → Shared → Prop} (F : Fr h₀ L s.heap m) (N : News h₀ L s.heap news) (hl : (l, lstO its n) ∈ news)
    (h : ∀ I h', Fr h₀ L h' m → News h₀ L h' ((I, itO l 0) :: news) → (∀ p ∈ news, p.1 < I) → Q (.ref I) { s with heap := h' }) : wpAny (model prog w) A (pyIter (.ref l)) Q E s :=
  wpAny_pyIter_list (items := its.toArray) ⟨_, (N _ hl).1, rfl, _, rfl⟩ (h _ _ (F.push _) (News.push F N _ rfl) (fun q hq => Heap.lt_size (N q hq).1))
theorem m_tpyIter {Q : Value → Shared → Prop} (F : Fr h₀ L s.heap m) (N : News h₀ L s.heap news) (hl : (l, tupO its n) ∈ news)
    (h : ∀ I h' o, Fr h₀ L h' m → News h₀ L h' ((I, o) :: news) → IsTit o l 0 → (∀ p ∈ news, p.1 < I) → Q (.ref I) { s with heap := h' }) : wpAny (model prog w) A (pyIter (.ref l)) Q E s :=
  wpAny_pyIter_tuple (items := its.toArray) ⟨_, (N _ hl).1, rfl, _, rfl⟩ (h _ _ _ (F.push _) (News.push F N _ rfl) ⟨rfl, rfl⟩ (fun q hq => Heap.lt_size (N q hq).1))
theorem m_owitIt {Q : Value → Shared → Prop} (N : News h₀ L s.heap news) (hm : (I, o) ∈ news) (hI : IsIt o l i) (h : Q (.ref I) s) : OwitIt (model prog w) A Q E (.ref I) s := by
  unfold OwitIt
  exact wpAny_specialOf (T := "list_iterator") ⟨_, (N _ hm).1, hI.1⟩ slot_listiter_next.lookup h

/-- one turn of a for -/
theorem for_turn {R : Result → Shared → Prop} {target : Expr} {it : Value} {body orelse : List Stmt}
    (h : wpAny (model prog w) A (pyNext it) (fun r s₁ => match r with
      | none => wpAny (model prog w) A (execs orelse env) (fun f s₃ => R (.ok f) s₃) (notedBy (model prog w) A env fun e s' => R (.error e) s') s₁
      | some v => wpAny (model prog w) A (letOwnedTupleGo target it v) (fun _ s₁' => wpAny (model prog w) A (assign target env v) (fun _ s₂ => wpAny (model prog w) A (execs body env) (fun f s₃ => match f with
          | .next | .cont => codeAny (model prog w) A (.forLoop target it body orelse env) R s₃
          | .brk => R (.ok .next) s₃
          | .ret v => R (.ok (.ret v)) s₃) (notedBy (model prog w) A env fun e s' => R (.error e) s') s₂) (notedBy (model prog w) A env fun e s' => R (.error e) s') s₁') (notedBy (model prog w) A env fun e s' => R (.error e) s') s₁) (notedBy (model prog w) A env fun e s' => R (.error e) s') s) :
    codeAny (model prog w) A (.forLoop target it body orelse env) R s := by
  refine codeAny_of_tree ?_
  show wpAny _ A ((forTurn target it body orelse env).onRaise (fun x => do noteFrame x env; theTreesLotGoes x)) _ _ s
  refine wpAny_noted ?_
  simp only [forTurn]
  refine wpAny_bind (wpAny_standAt (wpAny_bind (wpAny_onRaise (wpAny_mono h (fun r s₁ h₁ => ?_) fun _ _ h' => wpAny_standAt h'))))
  cases r with
  | none => exact wpAny_pure ⟨rfl, codeAny_block h₁⟩
  | some v =>
    refine wpAny_bind (wpAny_mono h₁ (fun _ s₁' h₁' => wpAny_bind (wpAny_mono h₁' (fun _ s₂ h₂ => wpAny_bind (wpAny_mono h₂ (fun f s₃ h₃ => ?_) fun _ _ h' => h')) fun _ _ h' => h')) fun _ _ h' => h')
    cases f with
    | next => exact wpAny_pure ⟨rfl, h₃⟩
    | cont => exact wpAny_pure ⟨rfl, h₃⟩
    | brk => exact wpAny_pure h₃
    | ret v => exact wpAny_pure h₃

/-- one turn of a list comprehension of one clause -/
theorem comp_turn {R : Result → Shared → Prop} {elt target iter : Expr} {ifs : List Expr} {scope : Scope} {pos : Pos} {it acc : Value}
    (h : wpAny (model prog w) A (pyNext it) (fun r s₁ => match r with
      | none => R (.ok .next) s₁
      | some v => wpAny (model prog w) A (letOwnedTupleGo target it v) (fun _ s₁' => wpAny (model prog w) A (assign target env v) (fun _ s₂ =>
          wpAny (model prog w) A (forIn ifs true fun c r => if r = true then do let ok ← isTrue c env (eval c env); pure (ForInStep.yield ok) else pure (ForInStep.yield r)) (fun ok s₃ =>
            if ok = true then wpAny (model prog w) A (eval elt env) (fun x s₄ =>
              wpAny (model prog w) A (call (.builtin "list.append") [acc, x]) (fun _ s₅ => codeAny (model prog w) A (.compLoop (.ListComp elt [⟨target, iter, ifs, 0⟩] scope pos) 0 it acc env) R s₅) (notedBy (model prog w) A env fun e s' => R (.error e) s') s₄) (notedBy (model prog w) A env fun e s' => R (.error e) s') s₃
            else codeAny (model prog w) A (.compLoop (.ListComp elt [⟨target, iter, ifs, 0⟩] scope pos) 0 it acc env) R s₃) (notedBy (model prog w) A env fun e s' => R (.error e) s') s₂) (notedBy (model prog w) A env fun e s' => R (.error e) s') s₁') (notedBy (model prog w) A env fun e s' => R (.error e) s') s₁) (notedBy (model prog w) A env fun e s' => R (.error e) s') s) :
    codeAny (model prog w) A (.compLoop (.ListComp elt [⟨target, iter, ifs, 0⟩] scope pos) 0 it acc env) R s := by
  refine codeAny_of_tree ?_
  show wpAny _ A ((compTurn (.ListComp elt [⟨target, iter, ifs, 0⟩] scope pos) 0 it acc env).onRaise (fun x => do noteFrame x env; theTreesLotGoes x)) _ _ s
  refine wpAny_noted ?_
  rw [compTurn_list]
  refine wpAny_bind (wpAny_standAt (wpAny_bind (wpAny_mono h (fun r s₁ h₁ => ?_) fun _ _ h' => h')))
  cases r with
  | none => exact wpAny_pure h₁
  | some v =>
    refine wpAny_bind (wpAny_mono h₁ (fun _ s₁' h₁' => wpAny_bind (wpAny_mono h₁' (fun _ s₂ h₂ => wpAny_bind (wpAny_mono h₂ (fun ok s₃ h₃ => ?_) fun _ _ h' => h')) fun _ _ h' => h')) fun _ _ h' => h')
    cases ok with
    | false => exact wpAny_pure ⟨rfl, h₃⟩
    | true => exact wpAny_bind (wpAny_bind (wpAny_mono h₃ (fun x s₄ h₄ => wpAny_bind (wpAny_mono h₄ (fun _ s₅ h₅ => wpAny_pure (wpAny_pure ⟨rfl, h₅⟩)) fun _ _ h' => h')) fun _ _ h' => h'))

/-- a list comprehension of one clause: the source's iterator I stands in the ledger -/
theorem m_comp {elt target iter : Expr} {ifs : List Expr} {scope : Scope} {pos : Pos} {cl : List (Str × Addr)} {Q : Value → Shared → Prop}
    (hclos : closureFor scope env = pure cl) (hcell : ∀ y ∈ scope.names, y.2 ≠ .cell) (hkind : scope.kind = .function)
    (hnames : ∀ y ∈ scope.names, y.2 = .local → scope.names.lookup y.1 = some .local)
    (h : wpAny (model prog w) A (eval iter env) (fun x s₁ => wpAny (model prog w) A (pyIter x) (fun it s₂ => ∃ I oI l i m' news, it = .ref I ∧ (IsIt oI l i ∨ IsTit oI l i) ∧ Fr h₀ L s₂.heap m' ∧ News h₀ L s₂.heap news ∧ (I, oI) ∈ news ∧
      ∀ C oC D h' tk', Fr h₀ L h' m' → News h₀ L h' ((C, oC) :: (D, lstO [] 0) :: news) → LCg.NsObj oC (fun _ => none) → (∀ p ∈ news, p.1 < D) → D < C →
        codeAny (model prog w) A (.compLoop (.ListComp elt [⟨target, iter, ifs, 0⟩] scope pos) 0 (.ref I) (.ref D) (compEnvC scope cl C env)) (compPost (model prog w) A E none Q (.ref D) C) { s₂ with heap := h', toks := tk' }) E s₁) E s)
    (hs : ∀ x, foldedSetIterable iter env x = pure x := by intro _; rfl) :
    wpAny (model prog w) A (eval (.ListComp elt [⟨target, iter, ifs, 0⟩] scope pos) env) Q E s := by
  rw [eval_ListComp]
  refine wpAny_comprehension_free (use := none) rfl hs hclos hkind hnames (wpAny_mono h (fun xv s₁ h₁ => wpAny_mono h₁ (fun it s₂ h₂ => ?_) fun _ _ e => e) fun _ _ e => e)
  obtain ⟨I, oI, l, i, m', news, rfl, hI, F, N, hm, k⟩ := h₂
  refine wpAny_newObj_type (wpAny_newFunctionEnv hcell (by intro y hy; simp at hy) (fun h₁ hns₁ hsb₁ => ?_) hkind)
  dsimp only at hns₁ hsb₁ ⊢
  have F1 := F.push (lstO [] 0)
  have N1 := News.push F N (lstO [] 0) rfl
  generalize hH2 : s₂.heap.push { cls := .type "list", dict := none, data := .seq ([] : List Value).toArray } = H2 at hns₁ hsb₁ ⊢
  have e1 : s₂.heap.push (lstO [] 0) = H2 := hH2
  rw [e1] at F1 N1
  have hC : H2.objs.size = s₂.heap.objs.size + 1 := by rw [← hH2, Heap.size_push]
  obtain ⟨oC, eC, rC⟩ := LCg.ns_obj hns₁
  have k1 : ∀ b o, H2.get? b = some o → h₁.get? b = some o := fun b o e => hsb₁.extBut b o (Nat.ne_of_lt (Heap.lt_size e)) (Heap.get?_push_of_some _ e)
  have F2 : Fr h₀ L h₁ m' := F1.keeps k1
  have N2 : News h₀ L h₁ ((H2.objs.size, oC) :: (s₂.heap.objs.size, lstO [] 0) :: news) := by
    intro p hp
    rcases List.mem_cons.mp hp with rfl | hp
    · refine ⟨eC, Nat.ne_of_gt F1.ns.lt, next_is_new F1⟩
    · exact ⟨k1 _ _ (N1 p hp).1, (N1 p hp).2⟩
  have fin := k H2.objs.size oC s₂.heap.objs.size h₁ (s₂.toks + ([] : List (Str × Value)).length) F2 N2 rC (fun p hp => Heap.lt_size (N p hp).1) (by rw [hC]; exact Nat.lt_succ_self _)
  have hIg : h₁.get? I = some oI := (N2 _ (List.mem_cons_of_mem _ (List.mem_cons_of_mem _ hm))).1
  refine codeAny_compStart_list fin ?_
  rcases hI with hI | hI
  · exact wpAny_pyIter_listiter (l := l) (i := i) ⟨oI, hIg, hI.1, hI.2⟩ fin
  · exact wpAny_pyIter_tupleiter (t := l) (i := i) ⟨oI, hIg, hI.1, hI.2⟩ fin

theorem comp_end {oC : Obj} {mC : Str → Option Value} {D : Addr} {f : Flow} {Q : Value → Shared → Prop} (F : Fr h₀ L s.heap m) (N : News h₀ L s.heap news) (hC : (C, oC) ∈ news) (rC : LCg.NsObj oC mC) (sub : ∀ p ∈ rest, p ∈ news) (off : ∀ p ∈ rest, p.1 ≠ C)
    (h : ∀ h', Fr h₀ L h' m → News h₀ L h' rest → Q (.ref D) { s with heap := h' }) : compPost (model prog w) A E none Q (.ref D) C (.ok f) s := by
  have z := N _ hC
  exact ⟨mC, rC.ns z.1, fun h' hs => h h' (F.change hs z.2.1 z.2.2) fun p hp => ⟨hs.extBut _ _ (off p hp) (N p (sub p hp)).1, (N p (sub p hp)).2⟩⟩

/-- a comprehension's own name is stored -/
theorem comp_store {scope : Scope} {cl : List (Str × Addr)} {y : Str} {pos : Pos} {oC : Obj} {mC : Str → Option Value} {Q : Unit → Shared → Prop} (F : Fr h₀ L s.heap m) (N : News h₀ L s.heap news) (U : UpdF C oC news g) (rC : LCg.NsObj oC mC)
    (hx : scope.names.lookup y = some .local) (hkind : scope.kind = .function)
    (h : ∀ h' o', Fr h₀ L h' m → News h₀ L h' (g o') → LCg.NsObj o' (fun z => if z = y then some v else mC z) → Q () { s with heap := h', toks := s.toks + 1 }) :
    wpAny (model prog w) A (assign (.Name y pos) (compEnvC scope cl C env) v) Q E s := by
  have z := N _ (updF_mem U)
  refine wpAny_assign_Name (wpAny_storeName_local (lookup_relabel_local hx) (rC.ns z.1) (fun h₃ hn₃ hs₃ => ?_) (by simp [compEnvC, relabel, hkind]))
  obtain ⟨o', e', r'⟩ := LCg.ns_obj hn₃
  obtain ⟨F', N'⟩ := updF_frnews F N U hs₃ e'
  exact h h₃ o' F' N' r'
end
-- Iter
theorem iter_ok {w : World} {x d cl : Addr} {en ex ft st : Value} {pre : List (Addr × Obj)} {its : List Value} {n : Nat} (h1 : (x, nodeO d (.ref cl) en ex ft st) ∈ pre) (hd : (d, dictOf [] 0) ∈ pre) (h2 : (cl, lstO its n) ∈ pre) :
    Run w 52 [.ref x] [] 1 20 pre (fun v tl => ∃ I, v = .ref I ∧ tl = [(I, itO cl 0)]) := by
  w_on
  intro A h₀ L m s R hAmb hhd F N hdep hun hret
  obtain ⟨A₀, base, outer, env, p, loose, mean, mg, mb, B, X, T, hA, hf, hke, hrw⟩ := hAmb
  obtain ⟨hd, dp, fr, gd, un⟩ := A
  dsimp only at hA hhd hdep hun
  subst hA hhd
  revert X hrw
  k_fill
  intro X hrw
  clear hrw
  (k_dflt (refine' code_def (binds := [(Str.ofString "self", .ref x)]) ?k1 ?k2 ?k3 ?k4 ?k5 ?kA ?kF ?kK ?k6 ?k7 ?k8 ?k9 ?kB ?_ ?c2 ?c3 ?c4 ?c5; (case kA => exact rfl); (case kF => first | exact rfl | assumption); (case kK => first | exact rfl | assumption); (case k1 => k_asm); (case k2 => k_asm); (case k3 => k_asm); (case k4 => k_asm); (case k5 => k_asm); (case k6 => k_is); (case k7 => k_is); (case k8 => k_room); (case k9 => first | exact BindsTo.of_eq rfl | exact binds_K (by k_in) rfl (by k_is) rfl rfl rfl); (case c5 => decide); (case kB => exact locs rfl); (case c2 => exact rfl); (case c3 => exact rfl); (case c4 => exact rfl); k_whole))
  intro g' L' h' FG' F' N' B' X' T'
  (try dsimp only [List.reverse, List.reverseAux] at F')
  repeat' (first | ((fail_if_success (with_reducible show wpAny _ _ (call (Value.builtin "iter") _) _ _ _)); (first | (k_unfold; (try dsimp only)) | (k_end; wrow_close) | walk1 | (dsimp only; walk1) | (leave1; walk_say "STEP leave1"; try dsimp only) | fail "no step")))
  refine m_iter (by k_asm) (by k_asm) h2 fun I h1 F1 N1 lt1 => ?_
  repeat' (first | ((fail_if_success (with_reducible show wpAny _ _ (call (Value.builtin "iter") _) _ _ _)); (first | (k_unfold; (try dsimp only)) | (k_end; wrow_close) | walk1 | (dsimp only; walk1) | (leave1; walk_say "STEP leave1"; try dsimp only) | fail "no step")))
  exact hret _ [(I, itO cl 0)] _ _ (by assumption) (by assumption) (desc_cons trivial desc_nil) (fun q hq p hp => by rw [List.mem_singleton.mp hq]; exact lt1 p hp) ⟨I, rfl, rfl⟩
-- Comp
section
variable {prog : Program} {w : World} {A : Around} {E : Value → Shared → Prop} {s : Shared} {L l : Addr} {h₀ : Heap} {m : Str → Option Value} {ctx : List (Addr × Obj)} {its : List Value} {n : Nat} {env : Env}

theorem m_nameG {K : Frag} {p : Program} {loose : List Str} {mean : ExcName → Option Value} {mg mb : Str → Option Value} {x : Str} {v : Value} {pos : Pos} {Q : Value → Shared → Prop} {M : Model} (F : Fr h₀ L s.heap m) (X : K.In h₀) (T : Top p loose mean mg mb h₀) (hg : env.globals = mainGlobals)
    (hk : env.scope.kind = .function) (hx : env.kindOf x = some .globalImplicit) (e : nsIn K mainGlobals x = some (some v)) (h : Q v s) (hd : (x == ("__debug__" : Str)) = false := by decide) : wpAny M A (eval (.Name x pos) env) Q E s :=
  Name_function_global hk hx (loadGlobal_global (mg := mg) (by rw [hg]; exact T.g.keeps F.keep) (mg_of X T.g e) h) hd
theorem m_nameB {K : Frag} {p : Program} {loose : List Str} {mean : ExcName → Option Value} {mg mb : Str → Option Value} {x : Str} {v : Value} {pos : Pos} {Q : Value → Shared → Prop} {M : Model} (F : Fr h₀ L s.heap m) (X : K.In h₀) (T : Top p loose mean mg mb h₀) (hg : env.globals = mainGlobals) (hb : env.builtins = builtinsNs)
    (hk : env.scope.kind = .function) (hx : env.kindOf x = some .globalImplicit) (e : nsIn K mainGlobals x = some none) (hv : bootBuiltins x = some v) (hn : x ≠ "__name__") (h : Q v s) (hd : (x == ("__debug__" : Str)) = false := by decide) : wpAny M A (eval (.Name x pos) env) Q E s :=
  Name_function_global hk hx (loadGlobal_builtin (mg := mg) (mb := mb) (by rw [hg]; exact T.g.keeps F.keep) (mg_none_of X T.g e) (by rw [hb]; exact T.b.keeps F.keep) ((T.builtins x hn).trans hv) h) hd
theorem m_nameC {C : Addr} {oC : Obj} {mC : Str → Option Value} {news : List (Addr × Obj)} {x : Str} {v : Value} {pos : Pos} {Q : Value → Shared → Prop} {M : Model} (N : News h₀ L s.heap news) (hm : (C, oC) ∈ news) (hl : env.locals = C) (rC : LCg.NsObj oC mC) (hv : mC x = some v)
    (hk : env.scope.kind = .function) (hx : env.kindOf x = some .local) (h : Q v s) (hd : (x == ("__debug__" : Str)) = false := by decide) : wpAny M A (eval (.Name x pos) env) Q E s :=
  wpAny_Name (wpAny_loadName_local hk hx (by rw [hl]; exact rC.ns (N _ hm).1) hv h) hd

theorem m_append {D : Addr} {ys : List Value} {k : Nat} {y : Value} {news : List (Addr × Obj)} {g : Obj → List (Addr × Obj)} {Q : Value → Shared → Prop} (F : Fr h₀ L s.heap m) (N : News h₀ L s.heap news) (U : UpdF D (lstO ys k) news g) (hz : ys.length ≤ sizeLine)
    (h : ∀ h', Fr h₀ L h' m → News h₀ L h' (g (lstO (ys ++ [y]) (k + 1))) → Q .none { s with heap := h' }) : wpAny (model prog w) A (call (.builtin "list.append") [.ref D, y]) Q E s := by
  have z := N _ (updF_mem U)
  obtain ⟨pre, post, rfl, hg, a, b⟩ := U.split
  refine append_at (hsz := by rw [List.size_toArray]; exact hz) z.1 fun h' hs ho' => h h' (F.change hs z.2.1 z.2.2) ?_
  rw [hg]
  refine news_set N a b hs (ho'.trans ?_)
  rw [List.push_toArray]

/-- a list comprehension over a list of the ledger whose element leaves nothing behind -/
theorem m_compL {elt iter : Expr} {x : Str} {px pos : Pos} {scope : Scope} {cl : List (Str × Addr)} {Q : Value → Shared → Prop} {P : Nat → Value → Prop}
    (hh : A.handled = none) (hclos : closureFor scope env = pure cl) (hcell : ∀ y ∈ scope.names, y.2 ≠ .cell) (hkind : scope.kind = .function)
    (hnames : ∀ y ∈ scope.names, y.2 = .local → scope.names.lookup y.1 = some .local) (hx : scope.names.lookup x = some .local) (hz : its.length ≤ sizeLine)
    (hit : wpAny (model prog w) A (eval iter env) (fun xv s₁ => wpAny (model prog w) A (pyIter xv) (fun it s₂ => ∃ I oI, it = .ref I ∧ IsIt oI l 0 ∧ Fr h₀ L s₂.heap m ∧ News h₀ L s₂.heap ((I, oI) :: ctx) ∧ (∀ p ∈ ctx, p.1 < I) ∧ (l, lstO its n) ∈ ctx ∧
      ∀ D h' tk' ys k, Fr h₀ L h' m → News h₀ L h' ((D, lstO ys k) :: ctx) → (∀ p ∈ ctx, p.1 < D) → ys.length = its.length → (∀ i y, ys[i]? = some y → P i y) → Q (.ref D) { s₂ with heap := h', toks := tk' }) E s₁) E s)
    (step : ∀ (s' : Shared) i v C oC D oD I oI m1 (E' : Value → Shared → Prop), its[i]? = some v → Fr h₀ L s'.heap m → News h₀ L s'.heap ((C, oC) :: (D, oD) :: (I, oI) :: ctx) → LCg.NsObj oC m1 → m1 x = some v → (∀ p ∈ ctx, p.1 < I) → I < D → D < C →
      wpAny (model prog w) A (eval elt (compEnvC scope cl C env)) (fun y s'' => ∃ h' tk', s'' = { s' with heap := h', toks := tk' } ∧ Fr h₀ L h' m ∧ News h₀ L h' ((C, oC) :: (D, oD) :: (I, oI) :: ctx) ∧ P i y) E' s')
    (hs : ∀ x, foldedSetIterable iter env x = pure x := by intro _; rfl) :
    wpAny (model prog w) A (eval (.ListComp elt [⟨.Name x px, iter, [], 0⟩] scope pos) env) Q E s := by
  refine m_comp (h₀ := h₀) (L := L) hclos hcell hkind hnames (wpAny_mono hit (fun xv s₁ h₁ => wpAny_mono h₁ (fun it s₂ h₂ => ?_) fun _ _ e => e) fun _ _ e => e) hs
  obtain ⟨I, oI, rfl, hI, F, N, hlt, hl, fin⟩ := h₂
  refine ⟨I, oI, l, 0, m, (I, oI) :: ctx, rfl, .inl hI, F, N, .head _, fun C oC D h' tk' F1 N1 rC hD hC => ?_⟩
  have hID : I < D := hD _ (.head _)
  have loop : ∀ (k i : Nat) (oC oI : Obj) (ys : List Value) (q : Nat) (m1 : Str → Option Value) (h' : Heap) (tk' : Nat), k + i = its.length → Fr h₀ L h' m → News h₀ L h' ((C, oC) :: (D, lstO ys q) :: (I, oI) :: ctx) → LCg.NsObj oC m1 → IsIt oI l i → ys.length = i → (∀ i y, ys[i]? = some y → P i y) →
      codeAny (model prog w) A (.compLoop (.ListComp elt [⟨.Name x px, iter, [], 0⟩] scope pos) 0 (.ref I) (.ref D) (compEnvC scope cl C env)) (compPost (model prog w) A E none Q (.ref D) C) { s₂ with heap := h', toks := tk' } := by
    intro k
    induction k with
    | zero =>
      intro i oC oI ys q m1 h' tk' hk F N rC hI hy hP
      refine comp_turn ?_
      refine m_next_end (l := l) (i := i) (its := its) (n := n) (rest := (C, oC) :: (D, lstO ys q) :: ctx) hh F N (by simp [hl]) (by omega) hI (by simp) ?sub ?off fun h2 F2 N2 => ?_
      case sub =>
        intro p hp
        rcases List.mem_cons.mp hp with rfl | hp
        · exact .head _
        · rcases List.mem_cons.mp hp with rfl | hp
          · exact .tail _ (.head _)
          · exact .tail _ (.tail _ (.tail _ hp))
      case off =>
        intro p hp
        simp only [List.mem_cons] at hp
        rcases hp with rfl | rfl | hp
        · exact Nat.ne_of_gt (Nat.lt_trans hID hC)
        · exact Nat.ne_of_gt hID
        · exact Nat.ne_of_lt (hlt p hp)
      · refine comp_end (rest := (D, lstO ys q) :: ctx) F2 N2 (.head _) rC (fun p hp => .tail _ hp) ?_ fun h3 F3 N3 => fin _ _ _ _ _ F3 N3 (fun p hp => Nat.lt_trans (hlt p hp) hID) (by omega) hP
        intro p hp
        rcases List.mem_cons.mp hp with rfl | hp
        · exact Nat.ne_of_lt hC
        · exact Nat.ne_of_lt (Nat.lt_trans (hlt p hp) (Nat.lt_trans hID hC))
    | succ k ih =>
      intro i oC oI ys q m1 h' tk' hk F N rC hI hy hP
      obtain ⟨v, hv⟩ : ∃ v, its[i]? = some v := ⟨its[i]'(by omega), List.getElem?_eq_getElem (by omega)⟩
      refine comp_turn ?_
      have nCD : (D, lstO ys q).1 ≠ C := Nat.ne_of_lt hC
      refine m_next_item (l := l) (i := i) (its := its) (n := n) F N (by simp [hl]) hv hI (.tail (Nat.ne_of_gt (Nat.lt_trans hID hC)) (.tail (Nat.ne_of_gt hID) (.head fun p hp => Nat.ne_of_lt (hlt p hp)))) fun h2 oI2 F2 N2 hI2 => ?_
      refine wpAny_of_eq (a := ()) (by rfl) ?_
      refine comp_store (C := C) F2 N2 (.head ?_) rC hx hkind fun h3 oC3 F3 N3 rC3 => ?_
      · intro p hp
        simp only [List.mem_cons] at hp
        rcases hp with rfl | rfl | hp
        · exact Nat.ne_of_lt hC
        · exact Nat.ne_of_lt (Nat.lt_trans hID hC)
        · exact Nat.ne_of_lt (Nat.lt_trans (hlt p hp) (Nat.lt_trans hID hC))
      refine wpAny_tests_nil ?_
      rw [if_pos rfl]
      refine wpAny_mono (step _ i v C oC3 D (lstO ys q) I oI2 _ _ hv F3 N3 rC3 (by simp) hlt hID hC) (fun y s4 h4 => ?_) fun _ _ e => e
      obtain ⟨h4, tk4, rfl, F4, N4, hy4⟩ := h4
      refine m_append F4 N4 (.tail (Nat.ne_of_gt hC) (.head ?_)) (by omega) fun h5 F5 N5 => ?_
      · intro p hp
        rcases List.mem_cons.mp hp with rfl | hp
        · exact Nat.ne_of_lt hID
        · exact Nat.ne_of_lt (Nat.lt_trans (hlt p hp) hID)
      refine ih (i + 1) _ _ _ _ _ h5 tk4 (by omega) F5 N5 rC3 hI2 (by simp [hy]) ?_
      intro j z hz
      rw [List.getElem?_append] at hz
      split at hz
      · exact hP j z hz
      · rename_i hj
        have : j = i := by
          cases hq : j - ys.length with
          | zero => omega
          | succ t => rw [hq] at hz; simp at hz
        subst this
        rw [hy, Nat.sub_self] at hz
        simp at hz
        exact hz ▸ hy4
  exact loop its.length 0 oC oI [] 0 _ h' tk' rfl F1 N1 rC hI rfl (by intro i y h; simp at h)
end
-- Star
/-- the parameters are bound, some things are made for it: P says what is bound and what the ledger is then -/
def BindsT (prog : Program) (w : World) (h₀ : Heap) (L : Addr) (m : Str → Option Value) (s : Shared) (fd : FuncData) (args : Args) (P : List (Str × Value) → List (Addr × Obj) → Prop) : Prop :=
  ∀ (A : Around) (E : Value → Shared → Prop) (Q : List (Str × Value) → Shared → Prop), (∀ binds news h₁ tk, Fr h₀ L h₁ m → News h₀ L h₁ news → P binds news → Q binds { s with heap := h₁, toks := tk }) → wpAny (model prog w) A (bindArgs fd args) Q E s

section
variable {prog : Program} {w : World} {A₀ A : Around} {s : Shared} {base h₀ : Heap} {outer : List Env} {L : Addr} {m mg mb : Str → Option Value} {env : Env} {news : List (Addr × Obj)} {K : Frag} {p : Program} {loose : List Str} {mean : ExcName → Option Value}
  {R : Result → Shared → Prop} {name qual : Str} {params : Arguments} {body : List Stmt} {scope : Scope} {dV kV doc pm cdv ct oc : Value} {an od : Option Addr} {osl : Array (Option Value)} {f cc : Addr} {args : Args} {P : List (Str × Value) → List (Addr × Obj) → Prop}

/-- a def that closes over __class__ is entered; s' is what the binding leaves -/
theorem m_code_super (B : Below A₀ base outer h₀) (F0 : Fr h₀ L s.heap m) (X₀ : K.In h₀) (T : Top p loose mean mg mb h₀) (hA : A.frames = some (env :: outer)) (hf : env.frame = some L) (hke : env.scope.kind = .function)
    (ho : K.lookup f = some ⟨oc, od, .func (ksFn name qual params body scope dV kV doc pm an cdv ct cc), osl⟩) (hcd : codeIn K cdv qual = true) (hroom : A.depth < recursionLimit)
    (hbind : BindsT prog w h₀ L m s (ksFn name qual params body scope dV kV doc pm an cdv ct cc) args P) (hloc : ∀ binds news, P binds news → ∀ y ∈ binds, scope.names.lookup y.1 = some .local)
    (h : ∀ binds news tk g L' h₂, P binds news → Fr h₀ L g m → Fr g L' h₂ (fun y => binds.reverse.lookup y) → News g L' h₂ news → Below A base (env :: outer) g → K.In g → Top p loose mean mg mb g → (∀ p ∈ news, p.1 < L') →
      _root_.PySem.wpAt (model prog w) (A.deeper (ksEnv qual scope L' f cdv cc)) (.func body (ksEnv qual scope L' f cdv cc)) (execs body (ksEnv qual scope L' f cdv cc))
        (fun fl s' => LeaveK h₀ L m g R (match fl with | .ret v => v | _ => .none) s')
        (fun e s' => wpAny (model prog w) (A.deeper (ksEnv qual scope L' f cdv cc)) (leaving (ksEnv qual scope L' f cdv cc) e) (fun _ s'' => R (.error e) s'') (fun e' s'' => R (.error e') s'') s')
        { s with heap := h₂, toks := tk + binds.length })
    (hcell : ∀ x ∈ scope.names, x.2 ≠ .cell := by decide) (hco : scope.isCoroutine = false := by rfl) (hgen : scope.isGenerator = false := by rfl) (hk : scope.kind = .function := by rfl) : codeAny (model prog w) A (.call (.ref f) args) R s := by
  refine codeAny_call_function hroom ((X₀.keeps F0.keep) _ _ ho) rfl hco hgen rfl (codeRec_of (X₀.keeps F0.keep) hcd) (hbind _ _ _ fun binds news h₁ tk F N hP => ?_)
  obtain ⟨FG, BG, st, lv⟩ := groundX (s := { s with heap := h₁, toks := tk }) (R := R) B F N hA hf hke
  refine wpAny_newFunctionEnv hcell (hloc _ _ hP) (fun h₂ hns hsb => ⟨(T.nolimit.keeps F.keep).fresh _ hsb, ks_codeAny_funcAt (ks_wpAt_mono (h binds news tk _ h₁.objs.size h₂ hP FG ⟨hns, fun b o e => ?_, Nat.le_of_eq (hideAll_size _ _)⟩ (fun p hp => ⟨?_, Nat.ne_of_lt (Heap.lt_size (N p hp).1), hideAll_none _ (List.mem_map_of_mem hp)⟩) BG (X₀.keeps st) (T.keeps st) (fun p hp => Heap.lt_size (N p hp).1)) (fun fl s' hl => lv _ _ hl) fun _ _ y => y)⟩) hk
  · have e' := of_hideAll _ e
    exact hsb.extBut b o (Nat.ne_of_lt (Heap.lt_size e')) (Heap.get?_push_of_some _ e')
  · exact hsb.extBut _ _ (Nat.ne_of_lt (Heap.lt_size (N p hp).1)) (Heap.get?_push_of_some _ (N p hp).1)

/-- the same for a plain def -/
theorem m_code_def (B : Below A₀ base outer h₀) (F0 : Fr h₀ L s.heap m) (X₀ : K.In h₀) (T : Top p loose mean mg mb h₀) (hA : A.frames = some (env :: outer)) (hf : env.frame = some L) (hke : env.scope.kind = .function)
    (ho : K.lookup f = some ⟨oc, od, .func (fnOf name qual params body scope dV kV doc pm an cdv ct), osl⟩) (hcd : codeIn K cdv qual = true) (hroom : A.depth < recursionLimit)
    (hbind : BindsT prog w h₀ L m s (fnOf name qual params body scope dV kV doc pm an cdv ct) args P) (hloc : ∀ binds news, P binds news → ∀ y ∈ binds, scope.names.lookup y.1 = some .local)
    (h : ∀ binds news tk g L' h₂, P binds news → Fr h₀ L g m → Fr g L' h₂ (fun y => binds.reverse.lookup y) → News g L' h₂ news → Below A base (env :: outer) g → K.In g → Top p loose mean mg mb g → (∀ p ∈ news, p.1 < L') →
      wpAny (model prog w) (A.deeper (envOf qual scope L' f cdv)) (execs body (envOf qual scope L' f cdv))
        (fun fl s' => LeaveK h₀ L m g R (match fl with | .ret v => v | _ => .none) s')
        (fun e s' => wpAny (model prog w) (A.deeper (envOf qual scope L' f cdv)) (leaving (envOf qual scope L' f cdv) e) (fun _ s'' => R (.error e) s'') (fun e' s'' => R (.error e') s'') s')
        { s with heap := h₂, toks := tk + binds.length })
    (hcell : ∀ x ∈ scope.names, x.2 ≠ .cell := by decide) (hco : scope.isCoroutine = false := by rfl) (hgen : scope.isGenerator = false := by rfl) (hk : scope.kind = .function := by rfl) : codeAny (model prog w) A (.call (.ref f) args) R s := by
  refine codeAny_call_function hroom ((X₀.keeps F0.keep) _ _ ho) rfl hco hgen rfl (codeRec_of (X₀.keeps F0.keep) hcd) (hbind _ _ _ fun binds news h₁ tk F N hP => ?_)
  obtain ⟨FG, BG, st, lv⟩ := groundX (s := { s with heap := h₁, toks := tk }) (R := R) B F N hA hf hke
  refine wpAny_newFunctionEnv hcell (hloc _ _ hP) (fun h₂ hns hsb => ⟨(T.nolimit.keeps F.keep).fresh _ hsb, codeAny_func (wpAny_mono (h binds news tk _ h₁.objs.size h₂ hP FG ⟨hns, fun b o e => ?_, Nat.le_of_eq (hideAll_size _ _)⟩ (fun p hp => ⟨?_, Nat.ne_of_lt (Heap.lt_size (N p hp).1), hideAll_none _ (List.mem_map_of_mem hp)⟩) BG (X₀.keeps st) (T.keeps st) (fun p hp => Heap.lt_size (N p hp).1)) (fun fl s' hl => lv _ _ hl) fun _ _ y => y)⟩) hk
  · have e' := of_hideAll _ e
    exact hsb.extBut b o (Nat.ne_of_lt (Heap.lt_size e')) (Heap.get?_push_of_some _ e')
  · exact hsb.extBut _ _ (Nat.ne_of_lt (Heap.lt_size (N p hp).1)) (Heap.get?_push_of_some _ (N p hp).1)

theorem m_nsSet1 {M : Model} {A : Around} {E : Value → Shared → Prop} {s : Shared} {d : Addr} {x : Str} {v : Value} {Q : Unit → Shared → Prop} {pre post : List (Addr × Obj)} (F : Fr h₀ L s.heap m) (N : News h₀ L s.heap (pre ++ (d, dictOf [] 0) :: post)) (h1 : ∀ p ∈ pre, p.1 ≠ d) (h2 : ∀ p ∈ post, p.1 ≠ d)
    (h : ∀ h', Fr h₀ L h' m → News h₀ L h' (pre ++ (d, dictOf [⟨PyData.keyHash M.w.params x, .str x s.toks, v⟩] 1) :: post) → Q () { s with heap := h', toks := s.toks + 1 }) : wpAny M A (nsSet d x v) Q E s := by
  have z := (N (d, dictOf [] 0) (by simp)).1
  obtain ⟨F', N'⟩ := news_upd (f := Obj.putName x (PyData.keyHash M.w.params x) (.str x s.toks) v) F N h1 h2 (o' := dictOf [⟨PyData.keyHash M.w.params x, .str x s.toks, v⟩] 1) rfl rfl
  unfold nsSet strHash
  refine wpAny_bind (wpAny_bind (wpAny_askSetting (wpAny_pure (wpAny_bind (wpAny_mkText (wpAny_bind (wpAny_loadPart z ?_)))))))
  have e0 : aRefKeyMayBeTheName x (#[] : Array DictEntry) = false := by
    rw [aRefKeyMayBeTheName_at]; simp
  show wpAny M A (if aRefKeyMayBeTheName x (#[] : Array DictEntry) = true then _ else _) Q E _
  rw [e0, if_neg (by decide)]
  exact wpAny_updatePart z (h _ F' N')

theorem m_lo {M' : Nat} {h : Heap} (hlow : sysModules < h₀.objs.size) (F : Fr h₀ L h m) (hd : h.objs.size ≤ M') : ((M' : Addr) == sysModules) = false := by
  have := F.above
  have := F.ns.lt
  refine beq_eq_false_iff_ne.mpr ?_
  intro e
  subst e
  have a : @LT.lt Nat _ sysModules h₀.objs.size := hlow
  have b : @LT.lt Nat _ L h.objs.size := F.ns.lt
  omega
theorem m_low {p : Program} {loose : List Str} {mean : ExcName → Option Value} {mg mb : Str → Option Value} (T : Top p loose mean mg mb h₀) : sysModules < h₀.objs.size := Nat.lt_trans (by decide) T.g.lt

/-- self, *members, **kwargs of positional arguments alone -/
theorem binds_star0 {fd : FuncData} {a : Value} {rest : List Value} {n1 n2 n3 : Str} {pre : List (Addr × Obj)} {s : Shared} (F : Fr h₀ L s.heap m) (N : News h₀ L s.heap pre) (hz : rest.length ≤ sizeLine) (hlow : sysModules < h₀.objs.size)
    (e : bindArgs fd ⟨a :: rest, []⟩ = (newTuple rest >>= fun t => alloc emptyDict >>= fun d => pure [(n1, a), (n2, t), (n3, .ref d)])) :
    BindsT prog w h₀ L m s fd ⟨a :: rest, []⟩ (fun binds news => ∃ t d, binds = [(n1, a), (n2, .ref t), (n3, .ref d)] ∧ news = (d, dictOf [] 0) :: (t, tupO rest 0) :: pre ∧ @LT.lt Nat _ t d ∧ AllLt t pre ∧ (d == sysModules) = false) := by
  intro A E Q h
  rw [e]
  refine wpAny_bind (wpAny_newTuple ?_ hz)
  refine wpAny_bind (wpAny_alloc (wpAny_pure ?_))
  have F1 := F.push (tupO rest 0)
  have N1 := News.push F N (tupO rest 0) rfl
  refine h _ _ _ s.toks (F1.push emptyDict) (News.push F1 N1 emptyDict rfl) ⟨_, _, rfl, rfl, ?_, allLt_of fun p hp => Heap.lt_size (N p hp).1, m_lo hlow F (by rw [Heap.size_push]; exact Nat.le_succ _)⟩
  rw [Heap.size_push]; exact Nat.lt_succ_self _
/-- and with one keyword that no parameter bears -/
theorem binds_star1 {fd : FuncData} {a v : Value} {x : Str} {rest : List Value} {n1 n2 n3 : Str} {pre : List (Addr × Obj)} {s : Shared} (F : Fr h₀ L s.heap m) (N : News h₀ L s.heap pre) (hz : rest.length ≤ sizeLine) (hlow : sysModules < h₀.objs.size)
    (e : bindArgs fd ⟨a :: rest, [(x, v)]⟩ = (newTuple rest >>= fun t => alloc emptyDict >>= fun d => (forIn [(x, v)] PUnit.unit fun (kv : Str × Value) (_ : PUnit) => nsSet d kv.1 kv.2 >>= fun _ => pure (ForInStep.yield PUnit.unit)) >>= fun _ => pure [(n1, a), (n2, t), (n3, .ref d)])) :
    BindsT prog w h₀ L m s fd ⟨a :: rest, [(x, v)]⟩ (fun binds news => ∃ t d tk, binds = [(n1, a), (n2, .ref t), (n3, .ref d)] ∧ news = (d, dictOf [⟨PyData.keyHash w.params x, .str x tk, v⟩] 1) :: (t, tupO rest 0) :: pre ∧ @LT.lt Nat _ t d ∧ AllLt t pre ∧ (d == sysModules) = false) := by
  intro A E Q h
  rw [e]
  refine wpAny_bind (wpAny_newTuple ?_ hz)
  refine wpAny_bind (wpAny_alloc (wpAny_bind ?_))
  simp only [List.forIn_cons, List.forIn_nil]
  refine wpAny_bind (wpAny_bind ?_)
  have F1 := F.push (tupO rest 0)
  have N1 := News.push F N (tupO rest 0) rfl
  have N2 := News.push F1 N1 emptyDict rfl
  have lt : ∀ p ∈ (s.heap.objs.size, tupO rest 0) :: pre, p.1 < (s.heap.push (tupO rest 0)).objs.size := fun p hp => Heap.lt_size (N1 p hp).1
  refine m_nsSet1 (pre := []) (F1.push emptyDict) N2 (fun _ h => nomatch h) (fun p hp => Nat.ne_of_lt (lt p hp)) fun h' F' N' => wpAny_pure (wpAny_pure (wpAny_pure ?_))
  refine h _ _ _ _ F' N' ⟨_, _, _, rfl, rfl, ?_, allLt_of fun p hp => Heap.lt_size (N p hp).1, m_lo hlow F (by rw [Heap.size_push]; exact Nat.le_succ _)⟩
  show s.heap.objs.size < (s.heap.push _).objs.size
  rw [Heap.size_push]; exact Nat.lt_succ_self _
/-- bound, with a **kwargs that stays empty -/
theorem binds_kw {fd : FuncData} {args : Args} {B : List (Str × Value)} {n3 : Str} {pre : List (Addr × Obj)} {s : Shared} (F : Fr h₀ L s.heap m) (N : News h₀ L s.heap pre) (hlow : sysModules < h₀.objs.size)
    (e : bindArgs fd args = (alloc emptyDict >>= fun d => pure (B ++ [(n3, .ref d)]))) :
    BindsT prog w h₀ L m s fd args (fun binds news => ∃ d, binds = B ++ [(n3, .ref d)] ∧ news = (d, dictOf [] 0) :: pre ∧ AllLt d pre ∧ (d == sysModules) = false) := by
  intro A E Q h
  rw [e]
  refine wpAny_bind (wpAny_alloc (wpAny_pure ?_))
  exact h _ _ _ s.toks (F.push emptyDict) (News.push F N emptyDict rfl) ⟨_, rfl, rfl, allLt_of fun p hp => Heap.lt_size (N p hp).1, m_lo hlow F (Nat.le_refl _)⟩
end

theorem dict0_is {prog : Program} {w : World} {K : Type} [DecidableEq K] {knd : KeyKind prog w K} : (dictOf [] 0).IsDictOf knd [] :=
  ⟨_, _, ⟨rfl, rfl, rfl⟩, rfl, fun _ h => by simp at h, .nil, List.nodup_nil⟩
theorem dict1_is {prog : Program} {w : World} {x : Str} {tk : Tok} {v : Value} : (dictOf [⟨PyData.keyHash w.params x, .str x tk, v⟩] 1).IsDictOf (strKind prog w) [(x, v)] :=
  ⟨_, _, ⟨rfl, rfl, rfl⟩, rfl, fun e h => by
    simp at h
    subst h
    exact ⟨x, strKind_is _ _ _ _, rfl⟩, .cons (strKind_is _ _ _ _) rfl .nil, by simp⟩
-- KwStar
section
variable {prog : Program} {w : World} {A : Around} {E : Value → Shared → Prop} {s : Shared} {h₀ : Heap} {L : Addr} {m : Str → Option Value} {news : List (Addr × Obj)}

theorem m_merge0 {d a : Addr} {es : List DictEntry} {n : Nat} {Q : Unit → Shared → Prop} (N : News h₀ L s.heap news) (hd : (d, dictOf es n) ∈ news) (ha : (a, dictOf [] 0) ∈ news) (lo : (a == sysModules) = false) (h : Q () s) :
    wpAny (model prog w) A (mergeMapping d (.ref a) true) Q E s := by
  have zd := (N _ hd).1
  have za := (N _ ha).1
  have Ta : s.TypeIs (.ref a) "dict" := ⟨_, za, rfl⟩
  unfold mergeMapping
  refine wpAny_bind (m := isInstance (.ref a) (.type "dict")) (wpAny_isInstance Ta isSubtype_dict_dict ?_)
  simp only [if_true]
  refine wpAny_bind (wpAny_specialOf Ta PySem.F.slot_dict_iter.lookup ?_)
  simp only [beq_self_eq_true]
  refine wpAny_bind (wpAny_pure ?_)
  simp only [lo, Bool.false_eq_true, if_false]
  refine wpAny_bind (wpAny_dictEntries zd rfl ?_)
  have body : wpAny (model prog w) A (do
      let __do_lift ← dictEntries a
      have size : Nat := __do_lift.size
      let epoch ← dictEpoch a
      forIn (List.range size) PUnit.unit fun i __s => do
          let __do_lift ← dictEntries a
          match __do_lift[i]? with
            | some e => do
              holding [e.key, e.val]
                  (have __do_jp := fun __r => dictPut d e.hash e.key e.val;
                  if true = true then do
                    let __do_lift ← dictFind d e.key e.hash
                    if __do_lift.isSome = true then do
                        rule "dict.merge.duplicate-key"
                        let __do_lift ← newExc (Value.type "KeyError") [e.key]
                        let __r ← raiseNew __do_lift
                        __do_jp __r
                      else __do_jp ()
                  else __do_jp ())
              let __do_lift ← dictEpoch a
              if (__do_lift != epoch) = true then do
                  unsupported "dict.changed-during-merge"
                  pure (ForInStep.yield PUnit.unit)
                else pure (ForInStep.yield PUnit.unit)
            | x => do
              unsupported "dict.changed-during-merge"
              pure (ForInStep.yield PUnit.unit)
      pure ()) Q E s := by
    refine wpAny_bind (wpAny_dictEntries za rfl ?_)
    refine wpAny_bind (wpAny_dictEpoch za rfl ?_)
    exact wpAny_bind (wpAny_pure (wpAny_pure h))
  split
  · refine wpAny_bind (wpAny_dictEntries za rfl ?_)
    exact wpAny_bind (wpAny_pure body)
  · exact body

theorem m_merge1 {d a : Addr} {x : Str} {tk : Tok} {v : Value} {pre post : List (Addr × Obj)} {Q : Unit → Shared → Prop} (F : Fr h₀ L s.heap m) (N : News h₀ L s.heap (pre ++ (d, dictOf [] 0) :: post)) (h1 : ∀ p ∈ pre, p.1 ≠ d) (h2 : ∀ p ∈ post, p.1 ≠ d)
    (ha : (a, dictOf [⟨PyData.keyHash w.params x, .str x tk, v⟩] 1) ∈ pre) (lo : (a == sysModules) = false)
    (h : ∀ h', Fr h₀ L h' m → News h₀ L h' (pre ++ (d, dictOf [⟨PyData.keyHash w.params x, .str x tk, v⟩] 1) :: post) → Q () { s with heap := h' }) :
    wpAny (model prog w) A (mergeMapping d (.ref a) true) Q E s := by
  have zd := (N (d, dictOf [] 0) (by simp)).1
  have za := (N _ (List.mem_append_left _ ha)).1
  have Ta : s.TypeIs (.ref a) "dict" := ⟨_, za, rfl⟩
  unfold mergeMapping
  refine wpAny_bind (m := isInstance (.ref a) (.type "dict")) (wpAny_isInstance Ta isSubtype_dict_dict ?_)
  simp only [if_true]
  refine wpAny_bind (wpAny_specialOf Ta PySem.F.slot_dict_iter.lookup ?_)
  simp only [beq_self_eq_true]
  refine wpAny_bind (wpAny_pure ?_)
  simp only [lo, Bool.false_eq_true, if_false]
  refine wpAny_bind (wpAny_dictEntries zd rfl ?_)
  rw [if_pos (by rfl)]
  refine wpAny_bind (wpAny_dictEntries za rfl ?_)
  simp only [List.forIn_toArray, List.forIn_cons, List.forIn_nil]
  refine wpAny_bind (wpAny_bind (wpAny_pure (wpAny_pure ?_)))
  refine wpAny_bind (wpAny_dictEntries za rfl ?_)
  refine wpAny_bind (wpAny_dictEpoch za rfl ?_)
  have e1 : List.range ([⟨PyData.keyHash w.params x, .str x tk, v⟩] : List DictEntry).toArray.size = [0] := rfl
  rw [e1]
  simp only [List.forIn_cons, List.forIn_nil]
  refine wpAny_bind (wpAny_bind ?_)
  refine wpAny_bind (wpAny_dictEntries za rfl ?_)
  have e2 : ([⟨PyData.keyHash w.params x, .str x tk, v⟩] : List DictEntry).toArray[0]? = some ⟨PyData.keyHash w.params x, .str x tk, v⟩ := rfl
  simp only [e2]
  have none0 : ∀ {Q' : Option Nat → Shared → Prop}, Q' none s → wpAny (model prog w) A (dictFind d (.str x tk) (PyData.keyHash w.params x)) Q' E s := fun hq =>
    wpAny_dictFind_of (knd := strKind prog w) (strKind_is _ _ _ _) zd rfl (fun _ h => by simp at h) (by simpa using hq)
  refine wpAny_bind (wpAny_holding (wpAny_bind (none0 ?_)))
  simp only [Option.isSome_none, Bool.false_eq_true, if_false]
  unfold dictPut
  refine wpAny_bind (none0 ?_)
  obtain ⟨F', N'⟩ := news_upd (f := Obj.mapDictKeys (·.push ⟨PyData.keyHash w.params x, .str x tk, v⟩)) F N h1 h2 (o' := dictOf [⟨PyData.keyHash w.params x, .str x tk, v⟩] 1) rfl rfl
  refine wpAny_updateDictKeys (es := #[]) (ep := 0) zd rfl ?_ (Nat.zero_le _) (by simp)
  have za' := (N' _ (List.mem_append_left _ ha)).1
  refine wpAny_bind (wpAny_dictEpoch za' rfl ?_)
  simp only [bne_self_eq_false, Bool.false_eq_true, if_false]
  exact wpAny_pure (wpAny_pure (wpAny_pure (h _ F' N')))

/-- **kwargs where kwargs is empty: no keyword comes of it -/
theorem m_merged0 {f : Value} {a : Addr} {t : Sem Value} {Q : Addr → Shared → Prop} (F : Fr h₀ L s.heap m) (N : News h₀ L s.heap news) (ha : (a, dictOf [] 0) ∈ news) (lo : (a == sysModules) = false)
    (ht : ∀ (s' : Shared) (Q' : Value → Shared → Prop) (E' : Value → Shared → Prop), Fr h₀ L s'.heap m → Q' (.ref a) s' → wpAny (model prog w) A t Q' E' s')
    (h : ∀ D h', Fr h₀ L h' m → News h₀ L h' ((D, dictOf [] 0) :: news) → AllLt D news → Q D { s with heap := h' }) :
    wpAny (model prog w) A (mergedKeywords f [(none, t)]) Q E s := by
  have F1 := F.push (dictOf [] 0)
  have N1 := News.push F N (dictOf [] 0) rfl
  unfold mergedKeywords
  refine wpAny_bind (wpAny_alloc (wpAny_bind (wpAny_holding ?_)))
  refine wpAny_bind ?_
  rw [List.forIn_cons]
  refine wpAny_bind ?_
  refine wpAny_bind (wpAny_pure ?_)
  refine wpAny_bind (ht _ _ _ F1 ?_)
  refine wpAny_bind (wpAny_onRaise (wpAny_holding (wpAny_tryCatch (wpAny_onRaise (m_merge0 (d := s.heap.objs.size) N1 (.head _) (.tail _ ha) lo ?_)))))
  refine wpAny_pure ?_
  refine wpAny_pure ?_
  refine wpAny_bind (wpAny_pure ?_)
  exact wpAny_pure (wpAny_pure (h _ _ F1 N1 (allLt_of fun p hp => Heap.lt_size (N p hp).1)))

theorem m_kwIn0 {f : Value} {D : Addr} {Q : List (Str × Value) → Shared → Prop} (N : News h₀ L s.heap news) (hD : (D, dictOf [] 0) ∈ news) (h : Q [] s) : wpAny (model prog w) A (keywordsIn f D) Q E s := by
  have z := (N _ hD).1
  unfold keywordsIn
  refine wpAny_bind (wpAny_dictEntries z rfl ?_)
  exact wpAny_bind (wpAny_pure (wpAny_pure h))
theorem m_kwIn1 {f : Value} {D : Addr} {x : Str} {tk : Tok} {v : Value} {hs : Int} {Q : List (Str × Value) → Shared → Prop} (N : News h₀ L s.heap news) (hD : (D, dictOf [⟨hs, .str x tk, v⟩] 1) ∈ news) (h : Q [(x, v)] s) : wpAny (model prog w) A (keywordsIn f D) Q E s := by
  have z := (N _ hD).1
  unfold keywordsIn
  refine wpAny_bind (wpAny_dictEntries z rfl ?_)
  refine wpAny_bind ?_
  rw [List.forIn_toArray, List.forIn_cons]
  refine wpAny_bind (wpAny_pure ?_)
  exact wpAny_pure (wpAny_pure h)

/-- name=v, **kwargs where kwargs is empty -/
theorem m_merged1 {f v : Value} {a : Addr} {x : Str} {t0 t : Sem Value} {Q : Addr → Shared → Prop} (F : Fr h₀ L s.heap m) (N : News h₀ L s.heap news) (ha : (a, dictOf [] 0) ∈ news) (lo : (a == sysModules) = false) (hlow : sysModules < h₀.objs.size)
    (ht0 : ∀ (s' : Shared) (Q' : Value → Shared → Prop) (E' : Value → Shared → Prop), Fr h₀ L s'.heap m → Q' v s' → wpAny (model prog w) A t0 Q' E' s')
    (ht : ∀ (s' : Shared) (Q' : Value → Shared → Prop) (E' : Value → Shared → Prop), Fr h₀ L s'.heap m → Q' (.ref a) s' → wpAny (model prog w) A t Q' E' s')
    (h : ∀ D h' tk tk', Fr h₀ L h' m → News h₀ L h' ((D, dictOf [⟨PyData.keyHash w.params x, .str x tk, v⟩] 1) :: news) → AllLt D news → Q D { s with heap := h', toks := tk' }) :
    wpAny (model prog w) A (mergedKeywords f [(some x, t0), (none, t)]) Q E s := by
  have F1 := F.push (dictOf [] 0)
  have N1 := News.push F N (dictOf [] 0) rfl
  have l1 : AllLt s.heap.objs.size news := allLt_of fun p hp => Heap.lt_size (N p hp).1
  unfold mergedKeywords
  refine wpAny_bind (wpAny_alloc (wpAny_bind (wpAny_holding ?_)))
  refine wpAny_bind ?_
  rw [List.forIn_cons]
  refine wpAny_bind (wpAny_pure ?_)
  dsimp only
  rw [List.forIn_cons]
  refine wpAny_bind ?_
  refine wpAny_bind ?_
  refine wpAny_bind (m := evalAll [t0]) (wpAny_evalAll_cons (ht0 _ _ _ F1 (wpAny_evalAll_nil ?_))) 
  have F2 := F1.push (dictOf [] 0)
  have N2 := News.push F1 N1 (dictOf [] 0) rfl
  have l2 : AllLt (s.heap.push (dictOf [] 0)).objs.size ((s.heap.objs.size, dictOf [] 0) :: news) := allLt_of fun p hp => Heap.lt_size (N1 p hp).1
  refine wpAny_bind (wpAny_alloc (wpAny_bind ?_))
  show wpAny (model prog w) A (forIn [((x, t0), v)] PUnit.unit _) _ _ _
  rw [List.forIn_cons]
  refine wpAny_bind (wpAny_bind (m_nsSet1 (pre := []) F2 N2 (fun _ h => nomatch h) (fun p hp => Nat.ne_of_lt (ktn_ltOf l2 p hp)) fun h3 F3 N3 => wpAny_pure ?_))
  refine wpAny_pure ?_
  have l2' : @LT.lt Nat _ s.heap.objs.size (s.heap.push (dictOf [] 0)).objs.size := l2.1
  refine wpAny_onRaise (wpAny_holding (wpAny_tryCatch (wpAny_onRaise ?_)))
  refine m_merge1 (pre := [((s.heap.push (dictOf [] 0)).objs.size, _)]) (d := s.heap.objs.size) (post := news) F3 N3 (fun p hp => by rw [List.mem_singleton.mp hp]; exact Nat.ne_of_gt l2') (fun p hp => Nat.ne_of_lt (ktn_ltOf l1 p hp)) (List.mem_singleton.mpr rfl) (m_lo hlow F1 (Nat.le_refl _)) fun h4 F4 N4 => ?_
  refine wpAny_bind (ht _ _ _ F4 ?_)
  refine wpAny_bind (wpAny_onRaise (wpAny_holding (wpAny_tryCatch (wpAny_onRaise (m_merge0 (d := s.heap.objs.size) N4 (.tail _ (.head _)) (.tail _ (.tail _ ha)) lo ?_)))))
  refine wpAny_pure ?_
  refine wpAny_pure ?_
  refine wpAny_bind (wpAny_pure ?_)
  exact wpAny_pure (wpAny_pure (h _ _ _ _ F4 (fun p hp => N4 p (.tail _ hp)) l1))

theorem m_callStar {P : Heap → Prop} {f : Value} {first : List Value} {pos : Pos} {args : List (Bool × Sem Value)} {kws : List (Option Str × Sem Value)} {Q : Value → Shared → Prop} (hst : (args.any (·.1) || kws.any (·.1.isNone)) = true)
    (hk : ∀ h, P h → ∃ k, (k = Keeper.frame ∨ k = Keeper.machine ∨ k = Keeper.boundFrame) ∧ Looks (model prog w) h (keeperOf f) k)
    (h : wpAny (model prog w) A (evalArgs f true args kws) (fun a s₁ => P s₁.heap ∧ wpAny (model prog w) A (call f (first ++ a.pos) a.kw) Q E s₁) E s) : wpAny (model prog w) A (callWith pos f first args kws) Q E s := by
  unfold callWith
  refine wpAny_bind (wpAny_holding (wpAny_mono h (fun a s₁ h₁ => wpAny_bind (wpAny_standAt ?_)) fun _ _ x => x))
  obtain ⟨k, hk', L⟩ := hk _ h₁.1
  simp only [hst]
  refine wpAny_bind (L.here ?_)
  have tail : ∀ {t : Sem Value}, wpAny (model prog w) A t Q E s₁ → wpAny (model prog w) A (t >>= fun r => holding [r] point >>= fun _ => pure r) Q E s₁ :=
    fun ht => wpAny_bind (wpAny_mono ht (fun r s₂ hr => wpAny_bind (wpAny_holding (wpAny_point (wpAny_pure hr)))) fun _ _ x => x)
  have marked (mk : Value) : wpAny (model prog w) A (callMarked mk f (first ++ a.pos) a.kw) Q E s₁ := by unfold callMarked; exact Calls.wpAny_keep h₁.2
  rcases hk' with rfl | rfl | rfl <;> dsimp only <;> first | exact tail (marked _) | exact tail (wpAny_operating h₁.2)

theorem m_evalArgs {f : Value} {x : Sem Value} {kws : List (Option Str × Sem Value)} {Q : Args → Shared → Prop} (hkw : kws.all (·.1.isSome) = false)
    (h : wpAny (model prog w) A (spliced [(false, x)]) (fun ps s₁ => wpAny (model prog w) A (mergedKeywords f kws) (fun d s₂ => wpAny (model prog w) A (keywordsIn f d) (fun kw s₃ => Q ⟨ps, kw⟩ s₃) E s₂) E s₁) E s) :
    wpAny (model prog w) A (evalArgs f true [(false, x)] kws) Q E s := by
  unfold evalArgs
  refine wpAny_bind (m := spliced [(false, x)]) (wpAny_mono h (fun ps s₁ h₁ => wpAny_bind (wpAny_pure (wpAny_holding ?_))) fun _ _ e => e)
  dsimp only
  rw [if_neg (by rw [hkw]; decide)]
  refine wpAny_bind (wpAny_mono h₁ (fun d s₂ h₂ => wpAny_bind (wpAny_pure (wpAny_bind (wpAny_holding (wpAny_mono h₂ (fun kw s₃ h₃ => wpAny_pure h₃) fun _ _ e => e))))) fun _ _ e => e)

/-- super().name, taken as a value -/
theorem m_getSuper {so D x C f2 : Addr} {ox : Obj} {odx : Option Obj} {K : Frag} {name : Str} {Q : Value → Shared → Prop} (F : Fr h₀ L s.heap m) (X₀ : K.In h₀) (N : News h₀ L s.heap news) (hso : (so, ks_superObj D x C) ∈ news) (I : InstAt s.heap x ox C odx) (ho : nsIn K cStatics "thirdparty.any" = some none)
    (hm : ks_superIn K C D name = some (some (.ref f2))) (ht : typeIn K (.ref f2) = some (.type "function")) (hn : (name == ("__class__" : Str)) = false)
    (h : ∀ q h', Fr h₀ L h' m → News h₀ L h' ((q, methodObj (.ref f2) (.ref x)) :: news) → (∀ p ∈ news, p.1 < q) → Q (.ref q) { s with heap := h', toks := s.toks + 1 }) : wpAny (model prog w) A (getAttr (.ref so) name true) Q E s := by
  have X : K.In s.heap := X₀.keeps F.keep
  have hT : ∀ t', (⟨s.heap, s.gens, s.drawn, t', s.os⟩ : Shared).TypeIs (.ref so) "super" := fun _ => ⟨_, (N _ hso).1, rfl⟩
  have hlk := PySem.F.ks_slot_super_ga.lookup
  cases hc : clsIn K C with
  | none => unfold ks_superIn at hm; rw [hc] at hm; cases hm
  | some cd =>
    unfold ks_superIn at hm
    rw [hc] at hm
    obtain ⟨of, hof, hofc⟩ : ∃ of, s.heap.get? f2 = some of ∧ of.cls = .type "function" := by
      unfold typeIn at ht
      cases z : K.lookup f2 with
      | none => simp [z] at ht
      | some of => exact ⟨of, X _ _ z, by simpa [z] using ht⟩
    have hC : Looks (model prog w) s.heap (mroOf (.ref C)) cd.mro := fun A Q E s k q => wpAny_bind ((looks_clsIn X hc) A _ E s k (wpAny_pure q))
    unfold getAttr getAttrBy
    refine wpAny_bind (wpAny_mkText (wpAny_holding (wpAny_bind (wpAny_typeOf (hT _) (wpAny_bind (wpAny_of_eq hlk ?_))))))
    show wpAny _ _ (getAttrByItsOwn (.ref so) (.str name s.toks) (.type "super") (.builtin "super.__getattribute__") true true) _ _ _
    unfold getAttrByItsOwn hookBefore
    refine wpAny_bind (wpAny_of_eq (show (if onTheHeap (.type "super") then typeLookup (.type "super") "__getattr__" else pure none) = pure none from rfl) ?_)
    refine wpAny_bind (wpAny_attempt (wpAny_holding ?_))
    unfold callGetattribute boundAndCalled
    show wpAny _ _ (bindSpecial (.builtin "super.__getattribute__") (.ref so) >>= _) _ _ _
    refine wpAny_bind (wpAny_of_eq (PySem.F.ks_slot_super_ga.bind _) ?_)
    obtain ⟨F', N', l'⟩ := ks_newsPush (s := s) (o := methodObj (.ref f2) (.ref x)) F N rfl (Heap.get?_push_at rfl rfl) (fun b o e => Heap.get?_push_of_some _ e)
    refine wpAny_mono (Q := fun v s' => v = .ref s.heap.objs.size ∧ s' = ⟨s.heap.push { cls := .type "method", data := .fields #[.ref f2, .ref x] }, s.gens, s.drawn, s.toks + 1, s.os⟩) (E := fun _ _ => False)
      (wpAny_call_entry PySem.F.ks_slot_super_ga (hT _) PySem.F.ks_entry_super_ga (ks_wpAny_super_ga (N _ hso).1 (looks_opaque X ho) hC rfl X hm hof hofc (ks_ne X I hc) hn ⟨_, rfl, rfl, rfl⟩) (PySem.F.ks_gaArgs_super _ _)) (fun v s' hv => ?_) fun _ _ z => z.elim
    obtain ⟨rfl, rfl⟩ := hv
    exact wpAny_pure (h _ _ F' N' l')

theorem m_wpAt_MethodKW {c : Code} {env : Env} {o : Expr} {name : Str} {apos pos : Pos} {args : List Expr} {kws : List Keyword} {Q : Value → Shared → Prop}
    (h : _root_.PySem.wpAt (model prog w) A c (attributeBase o name env (eval o env)) (fun ov s₁ => wpAny (model prog w) A (getAttr ov name true) (fun f s₂ => wpAny (model prog w) A (callWith pos f [] (backTo pos (starEach args env)) (backToKw pos (keywordEach kws env))) Q E s₂) E s₁) E s)
    (he : eval (.Call (.Attribute o name apos) args kws pos) env = (do
      let ov ← attributeBase o name env (eval o env)
      standAt apos.atName
      let (f, first) ← holding [ov] (do pure (← getAttr ov name true, []))
      callWith pos f first (backTo pos (starEach args env)) (backToKw pos (keywordEach kws env))) := by rfl) :
    _root_.PySem.wpAt (model prog w) A c (eval (.Call (.Attribute o name apos) args kws pos) env) Q E s := by
  rw [he]
  exact PySem.wpAt_bind (PySem.wpAt_mono h (fun ov s₁ h₁ => PySem.wpAt_of_wpAny (wpAny_bind (wpAny_standAt (wpAny_bind (wpAny_holding (wpAny_bind (wpAny_mono h₁ (fun fx s₂ h₂ => wpAny_pure h₂) fun _ _ x => x))))))) fun _ _ x => x)
end
-- the local lines of the walk
local macro_rules | `(tactic| k_room) => `(tactic| ((try simp only [depth_mark, depth_under_make, depth_under_kw, depth_in1, depth_deeper, depth_caller, recursionLimit]); omega))
local macro_rules | `(tactic| k_units) => `(tactic| (have hcL9 := cLine_is; ((try simp only [units_in1, units_deeper, Around.mark_units, units_caller] at *); omega)))
local macro_rules | `(tactic| walk_at "getAttr ref") => `(tactic| (k_here; k_dflt (first
  | (refine' get_slotO ?k1 ?k2 ?k3 ?k4 ?k5 ?k6 ?k7 ?k8 ?k9 ?k10 ?k11 ?_; (case k1 => k_asm); (case k2 => k_asm); (case k3 => k_inst); (case k4 => k_is); (case k5 => k_is); (case k6 => k_is); (case k7 => k_is); (case k8 => k_is); (case k9 => k_is); (case k10 => k_slotget); (case k11 => k_handed); k_whole)
  | (refine' get_propO ?k1 ?k2 ?k3 ?k4 ?k5 ?k6 ?k7 ?k8 ?k9 ?_; (case k1 => k_asm); (case k2 => k_asm); (case k3 => k_inst); (case k4 => k_is); (case k5 => k_is); (case k6 => k_is); (case k7 => k_is); (case k8 => k_is); (case k9 => k_is); k_whole; k_enter))))
local macro_rules | `(tactic| walk_at "getAttr ref") => `(tactic| (k_here; ks_any; k_dflt (refine' m_getSuper ?k1 ?k2 ?k3 ?k4 ?k5 ?k6 ?k7 ?k8 ?k9 ?_; (case k1 => k_asm); (case k2 => k_asm); (case k3 => k_asm); (case k4 => k_mem); (case k5 => k_inst); (case k6 => k_is); (case k7 => ks_is); (case k8 => k_is); (case k9 => decide); intro q' h' F' N' l1; (try k_lt l1))))
local macro_rules | `(tactic| walk_at "setAttr ref") => `(tactic| (k_here; k_dflt (
  (refine' set_slotO ?k1 ?k2 ?k3 ?k4 ?k5 ?k6 ?k7 ?k8 ?k9 ?k10 ?k11 ?k12 ?k13 ?_; (case k1 => k_asm); (case k2 => k_asm); (case k3 => k_asm); (case k4 => k_inst); (case k5 => k_is); (case k6 => k_is); (case k7 => k_is); (case k8 => k_is); (case k9 => k_is); (case k10 => decide); (case k11 => k_slotset); (case k12 => exact rfl); (case k13 => k_upd); k_whole; intro h' F' N'; (try k_sweep)))))
local macro_rules | `(tactic| k_enter) => `(tactic| (with_reducible show codeAny _ _ (Code.call _ _) _ _))
local macro_rules | `(tactic| walk_at "eval Name") => `(tactic| (k_here; (with_reducible show wpAny _ _ (eval _ (compEnvC _ _ _ _)) _ _ _); k_dflt (first
  | (refine' m_nameC ?N ?m ?l ?r ?v ?k ?x ?_; (case l => exact rfl); (case x => exact rfl); (case k => exact rfl); (case N => k_asm); (case m => k_mem); (case r => k_asm); (case v => first | assumption | rfl); k_whole)
  | (refine' m_nameG ?F ?X ?T ?g ?k ?x ?e ?_; (case g => exact rfl); (case k => exact rfl); (case x => exact rfl); (case F => k_asm); (case X => k_asm); (case T => k_asm); (case e => k_is); k_whole)
  | (refine' m_nameB ?F ?X ?T ?g ?b ?k ?x ?e ?v ?n ?_; (case g => exact rfl); (case b => exact rfl); (case k => exact rfl); (case x => exact rfl); (case F => k_asm); (case X => k_asm); (case T => k_asm); (case e => k_is); (case v => boot_by_name); (case n => decide); k_whole))))
local macro_rules | `(tactic| walk_at "m sub") => `(tactic| ((try simp only [List.cons_append, List.nil_append]); first
  | exact List.forall_mem_nil _
  | (refine' List.forall_mem_cons.mpr ⟨?a, ?b⟩; (case a => k_mem); (case b => walk_at "m sub"))
  | (intro p hp; (repeat (first | exact hp | refine List.Mem.tail _ ?_)))))
local macro_rules | `(tactic| walk_at "m ord") => `(tactic| first
  | exact List.forall_mem_nil _
  | (refine' List.forall_mem_cons.mpr ⟨ktn_ltOf ?a, ?b⟩; (case a => tbn_find); (case b => walk_at "m ord")))
local macro_rules | `(tactic| walk_at "m desc") => `(tactic| first
  | exact desc_nil
  | (refine' desc_cons ?a ?b; (case a => ((try simp only [AllLt, and_true]); first | exact trivial | (repeat' (first | refine And.intro ?_ ?_ | tbn_find | (refine ltN ?_; omega))))); (case b => walk_at "m desc")))
local macro_rules | `(tactic| walk_at "wpAt") => `(tactic| (walk_plain_pass; first
  | (ks_step "execs cons"; refine ks_wpAt_execs_cons ?_)
  | (ks_step "exec Expr"; refine ks_wpAt_Expr_any ?_)
  | (ks_step "exec Return"; refine ks_wpAt_Return_some ?_)
  | (ks_step "exec Assign"; first | refine ks_wpAt_Assign_Name ?_ | refine ks_wpAt_Assign_Attr ?_)
  | (ks_step "exec If"; refine ks_wpAt_If ?_)
  | (ks_step "eval BinOp"; refine ks_wpAt_BinOp2 ?_)
  | (ks_step "eval Call"; first | refine ks_wpAt_MethodCall ?_ | refine m_wpAt_MethodKW ?_)
  | (ks_step "attributeBase Call"; k_here; k_dflt (refine ks_node (by k_asm) (by k_asm) (by k_asm) (by k_asm) (by k_is) (by rfl) (by rfl) (by k_inst) (by k_is) (by rfl) (by first | rfl | decide +kernel) (by k_is) (by k_is) (by k_is) (by k_is) (by decide) (by rfl) (by rfl) (by rfl) (by rfl) (by decide +kernel) (by first | boot_by_name | rfl | kernel_rfl) ?_; intro so' h' F' N' l1; (try k_lt l1)))
  | ((fail_if_success ks_step "attributeBase Call"); refine wpAt_of_wpAny ?_)))
local macro_rules | `(tactic| k_in) => `(tactic| first | with_reducible assumption | exact Frag.In.keeps (by with_reducible assumption) (Fr.keep (by with_reducible assumption)))
-- Tree
theorem desc_head {a : Addr} {o : Obj} {l : List (Addr × Obj)} (h : Desc ((a, o) :: l)) : AllLt a l ∧ Desc l := by
  cases h with
  | cons h1 h2 => exact ⟨allLt_of fun p hp => h1 p.1 (List.mem_map_of_mem hp), h2⟩
theorem above_head {a : Addr} {o : Obj} {l pre : List (Addr × Obj)} (h : ∀ q ∈ (a, o) :: l, ∀ p ∈ pre, p.1 < q.1) : AllLt a pre ∧ ∀ q ∈ l, ∀ p ∈ pre, p.1 < q.1 :=
  ⟨allLt_of fun p hp => h _ (.head _) p hp, fun q hq => h q (.tail _ hq)⟩
theorem four {a b c d : Addr} {oa ob oc od : Obj} {pre : List (Addr × Obj)} (dc : Desc [(a, oa), (b, ob), (c, oc), (d, od)]) (lt : ∀ q ∈ [(a, oa), (b, ob), (c, oc), (d, od)], ∀ p ∈ pre, p.1 < q.1) :
    AllLt a ((b, ob) :: (c, oc) :: (d, od) :: pre) ∧ AllLt b ((c, oc) :: (d, od) :: pre) ∧ AllLt c ((d, od) :: pre) ∧ AllLt d pre := by
  obtain ⟨x1, dc⟩ := desc_head dc
  obtain ⟨x2, dc⟩ := desc_head dc
  obtain ⟨x3, _⟩ := desc_head dc
  obtain ⟨y1, lt⟩ := above_head lt
  obtain ⟨y2, lt⟩ := above_head lt
  obtain ⟨y3, lt⟩ := above_head lt
  obtain ⟨y4, _⟩ := above_head lt
  exact ⟨⟨x1.1, x1.2.1, x1.2.2.1, y1⟩, ⟨x2.1, x2.2.1, y2⟩, ⟨x3.1, y3⟩, y4⟩
theorem three {a b c : Addr} {oa ob oc : Obj} {pre : List (Addr × Obj)} (dc : Desc [(a, oa), (b, ob), (c, oc)]) (lt : ∀ q ∈ [(a, oa), (b, ob), (c, oc)], ∀ p ∈ pre, p.1 < q.1) :
    AllLt a ((b, ob) :: (c, oc) :: pre) ∧ AllLt b ((c, oc) :: pre) ∧ AllLt c pre := by
  obtain ⟨x1, dc⟩ := desc_head dc
  obtain ⟨x2, _⟩ := desc_head dc
  obtain ⟨y1, lt⟩ := above_head lt
  obtain ⟨y2, lt⟩ := above_head lt
  obtain ⟨y3, _⟩ := above_head lt
  exact ⟨⟨x1.1, x1.2.1, y1⟩, ⟨x2.1, y2⟩, y3⟩
theorem desc_append {a b : List (Addr × Obj)} (ha : Desc a) (hb : Desc b) (h : ∀ q ∈ a, ∀ p ∈ b, p.1 < q.1) : Desc (a ++ b) := by
  unfold Desc
  rw [List.map_append]
  refine List.pairwise_append.mpr ⟨ha, hb, fun x hx y hy => ?_⟩
  obtain ⟨q, hq, rfl⟩ := List.mem_map.mp hx
  obtain ⟨p, hp, rfl⟩ := List.mem_map.mp hy
  exact h q hq p hp

theorem allLt_sub {a : Addr} {l l' : List (Addr × Obj)} (h : AllLt a l) (s : ∀ p ∈ l', p ∈ l) : AllLt a l' := allLt_of fun p hp => ktn_ltOf h p (s p hp)
theorem fin1 {t2 : Addr} {o2 : Obj} {new old rest pre : List (Addr × Obj)} (h : AllLt t2 (new ++ (old ++ rest))) (dn : Desc new) (an : ∀ q ∈ new, ∀ p ∈ old ++ rest, p.1 < q.1) (d : Desc old) (ao : ∀ q ∈ old, ∀ p ∈ rest, p.1 < q.1) (s : ∀ p ∈ pre, p ∈ rest) :
    Desc ((t2, o2) :: (new ++ old)) ∧ ∀ q ∈ (t2, o2) :: (new ++ old), ∀ p ∈ pre, p.1 < q.1 := by
  refine ⟨desc_cons (allLt_sub h fun p hp => ?_) (desc_append dn d fun q hq p hp => an q hq p (List.mem_append_left _ hp)), fun q hq p hp => ?_⟩
  · rcases List.mem_append.mp hp with hp | hp
    · exact List.mem_append_left _ hp
    · exact List.mem_append_right _ (List.mem_append_left _ hp)
  · rcases List.mem_cons.mp hq with rfl | hq
    · exact ktn_ltOf h p (List.mem_append_right _ (List.mem_append_right _ (s p hp)))
    · rcases List.mem_append.mp hq with hq | hq
      · exact an q hq p (List.mem_append_right _ (s p hp))
      · exact ao q hq p (s p hp)
theorem above_append {a b pre : List (Addr × Obj)} (ha : ∀ q ∈ a, ∀ p ∈ b ++ pre, p.1 < q.1) (hb : ∀ q ∈ b, ∀ p ∈ pre, p.1 < q.1) : ∀ q ∈ a ++ b, ∀ p ∈ pre, p.1 < q.1 := by
  intro q hq p hp
  rcases List.mem_append.mp hq with hq | hq
  · exact ha q hq p (List.mem_append_right _ hp)
  · exact hb q hq p hp
theorem desc_nodup {l : List (Addr × Obj)} (h : Desc l) : (l.map (·.1)).Nodup := h.imp fun h => Ne.symm (Nat.ne_of_lt h)
theorem fin2 {h₀ hp0 : Heap} {L : Addr} {t2 : Addr} {o2 : Obj} {new old rest pre : List (Addr × Obj)} (N : News h₀ L hp0 ((t2, o2) :: (new ++ (old ++ rest)))) (h : ∀ p ∈ new ++ (old ++ rest), p.1 < t2) (dn : Desc new) (an : ∀ q ∈ new, ∀ p ∈ old ++ rest, p.1 < q.1) (d : Desc old) (ao : ∀ q ∈ old, ∀ p ∈ rest, p.1 < q.1) (s : ∀ p ∈ pre, p ∈ rest) :
    News h₀ L hp0 (((t2, o2) :: (new ++ old)) ++ pre) ∧ Desc ((t2, o2) :: (new ++ old)) ∧ ∀ q ∈ (t2, o2) :: (new ++ old), ∀ p ∈ pre, p.1 < q.1 := by
  refine ⟨newsSub N fun p hp => ?_, fin1 (allLt_of h) dn an d ao s⟩
  simp only [List.cons_append, List.append_assoc, List.mem_cons, List.mem_append] at hp ⊢
  rcases hp with hp | hp | hp | hp
  · exact .inl hp
  · exact .inr (.inl hp)
  · exact .inr (.inr (.inl hp))
  · exact .inr (.inr (.inr (s p hp)))
-- Hand
/-- the exception that is handled around (if any) has no context of its own -/
def HandOK (A : Around) (h : Heap) : Prop := A.handled = none ∨ ∃ a o vs, A.handled = some (.ref a) ∧ h.get? a = some o ∧ o.data = .fields vs ∧ vs[2]? = some .none
theorem handOK_keeps {A : Around} {h h' : Heap} (H : HandOK A h) (k : ∀ b o, h.get? b = some o → h'.get? b = some o) : HandOK A h' := by
  rcases H with hh | ⟨a, o, vs, hh, ho, hd, h2⟩
  · exact .inl hh
  · exact .inr ⟨a, o, vs, hh, k _ _ ho, hd, h2⟩
theorem entry_unchain : entryFor table "proto.unchain" = some Builtin.«proto.unchain» := entryFor_of_tree (by kernel_rfl)

section
variable {prog : Program} {w : World} {A : Around} {E : Value → Shared → Prop} {s : Shared}
theorem m_unchain {e a : Addr} {o : Obj} {vs : Array Value} {Q : Value → Shared → Prop} (ho : s.heap.get? a = some o) (hd : o.data = .fields vs) (h2 : vs[2]? = some .none) (h : Q .none s) :
    wpAny (model prog w) A (runValue (.builtin "proto.unchain" ⟨[.ref e, .ref a, .ref a, .bool false], []⟩)) Q E s := by
  refine wpAny_runValue (codeAny_builtin entry_unchain ?_)
  unfold Builtin.«proto.unchain»
  dsimp only
  refine wpAny_bind (wpAny_field ho hd h2 ?_)
  rw [if_pos (by rfl)]
  exact wpAny_pure h

theorem m_raiseNew {α : Type} {e : Addr} {oe : Obj} {vs : Array Value} {Q : α → Shared → Prop} (H : HandOK A s.heap) (he : s.heap.get? e = some oe) (hd : oe.data = .fields vs) (hz2 : 2 < vs.size)
    (h : ∀ h' o', (∀ b o, b ≠ e → s.heap.get? b = some o → h'.get? b = some o) → h'.get? e = some o' → o'.cls = oe.cls → E (.ref e) { s with heap := h' }) : wpAny (model prog w) A (raiseNew (.ref e) : Sem α) Q E s := by
  unfold raiseNew
  refine wpAny_bind (wpAny_handled ?_)
  rcases H with hh | ⟨a, o, us, hh, ho, hod, h2⟩
  · rw [hh]
    exact wpAny_bind (wpAny_pure (wpAny_throw (h s.heap oe (fun _ _ _ x => x) he rfl)))
  · rw [hh]
    dsimp only
    by_cases ne : (Value.ref a != Value.ref e) = true
    · rw [if_pos ne]
      refine wpAny_bind (wpAny_holding (m_unchain ho hod h2 ?_))
      unfold updateField
      refine wpAny_bind (wpAny_bind (wpAny_load he ?_))
      rw [hd]
      dsimp only
      rw [if_pos hz2]
      refine wpAny_update he (wpAny_throw ?_)
      refine h _ _ (fun b ob hb e1 => (Heap.get?_update_other _ _ (Ne.symm hb)).trans e1) (Heap.get?_update_self _ he (Obj.isFreed_of_fields (Obj.data_mapFields hd _))) (Obj.cls_mapFields ..)
    · rw [if_neg ne]
      exact wpAny_bind (wpAny_pure (wpAny_throw (h s.heap oe (fun _ _ _ x => x) he rfl)))

theorem m_tend {I l : Addr} {i n : Nat} {o ol : Obj} {items : Array Value} {Q : Option Value → Shared → Prop} (H : HandOK A s.heap) (hIh : ∀ a, A.handled = some (.ref a) → a ≠ I) (ho : s.heap.get? I = some o) (hI : IsTit o l i) (hol : s.heap.get? l = some ol) (hdl : ol.data = .seq items n) (hx : items[i]? = none)
    (h : ∀ h', (∀ b ob, b ≠ I → s.heap.get? b = some ob → h'.get? b = some ob) → Q none { s with heap := h' }) : wpAny (model prog w) A (pyNext (.ref I)) Q E s := by
  have hd : o.data = .fields #[.ref l, .int i 0] := hI.2
  have hT : s.TypeIs (.ref I) "tuple_iterator" := ⟨_, ho, hI.1⟩
  unfold pyNext
  refine wpAny_bind (wpAny_attempt (wpAny_callSpecial?_slot (name := Str.ofString "__next__") hT PySem.F.slot_tuple_iterator_next
    (wpAny_call_entry PySem.F.slot_tuple_iterator_next hT PySem.F.entry_tuple_iterator_next ?_ (PySem.F.args_tuple_iterator_next_1 _))))
  show wpAny _ _ (field (.ref I) 0 >>= _) _ _ s
  refine wpAny_bind (wpAny_field ho hd (x := .ref l) rfl ?_)
  show wpAny _ _ (if (Value.ref l == Value.none) = true then _ else _) _ _ s
  rw [if_neg (show ¬ ((Value.ref l == Value.none) = true) from Bool.false_ne_true)]
  show wpAny _ _ (field (.ref I) 1 >>= _) _ _ s
  refine wpAny_bind (wpAny_field ho hd (x := .int i 0) rfl ?_)
  show wpAny _ _ (seqItems? (.ref l) >>= _) _ _ s
  refine wpAny_bind (wpAny_seqItems hol hdl ?_)
  simp only [Int.toNat_natCast, hx]
  refine wpAny_bind (wpAny_rule (wpAny_bind (wpAny_setField ho hd (by simp) ?_)))
  show wpAny _ _ (newExc (.type "StopIteration") [] >>= _) _ _ _
  refine wpAny_bind ?_
  simp only [newExc, newTuple]
  refine wpAny_bind (wpAny_newObj_type ?_ (by size_fits))
  refine wpAny_bind (m := firstArgMember _ _) (wpAny_of_eq (a := Value.none) (by first | rfl | (simp only [firstArgMember]; rfl)) ?_)
  refine wpAny_newObj_type ?_ (by size_fits)
  dsimp only
  generalize hH1 : s.heap.update I (Obj.mapFields fun x => x.setIfInBounds 0 Value.none) = H1
  have k1 : ∀ b ob, b ≠ I → s.heap.get? b = some ob → H1.get? b = some ob := fun b ob hb e1 => by rw [← hH1]; exact (Heap.get?_update_other _ _ (Ne.symm hb)).trans e1
  generalize hT1 : ({ cls := Value.type "tuple", data := Data.seq #[] } : Obj) = oT
  generalize hE1 : (#[Value.ref H1.objs.size, Value.none, Value.none, Value.none, Value.bool false, Value.none] ++ ownMembersOf (Value.type "StopIteration") [] : Array Value) = fe
  have k2 : ∀ oe b ob, b ≠ I → s.heap.get? b = some ob → ((H1.push oT).push oe).get? b = some ob := fun oe b ob hb e1 => Heap.get?_push_of_some _ (Heap.get?_push_of_some _ (k1 b ob hb e1))
  have fz : 2 < fe.size := by rw [← hE1]; simp; omega
  refine m_raiseNew (vs := fe) ?_ (Heap.get?_push_size _ rfl) rfl fz fun h' o' k3 he' hc' => ?_
  · rcases H with hh | ⟨a, oa, us, hh, ha, had, h2⟩
    · exact .inl hh
    · exact .inr ⟨a, oa, us, hh, k2 _ _ _ (hIh a hh) ha, had, h2⟩
  · refine wpAny_bind (wpAny_isInstance (T := "StopIteration") (b := true) ⟨o', he', hc'⟩ isSubtype_stop ?_)
    rw [if_pos rfl]
    have lt : ∀ b ob, b ≠ I → s.heap.get? b = some ob → h'.get? b = some ob := fun b ob hb e1 => k3 _ _ (by
      intro e2
      have l1 := Heap.lt_size (Heap.get?_push_of_some oT (k1 b ob hb e1))
      rw [e2] at l1
      exact absurd l1 (Nat.lt_irrefl _)) (k2 _ b ob hb e1)
    exact wpAny_pure (h h' lt)
theorem m_tnext_end {I l L : Addr} {i n : Nat} {o : Obj} {its : List Value} {h₀ : Heap} {m : Str → Option Value} {news rest : List (Addr × Obj)} {Q : Option Value → Shared → Prop} (H : HandOK A s.heap) (hIh : ∀ a, A.handled = some (.ref a) → a ≠ I) (F : Fr h₀ L s.heap m) (N : News h₀ L s.heap news) (hl : (l, tupO its n) ∈ news) (hx : its.length ≤ i) (hI : IsTit o l i) (hm : (I, o) ∈ news)
    (sub : ∀ p ∈ rest, p ∈ news) (off : ∀ p ∈ rest, p.1 ≠ I)
    (h : ∀ h', Fr h₀ L h' m → News h₀ L h' rest → Q none { s with heap := h' }) : wpAny (model prog w) A (pyNext (.ref I)) Q E s := by
  have z := N _ hm
  refine m_tend (items := its.toArray) (n := n) H hIh z.1 hI (N _ hl).1 rfl (by simpa using hx) fun h' lt => ?_
  refine h h' ⟨F.ns.at fun o e => lt L o (Ne.symm z.2.1) e, fun b x e => lt b x (fun q => ?_) (F.keep b x e), F.above⟩ fun p hp => ⟨lt _ _ (off p hp) (N p (sub p hp)).1, (N p (sub p hp)).2⟩
  rw [q, z.2.2] at e; cases e

theorem m_owned_tit {elts : List PySem.Expr} {cx : Nat} {pos : Pos} {I l P : Addr} {i : Nat} {oI : Obj} {Q : Unit → Shared → Prop} (ho : s.heap.get? I = some oI) (hI : IsTit oI l i) (h : Q () s) :
    wpAny (model prog w) A (letOwnedTupleGo (.Tuple elts cx pos) (.ref I) (.ref P)) Q E s := by
  obtain ⟨c, dct, dat, sl⟩ := oI
  obtain ⟨h1, h2⟩ := hI
  simp only at h1 h2
  subst h1 h2
  unfold letOwnedTupleGo
  refine wpAny_bind (wpAny_load ho ?_)
  dsimp only
  rw [if_neg (by
    have e : (["enumerate", "zip", "dict_itemiterator", "dict_reverseitemiterator", "odict_iterator", "itertools.zip_longest", "itertools.pairwise"].contains "tuple_iterator") = false := by decide
    rw [e, Bool.false_and]; exact Bool.false_ne_true)]
  exact wpAny_pure h

theorem m_unpackT {env : Env} {elts : List PySem.Expr} {k : Nat} {pos : Pos} {t : Addr} {items : Array Value} {h₀ : Heap} {L : Addr} {m : Str → Option Value} {news : List (Addr × Obj)} {Q : Unit → Shared → Prop} (H : HandOK A s.heap) (hh : ∀ a, A.handled = some (.ref a) → (s.heap.get? a).isSome = true) (F : Fr h₀ L s.heap m) (N : News h₀ L s.heap news) (ht : IsTup s.heap t items)
    (hn : (assignEach elts env).length = items.size) (hstar : (assignEach elts env).findIdx? (·.1) = none)
    (h : ∀ h', Fr h₀ L h' m → News h₀ L h' news → wpAny (model prog w) A (assignInOrder ((assignEach elts env).map (·.2)) items.toList) Q E { s with heap := h' }) :
    wpAny (model prog w) A (assign (.Tuple elts k pos) env (.ref t)) Q E s := by
  rw [assign_Tuple]
  refine wpAny_bind (wpAny_standAt ?_)
  unfold unpack
  rw [hn, hstar]
  refine wpAny_bind (wpAny_holding ?_)
  have hlt : t ≠ s.heap.objs.size := by obtain ⟨o, ho, _⟩ := ht; exact Nat.ne_of_lt (Heap.lt_size ho)
  unfold unpackItems
  refine wpAny_bind ?_
  unfold notIterableAtAll
  refine wpAny_bind (wpAny_specialOf ht.typeIs slot_tuple_iter.lookup ?_)
  refine wpAny_pure ?_
  simp only [Bool.false_eq_true, if_false]
  refine wpAny_bind (wpAny_holding (iter_tuple ht ?_))
  refine wpAny_bind (wpAny_holding (draw_tuple hlt items.size 0 _ _ ⟨_, Heap.get?_push_size _ rfl, rfl, rfl⟩ (ht.push _) (by omega) fun h₁ hit₁ hs₁ => ?_))
  have hall : List.take items.size (List.drop 0 items.toList) = items.toList := by
    rw [List.drop_zero]; exact List.take_of_length_le (by simp)
  rw [hall]
  rw [if_neg (by simp)]
  have ht₁ : IsTup h₁ t items := (ht.push _).extBut hs₁.extBut hlt
  obtain ⟨oi, hoi, hci, hdi⟩ := hit₁
  obtain ⟨ot, hot, hct, nt, hdt⟩ := ht₁
  have kp : ∀ b ob, s.heap.get? b = some ob → h₁.get? b = some ob := fun b ob e => hs₁.extBut b ob (Nat.ne_of_lt (Heap.lt_size e)) (Heap.get?_push_of_some _ e)
  refine wpAny_bind (wpAny_holding (m_tend (handOK_keeps H kp) (fun a ha => ?_) hoi ⟨hci, hdi⟩ hot hdt (by simp) fun h₂ lt => ?_))
  · have := hh a ha
    obtain ⟨oa, hoa⟩ := Option.isSome_iff_exists.mp this
    exact Nat.ne_of_lt (Heap.lt_size hoa)
  · simp only [Option.isSome_none, Bool.false_eq_true, if_false]
    refine wpAny_pure ?_
    have k2 : ∀ b ob, s.heap.get? b = some ob → h₂.get? b = some ob := fun b ob e => lt b ob (Nat.ne_of_lt (Heap.lt_size e)) (kp b ob e)
    exact h h₂ (F.keeps k2) fun p hp => ⟨k2 _ _ (N p hp).1, (N p hp).2⟩
end
-- Count
/-- a forest of nodes: the expression's address, its name, from, to, the children, the rest of the forest -/
inductive PF where
  | nil
  | cons (e : Addr) (nm : Str) (st en : Nat) (ch rest : PF)
def PF.ht : PF → Nat
  | .nil => 0
  | .cons _ _ _ _ ch rest => max (ch.ht + 1) rest.ht
def PF.cnt : PF → Nat
  | .nil => 0
  | .cons _ _ _ _ ch rest => 1 + ch.cnt + rest.cnt
def PF.len : PF → Nat
  | .nil => 0
  | .cons _ _ _ _ _ rest => 1 + rest.len

/-- no node has more children than the model counts -/
def PF.small : PF → Prop
  | .nil => True
  | .cons _ _ _ _ ch rest => ch.small ∧ ch.len ≤ 16777216 ∧ rest.small
def PF.cnts : PF → List Int
  | .nil => []
  | .cons _ _ _ _ ch rest => ((1 + ch.cnt : Nat) : Int) :: rest.cnts

/-- the nodes vs stand in the ledger as the forest F over the text tx -/
inductive NodesIn (tx : Str) (ctx : List (Addr × Obj)) : List Value → PF → Prop
  | nil : NodesIn tx ctx [] .nil
  | cons {a d cl e : Addr} {t1 t2 t3 : Tok} {st en n : Nat} {nm : Str} {chs vs : List Value} {ch rest : PF} :
      (a, nodeO d (.ref cl) (.int en t1) (.ref e) (.str tx t2) (.int st t3)) ∈ ctx → (d, dictOf [] 0) ∈ ctx → (cl, lstO chs n) ∈ ctx → NodesIn tx ctx chs ch → NodesIn tx ctx vs rest → NodesIn tx ctx (.ref a :: vs) (.cons e nm st en ch rest)

/-- the roots of a forest, one by one -/
inductive Roots (P : Value → PF → Prop) : List Value → PF → Prop
  | nil : Roots P [] .nil
  | cons {v : Value} {vs : List Value} {e : Addr} {nm : Str} {st en : Nat} {ch rest : PF} : P v (.cons e nm st en ch .nil) → Roots P vs rest → Roots P (v :: vs) (.cons e nm st en ch rest)

theorem nodes_len {tx : Str} {ctx : List (Addr × Obj)} {vs : List Value} {F : PF} (h : NodesIn tx ctx vs F) : vs.length = F.len := by
  induction h with
  | nil => rfl
  | cons _ _ _ _ _ _ ih => simp [PF.len, ih]; omega

theorem NodesIn.mono {tx : Str} {ctx ctx' : List (Addr × Obj)} {vs : List Value} {F : PF} (h : NodesIn tx ctx vs F) (hs : ∀ p ∈ ctx, p ∈ ctx') : NodesIn tx ctx' vs F := by
  induction h with
  | nil => exact .nil
  | cons h1 h3 h2 _ _ ih1 ih2 => exact .cons (hs _ h1) (hs _ h3) (hs _ h2) ih1 ih2

theorem Roots.at {P : Value → PF → Prop} {vs : List Value} {F : PF} (h : Roots P vs F) : ∀ {i : Nat} {v : Value}, vs[i]? = some v → ∃ t : PF, P v t ∧ F.cnts[i]? = some (t.cnt : Int) ∧ t.ht ≤ F.ht := by
  induction h with
  | nil => intro i v h; simp at h
  | cons hP _ ih =>
    intro i v h
    cases i with
    | zero => simp at h; subst h; exact ⟨_, hP, by simp [PF.cnts, PF.cnt], by simp [PF.ht]; omega⟩
    | succ i =>
      obtain ⟨t, a, b, c⟩ := ih (by simpa using h)
      exact ⟨t, a, by simpa [PF.cnts] using b, by simp [PF.ht]; omega⟩

theorem ints_of : ∀ {ys : List Value} {ns : List Int}, ys.length = ns.length → (∀ (i : Nat) (y : Value), ys[i]? = some y → ∃ (c : Int) (tk : Tok), ns[i]? = some c ∧ y = Value.int c tk) → IntsAre ys ns
  | [], [], _, _ => .nil
  | y :: ys, c :: ns, h, k => by
    obtain ⟨c', tk, h1, rfl⟩ := k 0 y rfl
    simp at h1; subst h1
    exact .cons c tk (ints_of (by simpa using h) fun i z hz => k (i + 1) z (by simpa using hz))
theorem cnts_len (F : PF) : F.cnts.length = F.len := by
  induction F with
  | nil => rfl
  | cons _ _ _ _ _ _ _ ih => simp [PF.cnts, PF.len, ih]; omega
theorem cnts_sum (F : PF) : F.cnts.sum = F.cnt := by
  induction F with
  | nil => rfl
  | cons _ _ _ _ _ _ _ ih => simp [PF.cnts, PF.cnt, ih]

theorem count_ok {w : World} {tx : Str} (F : PF) : ∀ {pre : List (Addr × Obj)} {vs : List Value}, NodesIn tx pre vs F → F.small →
    Roots (fun v t => Run w 541 [v] [] (4 * t.ht) (40 * t.ht) pre (fun r tl => tl = [] ∧ ∃ tk, r = .int t.cnt tk)) vs F := by
  induction F with
  | nil => intro pre vs h _; cases h; exact .nil
  | cons e nm st en ch rest ih1 ih2 =>
    intro pre vs h hsmall
    cases h with
    | @cons a d cl _ t1 t2 t3 _ _ n _ chs vs _ _ hm hdd hl hc hr =>
    refine .cons ?_ (ih2 hr hsmall.2.2)
    clear ih2 hr
    w_on
    intro A h₀ L m s R hAmb hhd F N hdep hun hret
    obtain ⟨A₀, base, outer, env, p, loose, mean, mg, mb, B, X, T, hA, hf, hke, hrw⟩ := hAmb
    obtain ⟨hd, dp, fr, gd, un⟩ := A
    dsimp only at hA hhd hdep hun
    subst hA hhd
    revert X hrw
    k_fill
    intro X hrw
    clear hrw
    (k_dflt (refine' code_def (binds := [(Str.ofString "node", .ref a)]) ?k1 ?k2 ?k3 ?k4 ?k5 ?kA ?kF ?kK ?k6 ?k7 ?k8 ?k9 ?kB ?_ ?c2 ?c3 ?c4 ?c5; (case kA => exact rfl); (case kF => first | exact rfl | assumption); (case kK => first | exact rfl | assumption); (case k1 => k_asm); (case k2 => k_asm); (case k3 => k_asm); (case k4 => k_asm); (case k5 => k_asm); (case k6 => k_is); (case k7 => k_is); (case k8 => k_room); (case k9 => first | exact BindsTo.of_eq rfl | exact binds_K (by k_in) rfl (by k_is) rfl rfl rfl); (case c5 => decide); (case kB => exact locs rfl); (case c2 => exact rfl); (case c3 => exact rfl); (case c4 => exact rfl); k_whole))
    intro g' L' h' FG' F' N' B' X' T'
    (try dsimp only [List.reverse, List.reverseAux] at F')
    repeat' (first | ((fail_if_success (with_reducible show wpAny _ _ (eval (PySem.Expr.ListComp _ _ _ _) _) _ _ _)); (first | (k_unfold; (try dsimp only)) | (k_end; wrow_close) | walk1 | (dsimp only; walk1) | (leave1; walk_say "STEP leave1"; try dsimp only) | fail "no step")))
    refine m_compL (h₀ := g') (L := L') (m := fun y => List.lookup y [(Str.ofString "node", Value.ref a)]) (ctx := pre) (l := cl) (its := chs) (n := n) (cl := []) (P := fun i y => ∃ c tk, ch.cnts[i]? = some c ∧ y = .int c tk) rfl (closureFor_none (by decide)) (by decide) rfl (by decide) rfl ?sz ?hit ?step
    case sz => rw [sizeLine_eq, nodes_len hc]; exact hsmall.2.1
    case hit =>
      repeat' (first | ((fail_if_success (with_reducible show wpAny _ _ (pyIter _) _ _ _)); (first | (k_unfold; (try dsimp only)) | (k_end; wrow_close) | walk1 | (dsimp only; walk1) | (leave1; walk_say "STEP leave1"; try dsimp only) | fail "no step")))
      refine owit_iter (by k_asm) (by k_asm) (InstAt.of_news (by k_asm) hm hdd) (by k_is) (by k_is) ?_
      refine wpAny_call ?_
      simp only [PF.ht] at hdep hun
      refine iter_ok hm hdd hl _ _ _ _ _ _ ⟨_, _, _, _, _, _, _, _, _, by k_asm, by k_asm, by k_asm, rfl, rfl, rfl, rfl⟩ rfl (by k_asm) (by k_asm) (by (try simp only [depth_mark, depth_under_make, depth_under_kw, depth_in1, depth_deeper, depth_caller]); omega) (by (try simp only [units_in1, units_deeper, Around.mark_units, units_caller]); omega) fun v tl h1 tk1 F1 N1 dc1 lt1 hp => ?_
      obtain ⟨I, rfl, rfl⟩ := hp
      dsimp only
      refine m_owitIt N1 (.head _) ⟨rfl, rfl⟩ ?_
      refine ⟨I, itO cl 0, rfl, ⟨rfl, rfl⟩, F1, N1, fun p hp => lt1 _ (.head _) p hp, hl, fun D h2 tk2 ys k F2 N2 lt2 hlen hP => ?_⟩
      repeat' (first | ((fail_if_success (with_reducible show wpAny _ _ (call (Value.builtin "sum") _) _ _ _)); (first | (k_unfold; (try dsimp only)) | (k_end; wrow_close) | walk1 | (dsimp only; walk1) | (leave1; walk_say "STEP leave1"; try dsimp only) | fail "no step")))
      refine LSm.sum_ints (vs := ys) (ns := ch.cnts) F2 N2 rfl ⟨_, (N2 _ (.head _)).1, rfl, _, rfl⟩ (ints_of (hlen.trans ((nodes_len hc).trans (cnts_len ch).symm)) hP) fun h3 tk3 t3 F3 N3 => ?_
      repeat' (first | ((first | (k_unfold; (try dsimp only)) | (k_end; wrow_close) | walk1 | (dsimp only; walk1) | (leave1; walk_say "STEP leave1"; try dsimp only) | fail "no step")))
      refine' hret _ [] _ _ ?kF ?kN ?kDesc ?kOrd ?kPost
      (case kF => assumption)
      (case kN => (refine' newsSub ?n ?s; (case n => assumption); (case s => walk_at "m sub")))
      (case kDesc => walk_at "m desc")
      (case kOrd => walk_at "m ord")
      (case kPost => exact ⟨rfl, _, congrArg (fun x => Value.int x _) (by rw [cnts_sum]; simp [PF.cnt])⟩)
    case step =>
      intro s' i v C oC D oD I oI m1 E' hv F1 N1 rC hx hI hD hC
      repeat' (first | ((fail_if_success (with_reducible show wpAny _ _ (pyIter _) _ _ _)); (first | (k_unfold; (try dsimp only)) | (k_end; wrow_close) | walk1 | (dsimp only; walk1) | (leave1; walk_say "STEP leave1"; try dsimp only) | fail "no step")))
      simp only [PF.ht] at hdep hun
      obtain ⟨t, hrun, hc1, hh1⟩ := (ih1 (hc.mono (ctx' := (C, oC) :: (D, oD) :: (I, oI) :: pre) fun p hp => .tail _ (.tail _ (.tail _ hp))) hsmall.1).at hv
      refine hrun _ _ _ _ _ _ ⟨_, _, _, _, _, _, _, _, _, by k_asm, by k_asm, by k_asm, rfl, rfl, rfl, rfl⟩ rfl (by k_asm) (by k_asm) (by (try simp only [depth_mark, depth_under_make, depth_under_kw, depth_in1, depth_deeper, depth_caller]); omega) (by (try simp only [units_in1, units_deeper, Around.mark_units, units_caller]); omega) fun v tl h2 tk2 F2 N2 dc2 lt2 hp => ?_
      obtain ⟨rfl, tk3, rfl⟩ := hp
      exact ⟨_, _, rfl, F2, N2, _, _, hc1, rfl⟩
-- Lit
abbrev litO (d it : Addr) (lit nm : Str) (t1 t2 : Tok) : Obj := ⟨.ref 336, some d, .plain, #[some (.str lit t1), some (.ref it), some (.str nm t2)]⟩

theorem lit_ok {w : World} {lit : Str} {tk : Tok} {pre : List (Addr × Obj)} :
    Run w 336 [.str lit tk] [] 10 60 pre (fun v tl => ∃ x dx it o t1, v = .ref x ∧ tl = [(it, o), (x, litO dx it lit (Str.ofString "") tk t1), (dx, dictOf [] 0)]) := by
  w_on
  intro A h₀ L m s R hAmb hhd F N hdep hun hret
  obtain ⟨A₀, base, outer, env, p, loose, mean, mg, mb, B, X, T, hA, hf, hke, hrw⟩ := hAmb
  obtain ⟨hd, dp, fr, gd, un⟩ := A
  dsimp only at hA hhd hdep hun
  subst hA hhd
  revert X hrw
  k_fill
  intro X hrw
  clear hrw
  (k_dflt (refine' make_K (by k_asm) (by k_asm) ?kx ?k1 ?k2 ?k3 ?_; (case kx => k_in); (case k1 => k_is); (case k2 => k_is); (case k3 => k_is); k_whole))
  intro x dx h1 F1 N1 l1 l2
  replace l1 := allLt_of l1
  k_lt2 l2
  have l1x := tbn_up l2 l1
  (try simp only [AllLt, and_true] at l1 l1x)
  (k_dflt (refine' ks_code_super (binds := [(Str.ofString "self", .ref x), (Str.ofString "literal", .str lit tk), (Str.ofString "name", .str (Str.ofString "") 586)]) ?k1 ?k2 ?k3 ?k4 ?k5 ?kA ?kF ?kK ?k6 ?k7 ?k8 ?k9 ?kB ?_ ?c1 ?c2 ?c3 ?c4; (case kA => exact rfl); (case kF => first | exact rfl | assumption); (case kK => first | exact rfl | assumption); (case k1 => k_asm); (case k2 => k_asm); (case k3 => k_asm); (case k4 => k_asm); (case k5 => k_asm); (case k6 => k_is); (case k7 => k_is); (case k8 => k_room); (case k9 => first | exact BindsTo.of_eq rfl | exact binds_K (by k_in) rfl (by k_is) rfl rfl rfl); (case kB => exact locs rfl); (case c1 => decide); (case c2 => exact rfl); (case c3 => exact rfl); (case c4 => exact rfl); k_whole))
  intro g' L' h' FG' F' N' B' X' T' lt'
  (try dsimp only [List.reverse, List.reverseAux] at F')
  replace lt' := allLt_of lt'; (try simp only [AllLt, and_true] at lt')
  repeat' (first | ((first | (k_unfold; (try dsimp only)) | (k_end; wrow_close) | walk1 | (dsimp only; walk1) | (leave1; walk_say "STEP leave1"; try dsimp only) | fail "no step")))
  dsimp only [List.nil_append]
  (k_dflt (refine' code_def (binds := [(Str.ofString "self", .ref x), (Str.ofString "name", .str (Str.ofString "") 586)]) ?k1 ?k2 ?k3 ?k4 ?k5 ?kA ?kF ?kK ?k6 ?k7 ?k8 ?k9 ?kB ?_ ?c2 ?c3 ?c4 ?c5; (case kA => exact rfl); (case kF => first | exact rfl | assumption); (case kK => first | exact rfl | assumption); (case k1 => k_asm); (case k2 => k_asm); (case k3 => k_asm); (case k4 => k_asm); (case k5 => k_asm); (case k6 => k_is); (case k7 => k_is); (case k8 => k_room); (case k9 => first | exact BindsTo.of_eq rfl | exact binds_K (by k_in) rfl (by k_is) rfl rfl rfl); (case c5 => decide); (case kB => exact locs rfl); (case c2 => exact rfl); (case c3 => exact rfl); (case c4 => exact rfl); k_whole))
  intro g2 L2 h2 FG2 F2 N2 B2 X2 T2
  (try dsimp only [List.reverse, List.reverseAux] at F2)
  repeat' (first | ((first | (k_unfold; (try dsimp only)) | (k_end; wrow_close) | walk1 | (dsimp only; walk1) | (leave1; walk_say "STEP leave1"; try dsimp only) | fail "no step")))
  refine' hret _ [(?i, ?o), (x, ?ox), (dx, ?od)] _ _ ?kF ?kN ?kDesc ?kOrd ?kPost
  (case kF => assumption)
  (case kN => (refine' newsSub ?n ?s; (case n => assumption); (case s => walk_at "m sub")))
  (case kDesc => walk_at "m desc")
  (case kOrd => walk_at "m ord")
  (case kPost => exact ⟨x, dx, _, _, _, rfl, rfl⟩)
-- Seq
abbrev seqO (C d it mt : Addr) (nm : Value) : Obj := ⟨.ref C, some d, .plain, #[some (.ref mt), some (.ref it), some nm]⟩

theorem seq2_ok {w : World} {a b : Value} {pre : List (Addr × Obj)} :
    Run w 394 [a, b] [] 10 60 pre (fun v tl => ∃ x dx it mt o nm tk, nm = .str (Str.ofString "") tk ∧ v = .ref x ∧ tl = [(it, o), (mt, tupO [a, b] 0), (x, seqO 394 dx it mt nm), (dx, dictOf [] 0)]) := by
  w_on
  intro A h₀ L m s R hAmb hhd F N hdep hun hret
  obtain ⟨A₀, base, outer, env, p, loose, mean, mg, mb, B, X, T, hA, hf, hke, hrw⟩ := hAmb
  obtain ⟨hd, dp, fr, gd, un⟩ := A
  dsimp only at hA hhd hdep hun
  subst hA hhd
  revert X hrw
  k_fill
  intro X hrw
  clear hrw
  (k_dflt (refine' make_K (by k_asm) (by k_asm) ?kx ?k1 ?k2 ?k3 ?_; (case kx => k_in); (case k1 => k_is); (case k2 => k_is); (case k3 => k_is); k_whole))
  intro x dx h1 F1 N1 l1 l2
  replace l1 := allLt_of l1
  k_lt2 l2
  have l1x := tbn_up l2 l1
  (try simp only [AllLt, and_true] at l1 l1x)
  (k_dflt (refine' m_code_super ?k1 ?k2 ?k3 ?k5 ?kA ?kF ?kK ?k6 ?k7 ?k8 ?k9 ?kB ?_ ?c1 ?c2 ?c3 ?c4; (case kA => exact rfl); (case kF => first | exact rfl | assumption); (case kK => first | exact rfl | assumption); (case k1 => k_asm); (case k2 => k_asm); (case k3 => k_asm); (case k5 => k_asm); (case k6 => k_is); (case k7 => k_is); (case k8 => k_room); (case k9 => exact binds_star0 F1 N1 (by rw [sizeLine_eq]; exact Nat.le_of_ble_eq_true rfl) (m_low T) (by rfl)); (case kB => (intro _ _ hP; first | (obtain ⟨_, rfl, _⟩ := hP; exact locs rfl) | (obtain ⟨_, _, rfl, _⟩ := hP; exact locs rfl) | (obtain ⟨_, _, _, rfl, _⟩ := hP; exact locs rfl))); (case c1 => decide); (case c2 => exact rfl); (case c3 => exact rfl); (case c4 => exact rfl); k_whole))
  intro binds news tk2 g' L' h2 hP FG' F' N' B' X' T' lt'
  obtain ⟨t, d, rfl, rfl, l3, l4, lo⟩ := hP
  replace lt' := allLt_of lt'; (try simp only [AllLt, and_true] at lt' l4)
  (try dsimp only [List.reverse, List.reverseAux] at F')
  have hd0 : (dictOf [] 0).IsDictOf (strKind PG w) [] := dict0_is
  repeat' (first | ((first | (k_unfold; (try dsimp only)) | (k_end; wrow_close) | walk1 | (dsimp only; walk1) | (leave1; walk_say "STEP leave1"; try dsimp only) | fail "no step")))
  dsimp only [List.nil_append, Option.getD]
  generalize hnv : Value.str (Str.ofString "") _ = nv
  obtain ⟨tk9, rfl⟩ : ∃ tk9, nv = Value.str (Str.ofString "") tk9 := ⟨_, hnv.symm⟩
  clear hnv
  (k_dflt (refine' code_def (binds := [(Str.ofString "self", .ref x), (Str.ofString "name", .str (Str.ofString "") tk9)]) ?k1 ?k2 ?k3 ?k4 ?k5 ?kA ?kF ?kK ?k6 ?k7 ?k8 ?k9 ?kB ?_ ?c2 ?c3 ?c4 ?c5; (case kA => exact rfl); (case kF => first | exact rfl | assumption); (case kK => first | exact rfl | assumption); (case k1 => k_asm); (case k2 => k_asm); (case k3 => k_asm); (case k4 => k_asm); (case k5 => k_asm); (case k6 => k_is); (case k7 => k_is); (case k8 => k_room); (case k9 => first | exact BindsTo.of_eq rfl | exact binds_K (by k_in) rfl (by k_is) rfl rfl rfl); (case c5 => decide); (case kB => exact locs rfl); (case c2 => exact rfl); (case c3 => exact rfl); (case c4 => exact rfl); k_whole))
  intro g2 L2 h2 FG2 F2 N2 B2 X2 T2
  (try dsimp only [List.reverse, List.reverseAux] at F2)
  repeat' (first | ((first | (k_unfold; (try dsimp only)) | (k_end; wrow_close) | walk1 | (dsimp only; walk1) | (leave1; walk_say "STEP leave1"; try dsimp only) | fail "no step")))
  refine' hret _ [(?i, ?o), (t, ?ot), (x, ?ox), (dx, ?od)] _ _ ?kF ?kN ?kDesc ?kOrd ?kPost
  (case kF => assumption)
  (case kN => (refine' newsSub ?n ?s; (case n => assumption); (case s => walk_at "m sub")))
  (case kDesc => walk_at "m desc")
  (case kOrd => walk_at "m ord")
  (case kPost => exact ⟨x, dx, _, t, _, _, _, rfl, rfl, rfl⟩)
-- Seq1
theorem seq1_ok {w : World} {a : Value} {nm0 : Str} {tk0 : Tok} {pre : List (Addr × Obj)} :
    Run w 394 [a] [(Str.ofString "name", .str nm0 tk0)] 10 60 pre (fun v tl => ∃ x dx it mt o, v = .ref x ∧ tl = [(it, o), (mt, tupO [a] 0), (x, seqO 394 dx it mt (.str nm0 tk0)), (dx, dictOf [] 0)]) := by
  w_on
  intro A h₀ L m s R hAmb hhd F N hdep hun hret
  obtain ⟨A₀, base, outer, env, p, loose, mean, mg, mb, B, X, T, hA, hf, hke, hrw⟩ := hAmb
  obtain ⟨hd, dp, fr, gd, un⟩ := A
  dsimp only at hA hhd hdep hun
  subst hA hhd
  revert X hrw
  k_fill
  intro X hrw
  clear hrw
  (k_dflt (refine' make_K (by k_asm) (by k_asm) ?kx ?k1 ?k2 ?k3 ?_; (case kx => k_in); (case k1 => k_is); (case k2 => k_is); (case k3 => k_is); k_whole))
  intro x dx h1 F1 N1 l1 l2
  replace l1 := allLt_of l1
  k_lt2 l2
  have l1x := tbn_up l2 l1
  (try simp only [AllLt, and_true] at l1 l1x)
  (k_dflt (refine' m_code_super ?k1 ?k2 ?k3 ?k5 ?kA ?kF ?kK ?k6 ?k7 ?k8 ?k9 ?kB ?_ ?c1 ?c2 ?c3 ?c4; (case kA => exact rfl); (case kF => first | exact rfl | assumption); (case kK => first | exact rfl | assumption); (case k1 => k_asm); (case k2 => k_asm); (case k3 => k_asm); (case k5 => k_asm); (case k6 => k_is); (case k7 => k_is); (case k8 => k_room); (case k9 => exact binds_star1 F1 N1 (by rw [sizeLine_eq]; exact Nat.le_of_ble_eq_true rfl) (m_low T) (by rfl)); (case kB => (intro _ _ hP; first | (obtain ⟨_, rfl, _⟩ := hP; exact locs rfl) | (obtain ⟨_, _, rfl, _⟩ := hP; exact locs rfl) | (obtain ⟨_, _, _, rfl, _⟩ := hP; exact locs rfl))); (case c1 => decide); (case c2 => exact rfl); (case c3 => exact rfl); (case c4 => exact rfl); k_whole))
  intro binds news tk2 g' L' h2 hP FG' F' N' B' X' T' lt'
  obtain ⟨t, d, tk3, rfl, rfl, l3, l4, lo⟩ := hP
  replace lt' := allLt_of lt'; (try simp only [AllLt, and_true] at lt' l4)
  (try dsimp only [List.reverse, List.reverseAux] at F')
  have hd0 : (dictOf [⟨PyData.keyHash w.params (Str.ofString "name"), .str (Str.ofString "name") tk3, .str nm0 tk0⟩] 1).IsDictOf (strKind PG w) [(Str.ofString "name", .str nm0 tk0)] := dict1_is
  repeat' (first | ((first | (k_unfold; (try dsimp only)) | (k_end; wrow_close) | walk1 | (dsimp only; walk1) | (leave1; walk_say "STEP leave1"; try dsimp only) | fail "no step")))
  dsimp only [List.nil_append, Option.getD]
  (k_dflt (refine' code_def (binds := [(Str.ofString "self", .ref x), (Str.ofString "name", .str nm0 tk0)]) ?k1 ?k2 ?k3 ?k4 ?k5 ?kA ?kF ?kK ?k6 ?k7 ?k8 ?k9 ?kB ?_ ?c2 ?c3 ?c4 ?c5; (case kA => exact rfl); (case kF => first | exact rfl | assumption); (case kK => first | exact rfl | assumption); (case k1 => k_asm); (case k2 => k_asm); (case k3 => k_asm); (case k4 => k_asm); (case k5 => k_asm); (case k6 => k_is); (case k7 => k_is); (case k8 => k_room); (case k9 => first | exact BindsTo.of_eq rfl | exact binds_K (by k_in) rfl (by k_is) rfl rfl rfl); (case c5 => decide); (case kB => exact locs rfl); (case c2 => exact rfl); (case c3 => exact rfl); (case c4 => exact rfl); k_whole))
  intro g2 L2 h2 FG2 F2 N2 B2 X2 T2
  (try dsimp only [List.reverse, List.reverseAux] at F2)
  repeat' (first | ((first | (k_unfold; (try dsimp only)) | (k_end; wrow_close) | walk1 | (dsimp only; walk1) | (leave1; walk_say "STEP leave1"; try dsimp only) | fail "no step")))
  refine' hret _ [(?i, ?o), (t, ?ot), (x, ?ox), (dx, ?od)] _ _ ?kF ?kN ?kDesc ?kOrd ?kPost
  (case kF => assumption)
  (case kN => (refine' newsSub ?n ?s; (case n => assumption); (case s => walk_at "m sub")))
  (case kDesc => walk_at "m desc")
  (case kOrd => walk_at "m ord")
  (case kPost => exact ⟨x, dx, _, t, _, rfl, rfl⟩)

theorem one2_ok {w : World} {a b : Value} {pre : List (Addr × Obj)} :
    Run w 420 [a, b] [] 10 60 pre (fun v tl => ∃ x dx it mt o nm tk, nm = .str (Str.ofString "") tk ∧ v = .ref x ∧ tl = [(it, o), (mt, tupO [a, b] 0), (x, seqO 420 dx it mt nm), (dx, dictOf [] 0)]) := by
  w_on
  intro A h₀ L m s R hAmb hhd F N hdep hun hret
  obtain ⟨A₀, base, outer, env, p, loose, mean, mg, mb, B, X, T, hA, hf, hke, hrw⟩ := hAmb
  obtain ⟨hd, dp, fr, gd, un⟩ := A
  dsimp only at hA hhd hdep hun
  subst hA hhd
  revert X hrw
  k_fill
  intro X hrw
  clear hrw
  (k_dflt (refine' make_K (by k_asm) (by k_asm) ?kx ?k1 ?k2 ?k3 ?_; (case kx => k_in); (case k1 => k_is); (case k2 => k_is); (case k3 => k_is); k_whole))
  intro x dx h1 F1 N1 l1 l2
  replace l1 := allLt_of l1
  k_lt2 l2
  have l1x := tbn_up l2 l1
  (try simp only [AllLt, and_true] at l1 l1x)
  (k_dflt (refine' m_code_super ?k1 ?k2 ?k3 ?k5 ?kA ?kF ?kK ?k6 ?k7 ?k8 ?k9 ?kB ?_ ?c1 ?c2 ?c3 ?c4; (case kA => exact rfl); (case kF => first | exact rfl | assumption); (case kK => first | exact rfl | assumption); (case k1 => k_asm); (case k2 => k_asm); (case k3 => k_asm); (case k5 => k_asm); (case k6 => k_is); (case k7 => k_is); (case k8 => k_room); (case k9 => exact binds_star0 F1 N1 (by rw [sizeLine_eq]; exact Nat.le_of_ble_eq_true rfl) (m_low T) (by rfl)); (case kB => (intro _ _ hP; first | (obtain ⟨_, rfl, _⟩ := hP; exact locs rfl) | (obtain ⟨_, _, rfl, _⟩ := hP; exact locs rfl) | (obtain ⟨_, _, _, rfl, _⟩ := hP; exact locs rfl))); (case c1 => decide); (case c2 => exact rfl); (case c3 => exact rfl); (case c4 => exact rfl); k_whole))
  intro binds news tk2 g' L' h2 hP FG' F' N' B' X' T' lt'
  obtain ⟨t, d, rfl, rfl, l3, l4, lo⟩ := hP
  replace lt' := allLt_of lt'; (try simp only [AllLt, and_true] at lt' l4)
  (try dsimp only [List.reverse, List.reverseAux] at F')
  have hd0 : (dictOf [] 0).IsDictOf (strKind PG w) [] := dict0_is
  repeat' (first | ((first | (k_unfold; (try dsimp only)) | (k_end; wrow_close) | walk1 | (dsimp only; walk1) | (leave1; walk_say "STEP leave1"; try dsimp only) | fail "no step")))
  dsimp only [List.nil_append, Option.getD]
  generalize hnv : Value.str (Str.ofString "") _ = nv
  obtain ⟨tk9, rfl⟩ : ∃ tk9, nv = Value.str (Str.ofString "") tk9 := ⟨_, hnv.symm⟩
  clear hnv
  (k_dflt (refine' code_def (binds := [(Str.ofString "self", .ref x), (Str.ofString "name", .str (Str.ofString "") tk9)]) ?k1 ?k2 ?k3 ?k4 ?k5 ?kA ?kF ?kK ?k6 ?k7 ?k8 ?k9 ?kB ?_ ?c2 ?c3 ?c4 ?c5; (case kA => exact rfl); (case kF => first | exact rfl | assumption); (case kK => first | exact rfl | assumption); (case k1 => k_asm); (case k2 => k_asm); (case k3 => k_asm); (case k4 => k_asm); (case k5 => k_asm); (case k6 => k_is); (case k7 => k_is); (case k8 => k_room); (case k9 => first | exact BindsTo.of_eq rfl | exact binds_K (by k_in) rfl (by k_is) rfl rfl rfl); (case c5 => decide); (case kB => exact locs rfl); (case c2 => exact rfl); (case c3 => exact rfl); (case c4 => exact rfl); k_whole))
  intro g2 L2 h2 FG2 F2 N2 B2 X2 T2
  (try dsimp only [List.reverse, List.reverseAux] at F2)
  repeat' (first | ((first | (k_unfold; (try dsimp only)) | (k_end; wrow_close) | walk1 | (dsimp only; walk1) | (leave1; walk_say "STEP leave1"; try dsimp only) | fail "no step")))
  refine' hret _ [(?i, ?o), (t, ?ot), (x, ?ox), (dx, ?od)] _ _ ?kF ?kN ?kDesc ?kOrd ?kPost
  (case kF => assumption)
  (case kN => (refine' newsSub ?n ?s; (case n => assumption); (case s => walk_at "m sub")))
  (case kDesc => walk_at "m desc")
  (case kOrd => walk_at "m ord")
  (case kPost => exact ⟨x, dx, _, t, _, _, _, rfl, rfl, rfl⟩)
-- Look
abbrev notO (d it mt : Addr) (nm : Value) : Obj := ⟨.ref 458, some d, .plain, #[some (.bool true), some (.ref mt), some (.ref it), some nm]⟩

theorem look_ok {w : World} {a : Value} {pre : List (Addr × Obj)} :
    Run w 458 [a] [(Str.ofString "negative", .bool true)] 12 90 pre (fun v tl => ∃ x dx it mt o nm tk, nm = .str (Str.ofString "") tk ∧ v = .ref x ∧ tl = [(it, o), (mt, tupO [a] 0), (x, notO dx it mt nm), (dx, dictOf [] 0)]) := by
  w_on
  intro A h₀ L m s R hAmb hhd F N hdep hun hret
  obtain ⟨A₀, base, outer, env, p, loose, mean, mg, mb, B, X, T, hA, hf, hke, hrw⟩ := hAmb
  obtain ⟨hd, dp, fr, gd, un⟩ := A
  dsimp only at hA hhd hdep hun
  subst hA hhd
  revert X hrw
  k_fill
  intro X hrw
  clear hrw
  (k_dflt (refine' make_K (by k_asm) (by k_asm) ?kx ?k1 ?k2 ?k3 ?_; (case kx => k_in); (case k1 => k_is); (case k2 => k_is); (case k3 => k_is); k_whole))
  intro x dx h1 F1 N1 l1 l2
  replace l1 := allLt_of l1
  k_lt2 l2
  have l1x := tbn_up l2 l1
  (try simp only [AllLt, and_true] at l1 l1x)
  (k_dflt (refine' m_code_super ?k1 ?k2 ?k3 ?k5 ?kA ?kF ?kK ?k6 ?k7 ?k8 ?k9 ?kB ?_ ?c1 ?c2 ?c3 ?c4; (case kA => exact rfl); (case kF => first | exact rfl | assumption); (case kK => first | exact rfl | assumption); (case k1 => k_asm); (case k2 => k_asm); (case k3 => k_asm); (case k5 => k_asm); (case k6 => k_is); (case k7 => k_is); (case k8 => k_room); (case k9 => exact binds_kw (B := [(Str.ofString "self", .ref x), (Str.ofString "member", a), (Str.ofString "negative", .bool true)]) F1 N1 (m_low T) (by rfl)); (case kB => (intro _ _ hP; first | (obtain ⟨_, rfl, _⟩ := hP; exact locs rfl) | (obtain ⟨_, _, rfl, _⟩ := hP; exact locs rfl) | (obtain ⟨_, _, _, rfl, _⟩ := hP; exact locs rfl))); (case c1 => decide); (case c2 => exact rfl); (case c3 => exact rfl); (case c4 => exact rfl); k_whole))
  intro binds news tk2 g' L' h2 hP FG' F' N' B' X' T' lt'
  obtain ⟨d, rfl, rfl, l3, lo⟩ := hP
  replace lt' := allLt_of lt'; (try simp only [AllLt, and_true] at lt' l3)
  (try dsimp only [List.reverse, List.reverseAux, List.cons_append, List.nil_append] at F')
  repeat' (first | ((fail_if_success (with_reducible show wpAny _ _ (callWith _ _ _ _ _) _ _ _)); (first | (k_unfold; (try dsimp only)) | (k_end; wrow_close) | walk1 | (dsimp only; walk1) | (leave1; walk_say "STEP leave1"; try dsimp only) | fail "no step")))
  rename_i so h3 F3 N3 l5 q h4 F4 N4 l6
  refine m_callStar (P := MethP (Mine.hd.heap_39 w.params) q 356 (.ref x)) rfl (keeps_M (by k_is)) ?_
  refine m_evalArgs (by rfl) ?_
  refine spliced_cons ?_
  rw [if_neg (by decide)]
  walk1
  refine spliced_nil ?_
  refine m_merged0 F4 N4 (by k_mem) lo ?ht fun D h5 F5 N5 l7 => m_kwIn0 N5 (.head _) ⟨methP N5 (by k_mem) (by k_in), ?_⟩
  (case ht => (intro s9 Q9 E9 F9 hq; refine wpAny_bind ?_; walk1; exact wpAny_bind (wpAny_standAt (wpAny_pure hq))))
  dsimp only [List.nil_append]
  (try simp only [AllLt, and_true] at l7)
  repeat' (first | ((fail_if_success (with_reducible show wpAny _ _ (codeAny _ _ _ _ _) _ _ _)); (first | (k_unfold; (try dsimp only)) | (k_end; wrow_close) | walk1 | (dsimp only; walk1) | (leave1; walk_say "STEP leave1"; try dsimp only) | fail "no step")))
  (k_dflt (refine' m_code_super ?k1 ?k2 ?k3 ?k5 ?kA ?kF ?kK ?k6 ?k7 ?k8 ?k9 ?kB ?_ ?c1 ?c2 ?c3 ?c4; (case kA => exact rfl); (case kF => first | exact rfl | assumption); (case kK => first | exact rfl | assumption); (case k1 => k_asm); (case k2 => k_asm); (case k3 => k_asm); (case k5 => k_asm); (case k6 => k_is); (case k7 => k_is); (case k8 => k_room); (case k9 => exact binds_star0 F5 N5 (by rw [sizeLine_eq]; exact Nat.le_of_ble_eq_true rfl) (m_low T') (by rfl)); (case kB => (intro _ _ hP; first | (obtain ⟨_, rfl, _⟩ := hP; exact locs rfl) | (obtain ⟨_, _, rfl, _⟩ := hP; exact locs rfl) | (obtain ⟨_, _, _, rfl, _⟩ := hP; exact locs rfl))); (case c1 => decide); (case c2 => exact rfl); (case c3 => exact rfl); (case c4 => exact rfl); k_whole))
  intro binds news tk3 g3 L3 h6 hP FG3 F6 N6 B3 X3 T3 lt3
  obtain ⟨t, d2, rfl, rfl, l8, l9, lo2⟩ := hP
  replace lt3 := allLt_of lt3; (try simp only [AllLt, and_true] at lt3 l9)
  (try dsimp only [List.reverse, List.reverseAux] at F6)
  have hd0 : (dictOf [] 0).IsDictOf (strKind PG w) [] := dict0_is
  repeat' (first | ((first | (k_unfold; (try dsimp only)) | (k_end; wrow_close) | walk1 | (dsimp only; walk1) | (leave1; walk_say "STEP leave1"; try dsimp only) | fail "no step")))
  dsimp only [List.nil_append, Option.getD]
  generalize hnv : Value.str (Str.ofString "") _ = nv
  obtain ⟨tk9, rfl⟩ : ∃ tk9, nv = Value.str (Str.ofString "") tk9 := ⟨_, hnv.symm⟩
  clear hnv
  (k_dflt (refine' code_def (binds := [(Str.ofString "self", .ref x), (Str.ofString "name", .str (Str.ofString "") tk9)]) ?k1 ?k2 ?k3 ?k4 ?k5 ?kA ?kF ?kK ?k6 ?k7 ?k8 ?k9 ?kB ?_ ?c2 ?c3 ?c4 ?c5; (case kA => exact rfl); (case kF => first | exact rfl | assumption); (case kK => first | exact rfl | assumption); (case k1 => k_asm); (case k2 => k_asm); (case k3 => k_asm); (case k4 => k_asm); (case k5 => k_asm); (case k6 => k_is); (case k7 => k_is); (case k8 => k_room); (case k9 => first | exact BindsTo.of_eq rfl | exact binds_K (by k_in) rfl (by k_is) rfl rfl rfl); (case c5 => decide); (case kB => exact locs rfl); (case c2 => exact rfl); (case c3 => exact rfl); (case c4 => exact rfl); k_whole))
  intro g2 L2 h7 FG2 F7 N7 B2 X2 T2
  (try dsimp only [List.reverse, List.reverseAux] at F7)
  repeat' (first | ((first | (k_unfold; (try dsimp only)) | (k_end; wrow_close) | walk1 | (dsimp only; walk1) | (leave1; walk_say "STEP leave1"; try dsimp only) | fail "no step")))
  refine' hret _ [(?i, ?o), (t, ?ot), (x, ?ox), (dx, ?od)] _ _ ?kF ?kN ?kDesc ?kOrd ?kPost
  (case kF => assumption)
  (case kN => (refine' newsSub ?n ?s; (case n => assumption); (case s => walk_at "m sub")))
  (case kDesc => walk_at "m desc")
  (case kOrd => walk_at "m ord")
  (case kPost => exact ⟨x, dx, _, t, _, _, _, rfl, rfl, rfl⟩)
-- Quant
abbrev qntO (d : Addr) (mx mn : Value) (it mt : Addr) (nm : Value) : Obj := ⟨.ref 504, some d, .plain, #[some mx, some mn, some (.ref mt), some (.ref it), some nm]⟩

theorem quant_ok {w : World} {a mn mx : Value} {nm0 : Str} {tk0 : Tok} {pre : List (Addr × Obj)} :
    Run w 504 [a] [(Str.ofString "name", .str nm0 tk0), (Str.ofString "min", mn), (Str.ofString "max", mx)] 12 90 pre (fun v tl => ∃ x dx it mt o, v = .ref x ∧ tl = [(it, o), (mt, tupO [a] 0), (x, qntO dx mx mn it mt (.str nm0 tk0)), (dx, dictOf [] 0)]) := by
  w_on
  intro A h₀ L m s R hAmb hhd F N hdep hun hret
  obtain ⟨A₀, base, outer, env, p, loose, mean, mg, mb, B, X, T, hA, hf, hke, hrw⟩ := hAmb
  obtain ⟨hd, dp, fr, gd, un⟩ := A
  dsimp only at hA hhd hdep hun
  subst hA hhd
  revert X hrw
  k_fill
  intro X hrw
  clear hrw
  (k_dflt (refine' make_K (by k_asm) (by k_asm) ?kx ?k1 ?k2 ?k3 ?_; (case kx => k_in); (case k1 => k_is); (case k2 => k_is); (case k3 => k_is); k_whole))
  intro x dx h1 F1 N1 l1 l2
  replace l1 := allLt_of l1
  k_lt2 l2
  have l1x := tbn_up l2 l1
  (try simp only [AllLt, and_true] at l1 l1x)
  (k_dflt (refine' m_code_super ?k1 ?k2 ?k3 ?k5 ?kA ?kF ?kK ?k6 ?k7 ?k8 ?k9 ?kB ?_ ?c1 ?c2 ?c3 ?c4; (case kA => exact rfl); (case kF => first | exact rfl | assumption); (case kK => first | exact rfl | assumption); (case k1 => k_asm); (case k2 => k_asm); (case k3 => k_asm); (case k5 => k_asm); (case k6 => k_is); (case k7 => k_is); (case k8 => k_room); (case k9 => exact binds_kw (B := [(Str.ofString "self", .ref x), (Str.ofString "member", a), (Str.ofString "min", mn), (Str.ofString "max", mx), (Str.ofString "name", .str nm0 tk0)]) F1 N1 (m_low T) (by rfl)); (case kB => (intro _ _ hP; first | (obtain ⟨_, rfl, _⟩ := hP; exact locs rfl) | (obtain ⟨_, _, rfl, _⟩ := hP; exact locs rfl) | (obtain ⟨_, _, _, rfl, _⟩ := hP; exact locs rfl))); (case c1 => decide); (case c2 => exact rfl); (case c3 => exact rfl); (case c4 => exact rfl); k_whole))
  intro binds news tk2 g' L' h2 hP FG' F' N' B' X' T' lt'
  obtain ⟨d, rfl, rfl, l3, lo⟩ := hP
  replace lt' := allLt_of lt'; (try simp only [AllLt, and_true] at lt' l3)
  (try dsimp only [List.reverse, List.reverseAux, List.cons_append, List.nil_append] at F')
  repeat' (first | ((fail_if_success (with_reducible show wpAny _ _ (callWith _ _ _ _ _) _ _ _)); (first | (k_unfold; (try dsimp only)) | (k_end; wrow_close) | walk1 | (dsimp only; walk1) | (leave1; walk_say "STEP leave1"; try dsimp only) | fail "no step")))
  rename_i so h3 F3 N3 l5 q h4 F4 N4 l6
  refine m_callStar (P := MethP (Mine.hd.heap_39 w.params) q 356 (.ref x)) rfl (keeps_M (by k_is)) ?_
  refine m_evalArgs (by rfl) ?_
  refine spliced_cons ?_
  rw [if_neg (by decide)]
  walk1
  refine spliced_nil ?_
  refine m_merged1 (v := .str nm0 tk0) F4 N4 (by k_mem) lo (m_low T') ?ht0 ?ht fun D h5 tk5 tk6 F5 N5 l7 => m_kwIn1 N5 (.head _) ⟨methP N5 (by k_mem) (by k_in), ?_⟩
  (case ht0 => (intro s9 Q9 E9 F9 hq; refine wpAny_bind ?_; walk1; exact wpAny_bind (wpAny_standAt (wpAny_pure hq))))
  (case ht => (intro s9 Q9 E9 F9 hq; refine wpAny_bind ?_; walk1; exact wpAny_bind (wpAny_standAt (wpAny_pure hq))))
  dsimp only [List.nil_append]
  (try simp only [AllLt, and_true] at l7)
  repeat' (first | ((fail_if_success (with_reducible show wpAny _ _ (codeAny _ _ _ _ _) _ _ _)); (first | (k_unfold; (try dsimp only)) | (k_end; wrow_close) | walk1 | (dsimp only; walk1) | (leave1; walk_say "STEP leave1"; try dsimp only) | fail "no step")))
  (k_dflt (refine' m_code_super ?k1 ?k2 ?k3 ?k5 ?kA ?kF ?kK ?k6 ?k7 ?k8 ?k9 ?kB ?_ ?c1 ?c2 ?c3 ?c4; (case kA => exact rfl); (case kF => first | exact rfl | assumption); (case kK => first | exact rfl | assumption); (case k1 => k_asm); (case k2 => k_asm); (case k3 => k_asm); (case k5 => k_asm); (case k6 => k_is); (case k7 => k_is); (case k8 => k_room); (case k9 => exact binds_star1 F5 N5 (by rw [sizeLine_eq]; exact Nat.le_of_ble_eq_true rfl) (m_low T') (by rfl)); (case kB => (intro _ _ hP; first | (obtain ⟨_, rfl, _⟩ := hP; exact locs rfl) | (obtain ⟨_, _, rfl, _⟩ := hP; exact locs rfl) | (obtain ⟨_, _, _, rfl, _⟩ := hP; exact locs rfl))); (case c1 => decide); (case c2 => exact rfl); (case c3 => exact rfl); (case c4 => exact rfl); k_whole))
  intro binds news tk3 g3 L3 h6 hP FG3 F6 N6 B3 X3 T3 lt3
  obtain ⟨t, d2, tk3b, rfl, rfl, l8, l9, lo2⟩ := hP
  replace lt3 := allLt_of lt3; (try simp only [AllLt, and_true] at lt3 l9)
  (try dsimp only [List.reverse, List.reverseAux] at F6)
  have hd0 : (dictOf [⟨PyData.keyHash w.params (Str.ofString "name"), .str (Str.ofString "name") tk3b, .str nm0 tk0⟩] 1).IsDictOf (strKind PG w) [(Str.ofString "name", .str nm0 tk0)] := dict1_is
  repeat' (first | ((first | (k_unfold; (try dsimp only)) | (k_end; wrow_close) | walk1 | (dsimp only; walk1) | (leave1; walk_say "STEP leave1"; try dsimp only) | fail "no step")))
  dsimp only [List.nil_append, Option.getD]
  (k_dflt (refine' code_def (binds := [(Str.ofString "self", .ref x), (Str.ofString "name", .str nm0 tk0)]) ?k1 ?k2 ?k3 ?k4 ?k5 ?kA ?kF ?kK ?k6 ?k7 ?k8 ?k9 ?kB ?_ ?c2 ?c3 ?c4 ?c5; (case kA => exact rfl); (case kF => first | exact rfl | assumption); (case kK => first | exact rfl | assumption); (case k1 => k_asm); (case k2 => k_asm); (case k3 => k_asm); (case k4 => k_asm); (case k5 => k_asm); (case k6 => k_is); (case k7 => k_is); (case k8 => k_room); (case k9 => first | exact BindsTo.of_eq rfl | exact binds_K (by k_in) rfl (by k_is) rfl rfl rfl); (case c5 => decide); (case kB => exact locs rfl); (case c2 => exact rfl); (case c3 => exact rfl); (case c4 => exact rfl); k_whole))
  intro g2 L2 h7 FG2 F7 N7 B2 X2 T2
  (try dsimp only [List.reverse, List.reverseAux] at F7)
  repeat' (first | ((first | (k_unfold; (try dsimp only)) | (k_end; wrow_close) | walk1 | (dsimp only; walk1) | (leave1; walk_say "STEP leave1"; try dsimp only) | fail "no step")))
  refine' hret _ [(?i, ?o), (t, ?ot), (x, ?ox), (dx, ?od)] _ _ ?kF ?kN ?kDesc ?kOrd ?kPost
  (case kF => assumption)
  (case kN => (refine' newsSub ?n ?s; (case n => assumption); (case s => walk_at "m sub")))
  (case kDesc => walk_at "m desc")
  (case kOrd => walk_at "m ord")
  (case kPost => exact ⟨x, dx, _, t, _, rfl, rfl⟩)
-- Wrap
theorem not_ok {w : World} {a : Value} {pre : List (Addr × Obj)} :
    Run w 468 [a] [] 14 110 pre (fun v tl => ∃ x dx it mt o nm tk, nm = .str (Str.ofString "") tk ∧ v = .ref x ∧ tl = [(it, o), (mt, tupO [a] 0), (x, notO dx it mt nm), (dx, dictOf [] 0)]) := by
  w_on
  intro A h₀ L m s R hAmb hhd F N hdep hun hret
  obtain ⟨A₀, base, outer, env, p, loose, mean, mg, mb, B, X, T, hA, hf, hke, hrw⟩ := hAmb
  obtain ⟨hd, dp, fr, gd, un⟩ := A
  dsimp only at hA hhd hdep hun
  subst hA hhd
  revert X hrw
  k_fill
  intro X hrw
  clear hrw
  (k_dflt (refine' code_def (binds := [(Str.ofString "term", a)]) ?k1 ?k2 ?k3 ?k4 ?k5 ?kA ?kF ?kK ?k6 ?k7 ?k8 ?k9 ?kB ?_ ?c2 ?c3 ?c4 ?c5; (case kA => exact rfl); (case kF => first | exact rfl | assumption); (case kK => first | exact rfl | assumption); (case k1 => k_asm); (case k2 => k_asm); (case k3 => k_asm); (case k4 => k_asm); (case k5 => k_asm); (case k6 => k_is); (case k7 => k_is); (case k8 => k_room); (case k9 => first | exact BindsTo.of_eq rfl | exact binds_K (by k_in) rfl (by k_is) rfl rfl rfl); (case c5 => decide); (case kB => exact locs rfl); (case c2 => exact rfl); (case c3 => exact rfl); (case c4 => exact rfl); k_whole))
  intro g' L' h' FG' F' N' B' X' T'
  (try dsimp only [List.reverse, List.reverseAux] at F')
  repeat' (first | ((fail_if_success (with_reducible show wpAny _ _ (call (Value.ref 458) _ _) _ _ _)); (first | (k_unfold; (try dsimp only)) | (k_end; wrow_close) | walk1 | (dsimp only; walk1) | (leave1; walk_say "STEP leave1"; try dsimp only) | fail "no step")))
  refine wpAny_call ?_
  refine look_ok _ _ _ _ _ _ ⟨_, _, _, _, _, _, _, _, _, by k_asm, by k_asm, by k_asm, rfl, rfl, rfl, rfl⟩ rfl (by k_asm) (by k_asm) (by (try simp only [depth_mark, depth_under_make, depth_under_kw, depth_in1, depth_deeper, depth_caller]); omega) (by (try simp only [units_in1, units_deeper, Around.mark_units, units_caller]); omega) fun v tl h9 tk9 F9 N9 dc9 lt9 hp9 => ?_
  obtain ⟨x, dx, it, mt, o, nm, tk, rfl, rfl, rfl⟩ := hp9
  repeat' (first | ((first | (k_unfold; (try dsimp only)) | (k_end; wrow_close) | walk1 | (dsimp only; walk1) | (leave1; walk_say "STEP leave1"; try dsimp only) | fail "no step")))
  exact hret _ _ _ _ (by assumption) (by assumption) dc9 lt9 ⟨x, dx, _, mt, _, _, _, rfl, rfl, rfl⟩

abbrev infV (t : Tok) : Value := .float ((Num.parseText? (Str.ofString "inf")).getD 0) t

theorem star_ok {w : World} {a : Value} {pre : List (Addr × Obj)} :
    Run w 516 [a] [] 14 110 pre (fun v tl => ∃ x dx it mt o t1 t2 t3, v = .ref x ∧ tl = [(it, o), (mt, tupO [a] 0), (x, qntO dx (infV t3) (.int 0 t1) it mt (.str (Str.ofString "") t2)), (dx, dictOf [] 0)]) := by
  w_on
  intro A h₀ L m s R hAmb hhd F N hdep hun hret
  obtain ⟨A₀, base, outer, env, p, loose, mean, mg, mb, B, X, T, hA, hf, hke, hrw⟩ := hAmb
  obtain ⟨hd, dp, fr, gd, un⟩ := A
  dsimp only at hA hhd hdep hun
  subst hA hhd
  revert X hrw
  k_fill
  intro X hrw
  clear hrw
  (k_dflt (refine' code_def (binds := [(Str.ofString "member", a), (Str.ofString "name", .str (Str.ofString "") 869)]) ?k1 ?k2 ?k3 ?k4 ?k5 ?kA ?kF ?kK ?k6 ?k7 ?k8 ?k9 ?kB ?_ ?c2 ?c3 ?c4 ?c5; (case kA => exact rfl); (case kF => first | exact rfl | assumption); (case kK => first | exact rfl | assumption); (case k1 => k_asm); (case k2 => k_asm); (case k3 => k_asm); (case k4 => k_asm); (case k5 => k_asm); (case k6 => k_is); (case k7 => k_is); (case k8 => k_room); (case k9 => first | exact BindsTo.of_eq rfl | exact binds_K (by k_in) rfl (by k_is) rfl rfl rfl); (case c5 => decide); (case kB => exact locs rfl); (case c2 => exact rfl); (case c3 => exact rfl); (case c4 => exact rfl); k_whole))
  intro g' L' h' FG' F' N' B' X' T'
  (try dsimp only [List.reverse, List.reverseAux] at F')
  repeat' (first | ((fail_if_success (with_reducible show wpAny _ _ (call (Value.ref 504) _ _) _ _ _)); (first | (k_unfold; (try dsimp only)) | (k_end; wrow_close) | walk1 | (dsimp only; walk1) | (leave1; walk_say "STEP leave1"; try dsimp only) | fail "no step")))
  refine wpAny_call ?_
  refine quant_ok _ _ _ _ _ _ ⟨_, _, _, _, _, _, _, _, _, by k_asm, by k_asm, by k_asm, rfl, rfl, rfl, rfl⟩ rfl (by k_asm) (by k_asm) (by (try simp only [depth_mark, depth_under_make, depth_under_kw, depth_in1, depth_deeper, depth_caller]); omega) (by (try simp only [units_in1, units_deeper, Around.mark_units, units_caller]); omega) fun v tl h9 tk9 F9 N9 dc9 lt9 hp9 => ?_
  obtain ⟨x, dx, it, mt, o, rfl, rfl⟩ := hp9
  repeat' (first | ((first | (k_unfold; (try dsimp only)) | (k_end; wrow_close) | walk1 | (dsimp only; walk1) | (leave1; walk_say "STEP leave1"; try dsimp only) | fail "no step")))
  exact hret _ _ _ _ (by assumption) (by assumption) dc9 lt9 ⟨x, dx, _, mt, _, _, _, _, rfl, rfl⟩

theorem opt_ok {w : World} {a : Value} {pre : List (Addr × Obj)} :
    Run w 524 [a] [] 14 110 pre (fun v tl => ∃ x dx it mt o t1 t2 t3, v = .ref x ∧ tl = [(it, o), (mt, tupO [a] 0), (x, qntO dx (.int 1 t3) (.int 0 t1) it mt (.str (Str.ofString "") t2)), (dx, dictOf [] 0)]) := by
  w_on
  intro A h₀ L m s R hAmb hhd F N hdep hun hret
  obtain ⟨A₀, base, outer, env, p, loose, mean, mg, mb, B, X, T, hA, hf, hke, hrw⟩ := hAmb
  obtain ⟨hd, dp, fr, gd, un⟩ := A
  dsimp only at hA hhd hdep hun
  subst hA hhd
  revert X hrw
  k_fill
  intro X hrw
  clear hrw
  (k_dflt (refine' code_def (binds := [(Str.ofString "member", a), (Str.ofString "name", .str (Str.ofString "") 878)]) ?k1 ?k2 ?k3 ?k4 ?k5 ?kA ?kF ?kK ?k6 ?k7 ?k8 ?k9 ?kB ?_ ?c2 ?c3 ?c4 ?c5; (case kA => exact rfl); (case kF => first | exact rfl | assumption); (case kK => first | exact rfl | assumption); (case k1 => k_asm); (case k2 => k_asm); (case k3 => k_asm); (case k4 => k_asm); (case k5 => k_asm); (case k6 => k_is); (case k7 => k_is); (case k8 => k_room); (case k9 => first | exact BindsTo.of_eq rfl | exact binds_K (by k_in) rfl (by k_is) rfl rfl rfl); (case c5 => decide); (case kB => exact locs rfl); (case c2 => exact rfl); (case c3 => exact rfl); (case c4 => exact rfl); k_whole))
  intro g' L' h' FG' F' N' B' X' T'
  (try dsimp only [List.reverse, List.reverseAux] at F')
  repeat' (first | ((fail_if_success (with_reducible show wpAny _ _ (call (Value.ref 504) _ _) _ _ _)); (first | (k_unfold; (try dsimp only)) | (k_end; wrow_close) | walk1 | (dsimp only; walk1) | (leave1; walk_say "STEP leave1"; try dsimp only) | fail "no step")))
  refine wpAny_call ?_
  refine quant_ok _ _ _ _ _ _ ⟨_, _, _, _, _, _, _, _, _, by k_asm, by k_asm, by k_asm, rfl, rfl, rfl, rfl⟩ rfl (by k_asm) (by k_asm) (by (try simp only [depth_mark, depth_under_make, depth_under_kw, depth_in1, depth_deeper, depth_caller]); omega) (by (try simp only [units_in1, units_deeper, Around.mark_units, units_caller]); omega) fun v tl h9 tk9 F9 N9 dc9 lt9 hp9 => ?_
  obtain ⟨x, dx, it, mt, o, rfl, rfl⟩ := hp9
  repeat' (first | ((first | (k_unfold; (try dsimp only)) | (k_end; wrow_close) | walk1 | (dsimp only; walk1) | (leave1; walk_say "STEP leave1"; try dsimp only) | fail "no step")))
  exact hret _ _ _ _ (by assumption) (by assumption) dc9 lt9 ⟨x, dx, _, mt, _, _, _, _, rfl, rfl⟩
-- Attr
section
variable {prog : Program} {w : World} {A : Around} {E : Value → Shared → Prop} {s : Shared}
theorem m_raiseAttr {α : Type} {o : Value} {name : Str} {msg : Str} {Q : α → Shared → Prop} (H : HandOK A s.heap)
    (h : ∀ h' tk e o', (∀ b ob, s.heap.get? b = some ob → h'.get? b = some ob) → h'.get? e = some o' → o'.cls = .type "AttributeError" → E (.ref e) { s with heap := h', toks := tk }) (hm : msg.length ≤ sizeLine) :
    wpAny (model prog w) A (raiseAttrError o name msg : Sem α) Q E s := by
  unfold raiseAttrError
  refine wpAny_bind (wpAny_mkStr (wpAny_bind ?_) hm)
  unfold newExc newTuple
  refine wpAny_bind (wpAny_newObj_type ?_ (by size_fits))
  refine wpAny_bind (m := firstArgMember _ _) (wpAny_of_eq (a := Value.none) (by simp only [firstArgMember, attrError_no_first]; rfl) ?_)
  rw [ownMembersOf_AttributeError]
  refine wpAny_newObj_type ?_ (by size_fits)
  obtain ⟨hp, g, d, tk, os⟩ := s
  have f1 := sub_AttributeError
  repeat (any_goals (first | assumption | wp_step))
  dsimp only at H h ⊢
  generalize hT1 : ({ cls := Value.type "tuple", data := Data.seq #[Value.str msg tk] } : Obj) = oT
  generalize hO : ({ cls := Value.type "AttributeError", data := Data.fields (#[Value.ref hp.objs.size, Value.none, Value.none, Value.none, Value.bool false, Value.none] ++ #[unsetMember, unsetMember]) } : Obj) = oE
  have hdE : oE.data = .fields (#[Value.ref hp.objs.size, Value.none, Value.none, Value.none, Value.bool false, Value.none] ++ #[unsetMember, unsetMember]) := by rw [← hO]
  have hcE : oE.cls = .type "AttributeError" := by rw [← hO]
  have he : ((hp.push oT).push oE).get? (hp.push oT).objs.size = some oE := Heap.get?_push_size _ (by rw [← hO]; rfl)
  generalize hf : (fun vs : Array Value => vs.extract 0 6 ++ #[Value.str name (tk + 1), o]) = f
  have k1 : ∀ b ob, hp.get? b = some ob → b ≠ (hp.push oT).objs.size ∧ (((hp.push oT).push oE).update (hp.push oT).objs.size (Obj.mapFields f)).get? b = some ob := fun b ob hb => by
    have ne : b ≠ (hp.push oT).objs.size := Nat.ne_of_lt (Heap.lt_size (Heap.get?_push_of_some oT hb))
    exact ⟨ne, (Heap.get?_update_other _ _ (Ne.symm ne)).trans (Heap.get?_push_of_some _ (Heap.get?_push_of_some _ hb))⟩
  refine m_raiseNew (oe := Obj.mapFields f oE) (vs := f (#[Value.ref hp.objs.size, Value.none, Value.none, Value.none, Value.bool false, Value.none] ++ #[unsetMember, unsetMember])) (handOK_keeps H fun b ob hb => (k1 b ob hb).2) (Heap.get?_update_self _ he (Obj.isFreed_of_fields (Obj.data_mapFields hdE _))) (Obj.data_mapFields hdE _) (by rw [← hf]; simp [unsetMember]; try omega) fun h' o' k3 he' hc' => ?_
  exact h h' (tk + 1 + 1) _ o' (fun b ob hb => k3 _ _ (k1 b ob hb).1 (k1 b ob hb).2) he' (hc'.trans ((Obj.cls_mapFields ..).trans hcE))
end

def missMsgOK (K : Frag) (C : Addr) (name : Str) : Bool := match clsIn K C with
  | some cd => decide (cd.name.cps.foldl (fun k c => k + (Str.utf8Of c).length) 0 ≤ 100) && decide (((s!"'{cd.name.toString}' object has no attribute '" : Str) ++ name ++ "'").length ≤ 1000)
  | none => false

section
variable {prog : Program} {w : World} {A : Around} {E : Value → Shared → Prop} {s : Shared} {K : Frag} {x C L : Addr} {ox : Obj} {od : Option Obj} {name : Str} {h₀ : Heap} {m : Str → Option Value} {news : List (Addr × Obj)} {t : Tok}

theorem m_open3 {fill : Bool} {Q : Value → Shared → Prop} (X : K.In s.heap) (I : InstAt s.heap x ox C od) (hga : findIn K (.ref C) "__getattribute__" = some (some (.builtin "object.__getattribute__")))
    (h : wpAny (model prog w) A.in1 (Builtin.«proto.getattr_hooked» ⟨[.ref x, .str name t], []⟩)
      (fun fin s' => match fin with | .done (.ret v) => wpAny (model prog w) A (handedOut v) Q E s' | _ => False) (fun e s' => wpAny (model prog w) A (noteIf fill (.ref x) (.str name t) e) (fun _ s'' => E e s'') E s') s) :
    wpAny (model prog w) A (getAttrBy (.ref x) (.str name t) fill) Q E s := by
  obtain ⟨hh, g, d, tk, os⟩ := s
  have L0 := I.type (M := model prog w)
  have L1 := looks_findIn (M := model prog w) X hga
  unfold getAttrBy
  refine wpAny_holding (wpAny_bind (L0.at (wpAny_bind (L1.at ?_))))
  show wpAny _ _ (getAttrEveryday _ _ _) _ _ _
  refine wpAny_bind (wpAny_onRaise (wpAny_runValue (codeAny_builtin PySem.F.plainObj_entry_getattr_hooked (wpAny_mono h (fun fin s' z => ?_) fun _ _ z => z))))
  rcases fin with (_ | _ | _ | _) | _ <;> first | exact z | exact z.elim

theorem m_try_val {v : Value} {Q : Option Value → Shared → Prop} (X : K.In s.heap) (I : InstAt s.heap x ox C od) (hga : findIn K (.ref C) "__getattribute__" = some (some (.builtin "object.__getattribute__")))
    (hf : findObj K C od name = some (.value v)) (hh : handedIn v = true) (h : Q (some v) s) : wpAny (model prog w) A (getAttrBy? (.ref x) (.str name t)) Q E s := by
  unfold getAttrBy?
  refine wpAny_bind (wpAny_attempt (m_open3 X I hga ?_))
  obtain ⟨hh', g, d, tk, os⟩ := s
  have L0 := I.type (M := model prog w)
  have L1 := looks_find (M := model prog w) X I hf
  refine wpAny_bind (wpAny_pure (wpAny_bind (L0.at (wpAny_bind (L1.at ?_)))))
  refine wpAny_pure ?_
  show wpAny _ _ (handedOut v) _ _ _
  rw [handedOut_of hh]; exact wpAny_pure (wpAny_pure h)

theorem m_try_miss {Q : Option Value → Shared → Prop} (H : HandOK A s.heap) (X : K.In s.heap) (I : InstAt s.heap x ox C od) (hg : plainGet K C name = true)
    (hf : findObj K C od name = some .missing) (hm : missMsgOK K C name = true)
    (h : ∀ h' tk, (∀ b ob, s.heap.get? b = some ob → h'.get? b = some ob) → Q none { s with heap := h', toks := tk }) : wpAny (model prog w) A (getAttrBy? (.ref x) (.str name t)) Q E s := by
  unfold getAttrBy?
  refine wpAny_bind (wpAny_attempt (m_open3 X I (plainGet_of hg).1 ?_))
  obtain ⟨hh', g, d, tk, os⟩ := s
  have L0 := I.type (M := model prog w)
  have L1 := looks_find (M := model prog w) X I hf
  have L2 := looks_findIn (M := model prog w) X (plainGet_of hg).2
  refine wpAny_bind (wpAny_pure (wpAny_bind (L0.at (wpAny_bind (L1.at ?_)))))
  dsimp only
  refine wpAny_bind (L2.at ?_)
  show wpAny _ _ (Builtin.ObjectAttr.noSuchAttribute _ _) _ _ _
  unfold Builtin.ObjectAttr.noSuchAttribute typeNameOfCut shownTypeOf
  unfold missMsgOK at hm
  cases hc : clsIn K C with
  | none => rw [hc] at hm; cases hm
  | some cd =>
    rw [hc] at hm
    obtain ⟨hm1, hm2⟩ := Bool.and_eq_true_iff.mp hm
    have L3 : Looks (model prog w) hh' (classData C) cd := looks_clsIn X hc
    refine wpAny_bind (wpAny_bind (wpAny_bind (L0.at ?_)))
    rw [if_neg (by exact Bool.false_ne_true)]
    refine wpAny_pure ?_
    unfold typeNameCut
    refine wpAny_bind (L3.at ?_)
    rw [if_pos (of_decide_eq_true hm1)]
    refine wpAny_pure ?_
    refine m_raiseAttr H (fun h' tk' e o' k he hc' => ?_) (Nat.le_trans (of_decide_eq_true hm2) (by rw [sizeLine_eq]; decide))
    refine wpAny_pure (wpAny_bind (wpAny_isInstance (T := "AttributeError") (b := true) ⟨o', he, hc'⟩ sub_AttributeError ?_))
    rw [if_pos rfl]
    exact wpAny_pure (h _ _ k)
end

theorem args_getattr_3 (a b c : Value) : argsOk "getattr" ⟨[a, b, c], []⟩ := by unfold argsOk; kernel_rfl
section
variable {prog : Program} {w : World} {A : Around} {E : Value → Shared → Prop} {s : Shared} {K : Frag} {x C L : Addr} {ox : Obj} {od : Option Obj} {name : Str} {h₀ : Heap} {m : Str → Option Value} {news : List (Addr × Obj)} {t : Tok}

theorem m_getattr3 {dflt : Value} {Q : Value → Shared → Prop} (X : K.In s.heap) (I : InstAt s.heap x ox C od) (hmod : subIn K (.ref C) (.type "module") = some false) (hn : (name != ("get_source" : Str)) = true)
    (h : wpAny (model prog w) A.in1 (getAttrBy? (.ref x) (.str name t)) (fun r s' => Q (r.getD dflt) s') E s) :
    wpAny (model prog w) A (call (.builtin "getattr") [.ref x, .str name t, dflt]) Q E s := by
  refine Calls.call_function_entry KB.kind_getattr KB.plain_getattr KB.entry_getattr (args_getattr_3 _ _ _) ?_
  unfold Builtin.«getattr»
  refine wpAny_bind (wpAny_of_eq (a := [.ref x, .str name t, dflt]) (by first | rfl | kernel_rfl) ?_)
  dsimp only
  refine wpAny_bind (wpAny_of_eq (a := ()) (by first | rfl | kernel_rfl) ?_)
  obtain ⟨hh, g, d, tk, os⟩ := s
  have L0 := I.type (M := model prog w)
  have L1 : Looks (model prog w) hh (isInstance (.ref x) (.type "module")) false := L0.andThen (looks_subIn X hmod)
  k_delta "loadersGetSource?"
  dsimp only
  rw [if_pos hn]
  refine wpAny_bind (wpAny_pure ?_)
  dsimp only
  k_delta "optionalOnAModule"
  dsimp only
  refine wpAny_bind (wpAny_bind (wpAny_pure (wpAny_bind (L1.at ?_))))
  rw [if_pos (by rfl)]
  refine wpAny_pure ?_
  rw [if_neg (by decide)]
  refine wpAny_bind (wpAny_mono h (fun r s' hq => ?_) fun _ _ e => e)
  cases r with
  | some v => exact wpAny_pure ⟨_, rfl, hq⟩
  | none =>
    dsimp only
    rw [if_neg (by decide)]
    exact wpAny_pure ⟨_, rfl, hq⟩
end
-- Expr
/-- the kinds of an expression -/
inductive EK where
  | lit (s : Str)
  | seq
  | alt
  | nota
  | star
  | opt
/-- a forest of expressions: the kind, what is made, its __dict__, its object, the members' tuple, the name, the members, the rest of the forest -/
inductive EF where
  | nil
  | cons (k : EK) (x d : Addr) (o : Obj) (mt : Addr) (nm : Str) (kids rest : EF)
def EF.roots : EF → List Value
  | .nil => []
  | .cons _ x _ _ _ _ _ rest => .ref x :: rest.roots
def EF.len : EF → Nat
  | .nil => 0
  | .cons _ _ _ _ _ _ _ rest => rest.len + 1
def EF.ht : EF → Nat
  | .nil => 0
  | .cons _ _ _ _ _ _ kids rest => max (kids.ht + 1) rest.ht
/-- what stands at x -/
def EK.Is (k : EK) (d mt : Addr) (nm : Str) (o : Obj) : Prop :=
  match k with
  | .lit s => ∃ it t1 t2, o = litO d it s nm t1 t2
  | .seq => ∃ it t, o = seqO 394 d it mt (.str nm t)
  | .alt => ∃ it t, o = seqO 420 d it mt (.str nm t)
  | .nota => ∃ it t, o = notO d it mt (.str nm t)
  | .star => ∃ it t1 t2 t3, o = qntO d (infV t3) (.int 0 t1) it mt (.str nm t2)
  | .opt => ∃ it t1 t2 t3, o = qntO d (.int 1 t3) (.int 0 t1) it mt (.str nm t2)
def EK.own (k : EK) (x d : Addr) (o : Obj) (mt : Addr) (kids : EF) : List (Addr × Obj) :=
  match k with
  | .lit _ => [(x, o), (d, dictOf [] 0)]
  | _ => [(mt, tupO kids.roots 0), (x, o), (d, dictOf [] 0)]
def EF.led : EF → List (Addr × Obj)
  | .nil => []
  | .cons k x d o mt _ kids rest => rest.led ++ (k.own x d o mt kids ++ kids.led)
def EK.arity (k : EK) (n : Nat) : Prop :=
  match k with
  | .lit _ => n = 0
  | .seq => n = 1 ∨ n = 2
  | .alt => n = 2
  | _ => n = 1
def EF.wf : EF → Prop
  | .nil => True
  | .cons k _ d o mt nm kids rest => k.Is d mt nm o ∧ k.arity kids.len ∧ kids.wf ∧ rest.wf
/-- no member bears a name -/
def EF.bare : EF → Prop
  | .nil => True
  | .cons _ _ _ _ _ nm kids rest => nm = Str.ofString "" ∧ kids.bare ∧ rest.bare
/-- every literal is of one of the three -/
def EF.lits : EF → Prop
  | .nil => True
  | .cons k _ _ _ _ _ kids rest => (match k with | .lit s => s = Str.ofString "a" ∨ s = Str.ofString "b" ∨ s = Str.ofString "ab" ∨ s = Str.ofString "" | _ => True) ∧ kids.lits ∧ rest.lits

/-- what _law_expr answers: the pair of the expression e and the list r of what is left -/
def LexPost (deep : Nat) (v : Value) (tl : List (Addr × Obj)) : Prop :=
  ∃ t r k x d o mt nm kids its n L G, v = .ref t ∧ tl = (t, tupO [.ref x, .ref r] 0) :: L ∧ L.Perm (G ++ (r, lstO its n) :: (EF.cons k x d o mt nm kids .nil).led) ∧
    (EF.cons k x d o mt nm kids .nil).wf ∧ (EF.cons k x d o mt nm kids .nil).bare ∧ (EF.cons k x d o mt nm kids .nil).lits ∧ kids.ht ≤ deep ∧ ∃ ns, IntsAre its ns ∧ ns.length ≤ 100

theorem lex_un {d : Nat} {t2 x it mt dx t0 r0 x0 d0 mt0 : Addr} {o ox o0 o2 : Obj} {k k0 : EK} {nm0 : Str} {kids0 : EF} {its0 : List Value} {n0 : Nat} {L0 G0 : List (Addr × Obj)} {ns0 : List Int}
    (ho2 : o2 = tupO [.ref x, .ref r0] 0) (hk : k.Is dx mt (Str.ofString "") ox) (ha : k.arity 1) (hl : ∀ s, k ≠ .lit s)
    (pm : L0.Perm (G0 ++ (r0, lstO its0 n0) :: (EF.cons k0 x0 d0 o0 mt0 nm0 kids0 .nil).led)) (wf : (EF.cons k0 x0 d0 o0 mt0 nm0 kids0 .nil).wf) (br : (EF.cons k0 x0 d0 o0 mt0 nm0 kids0 .nil).bare) (li : (EF.cons k0 x0 d0 o0 mt0 nm0 kids0 .nil).lits)
    (ht : kids0.ht ≤ d) (hi : IntsAre its0 ns0) (hn : ns0.length ≤ 100) {o0' : Obj} :
    LexPost (d + 1) (.ref t2) ((t2, o2) :: ([(it, o), (mt, tupO [.ref x0] 0), (x, ox), (dx, dictOf [] 0)] ++ (t0, o0') :: L0)) := by
  subst ho2
  refine ⟨t2, r0, k, x, dx, ox, mt, Str.ofString "", .cons k0 x0 d0 o0 mt0 nm0 kids0 .nil, its0, n0, _, (it, o) :: (t0, o0') :: G0, rfl, rfl, ?_, ⟨hk, ha, wf, trivial⟩, ⟨rfl, br, trivial⟩, ⟨?_, li, trivial⟩, ?_, ns0, hi, hn⟩
  · have e : k.own x dx ox mt (.cons k0 x0 d0 o0 mt0 nm0 kids0 .nil) = [(mt, tupO [.ref x0] 0), (x, ox), (dx, dictOf [] 0)] := by
      cases k <;> first | rfl | exact absurd rfl (hl _)
    show List.Perm _ (_ ++ _ :: ([] ++ (k.own x dx ox mt (.cons k0 x0 d0 o0 mt0 nm0 kids0 .nil) ++ (EF.cons k0 x0 d0 o0 mt0 nm0 kids0 .nil).led)))
    rw [e]
    revert pm
    generalize (EF.cons k0 x0 d0 o0 mt0 nm0 kids0 .nil).led = LL
    intro pm
    classical
    refine List.perm_iff_count.mpr fun q => ?_
    have h1 := List.perm_iff_count.mp pm q
    simp only [List.count_append, List.count_cons, List.count_nil, List.nil_append, List.cons_append] at h1 ⊢
    omega
  · cases k <;> first | trivial | exact absurd rfl (hl _)
  · simp only [EF.ht]; omega

theorem lex_bin {d : Nat} {t2 x it mt dx t0 r0 x0 d0 mt0 t9 r9 x9 d9 mt9 : Addr} {o ox o0 o2 o9 o0' o9' or0 : Obj} {k k0 k9 : EK} {nm0 nm9 : Str} {kids0 kids9 : EF} {its9 : List Value} {n9 : Nat} {L0 G0 L9 G9 : List (Addr × Obj)} {ns9 : List Int}
    (ho2 : o2 = tupO [.ref x, .ref r9] 0) (hk : k.Is dx mt (Str.ofString "") ox) (ha : k.arity 2) (hl : ∀ s, k ≠ .lit s)
    (pm : L0.Perm (G0 ++ (r0, or0) :: (EF.cons k0 x0 d0 o0 mt0 nm0 kids0 .nil).led)) (wf : (EF.cons k0 x0 d0 o0 mt0 nm0 kids0 .nil).wf) (br : (EF.cons k0 x0 d0 o0 mt0 nm0 kids0 .nil).bare) (li : (EF.cons k0 x0 d0 o0 mt0 nm0 kids0 .nil).lits) (ht : kids0.ht ≤ d)
    (pm9 : L9.Perm (G9 ++ (r9, lstO its9 n9) :: (EF.cons k9 x9 d9 o9 mt9 nm9 kids9 .nil).led)) (wf9 : (EF.cons k9 x9 d9 o9 mt9 nm9 kids9 .nil).wf) (br9 : (EF.cons k9 x9 d9 o9 mt9 nm9 kids9 .nil).bare) (li9 : (EF.cons k9 x9 d9 o9 mt9 nm9 kids9 .nil).lits) (ht9 : kids9.ht ≤ d)
    (hi : IntsAre its9 ns9) (hn : ns9.length ≤ 100) :
    LexPost (d + 1) (.ref t2) ((t2, o2) :: ([(it, o), (mt, tupO [.ref x0, .ref x9] 0), (x, ox), (dx, dictOf [] 0)] ++ ((t9, o9') :: L9 ++ (t0, o0') :: L0))) := by
  subst ho2
  refine ⟨t2, r9, k, x, dx, ox, mt, Str.ofString "", .cons k0 x0 d0 o0 mt0 nm0 kids0 (.cons k9 x9 d9 o9 mt9 nm9 kids9 .nil), its9, n9, _, (it, o) :: (t0, o0') :: (r0, or0) :: (t9, o9') :: (G0 ++ G9), rfl, rfl, ?_, ⟨hk, ha, ⟨wf.1, wf.2.1, wf.2.2.1, wf9⟩, trivial⟩, ⟨rfl, ⟨br.1, br.2.1, br9⟩, trivial⟩, ⟨?_, ⟨li.1, li.2.1, li9⟩, trivial⟩, ?_, ns9, hi, hn⟩
  · have e : k.own x dx ox mt (.cons k0 x0 d0 o0 mt0 nm0 kids0 (.cons k9 x9 d9 o9 mt9 nm9 kids9 .nil)) = [(mt, tupO [.ref x0, .ref x9] 0), (x, ox), (dx, dictOf [] 0)] := by
      cases k <;> first | rfl | exact absurd rfl (hl _)
    show List.Perm _ (_ ++ _ :: ([] ++ (k.own x dx ox mt (.cons k0 x0 d0 o0 mt0 nm0 kids0 (.cons k9 x9 d9 o9 mt9 nm9 kids9 .nil)) ++ ((EF.cons k9 x9 d9 o9 mt9 nm9 kids9 .nil).led ++ (k0.own x0 d0 o0 mt0 kids0 ++ kids0.led)))))
    rw [e]
    have pm' : L0.Perm (G0 ++ (r0, or0) :: ([] ++ (k0.own x0 d0 o0 mt0 kids0 ++ kids0.led))) := pm
    revert pm9 pm'
    generalize (EF.cons k9 x9 d9 o9 mt9 nm9 kids9 .nil).led = LL
    generalize k0.own x0 d0 o0 mt0 kids0 ++ kids0.led = LM
    intro pm9 pm'
    classical
    refine List.perm_iff_count.mpr fun q => ?_
    have h1 := List.perm_iff_count.mp pm' q
    have h2 := List.perm_iff_count.mp pm9 q
    simp only [List.count_append, List.count_cons, List.count_nil, List.nil_append, List.cons_append] at h1 h2 ⊢
    omega
  · cases k <;> first | trivial | exact absurd rfl (hl _)
  · simp only [EF.ht]; omega

theorem news_dup {h₀ h : Heap} {L : Addr} {p : Addr × Obj} {news : List (Addr × Obj)} (N : News h₀ L h news) (hp : p ∈ news) : News h₀ L h (p :: news) := fun q hq => by
  rcases List.mem_cons.mp hq with rfl | hq
  · exact N _ hp
  · exact N _ hq

theorem fmod3 (x : Int) : x.fmod 3 = 0 ∨ x.fmod 3 = 1 ∨ x.fmod 3 = 2 := by
  rw [Int.fmod_eq_emod_of_nonneg x (by decide)]; omega

theorem lex_lit {d : Nat} {t2 x dx r it : Addr} {o2 o : Obj} {s : Str} {t1 tk : Tok} {its : List Value} {n : Nat} {ns : List Int} (ho2 : o2 = tupO [.ref x, .ref r] 0) (hs : s = Str.ofString "a" ∨ s = Str.ofString "b" ∨ s = Str.ofString "ab" ∨ s = Str.ofString "") (hi : IntsAre its ns) (hn : ns.length ≤ 100) :
    LexPost d (.ref t2) ((t2, o2) :: ([(it, o), (x, litO dx it s (Str.ofString "") tk t1), (dx, dictOf [] 0)] ++ [(r, lstO its n)])) := by
  subst ho2
  refine ⟨t2, r, .lit s, x, dx, litO dx it s (Str.ofString "") tk t1, 0, Str.ofString "", .nil, its, n, _, [(it, o)], rfl, rfl, ?_, ⟨⟨_, _, _, rfl⟩, rfl, trivial, trivial⟩, ⟨rfl, trivial, trivial⟩, ⟨hs, trivial, trivial⟩, Nat.zero_le _, ns, hi, hn⟩
  show List.Perm _ (_ ++ _ :: ([] ++ ([(x, litO dx it s (Str.ofString "") tk t1), (dx, dictOf [] 0)] ++ [])))
  classical
  refine List.perm_iff_count.mpr fun q => ?_
  simp only [List.count_append, List.count_cons, List.count_nil, List.nil_append, List.append_nil, List.cons_append]
  omega

theorem mem_past {p a : Addr × Obj} {new rest : List (Addr × Obj)} (h : p ∈ new ++ rest) : p ∈ new ++ a :: rest := by
  rcases List.mem_append.mp h with h | h
  · exact List.mem_append_left _ h
  · exact List.mem_append_right _ (.tail _ h)
theorem fin3 {h₀ hp0 : Heap} {L : Addr} {t2 D1 l : Addr} {o2 oD ol : Obj} {e : Addr × Obj} {new pre : List (Addr × Obj)} (N : News h₀ L hp0 ((t2, o2) :: (new ++ e :: (D1, oD) :: (l, ol) :: pre))) (h : ∀ p ∈ new ++ e :: (D1, oD) :: (l, ol) :: pre, p.1 < t2) (dn : Desc new) (an : ∀ q ∈ new, ∀ p ∈ e :: (D1, oD) :: (l, ol) :: pre, p.1 < q.1)
    (L2 : AllLt D1 ((l, ol) :: pre)) : News h₀ L hp0 (((t2, o2) :: (new ++ [(D1, oD)])) ++ pre) ∧ Desc ((t2, o2) :: (new ++ [(D1, oD)])) ∧ ∀ q ∈ (t2, o2) :: (new ++ [(D1, oD)]), ∀ p ∈ pre, p.1 < q.1 := by
  refine fin2 (old := [(D1, oD)]) (rest := (l, ol) :: pre) (newsSub N fun p hp => ?_) (fun p hp => h p (mem_past hp)) dn (fun q hq p hp => an q hq p (.tail _ hp)) (desc_cons trivial desc_nil) (fun q hq p hp => ?_) fun p hp => .tail _ hp
  · rcases List.mem_cons.mp hp with rfl | hp
    · exact .head _
    · exact .tail _ (mem_past hp)
  · rw [List.mem_singleton.mp hq]; exact ktn_ltOf L2 p hp

theorem lex_nil {w : World} {l : Addr} {n deep : Nat} {dt : Tok} {pre : List (Addr × Obj)} (hl : (l, lstO [] n) ∈ pre) :
    Run w 531 [.ref l, .int deep dt] [] (14 + 2 * deep) (110 + 20 * deep) pre (LexPost deep) := by
  w_on
  intro A h₀ L m s R hAmb hhd F N hdep hun hret
  obtain ⟨A₀, base, outer, env, p, loose, mean, mg, mb, B, X, T, hA, hf, hke, hrw⟩ := hAmb
  obtain ⟨hd, dp, fr, gd, un⟩ := A
  dsimp only at hA hhd hdep hun
  subst hA hhd
  revert X hrw
  k_fill
  intro X hrw
  clear hrw
  (k_dflt (refine' code_def (binds := [(Str.ofString "numbers", .ref l), (Str.ofString "deep", .int deep dt)]) ?k1 ?k2 ?k3 ?k4 ?k5 ?kA ?kF ?kK ?k6 ?k7 ?k8 ?k9 ?kB ?_ ?c2 ?c3 ?c4 ?c5; (case kA => exact rfl); (case kF => first | exact rfl | assumption); (case kK => first | exact rfl | assumption); (case k1 => k_asm); (case k2 => k_asm); (case k3 => k_asm); (case k4 => k_asm); (case k5 => k_asm); (case k6 => k_is); (case k7 => k_is); (case k8 => k_room); (case k9 => first | exact BindsTo.of_eq rfl | exact binds_K (by k_in) rfl (by k_is) rfl rfl rfl); (case c5 => decide); (case kB => exact locs rfl); (case c2 => exact rfl); (case c3 => exact rfl); (case c4 => exact rfl); k_whole))
  intro g' L' h' FG' F' N' B' X' T'
  (try dsimp only [List.reverse, List.reverseAux] at F')
  replace N' := news_dup N' hl
  repeat' (first | ((fail_if_success (with_reducible show wpAny _ _ (call (Value.ref 336) _ _) _ _ _)); (first | (k_unfold; (try dsimp only)) | (k_end; wrow_close) | walk1 | (dsimp only; walk1) | (leave1; walk_say "STEP leave1"; try dsimp only) | fail "no step")))
  refine wpAny_call ?_
  refine lit_ok _ _ _ _ _ _ ⟨_, _, _, _, _, _, _, _, _, by k_asm, by k_asm, by k_asm, rfl, rfl, rfl, rfl⟩ rfl (by k_asm) (by k_asm) (by (try simp only [depth_mark, depth_under_make, depth_under_kw, depth_in1, depth_deeper, depth_caller]); omega) (by (try simp only [units_in1, units_deeper, Around.mark_units, units_caller]); omega) fun v tl h9 tk9 F9 N9 dc9 lt9 hp9 => ?_
  obtain ⟨x, dx, it, o, t1, rfl, rfl⟩ := hp9
  obtain ⟨q1, q2, q3⟩ := three dc9 lt9
  simp only [AllLt, and_true] at q1 q2 q3
  dsimp only [List.cons_append, List.nil_append] at N9
  repeat' (first | ((first | (k_unfold; (try dsimp only)) | (k_end; wrow_close) | walk1 | (dsimp only; walk1) | (leave1; walk_say "STEP leave1"; try dsimp only) | fail "no step")))
  refine hret _ [(?t, tupO [.ref x, .ref ?r] 0), (?r, lstO [] 0), (x, ?ox), (dx, ?od)] _ _ (by assumption) (newsSub (by assumption) ?zs) ?zd ?zo ?zp
  case zs => walk_at "m sub"
  case zd => walk_at "m desc"
  case zo => walk_at "m ord"
  case zp => exact ⟨_, _, .lit (Str.ofString "a"), x, dx, _, 0, Str.ofString "", .nil, [], 0, _, [], rfl, rfl, .refl _, ⟨⟨_, _, _, rfl⟩, rfl, trivial, trivial⟩, ⟨rfl, trivial, trivial⟩, ⟨.inl rfl, trivial, trivial⟩, Nat.zero_le _, [], .nil, Nat.zero_le _⟩
-- AttrN
section
variable {prog : Program} {w : World} {A : Around} {E : Value → Shared → Prop} {s : Shared} {name : Str} {t : Tok}

theorem m_try_none {Q : Option Value → Shared → Prop} (H : HandOK A s.heap) (hmiss : typeLookup (.type "NoneType") name = pure none) (hsz : name.length + 100 ≤ sizeLine)
    (h : ∀ h' tk, (∀ b ob, s.heap.get? b = some ob → h'.get? b = some ob) → Q none { s with heap := h', toks := tk }) : wpAny (model prog w) A (getAttrBy? .none (.str name t)) Q E s := by
  unfold getAttrBy?
  refine wpAny_bind (wpAny_attempt ?_)
  obtain ⟨hp, g, d, tk, os⟩ := s
  have hT : ∀ s' : Shared, s'.TypeIs (.none) "NoneType" := fun _ => rfl
  have f1 := sub_AttributeError
  have f3 := PySem.F.slot_NoneType_getattribute.lookup
  have f4 := PySem.F.slot_NoneType_getattribute.bind (.none)
  have f5 := am_none_getattr_none
  unfold getAttrBy
  repeat (any_goals (first | assumption | ((with_reducible show wpAny _ _ (call (Value.builtin "object.__getattribute__") _ _) _ _ _); refine wpAny_call_entry PySem.F.slot_NoneType_getattribute (hT _) PySem.F.entry_object_getattribute ?_ (PySem.F.args_object_getattribute_2 _ _)) | (with_reducible show wpAny _ _ (call _ _ _) _ _ _; fail) | wp_step))
  refine m_raiseAttr H (fun h' tk' e o' k he hc => ?_) (attrMsg_fits (by decide +kernel) hsz)
  have hE : (⟨h', g, d, tk', os⟩ : Shared).TypeIs (.ref e) "AttributeError" := ⟨o', he, hc⟩
  show wpAny _ _ (getattributeRaised _ _ _ _ _ _ _) _ _ _
  unfold getattributeRaised
  refine wpAny_bind (wpAny_isInstance hE f1 ?_)
  rw [if_pos rfl]
  unfold hookBehind
  rw [if_neg (by exact Bool.false_ne_true)]
  refine wpAny_bind (wpAny_of_eq f5 ?_)
  refine wpAny_throw ?_
  refine wpAny_bind (wpAny_isInstance hE f1 ?_)
  rw [if_pos rfl]
  exact wpAny_pure (h _ _ k)

theorem m_getattr3_none {dflt : Value} {Q : Value → Shared → Prop}
    (h : wpAny (model prog w) A.in1 (getAttrBy? .none (.str (Str.ofString "name") t)) (fun r s' => Q (r.getD dflt) s') E s) :
    wpAny (model prog w) A (call (.builtin "getattr") [.none, .str (Str.ofString "name") t, dflt]) Q E s := by
  refine Calls.call_function_entry KB.kind_getattr KB.plain_getattr KB.entry_getattr (args_getattr_3 _ _ _) ?_
  unfold Builtin.«getattr»
  refine wpAny_bind (wpAny_of_eq (a := [.none, .str (Str.ofString "name") t, dflt]) (by first | rfl | kernel_rfl) ?_)
  dsimp only
  refine wpAny_bind (wpAny_of_eq (a := ()) (by first | rfl | kernel_rfl) ?_)
  refine wpAny_bind (wpAny_of_eq (a := none) (by first | rfl | kernel_rfl) ?_)
  dsimp only
  refine wpAny_bind (wpAny_of_eq (a := 0) (by first | rfl | kernel_rfl) ?_)
  rw [if_neg (by decide)]
  refine wpAny_bind (wpAny_mono h (fun r s' hq => ?_) fun _ _ e => e)
  cases r with
  | some v => exact wpAny_pure ⟨_, rfl, hq⟩
  | none =>
    dsimp only
    rw [if_neg (by decide)]
    exact wpAny_pure ⟨_, rfl, hq⟩
theorem miss_none_name : typeLookup (.type "NoneType") (Str.ofString "name") = pure none := am_miss_of_fast (by decide +kernel)
end
-- ExprC
theorem lex_cons {w : World} {l : Addr} {its : List Value} {c : Int} {cs : List Int} {tkc : Tok} {n deep : Nat} {dt : Tok} {pre : List (Addr × Obj)} (hl : (l, lstO (.int c tkc :: its) n) ∈ pre) (hi : IntsAre its cs) (hn : cs.length + 1 ≤ 100)
    (ih : ∀ d, d + 1 = deep → ∀ (l : Addr) (its : List Value) (ns : List Int) (n : Nat) (dt : Tok) (pre : List (Addr × Obj)), (l, lstO its n) ∈ pre → IntsAre its ns → ns.length ≤ 100 → Run w 531 [.ref l, .int d dt] [] (14 + 2 * d) (110 + 20 * d) pre (LexPost d)) :
    Run w 531 [.ref l, .int deep dt] [] (14 + 2 * deep) (110 + 20 * deep) pre (LexPost deep) := by
  w_on
  intro A h₀ L m s R hAmb hhd F N hdep hun hret
  obtain ⟨A₀, base, outer, env, p, loose, mean, mg, mb, B, X, T, hA, hf, hke, hrw⟩ := hAmb
  obtain ⟨hd, dp, fr, gd, un⟩ := A
  dsimp only at hA hhd hdep hun
  subst hA hhd
  revert X hrw
  k_fill
  intro X hrw
  clear hrw
  (k_dflt (refine' code_def (binds := [(Str.ofString "numbers", .ref l), (Str.ofString "deep", .int deep dt)]) ?k1 ?k2 ?k3 ?k4 ?k5 ?kA ?kF ?kK ?k6 ?k7 ?k8 ?k9 ?kB ?_ ?c2 ?c3 ?c4 ?c5; (case kA => exact rfl); (case kF => first | exact rfl | assumption); (case kK => first | exact rfl | assumption); (case k1 => k_asm); (case k2 => k_asm); (case k3 => k_asm); (case k4 => k_asm); (case k5 => k_asm); (case k6 => k_is); (case k7 => k_is); (case k8 => k_room); (case k9 => first | exact BindsTo.of_eq rfl | exact binds_K (by k_in) rfl (by k_is) rfl rfl rfl); (case c5 => decide); (case kB => exact locs rfl); (case c2 => exact rfl); (case c3 => exact rfl); (case c4 => exact rfl); k_whole))
  intro g' L' h' FG' F' N' B' X' T'
  (try dsimp only [List.reverse, List.reverseAux] at F')
  replace N' := news_dup N' hl
  have hi' : IntsAre (.int c tkc :: its) (c :: cs) := .cons c tkc hi
  repeat' (first | ((fail_if_success (with_reducible show wpAny _ _ (exec (PySem.Stmt.If (PySem.Expr.BoolOp _ _ _) _ _ _) _) _ _ _)); (first | (k_unfold; (try dsimp only)) | (k_end; wrow_close) | walk1 | (dsimp only; walk1) | (leave1; walk_say "STEP leave1"; try dsimp only) | fail "no step")))
  · exact absurd (by assumption : decide (c :: cs = []) = true) (by simp)
  rename_i l1' h5 L1 ae t1 D1 ws h4 hI hC hL L2 D2 h3 L3 h2a h1a hh F9 N9
  dsimp only at F9
  have e : ((c :: cs).getD (Int.toNat 0) 0) = c := rfl
  rw [e] at F9
  have N8 : News g' L' hh ((D1, lstO ws 0) :: (l, lstO (.int c tkc :: its) n) :: pre) := newsSub N9 (by walk_at "m sub")
  clear N9 L3 hC hL ae e L1
  replace L2 : l < D1 ∧ AllLt D1 pre := L2.2
  change IntsAre ws cs at hI
  (try dsimp only)
  repeat' (first | ((fail_if_success (with_reducible show wpAny _ _ (subscriptTail (PySem.Expr.List _ _) _ _ _) _ _ _)); (fail_if_success (with_reducible show wpAny _ _ (codeAny _ _ _ _ _) _ _ _)); (first | (k_unfold; (try dsimp only)) | (k_end; wrow_close) | walk1 | (dsimp only; walk1) | (leave1; walk_say "STEP leave1"; try dsimp only) | fail "no step")))
  rotate_left 2
  · obtain ⟨d, rfl⟩ : ∃ d, d + 1 = deep := ⟨deep - 1, by omega⟩
    have e1 : (((d + 1 : Nat) : Int) - 1) = (d : Int) := by omega
    rw [e1]
    refine (ih d rfl D1 ws cs 0 _ ((D1, lstO ws 0) :: (l, lstO (.int c tkc :: its) n) :: pre) (.head _) hI (by omega)) _ _ _ _ _ _ ⟨_, _, _, _, _, _, _, _, _, by k_asm, by k_asm, by k_asm, rfl, rfl, rfl, rfl⟩ rfl (by k_asm) (by k_asm) (by (try simp only [depth_mark, depth_under_make, depth_under_kw, depth_in1, depth_deeper, depth_caller]); omega) (by (try simp only [units_in1, units_deeper, Around.mark_units, units_caller]); omega) fun v tl h9 tk9 F1 N1 dc1 lt1 hp1 => ?_
    obtain ⟨t0, r0, k0, x0, d0, o0, mt0, nm0, kids0, its0, n0, L0, G0, rfl, rfl, pm0, wf0, br0, li0, ht0, ns0, hi0, hl0⟩ := hp1
    have hr0 : (r0, lstO its0 n0) ∈ L0 := pm0.mem_iff.mpr (by simp)
    clear F9 N8
    dsimp only
    repeat' (first | ((fail_if_success (with_reducible show wpAny _ _ (codeAny _ _ _ _ _) _ _ _)); (fail_if_success (with_reducible show wpAny _ _ (call (Value.ref 394) _ _) _ _ _)); (fail_if_success (with_reducible show wpAny _ _ (call (Value.ref 420) _ _) _ _ _)); (first | (k_unfold; (try dsimp only)) | (k_end; wrow_close) | walk1 | (dsimp only; walk1) | (leave1; walk_say "STEP leave1"; try dsimp only) | fail "no step")))
    · refine star_ok _ _ _ _ _ _ ⟨_, _, _, _, _, _, _, _, _, by k_asm, by k_asm, by k_asm, rfl, rfl, rfl, rfl⟩ rfl (by k_asm) (by k_asm) (by (try simp only [depth_mark, depth_under_make, depth_under_kw, depth_in1, depth_deeper, depth_caller]); omega) (by (try simp only [units_in1, units_deeper, Around.mark_units, units_caller]); omega) fun v tl h9b tk9b F2 N2 dc2 lt2 hp2 => ?_
      obtain ⟨x, dx, it, mt, o, t1, t2, t3, rfl, rfl⟩ := hp2
      dsimp only
      repeat' (first | ((first | (k_unfold; (try dsimp only)) | (k_end; wrow_close) | walk1 | (dsimp only; walk1) | (leave1; walk_say "STEP leave1"; try dsimp only) | fail "no step")))
      rename_i t9 h9c l9 F9c N9c _ _
      have z := fin2 (pre := pre) N9c l9 dc2 lt2 dc1 lt1 (fun p hp => .tail _ (.tail _ hp))
      exact hret _ _ _ _ F9c z.1 z.2.1 z.2.2 (lex_un rfl (k := .star) ⟨_, _, _, _, rfl⟩ rfl (fun _ => nofun) pm0 wf0 br0 li0 ht0 hi0 hl0)
    · refine opt_ok _ _ _ _ _ _ ⟨_, _, _, _, _, _, _, _, _, by k_asm, by k_asm, by k_asm, rfl, rfl, rfl, rfl⟩ rfl (by k_asm) (by k_asm) (by (try simp only [depth_mark, depth_under_make, depth_under_kw, depth_in1, depth_deeper, depth_caller]); omega) (by (try simp only [units_in1, units_deeper, Around.mark_units, units_caller]); omega) fun v tl h9b tk9b F2 N2 dc2 lt2 hp2 => ?_
      obtain ⟨x, dx, it, mt, o, t1, t2, t3, rfl, rfl⟩ := hp2
      dsimp only
      repeat' (first | ((first | (k_unfold; (try dsimp only)) | (k_end; wrow_close) | walk1 | (dsimp only; walk1) | (leave1; walk_say "STEP leave1"; try dsimp only) | fail "no step")))
      rename_i t9 h9c l9 F9c N9c _ _
      have z := fin2 (pre := pre) N9c l9 dc2 lt2 dc1 lt1 (fun p hp => .tail _ (.tail _ hp))
      exact hret _ _ _ _ F9c z.1 z.2.1 z.2.2 (lex_un rfl (k := .opt) ⟨_, _, _, _, rfl⟩ rfl (fun _ => nofun) pm0 wf0 br0 li0 ht0 hi0 hl0)
    · refine not_ok _ _ _ _ _ _ ⟨_, _, _, _, _, _, _, _, _, by k_asm, by k_asm, by k_asm, rfl, rfl, rfl, rfl⟩ rfl (by k_asm) (by k_asm) (by (try simp only [depth_mark, depth_under_make, depth_under_kw, depth_in1, depth_deeper, depth_caller]); omega) (by (try simp only [units_in1, units_deeper, Around.mark_units, units_caller]); omega) fun v tl h9b tk9b F2 N2 dc2 lt2 hp2 => ?_
      obtain ⟨x, dx, it, mt, o, nm, tk9, rfl, rfl, rfl⟩ := hp2
      dsimp only
      repeat' (first | ((first | (k_unfold; (try dsimp only)) | (k_end; wrow_close) | walk1 | (dsimp only; walk1) | (leave1; walk_say "STEP leave1"; try dsimp only) | fail "no step")))
      rename_i t9 h9c l9 F9c N9c _ _
      have z := fin2 (pre := pre) N9c l9 dc2 lt2 dc1 lt1 (fun p hp => .tail _ (.tail _ hp))
      exact hret _ _ _ _ F9c z.1 z.2.1 z.2.2 (lex_un rfl (k := .nota) ⟨_, _, rfl⟩ rfl (fun _ => nofun) pm0 wf0 br0 li0 ht0 hi0 hl0)
    rw [e1]
    refine (ih d rfl r0 its0 ns0 n0 _ ((t0, tupO [.ref x0, .ref r0] 0) :: L0 ++ (D1, lstO ws 0) :: (l, lstO (.int c tkc :: its) n) :: pre) (.tail _ (List.mem_append_left _ hr0)) hi0 hl0) _ _ _ _ _ _ ⟨_, _, _, _, _, _, _, _, _, by k_asm, by k_asm, by k_asm, rfl, rfl, rfl, rfl⟩ rfl (by k_asm) (by k_asm) (by (try simp only [depth_mark, depth_under_make, depth_under_kw, depth_in1, depth_deeper, depth_caller]); omega) (by (try simp only [units_in1, units_deeper, Around.mark_units, units_caller]); omega) fun v tl h9b tk9b F2 N2 dc2 lt2 hp2 => ?_
    obtain ⟨t9, r9, k9, x9, d9, o9, mt9, nm9, kids9, its9, n9, L9, G9, rfl, rfl, pm9, wf9, br9, li9, ht9, ns9, hi9, hl9⟩ := hp2
    have dcc := desc_append dc2 dc1 (fun q hq p hp => lt2 q hq p (List.mem_append_left _ hp))
    have ltc := above_append (pre := (D1, lstO ws 0) :: (l, lstO (.int c tkc :: its) n) :: pre) lt2 lt1
    dsimp only
    repeat' (first | ((fail_if_success (with_reducible show wpAny _ _ (codeAny _ _ _ _ _) _ _ _)); (fail_if_success (with_reducible show wpAny _ _ (call (Value.ref 394) _ _) _ _ _)); (fail_if_success (with_reducible show wpAny _ _ (call (Value.ref 420) _ _) _ _ _)); (first | (k_unfold; (try dsimp only)) | (k_end; wrow_close) | walk1 | (dsimp only; walk1) | (leave1; walk_say "STEP leave1"; try dsimp only) | fail "no step")))
    all_goals refine wpAny_call ?_
    · refine seq2_ok _ _ _ _ _ _ ⟨_, _, _, _, _, _, _, _, _, by k_asm, by k_asm, by k_asm, rfl, rfl, rfl, rfl⟩ rfl (by k_asm) (by k_asm) (by (try simp only [depth_mark, depth_under_make, depth_under_kw, depth_in1, depth_deeper, depth_caller]); omega) (by (try simp only [units_in1, units_deeper, Around.mark_units, units_caller]); omega) fun v tl h9c tk9c F3 N3 dc3 lt3 hp3 => ?_
      obtain ⟨x, dx, it, mt, o, nm, tk9d, rfl, rfl, rfl⟩ := hp3
      dsimp only
      repeat' (first | ((first | (k_unfold; (try dsimp only)) | (k_end; wrow_close) | walk1 | (dsimp only; walk1) | (leave1; walk_say "STEP leave1"; try dsimp only) | fail "no step")))
      rename_i t2 h9d l9 F9c N9c _ _
      have z := fin2 (old := (t9, tupO [.ref x9, .ref r9] 0) :: L9 ++ (t0, tupO [.ref x0, .ref r0] 0) :: L0) (pre := pre) (by rw [List.append_assoc]; exact N9c) (by rw [List.append_assoc]; exact l9) dc3 (by rw [List.append_assoc]; exact lt3) dcc ltc (fun p hp => .tail _ (.tail _ hp))
      exact hret _ _ _ _ F9c z.1 z.2.1 z.2.2 (lex_bin rfl (k := .seq) ⟨_, _, rfl⟩ (.inr rfl) (fun _ => nofun) pm0 wf0 br0 li0 ht0 pm9 wf9 br9 li9 ht9 hi9 hl9)
    · refine one2_ok _ _ _ _ _ _ ⟨_, _, _, _, _, _, _, _, _, by k_asm, by k_asm, by k_asm, rfl, rfl, rfl, rfl⟩ rfl (by k_asm) (by k_asm) (by (try simp only [depth_mark, depth_under_make, depth_under_kw, depth_in1, depth_deeper, depth_caller]); omega) (by (try simp only [units_in1, units_deeper, Around.mark_units, units_caller]); omega) fun v tl h9c tk9c F3 N3 dc3 lt3 hp3 => ?_
      obtain ⟨x, dx, it, mt, o, nm, tk9d, rfl, rfl, rfl⟩ := hp3
      dsimp only
      repeat' (first | ((first | (k_unfold; (try dsimp only)) | (k_end; wrow_close) | walk1 | (dsimp only; walk1) | (leave1; walk_say "STEP leave1"; try dsimp only) | fail "no step")))
      rename_i t2 h9d l9 F9c N9c _ _
      have z := fin2 (old := (t9, tupO [.ref x9, .ref r9] 0) :: L9 ++ (t0, tupO [.ref x0, .ref r0] 0) :: L0) (pre := pre) (by rw [List.append_assoc]; exact N9c) (by rw [List.append_assoc]; exact l9) dc3 (by rw [List.append_assoc]; exact lt3) dcc ltc (fun p hp => .tail _ (.tail _ hp))
      exact hret _ _ _ _ F9c z.1 z.2.1 z.2.2 (lex_bin rfl (k := .alt) ⟨_, _, rfl⟩ rfl (fun _ => nofun) pm0 wf0 br0 li0 ht0 pm9 wf9 br9 li9 ht9 hi9 hl9)
  all_goals dsimp only
  all_goals generalize hz : ((((c :: cs).getD (Int.toNat 0) 0).fdiv 8).fmod 3) = z
  all_goals have hz3 : z = 0 ∨ z = 1 ∨ z = 2 := hz ▸ fmod3 _
  all_goals clear hz
  all_goals rcases hz3 with rfl | rfl | rfl
  repeat' (first | ((fail_if_success (with_reducible show wpAny _ _ (call (Value.ref 336) _ _) _ _ _)); (first | (k_unfold; (try dsimp only)) | (k_end; wrow_close) | walk1 | (dsimp only; walk1) | (leave1; walk_say "STEP leave1"; try dsimp only) | fail "no step")))
  all_goals refine wpAny_call ?_
  all_goals refine lit_ok _ _ _ _ _ _ ⟨_, _, _, _, _, _, _, _, _, by k_asm, by k_asm, by k_asm, rfl, rfl, rfl, rfl⟩ rfl (by k_asm) (by k_asm) (by (try simp only [depth_mark, depth_under_make, depth_under_kw, depth_in1, depth_deeper, depth_caller]); omega) (by (try simp only [units_in1, units_deeper, Around.mark_units, units_caller]); omega) fun v tl h9c tk9c F3 N3 dc3 lt3 hp3 => ?_
  all_goals obtain ⟨x, dx, it, o, t1, rfl, rfl⟩ := hp3
  all_goals dsimp only
  repeat' (first | ((first | (k_unfold; (try dsimp only)) | (k_end; wrow_close) | walk1 | (dsimp only; walk1) | (leave1; walk_say "STEP leave1"; try dsimp only) | fail "no step")))
  all_goals rename_i t2 h9d l9 F9c N9c _ _
  all_goals have z := fin3 N9c (ktn_ltOf l9) dc3 lt3 L2
  all_goals exact hret _ _ _ _ F9c z.1 z.2.1 z.2.2 (lex_lit rfl (by simp) hI (by omega))

theorem lex_ok {w : World} : ∀ (deep : Nat) (l : Addr) (its : List Value) (ns : List Int) (n : Nat) (dt : Tok) (pre : List (Addr × Obj)), (l, lstO its n) ∈ pre → IntsAre its ns → ns.length ≤ 100 → Run w 531 [.ref l, .int deep dt] [] (14 + 2 * deep) (110 + 20 * deep) pre (LexPost deep) := by
  intro deep
  induction deep with
  | zero =>
    intro l its ns n dt pre hl hi hn
    cases hi with
    | nil => exact lex_nil hl
    | cons c tkc hi => exact lex_cons hl hi hn (fun d e => absurd e (by omega))
  | succ d ih =>
    intro l its ns n dt pre hl hi hn
    cases hi with
    | nil => exact lex_nil hl
    | cons c tkc hi => exact lex_cons hl hi hn (fun d' e => by obtain rfl : d' = d := by omega
                                                               exact ih)
-- Cls
/-- what matching asks of an expression's class -/
structure ECls (w : World) (C um : Addr) (i : Nat) : Prop where
  get : ∀ nm, plainGet (Mine.hd.heap_39 w.params) C nm = true
  cls : isClsIn (Mine.hd.heap_39 w.params) C = true
  name : ∃ p, findIn (Mine.hd.heap_39 w.params) (.ref C) "name" = some (some (.ref p)) ∧ specialIn (Mine.hd.heap_39 w.params) (.ref p) "__get__" = some (some (.builtin "member_descriptor.__get__")) ∧ takesIn (Mine.hd.heap_39 w.params) (.ref p) = some true ∧ slotIn (Mine.hd.heap_39 w.params) p C = some i
  dict : hasDictIn (Mine.hd.heap_39 w.params) C = true
  oids : findIn (Mine.hd.heap_39 w.params) (.ref C) "oids" = some none
  miss : missMsgOK (Mine.hd.heap_39 w.params) C "oids" = true
  nomod : subIn (Mine.hd.heap_39 w.params) (.ref C) (.type "module") = some false
  setat : findIn (Mine.hd.heap_39 w.params) (.ref C) "__setattr__" = some (some (.builtin "object.__setattr__"))
  over : plainOver (Mine.hd.heap_39 w.params) C = true
  meth : findIn (Mine.hd.heap_39 w.params) (.ref C) "_uncached_match" = some (some (.ref um))
  methf : isFn (Mine.hd.heap_39 w.params) (.ref um) = true
  keep : keepIn (Mine.hd.heap_39 w.params) (.ref um) = true

theorem ecls_lit {w : World} : ECls w 336 325 2 where
  get := fun nm => by kernel_rfl
  cls := by kernel_rfl
  name := ⟨298, by kernel_rfl, by kernel_rfl, by kernel_rfl, by kernel_rfl⟩
  dict := by kernel_rfl
  oids := by kernel_rfl
  miss := by kernel_rfl
  nomod := by kernel_rfl
  setat := by kernel_rfl
  over := by kernel_rfl
  meth := by kernel_rfl
  methf := by kernel_rfl
  keep := by kernel_rfl
theorem ecls_seq {w : World} : ECls w 394 384 2 where
  get := fun nm => by kernel_rfl
  cls := by kernel_rfl
  name := ⟨298, by kernel_rfl, by kernel_rfl, by kernel_rfl, by kernel_rfl⟩
  dict := by kernel_rfl
  oids := by kernel_rfl
  miss := by kernel_rfl
  nomod := by kernel_rfl
  setat := by kernel_rfl
  over := by kernel_rfl
  meth := by kernel_rfl
  methf := by kernel_rfl
  keep := by kernel_rfl
theorem ecls_alt {w : World} : ECls w 420 410 2 where
  get := fun nm => by kernel_rfl
  cls := by kernel_rfl
  name := ⟨298, by kernel_rfl, by kernel_rfl, by kernel_rfl, by kernel_rfl⟩
  dict := by kernel_rfl
  oids := by kernel_rfl
  miss := by kernel_rfl
  nomod := by kernel_rfl
  setat := by kernel_rfl
  over := by kernel_rfl
  meth := by kernel_rfl
  methf := by kernel_rfl
  keep := by kernel_rfl
theorem ecls_look {w : World} : ECls w 458 447 3 where
  get := fun nm => by kernel_rfl
  cls := by kernel_rfl
  name := ⟨298, by kernel_rfl, by kernel_rfl, by kernel_rfl, by kernel_rfl⟩
  dict := by kernel_rfl
  oids := by kernel_rfl
  miss := by kernel_rfl
  nomod := by kernel_rfl
  setat := by kernel_rfl
  over := by kernel_rfl
  meth := by kernel_rfl
  methf := by kernel_rfl
  keep := by kernel_rfl
theorem ecls_qnt {w : World} : ECls w 504 493 4 where
  get := fun nm => by kernel_rfl
  cls := by kernel_rfl
  name := ⟨298, by kernel_rfl, by kernel_rfl, by kernel_rfl, by kernel_rfl⟩
  dict := by kernel_rfl
  oids := by kernel_rfl
  miss := by kernel_rfl
  nomod := by kernel_rfl
  setat := by kernel_rfl
  over := by kernel_rfl
  meth := by kernel_rfl
  methf := by kernel_rfl
  keep := by kernel_rfl

/-- the class and the function that matches it -/
def EK.cls : EK → Addr × Addr × Nat
  | .lit _ => (336, 325, 2)
  | .seq => (394, 384, 2)
  | .alt => (420, 410, 2)
  | .nota => (458, 447, 3)
  | _ => (504, 493, 4)
theorem ecls_of {w : World} (k : EK) : ECls w k.cls.1 k.cls.2.1 k.cls.2.2 := by
  cases k <;> first | exact ecls_lit | exact ecls_seq | exact ecls_alt | exact ecls_look | exact ecls_qnt
theorem EK.Is.obj {k : EK} {d mt : Addr} {nm : Str} {o : Obj} (h : k.Is d mt nm o) : o.cls = .ref k.cls.1 ∧ o.dict = some d ∧ notCls o = true ∧ ∃ t, (o.slots[k.cls.2.2]?).join = some (.str nm t) := by
  cases k
  · obtain ⟨it, t1, t2, rfl⟩ := h; exact ⟨rfl, rfl, rfl, _, rfl⟩
  · obtain ⟨it, t, rfl⟩ := h; exact ⟨rfl, rfl, rfl, _, rfl⟩
  · obtain ⟨it, t, rfl⟩ := h; exact ⟨rfl, rfl, rfl, _, rfl⟩
  · obtain ⟨it, t, rfl⟩ := h; exact ⟨rfl, rfl, rfl, _, rfl⟩
  · obtain ⟨it, t1, t2, t3, rfl⟩ := h; exact ⟨rfl, rfl, rfl, _, rfl⟩
  · obtain ⟨it, t1, t2, t3, rfl⟩ := h; exact ⟨rfl, rfl, rfl, _, rfl⟩
theorem EK.Is.inst {h₀ h : Heap} {L : Addr} {news : List (Addr × Obj)} {k : EK} {x d mt : Addr} {nm : Str} {o od : Obj} (e : k.Is d mt nm o) (N : News h₀ L h news) (hx : (x, o) ∈ news) (hd : (d, od) ∈ news) : InstAt h x o k.cls.1 (some od) := by
  obtain ⟨h1, h2, h3, _⟩ := e.obj
  refine ⟨(N _ hx).1, h1, h3, ?_⟩
  rw [h2]
  exact (N _ hd).1
-- Peg
/-- what an expression answers at a place: no node, or the node (a forest of one) -/
abbrev PegF := Nat → Option PF

def seqRun : List PegF → Nat → Option (PF × Nat)
  | [], p => some (.nil, p)
  | f :: fs, p => match f p with
    | some (.cons e nm st en ch _) => match seqRun fs (p + (en - st)) with
      | some (F, q) => some (.cons e nm st en ch F, q)
      | none => none
    | _ => none
def altRun : List PegF → Nat → Option PF
  | [], _ => none
  | f :: fs, p => match f p with
    | some F => some F
    | none => altRun fs p
/-- more: can there be a next turn (the bound of the count is not reached) -/
def starRun (f : PegF) (n : Nat) (mx : Option Nat) : Nat → Nat → Nat → PF × Nat
  | 0, _, p => (.nil, p)
  | fuel + 1, cnt, p =>
    if p < n ∧ (mx.all fun b => decide (cnt < b)) = true then match f p with
      | some (.cons e nm st en ch _) =>
        if en - st = 0 then (.cons e nm st en ch .nil, p)
        else let r := starRun f n mx fuel (cnt + 1) (p + (en - st)); (.cons e nm st en ch r.1, r.2)
      | _ => (.nil, p)
    else (.nil, p)
def PF.endOf : PF → Nat
  | .nil => 0
  | .cons _ _ _ en _ _ => en
def startsAt (tx s : Str) (p : Nat) : Bool := (fromIndex tx.length (p : Int) + s.length ≤ tx.length && Builtin.Str.subAt tx s (fromIndex tx.length (p : Int)))
def EK.run (k : EK) (tx : Str) (x : Addr) (nm : Str) (fs : List PegF) : PegF := fun p =>
  match k with
  | .lit s => if startsAt tx s p then some (.cons x nm p (p + s.length) .nil .nil) else none
  | .seq => (seqRun fs p).map fun r => .cons x nm p r.2 r.1 .nil
  | .alt => (altRun fs p).map fun F => .cons x nm p F.endOf F .nil
  | .nota => match fs.head? with
    | some f => if (f p).isNone then some (.cons x nm p p .nil .nil) else none
    | none => none
  | .star => match fs.head? with
    | some f => let r := starRun f tx.length none (tx.length + 1) 0 p; some (.cons x nm p r.2 r.1 .nil)
    | none => none
  | .opt => match fs.head? with
    | some f => let r := starRun f tx.length (some 1) (tx.length + 1) 0 p; some (.cons x nm p r.2 r.1 .nil)
    | none => none
def EF.pegs (tx : Str) : EF → List PegF
  | .nil => []
  | .cons k x _ _ _ nm kids rest => k.run tx x nm (kids.pegs tx) :: rest.pegs tx

theorem pegs_roots (tx : Str) : ∀ F : EF, (F.pegs tx).length = F.len
  | .nil => rfl
  | .cons _ _ _ _ _ _ _ rest => by simp [EF.pegs, EF.len, pegs_roots tx rest]

/-- what stands for an answer -/
def Res (tx : Str) (S : List (Addr × Obj)) (r : Option PF) (v : Value) : Prop := match r with
  | none => v = .none
  | some F => F.len = 1 ∧ NodesIn tx S [v] F
theorem Res.mono {tx : Str} {S S' : List (Addr × Obj)} {r : Option PF} {v : Value} (h : Res tx S r v) (hs : ∀ p ∈ S, p ∈ S') : Res tx S' r v := by
  cases r with
  | none => exact h
  | some F => exact ⟨h.1, h.2.mono hs⟩

/-- what the cache c holds: rows that stand above it -/
structure COK (c : Addr) (C : List (Int × Value)) : Prop where
  keys : ∀ p ∈ C, 0 ≤ p.1 ∧ p.1 < C.length
  vals : ∀ p ∈ C, ∃ r, p.2 = .ref r ∧ @LT.lt Nat _ c r
def Grow (C C' : List (Int × Value)) : Prop := ∀ k v, valueAt C k = some v → valueAt C' k = some v
theorem Grow.refl {C : List (Int × Value)} : Grow C C := fun _ _ h => h
theorem Grow.trans {C C' C'' : List (Int × Value)} (a : Grow C C') (b : Grow C' C'') : Grow C C'' := fun k v h => b k v (a k v h)

theorem valueAt_mem {C : List (Int × Value)} {k : Int} {v : Value} (h : valueAt C k = some v) : (k, v) ∈ C := by
  unfold valueAt at h
  cases e : C.find? fun kv => kv.1 = k with
  | none => rw [e] at h; cases h
  | some kv =>
    rw [e] at h
    have h1 := List.find?_some e
    have h2 := List.mem_of_find?_eq_some e
    simp at h h1
    subst h h1
    exact h2
theorem valueAt_top {C : List (Int × Value)} {c : Addr} (h : COK c C) : valueAt C C.length = none := by
  cases e : valueAt C C.length with
  | none => rfl
  | some v => exact absurd (h.keys _ (valueAt_mem e)).2 (Int.lt_irrefl _)
theorem stored_top {C : List (Int × Value)} {c : Addr} {v : Value} (h : COK c C) : stored C C.length v = C ++ [((C.length : Int), v)] := by
  unfold stored
  rw [if_neg]
  intro e
  rw [List.any_eq_true] at e
  obtain ⟨p, hp, hq⟩ := e
  have := (h.keys p hp).2
  simp at hq
  omega
theorem valueAt_append {C D : List (Int × Value)} {k : Int} : valueAt (C ++ D) k = (valueAt C k).or (valueAt D k) := by
  unfold valueAt
  rw [List.find?_append]
  cases C.find? fun kv => kv.1 = k <;> simp
theorem cok_push {C : List (Int × Value)} {c r : Addr} (h : COK c C) (hr : @LT.lt Nat _ c r) : COK c (C ++ [((C.length : Int), .ref r)]) := by
  refine ⟨fun p hp => ?_, fun p hp => ?_⟩
  · rcases List.mem_append.mp hp with hp | hp
    · have := h.keys p hp
      simp; omega
    · rw [List.mem_singleton.mp hp]; simp; omega
  · rcases List.mem_append.mp hp with hp | hp
    · exact h.vals p hp
    · rw [List.mem_singleton.mp hp]; exact ⟨r, rfl, hr⟩
theorem grow_push {C D : List (Int × Value)} : Grow C (C ++ D) := fun k v h => by rw [valueAt_append, h]; rfl
theorem push_top {C : List (Int × Value)} {c : Addr} {v : Value} (h : COK c C) : valueAt (C ++ [((C.length : Int), v)]) C.length = some v := by
  rw [valueAt_append, valueAt_top h]; simp [valueAt]

/-- what a row holds: the answers of the expression, place by place -/
def MemoOK (tx : Str) (S : List (Addr × Obj)) (f : PegF) (memo : List (Int × Value)) : Prop :=
  ∀ p ∈ memo, ∃ n : Nat, p.1 = (n : Int) ∧ n ≤ tx.length ∧ Res tx S (f n) p.2
theorem MemoOK.mono {tx : Str} {S S' : List (Addr × Obj)} {f : PegF} {memo : List (Int × Value)} (h : MemoOK tx S f memo) (hs : ∀ p ∈ S, p ∈ S') : MemoOK tx S' f memo := fun p hp => by
  obtain ⟨n, a, b, c⟩ := h p hp
  exact ⟨n, a, b, c.mono hs⟩

abbrev oidsD (hs : Int) (t : Tok) (T : Addr) : Obj := dictOf [⟨hs, .str (Str.ofString "oids") t, .ref T⟩] 1

/-- the parts of an expression that matching turns; the number says whether it is new to the cache c -/
inductive Mut1 (w : World) (b : Nat) (tx : Str) (c : Addr) (C : List (Int × Value)) (S : List (Addr × Obj)) (f : PegF) (d : Addr) : Nat → List (Addr × Obj) → Prop
  | fresh0 : Mut1 w b tx c C S f d 1 [(d, dictOf [] 0)]
  | fresh1 {T P : Addr} {i : Int} {ti t : Tok} {r0 : Addr} {oz : Obj} : 1 ≤ b → @LT.lt Nat _ r0 c → oz.cls = .type "dict" → Mut1 w b tx c C S f d 1 [(d, oidsD (PyData.keyHash w.params (Str.ofString "oids")) t T), (T, tupO [.ref P] 0), (P, tupO [.int i ti, .ref r0] 0), (r0, oz)]
  | live {T P : Addr} {i : Int} {ti t : Tok} {r : Addr} {orow : Obj} {olds : List Value} {memo : List (Int × Value)} : valueAt C i = some (.ref r) → orow.IsDictOf (intKind PG w) memo → (r == sysModules) = false → MemoOK tx S f memo → olds.length ≤ b →
      Mut1 w b tx c C S f d 0 [(d, oidsD (PyData.keyHash w.params (Str.ofString "oids")) t T), (T, tupO (.ref P :: olds) 0), (P, tupO [.int i ti, .ref r] 0), (r, orow)]
theorem Mut1.mono {w : World} {b : Nat} {tx : Str} {c : Addr} {C C' : List (Int × Value)} {S S' : List (Addr × Obj)} {f : PegF} {d : Addr} {n : Nat} {M : List (Addr × Obj)} (h : Mut1 w b tx c C S f d n M) (hC : Grow C C') (hs : ∀ p ∈ S, p ∈ S') : Mut1 w b tx c C' S' f d n M := by
  cases h with
  | fresh0 => exact .fresh0
  | fresh1 hb h h' => exact .fresh1 hb h h'
  | live h1 h2 h3 h4 h5 => exact .live (hC _ _ h1) h2 h3 (h4.mono hs) h5

inductive Muts (w : World) (b : Nat) (tx : Str) (c : Addr) (C : List (Int × Value)) (S : List (Addr × Obj)) : EF → Nat → List (Addr × Obj) → Prop
  | nil : Muts w b tx c C S .nil 0 []
  | cons {k : EK} {x d : Addr} {o : Obj} {mt : Addr} {nm : Str} {kids rest : EF} {n1 n2 n3 : Nat} {M1 M2 M3 : List (Addr × Obj)} :
      Mut1 w b tx c C S (k.run tx x nm (kids.pegs tx)) d n1 M1 → Muts w b tx c C S kids n2 M2 → Muts w b tx c C S rest n3 M3 → Muts w b tx c C S (.cons k x d o mt nm kids rest) (n1 + n2 + n3) (M1 ++ (M2 ++ M3))
theorem Muts.mono {w : World} {b : Nat} {tx : Str} {c : Addr} {C C' : List (Int × Value)} {S S' : List (Addr × Obj)} {F : EF} {n : Nat} {M : List (Addr × Obj)} (h : Muts w b tx c C S F n M) (hC : Grow C C') (hs : ∀ p ∈ S, p ∈ S') : Muts w b tx c C' S' F n M := by
  induction h with
  | nil => exact .nil
  | cons h1 _ _ ih2 ih3 => exact .cons (h1.mono hC hs) ih2 ih3
/-- the parts of the expressions that no one turns -/
def EF.stat : EF → List (Addr × Obj)
  | .nil => []
  | .cons k x _ o mt _ kids rest => (match k with | .lit _ => [(x, o)] | _ => [(x, o), (mt, tupO kids.roots 0)]) ++ (kids.stat ++ rest.stat)

/-- every row that the cache holds stands in the ledger -/
def Rows (C : List (Int × Value)) (led : List (Addr × Obj)) : Prop := ∀ p ∈ C, ∃ r o, p.2 = .ref r ∧ (r, o) ∈ led ∧ o.cls = .type "dict"
theorem rows_set {C : List (Int × Value)} {pre post : List (Addr × Obj)} {r : Addr} {o o' : Obj} (h : Rows C (pre ++ (r, o) :: post)) (ho : o'.cls = .type "dict") : Rows C (pre ++ (r, o') :: post) := fun p hp => by
  obtain ⟨a, oa, e, hm, hc⟩ := h p hp
  rcases List.mem_append.mp hm with hm | hm
  · exact ⟨a, oa, e, List.mem_append_left _ hm, hc⟩
  · rcases List.mem_cons.mp hm with hm | hm
    · exact ⟨a, o', e, List.mem_append_right _ (by rw [show a = r from congrArg Prod.fst hm]; exact .head _), ho⟩
    · exact ⟨a, oa, e, List.mem_append_right _ (.tail _ hm), hc⟩
theorem rows_mono {C : List (Int × Value)} {led led' : List (Addr × Obj)} (h : Rows C led) (s : ∀ p ∈ led, p ∈ led') : Rows C led' := fun p hp => by
  obtain ⟨a, oa, e, hm, hc⟩ := h p hp
  exact ⟨a, oa, e, s _ hm, hc⟩
-- Rul2
section
variable {w : World} {A : Around} {E : Value → Shared → Prop} {s : Shared} {x d mt L : Addr} {k : EK} {nm : Str} {o : Obj} {h₀ : Heap} {m : Str → Option Value} {news news' : List (Addr × Obj)} {t : Tok}

theorem e_name {expr : Bool} {Q : Value → Shared → Prop} {od : Obj} (F : Fr h₀ L s.heap m) (X₀ : (Mine.hd.heap_39 w.params).In h₀) (N : News h₀ L s.heap news) (e : k.Is d mt nm o) (hx : (x, o) ∈ news) (hd : (d, od) ∈ news)
    (h : ∀ t, Q (.str nm t) { s with toks := s.toks + 1 }) : wpAny (model PG w) A (getAttr (.ref x) "name" expr) Q E s := by
  obtain ⟨p, a1, a2, a3, a4⟩ := (ecls_of (w := w) k).name
  obtain ⟨_, _, _, tn, hs⟩ := e.obj
  exact get_slotO F X₀ (e.inst N hx hd) ((ecls_of k).get _) (ecls_of k).cls a1 a2 a3 a4 hs rfl (h tn)

theorem news_keeps {h h' : Heap} (N : News h₀ L h news) (kp : ∀ b ob, h.get? b = some ob → h'.get? b = some ob) : News h₀ L h' news := fun p hp => ⟨kp _ _ (N p hp).1, (N p hp).2⟩

theorem e_oids_miss {dflt : Value} {Q : Value → Shared → Prop} (H : HandOK A s.heap) (F : Fr h₀ L s.heap m) (X₀ : (Mine.hd.heap_39 w.params).In h₀) (N : News h₀ L s.heap news) (e : k.Is d mt nm o) (hx : (x, o) ∈ news) (hd : (d, dictOf [] 0) ∈ news)
    (h : ∀ h' tk', Fr h₀ L h' m → News h₀ L h' news → Q dflt { s with heap := h', toks := tk' }) : wpAny (model PG w) A (call (.builtin "getattr") [.ref x, .str (Str.ofString "oids") t, dflt]) Q E s := by
  have I := e.inst N hx hd
  have X := X₀.keeps F.keep
  have hf : findObj (Mine.hd.heap_39 w.params) k.cls.1 (some (dictOf [] 0)) (Str.ofString "oids") = some .missing := by
    obtain ⟨cd, hc, hdd⟩ := any_some (ecls_of (w := w) k).dict
    unfold findObj
    have hoids := (ecls_of (w := w) k).oids
    rw [hc, Option.bind_some, hoids, Option.bind_some]
    have ho : W.ownOf cd (some (dictOf [] 0)) (Str.ofString "oids") = some none := by unfold W.ownOf; rw [if_pos hdd]; rfl
    have hcp : copiedNames.contains (Str.ofString "oids") = false := by decide +kernel
    simp only [Option.bind_some, ho, hcp, Bool.false_and, Bool.false_eq_true, if_false]
  refine m_getattr3 X I (ecls_of k).nomod (by decide +kernel) (m_try_miss (s := s) H X I ((ecls_of k).get _) hf (ecls_of k).miss fun h' tk' kp => ?_)
  exact h h' tk' (F.keeps kp) (news_keeps N kp)

theorem e_oids_hit {dflt : Value} {Q : Value → Shared → Prop} {hs : Int} {t1 : Tok} {T : Addr} (F : Fr h₀ L s.heap m) (X₀ : (Mine.hd.heap_39 w.params).In h₀) (N : News h₀ L s.heap news) (e : k.Is d mt nm o) (hx : (x, o) ∈ news) (hd : (d, oidsD hs t1 T) ∈ news)
    (h : Q (.ref T) s) : wpAny (model PG w) A (call (.builtin "getattr") [.ref x, .str (Str.ofString "oids") t, dflt]) Q E s := by
  have I := e.inst N hx hd
  have X := X₀.keeps F.keep
  have hf : findObj (Mine.hd.heap_39 w.params) k.cls.1 (some (oidsD hs t1 T)) (Str.ofString "oids") = some (.value (.ref T)) :=
    findObj_own (ecls_of k).dict (ecls_of k).oids (by rfl) (by rfl)
  exact m_getattr3 X I (ecls_of k).nomod (by decide +kernel) (m_try_val (s := s) X I (plainGet_of ((ecls_of k).get (Str.ofString "oids"))).1 hf rfl h)

theorem e_oids_set {v : Value} {es es' : List DictEntry} {n n' : Nat} {g : Obj → List (Addr × Obj)} {Q : Unit → Shared → Prop} (F : Fr h₀ L s.heap m) (X₀ : (Mine.hd.heap_39 w.params).In h₀) (N : News h₀ L s.heap news) (e : k.Is d mt nm o) (hx : (x, o) ∈ news)
    (U : UpdF d (dictOf es n) news g) (hl : (getL (Str.ofString "oids") es).isSome = true) (hz : es'.length ≤ 1000)
    (hp : (putL (Str.ofString "oids") (PyData.keyHash w.params (Str.ofString "oids")) (.str (Str.ofString "oids") (s.toks + 1)) v es, putN (Str.ofString "oids") es n) = (es', n'))
    (h : ∀ h', Fr h₀ L h' m → News h₀ L h' (g (dictOf es' n')) → Q () { s with heap := h', toks := s.toks + 2 }) : wpAny (model PG w) A (setAttr (.ref x) (Str.ofString "oids") v) Q E s := by
  have I := e.inst N hx (updF_mem U)
  obtain ⟨pre, post, rfl, hg, a, b⟩ := U.split
  obtain ⟨e1, e2⟩ := Prod.mk.inj hp
  have ht : takerIn (Mine.hd.heap_39 w.params) k.cls.1 (Str.ofString "oids") = some none := by
    unfold takerIn
    have hoids := (ecls_of (w := w) k).oids
    rw [hoids]; rfl
  exact set_plain (X₀.keeps F.keep) I (ecls_of k).setat (osa_dict (s := { s with toks := s.toks + 1 }) F N (X₀.keeps F.keep) I e.obj.2.1 (ecls_of k).over ht (ecls_of k).dict hl a b (by rw [putName_dict, e1, e2]) rfl hz fun h' F' N' => h h' F' (by rw [hg]; exact N'))

theorem e_um {pl : Sem Bool} {od : List DictEntry} {n : Nat} {Q : Value × List Value → Shared → Prop} (F : Fr h₀ L s.heap m) (X₀ : (Mine.hd.heap_39 w.params).In h₀) (N : News h₀ L s.heap news) (e : k.Is d mt nm o) (hx : (x, o) ∈ news) (hd : (d, dictOf od n) ∈ news)
    (hl : getL (Str.ofString "_uncached_match") od = some none) (h : Q (.ref k.cls.2.1, [.ref x]) s) : wpAny (model PG w) A (getMethod (.ref x) "_uncached_match" pl) Q E s :=
  method_inst F X₀ (e.inst N hx hd) ((ecls_of k).get _) (ecls_of k).meth (ecls_of k).methf hl h
end
-- Mdef
/-- no address stands twice -/
def Sep (l : List (Addr × Obj)) : Prop := (l.map (·.1)).Nodup
theorem sep_perm {l l' : List (Addr × Obj)} (h : Sep l) (p : l.Perm l') : Sep l' := ((p.map (fun q : Addr × Obj => q.1)).nodup_iff).mp h
theorem sep_set {pre post : List (Addr × Obj)} {d : Addr} {o o' : Obj} (h : Sep (pre ++ (d, o) :: post)) : Sep (pre ++ (d, o') :: post) := by
  unfold Sep at h ⊢
  simpa using h
theorem sep_off {pre post : List (Addr × Obj)} {d : Addr} {o : Obj} (h : Sep (pre ++ (d, o) :: post)) : (∀ p ∈ pre, p.1 ≠ d) ∧ ∀ p ∈ post, p.1 ≠ d := by
  unfold Sep at h
  rw [List.map_append, List.map_cons, List.nodup_append] at h
  obtain ⟨_, h2, h3⟩ := h
  refine ⟨fun p hp => h3 p.1 (List.mem_map_of_mem hp) d (.head _), fun p hp e => ?_⟩
  rw [List.nodup_cons] at h2
  exact h2.1 (List.mem_map.mpr ⟨p, hp, e⟩)
theorem updF_of {pre post : List (Addr × Obj)} {d : Addr} {o : Obj} (h : ∀ p ∈ pre, p.1 ≠ d) (h2 : ∀ p ∈ post, p.1 ≠ d) : UpdF d o (pre ++ (d, o) :: post) (fun o' => pre ++ (d, o') :: post) := by
  induction pre with
  | nil => exact .head h2
  | cons a r ih => exact .tail (h a (.head _)) (ih fun p hp => h p (.tail _ hp))
theorem updF_sep {pre post : List (Addr × Obj)} {d : Addr} {o : Obj} (h : Sep (pre ++ (d, o) :: post)) : UpdF d o (pre ++ (d, o) :: post) (fun o' => pre ++ (d, o') :: post) := updF_of (sep_off h).1 (sep_off h).2
theorem sep_push {l : List (Addr × Obj)} {a : Addr} {o : Obj} (h : Sep l) (ha : ∀ p ∈ l, p.1 < a) : Sep ((a, o) :: l) := by
  unfold Sep
  rw [List.map_cons, List.nodup_cons]
  refine ⟨fun e => ?_, h⟩
  obtain ⟨p, hp, e⟩ := List.mem_map.mp e
  exact absurd (ha p hp) (by rw [e]; exact Nat.lt_irrefl _)
theorem sep_sub {l l' : List (Addr × Obj)} (h : Sep l) (s : l'.Sublist l) : Sep l' := List.Nodup.sublist (s.map _) h

/-- the exception that is handled around stands in the ledger -/
def HandL (A : Around) (led : List (Addr × Obj)) : Prop := A.handled = none ∨ ∃ a o vs, A.handled = some (.ref a) ∧ (a, o) ∈ led ∧ o.data = .fields vs ∧ vs[2]? = some .none
theorem handL_ok {A : Around} {h₀ h : Heap} {L : Addr} {led : List (Addr × Obj)} (H : HandL A led) (N : News h₀ L h led) : HandOK A h := by
  rcases H with hh | ⟨a, o, vs, hh, ha, hd, h2⟩
  · exact .inl hh
  · exact .inr ⟨a, o, vs, hh, (N _ ha).1, hd, h2⟩
theorem handL_mono {A : Around} {led led' : List (Addr × Obj)} (H : HandL A led) (s : ∀ p ∈ led, p ∈ led') : HandL A led' := by
  rcases H with hh | ⟨a, o, vs, hh, ha, hd, h2⟩
  · exact .inl hh
  · exact .inr ⟨a, o, vs, hh, s _ ha, hd, h2⟩

theorem handL_there {A : Around} {h₀ h : Heap} {L : Addr} {led : List (Addr × Obj)} (H : HandL A led) (N : News h₀ L h led) : ∀ a, A.handled = some (.ref a) → (h.get? a).isSome = true := by
  intro a ha
  rcases H with hh | ⟨a', o, vs, hh, hm, _⟩
  · rw [hh] at ha; cases ha
  · rw [hh] at ha
    have e : a' = a := by injection ha with ha; injection ha
    subst e
    rw [(N _ hm).1]; rfl
theorem handL_ne {A : Around} {led : List (Addr × Obj)} {I : Addr} (H : HandL A led) (hI : ∀ p ∈ led, p.1 < I) : ∀ a, A.handled = some (.ref a) → a ≠ I := by
  intro a ha
  rcases H with hh | ⟨a', o, vs, hh, hm, _⟩
  · rw [hh] at ha; cases ha
  · rw [hh] at ha
    have e : a' = a := by injection ha with ha; injection ha
    subst e
    exact Nat.ne_of_lt (hI _ hm)

/-- as Run, where the ledger may turn; H is the part of it that stays and holds what is handled -/
def RunM (w : World) (f : Addr) (args : List Value) (kw : List (Str × Value)) (dN uN : Nat) (H pre : List (Addr × Obj)) (Post : Value → List (Addr × Obj) → Prop) : Prop :=
  ∀ (A : Around) (h₀ : Heap) (L : Addr) (m : Str → Option Value) (s : Shared) (R : Result → Shared → Prop),
    Amb w A h₀ L → HandL A H → Fr h₀ L s.heap m → News h₀ L s.heap pre → Sep pre → A.depth + dN ≤ 600 → A.units + uN ≤ 9000 →
    (∀ v led h' tk', Fr h₀ L h' m → News h₀ L h' led → Sep led → Post v led → R (.ok (.ret v)) { s with heap := h', toks := tk' }) →
    codeAny (model PG w) A (.call (.ref f) ⟨args, kw⟩) R s

/-- a ParseError's __dict__ -/
def IsErr (w : World) (tx : Str) (oe : Obj) (eP : Int) (eV : Value) : Prop :=
  ∃ a b c t1 t2 t3 t4 t5, oe = dictOf [⟨a, .str (Str.ofString "text") t1, .str tx t2⟩, ⟨b, .str (Str.ofString "pos") t3, .int eP t4⟩, ⟨c, .str (Str.ofString "expr") t5, eV⟩] 3
def EF.all (Y : Addr → Prop) : EF → Prop
  | .nil => True
  | .cons _ x _ _ _ nm kids rest => (Y x ∧ nm.length ≤ 100) ∧ kids.all Y ∧ rest.all Y

/-- where matching stands -/
structure MSt (w : World) (b : Nat) (tx : Str) (c : Addr) (Y : Addr → Prop) (F : EF) (nf : Nat) (oc : Obj) (C : List (Int × Value)) (oe : Obj) (M loc S : List (Addr × Obj)) : Prop where
  dict : oc.IsDictOf (intKind PG w) C
  cok : COK c C
  err : ∃ eP eV, IsErr w tx oe eP eV ∧ -1 ≤ eP ∧ eP ≤ tx.length ∧ (eV = .none ∨ ∃ y, eV = .ref y ∧ Y y)
  muts : Muts w b tx c C S F nf M
  room : C.length + nf ≤ 1000
  rows : Rows C (M ++ loc)

/-- what matching leaves of the ledger -/
def MPost (w : World) (b : Nat) (tx : Str) (c ed : Addr) (Y : Addr → Prop) (F : EF) (nf : Nat) (C : List (Int × Value)) (led loc S : List (Addr × Obj)) (r : Option PF) (v : Value) (led' : List (Addr × Obj)) : Prop :=
  ∃ oc' C' oe' nf' M' N', led' = (c, oc') :: (ed, oe') :: (M' ++ (N' ++ loc)) ∧ MSt w b tx c Y F nf' oc' C' oe' M' (N' ++ loc) (N' ++ S) ∧ Grow C C' ∧ C'.length + nf' = C.length + nf ∧ Res tx (N' ++ S) r v ∧ ∀ a ∈ led.map (·.1), a ∈ led'.map (·.1)

/-- what does not turn while the expressions are matched -/
structure MCtx (w : World) (tx : Str) (c ee ed : Addr) (eo : Obj) (Y : Addr → Prop) (led loc : List (Addr × Obj)) : Prop where
  lo : (c == sysModules) = false
  eis : ∃ vs, eo = ⟨.ref 179, some ed, .fields vs, #[]⟩
  em : (ee, eo) ∈ loc
  ys : ∀ y, Y y → ∃ k d mt nm o, EK.Is k d mt nm o ∧ (y, o) ∈ loc ∧ d ∈ led.map (·.1)
  len : tx.length ≤ 5
  nolimit : True

/-- match_core of the expression -/
def MC (w : World) (dN uN : Nat) (k : EK) (x d : Addr) (o : Obj) (mt : Addr) (nm : Str) (kids : EF) : Prop :=
  ∀ (b : Nat) (tx : Str) (c ee ed : Addr) (eo : Obj) (Y : Addr → Prop) (nf : Nat) (oc : Obj) (C : List (Int × Value)) (oe : Obj) (M loc S H : List (Addr × Obj)) (tkx tkp : Tok) (p : Nat),
    MCtx w tx c ee ed eo Y ((c, oc) :: (ed, oe) :: (M ++ loc)) loc → MSt w b tx c Y (.cons k x d o mt nm kids .nil) nf oc C oe M loc S → (EF.cons k x d o mt nm kids .nil).all Y → (EF.cons k x d o mt nm kids .nil).wf → (∀ q ∈ (EF.cons k x d o mt nm kids .nil).stat, q ∈ loc) → p ≤ tx.length → (∀ q ∈ H, q ∈ loc) → (∀ q ∈ S, q ∈ loc) →
    RunM w 266 [.ref x, .str tx tkx, .int p tkp, .ref c, .ref ee] [] dN uN H ((c, oc) :: (ed, oe) :: (M ++ loc)) (MPost w b tx c ed Y (.cons k x d o mt nm kids .nil) nf C ((c, oc) :: (ed, oe) :: (M ++ loc)) loc S (k.run tx x nm (kids.pegs tx) p))

/-- _uncached_match of the expression: the members turn, the expression itself does not -/
def UM (w : World) (dN uN : Nat) (k : EK) (x d : Addr) (o : Obj) (mt : Addr) (nm : Str) (kids : EF) : Prop :=
  ∀ (b : Nat) (tx : Str) (c ee ed : Addr) (eo : Obj) (Y : Addr → Prop) (nf : Nat) (oc : Obj) (C : List (Int × Value)) (oe : Obj) (M loc S H : List (Addr × Obj)) (tkx tkp : Tok) (p : Nat),
    MCtx w tx c ee ed eo Y ((c, oc) :: (ed, oe) :: (M ++ loc)) loc → MSt w b tx c Y kids nf oc C oe M loc S → (EF.cons k x d o mt nm kids .nil).all Y → (EF.cons k x d o mt nm kids .nil).wf → (∀ q ∈ (EF.cons k x d o mt nm kids .nil).stat, q ∈ loc) → (∃ od, (d, od) ∈ loc) → p ≤ tx.length → (∀ q ∈ H, q ∈ loc) → (∀ q ∈ S, q ∈ loc) →
    RunM w k.cls.2.1 [.ref x, .str tx tkx, .int p tkp, .ref c, .ref ee] [] dN uN H ((c, oc) :: (ed, oe) :: (M ++ loc)) (MPost w b tx c ed Y kids nf C ((c, oc) :: (ed, oe) :: (M ++ loc)) loc S (k.run tx x nm (kids.pegs tx) p))
-- McH
/-- after the look-up of the row: the row r is at hand -/
def Cut1 (w : World) (b : Nat) (tx : Str) (c ed : Addr) (f : PegF) (d : Addr) (n1 : Nat) (C : List (Int × Value)) (oe : Obj) (Mk loc S led : List (Addr × Obj)) (g : Heap) (L : Addr) (m0 : Str → Option Value) (s s1 : Shared) : Prop :=
  ∃ h1 tk1 oc' C' T P i ti t r orow olds memo vo N1 led1, s1 = { s with heap := h1, toks := tk1 } ∧ Fr g L h1 (fun y => if y = Str.ofString "expr_cache" then some (.ref r) else if y = Str.ofString "oid" then vo else m0 y) ∧
    led1 = (c, oc') :: (ed, oe) :: (d, oidsD (PyData.keyHash w.params (Str.ofString "oids")) t T) :: (T, tupO (.ref P :: olds) 0) :: (P, tupO [.int i ti, .ref r] 0) :: (r, orow) :: (Mk ++ (N1 ++ loc)) ∧ News g L h1 led1 ∧ Sep led1 ∧
    oc'.IsDictOf (intKind PG w) C' ∧ COK c C' ∧ Grow C C' ∧ C'.length = C.length + n1 ∧ valueAt C' i = some (.ref r) ∧ orow.IsDictOf (intKind PG w) memo ∧ (r == sysModules) = false ∧ MemoOK tx S f memo ∧ olds.length ≤ b ∧ Rows C' ((d, oidsD (PyData.keyHash w.params (Str.ofString "oids")) t T) :: (T, tupO (.ref P :: olds) 0) :: (P, tupO [.int i ti, .ref r] 0) :: (r, orow) :: (Mk ++ (N1 ++ loc))) ∧ ∀ a ∈ led.map (·.1), a ∈ led1.map (·.1)

theorem m_is_stale {w : World} {A : Around} {E : Value → Shared → Prop} {s : Shared} {c r0 : Addr} {C : List (Int × Value)} {i0 : Int} {h₀ : Heap} {L : Addr} {oz : Obj} {news led : List (Addr × Obj)} {Q : Value → Shared → Prop} (hc : COK c C) (hr : Rows C led) (hs : ∀ p ∈ led, p ∈ news) (N : News h₀ L s.heap news) (h0 : (r0, oz) ∈ news) (lt : @LT.lt Nat _ r0 c) (h : Q (.bool false) s) :
    wpAny (model PG w) A (compareOp .Is ((valueAt C i0).getD .none) (.ref r0)) Q E s := by
  cases e : valueAt C i0 with
  | none => exact wpAny_is_other (by rfl) (by intro x; cases x) h
  | some v =>
    obtain ⟨r, hv, hlt⟩ := hc.vals _ (valueAt_mem e)
    obtain ⟨r', o', hv', hm, hcl⟩ := hr _ (valueAt_mem e)
    dsimp only at hv hv'
    have e2 : r' = r := by rw [hv] at hv'; injection hv' with hv'; exact hv'.symm
    subst e2
    rw [hv]
    exact kto_is (N _ (hs _ hm)).1 (N _ h0).1 (Nat.ne_of_gt (Nat.lt_trans lt hlt)) (by rw [hcl]; exact fun x => absurd x (by decide)) h

theorem sep4 {h₀ h : Heap} {L a1 a2 a3 a4 : Addr} {o1 o2 o3 o4 : Obj} {l : List (Addr × Obj)} (_N : News h₀ L h ((a1, o1) :: (a2, o2) :: (a3, o3) :: (a4, o4) :: l)) (S : Sep l) (l4 : AllLt a4 l) (l3 : AllLt a3 ((a4, o4) :: l)) (l2 : AllLt a2 ((a3, o3) :: (a4, o4) :: l)) (l1 : AllLt a1 ((a2, o2) :: (a3, o3) :: (a4, o4) :: l)) :
    Sep ((a1, o1) :: (a2, o2) :: (a3, o3) :: (a4, o4) :: l) := sep_push (sep_push (sep_push (sep_push S (ktn_ltOf l4)) (ktn_ltOf l3)) (ktn_ltOf l2)) (ktn_ltOf l1)
theorem cut_sep {D3 D2 Tn Pn dN D1 c ed d : Addr} {o3 o2 oT oP oN o1 oc oe od : Obj} {N1 M2 loc : List (Addr × Obj)} (S : Sep ((D3, o3) :: (D2, o2) :: (Tn, oT) :: (Pn, oP) :: (dN, oN) :: (D1, o1) :: (c, oc) :: (ed, oe) :: (d, od) :: (N1 ++ (M2 ++ loc)))) :
    Sep ((c, oc) :: (ed, oe) :: (d, od) :: (D3, o3) :: (Pn, oP) :: (dN, oN) :: (M2 ++ (N1 ++ loc))) := by
  have S2 := sep_sub (l' := (D3, o3) :: (Pn, oP) :: (dN, oN) :: (c, oc) :: (ed, oe) :: (d, od) :: (N1 ++ (M2 ++ loc))) S (.cons₂ _ (.cons _ (.cons _ (.cons₂ _ (.cons₂ _ (.cons _ (.refl _)))))))
  refine sep_perm S2 ?_
  classical
  refine List.perm_iff_count.mpr fun q => ?_
  simp only [List.count_append, List.count_cons]
  omega
theorem cut_news {h₀ h : Heap} {L D3 D2 Tn Pn dN D1 c ed d : Addr} {o3 o2 oT oP oN o1 oc oe od : Obj} {N1 M2 loc : List (Addr × Obj)} (N : News h₀ L h ((D3, o3) :: (D2, o2) :: (Tn, oT) :: (Pn, oP) :: (dN, oN) :: (D1, o1) :: (c, oc) :: (ed, oe) :: (d, od) :: (N1 ++ (M2 ++ loc)))) :
    News h₀ L h ((c, oc) :: (ed, oe) :: (d, od) :: (D3, o3) :: (Pn, oP) :: (dN, oN) :: (M2 ++ (N1 ++ loc))) := newsSub N fun p hp => by
  simp only [List.mem_cons, List.mem_append] at hp ⊢
  rcases hp with h | h | h | h | h | h | h | h | h <;> simp [h]

theorem sep3 {h₀ h : Heap} {L a2 a3 a4 : Addr} {o2 o3 o4 : Obj} {l : List (Addr × Obj)} (_N : News h₀ L h ((a2, o2) :: (a3, o3) :: (a4, o4) :: l)) (S : Sep l) (l4 : AllLt a4 l) (l3 : AllLt a3 ((a4, o4) :: l)) (l2 : AllLt a2 ((a3, o3) :: (a4, o4) :: l)) :
    Sep ((a2, o2) :: (a3, o3) :: (a4, o4) :: l) := sep_push (sep_push (sep_push S (ktn_ltOf l4)) (ktn_ltOf l3)) (ktn_ltOf l2)
theorem cut3_sep {D2 Tn Pn dN D1 c ed d : Addr} {o2 oT oP oN o1 oc oe od : Obj} {M2 loc : List (Addr × Obj)} (S : Sep ((D2, o2) :: (Tn, oT) :: (Pn, oP) :: (dN, oN) :: (D1, o1) :: (c, oc) :: (ed, oe) :: (d, od) :: (M2 ++ loc))) :
    Sep ((c, oc) :: (ed, oe) :: (d, od) :: (Tn, oT) :: (Pn, oP) :: (dN, oN) :: (M2 ++ loc)) := by
  have S2 := sep_sub (l' := (Tn, oT) :: (Pn, oP) :: (dN, oN) :: (c, oc) :: (ed, oe) :: (d, od) :: (M2 ++ loc)) S (.cons _ (.cons₂ _ (.cons₂ _ (.cons₂ _ (.cons _ (.refl _))))))
  refine sep_perm S2 ?_
  classical
  refine List.perm_iff_count.mpr fun q => ?_
  simp only [List.count_append, List.count_cons]
  omega
theorem cut3_news {h₀ h : Heap} {L D2 Tn Pn dN D1 c ed d : Addr} {o2 oT oP oN o1 oc oe od : Obj} {M2 loc : List (Addr × Obj)} (N : News h₀ L h ((D2, o2) :: (Tn, oT) :: (Pn, oP) :: (dN, oN) :: (D1, o1) :: (c, oc) :: (ed, oe) :: (d, od) :: (M2 ++ loc))) :
    News h₀ L h ((c, oc) :: (ed, oe) :: (d, od) :: (Tn, oT) :: (Pn, oP) :: (dN, oN) :: (M2 ++ loc)) := newsSub N fun p hp => by
  simp only [List.mem_cons, List.mem_append] at hp ⊢
  rcases hp with h | h | h | h | h | h | h | h <;> simp [h]
theorem rows_fresh {C : List (Int × Value)} {n : Int} {d D3 Pn dN : Addr} {od od' o3 oP oN : Obj} {N1 M2 loc : List (Addr × Obj)} (h : Rows C ((d, od) :: (N1 ++ (M2 ++ loc)))) (hd : od'.cls = .type "dict") (hN : oN.cls = .type "dict") :
    Rows (C ++ [(n, .ref dN)]) ((d, od') :: (D3, o3) :: (Pn, oP) :: (dN, oN) :: (M2 ++ (N1 ++ loc))) := fun p hp => by
  rcases List.mem_append.mp hp with hp | hp
  · obtain ⟨r, o, e, hm, hc⟩ := h p hp
    rcases List.mem_cons.mp hm with hm | hm
    · exact ⟨r, od', e, by rw [show r = d from congrArg Prod.fst hm]; exact .head _, hd⟩
    · refine ⟨r, o, e, .tail _ (.tail _ (.tail _ (.tail _ ?_))), hc⟩
      have hm2 : (r, o) ∈ N1 ∨ (r, o) ∈ M2 ∨ (r, o) ∈ loc := by simpa only [List.mem_append] using hm
      rcases hm2 with hm | hm | hm
      · exact List.mem_append_right _ (List.mem_append_left _ hm)
      · exact List.mem_append_left _ hm
      · exact List.mem_append_right _ (List.mem_append_right _ hm)
  · rw [List.mem_singleton.mp hp]
    exact ⟨dN, oN, rfl, .tail _ (.tail _ (.tail _ (.head _))), hN⟩
theorem isDict_cls {prog : Program} {w : World} {K : Type} [DecidableEq K] {knd : KeyKind prog w K} {o : Obj} {kvs : List (K × Value)} (h : o.IsDictOf knd kvs) : o.cls = .type "dict" := by
  obtain ⟨_, _, e, _⟩ := h
  exact e.1


/-- the node is at hand -/
def Cut2 (w : World) (b : Nat) (tx : Str) (c ed : Addr) (Y : Addr → Prop) (F : EF) (nf : Nat) (C : List (Int × Value)) (led loc S : List (Addr × Obj)) (rp : Option PF) (g : Heap) (L : Addr) (m0 : Str → Option Value) (s s2 : Shared) : Prop :=
  ∃ h2 tk2 v vo r led2, s2 = { s with heap := h2, toks := tk2 } ∧ Fr g L h2 (fun y => if y = Str.ofString "node" then some v else if y = Str.ofString "expr_cache" then some (.ref r) else if y = Str.ofString "oid" then vo else m0 y) ∧ News g L h2 led2 ∧ Sep led2 ∧ MPost w b tx c ed Y F nf C led loc S rp v led2
theorem stored_new {memo : List (Int × Value)} {k : Int} {v : Value} (h : valueAt memo k = none) : stored memo k v = memo ++ [(k, v)] := by
  unfold stored
  rw [if_neg]
  intro e
  rw [List.any_eq_true] at e
  obtain ⟨p, hp, hq⟩ := e
  unfold valueAt at h
  have hn : memo.find? (fun kv => kv.1 = k) = none := by simpa using h
  exact absurd hq (by simpa using List.find?_eq_none.mp hn p hp)
theorem stored_last {memo : List (Int × Value)} {k : Int} {u v : Value} (h : valueAt memo k = none) : stored (memo ++ [(k, u)]) k v = memo ++ [(k, v)] := by
  unfold stored
  have hn : memo.find? (fun kv => kv.1 = k) = none := by unfold valueAt at h; simpa using h
  rw [if_pos (by simp), List.map_append]
  congr 1
  · refine (List.map_congr_left fun p hp => ?_).trans (List.map_id _)
    rw [if_neg]; · rfl
    · exact of_decide_eq_false (by simpa using List.find?_eq_none.mp hn p hp)
  · simp
theorem nodup_len : ∀ (l l' : List Int), l.Nodup → (∀ k ∈ l, k ∈ l') → l.length ≤ l'.length
  | [], _, _, _ => Nat.zero_le _
  | a :: r, l', hn, hs => by
    rw [List.nodup_cons] at hn
    have ha := hs a (.head _)
    have h1 := nodup_len r (l'.erase a) hn.2 (fun k hk => (List.mem_erase_of_ne (a := k) (b := a) (fun (e : k = a) => hn.1 (by rw [← e]; exact hk))).mpr (hs k (.tail _ hk)))
    have h2 := List.length_erase_of_mem ha
    have h3 := List.length_pos_of_mem ha
    simp only [List.length_cons]
    omega
theorem memo_len {tx : Str} {S : List (Addr × Obj)} {f : PegF} {memo : List (Int × Value)} (h : MemoOK tx S f memo) (hn : (memo.map (·.1)).Nodup) (hl : tx.length ≤ 5) : memo.length ≤ 6 := by
  have hs : ∀ k ∈ memo.map (·.1), k ∈ [(0 : Int), 1, 2, 3, 4, 5] := fun k hk => by
    obtain ⟨p, hp, rfl⟩ := List.mem_map.mp hk
    obtain ⟨n, e, hle, _⟩ := h p hp
    rw [e]
    have : n ≤ 5 := Nat.le_trans hle hl
    simp; omega
  have := nodup_len _ _ hn hs
  simpa using this

theorem perm_in {a b e1 e2 e3 e4 : Addr × Obj} {M R : List (Addr × Obj)} : (a :: b :: e1 :: e2 :: e3 :: e4 :: (M ++ R)).Perm (a :: b :: (M ++ (e1 :: e2 :: e3 :: e4 :: R))) := by
  classical
  refine List.perm_iff_count.mpr fun q => ?_
  simp only [List.count_append, List.count_cons]
  omega
theorem perm_out {a b e1 e2 e3 e4 : Addr × Obj} {M N R : List (Addr × Obj)} : (a :: b :: (M ++ (N ++ (e1 :: e2 :: e3 :: e4 :: R)))).Perm (a :: b :: e1 :: e2 :: e3 :: e4 :: (M ++ (N ++ R))) := by
  classical
  refine List.perm_iff_count.mpr fun q => ?_
  simp only [List.count_append, List.count_cons]
  omega
theorem isDict_nodup {prog : Program} {w : World} {K : Type} [DecidableEq K] {knd : KeyKind prog w K} {o : Obj} {kvs : List (K × Value)} (h : o.IsDictOf knd kvs) : (kvs.map (·.1)).Nodup := by
  obtain ⟨_, _, _, _, _, _, e⟩ := h
  exact e

theorem runM_call {w : World} {f : Addr} {args : List Value} {kw : List (Str × Value)} {dN uN : Nat} {H pre : List (Addr × Obj)} {Post : Value → List (Addr × Obj) → Prop} {A : Around} {h₀ : Heap} {L : Addr} {m : Str → Option Value} {s : Shared} {R : Result → Shared → Prop}
    (h : RunM w f args kw dN uN H pre Post) (ha : Amb w A h₀ L) (hH : HandL A H) (F : Fr h₀ L s.heap m) (N : News h₀ L s.heap pre) (S : Sep pre) (hd : A.depth + dN ≤ 600) (hu : A.units + uN ≤ 9000)
    (k : ∀ v led h' tk', Fr h₀ L h' m → News h₀ L h' led → Sep led → Post v led → R (.ok (.ret v)) { s with heap := h', toks := tk' }) : codeAny (model PG w) A (.call (.ref f) ⟨args, kw⟩) R s := h A h₀ L m s R ha hH F N S hd hu k

theorem res_val {tx : Str} {S : List (Addr × Obj)} {r : Option PF} {v : Value} (h : Res tx S r v) : v = .none ∨ ∃ a oa, v = .ref a ∧ (a, oa) ∈ S ∧ oa.cls = .ref 99 := by
  cases r with
  | none => exact .inl h
  | some F =>
    obtain ⟨_, hn⟩ := h
    cases hn with
    | cons h1 _ _ _ _ => exact .inr ⟨_, _, rfl, h1, rfl⟩
-- ErrT
theorem be_entry : entryFor table "BaseException.__getattribute__" = some Builtin.«object.__getattribute__» :=
  entryFor_alias (id' := "object.__getattribute__") (by kernel_rfl) (by decide +kernel) (by decide +kernel) (by kernel_rfl)
theorem be_plain : plainId "BaseException.__getattribute__" = true := by decide +kernel
theorem be_kind : builtinKind "BaseException.__getattribute__" = some .slot := by decide +kernel
theorem be_split : splitId "BaseException.__getattribute__" = some ("BaseException", "__getattribute__") := by decide +kernel
theorem be_args (a b : Value) : argsOk "BaseException.__getattribute__" ⟨[a, b], []⟩ := by unfold argsOk; kernel_rfl
section
variable {w : World} {A : Around} {E : Value → Shared → Prop} {s : Shared} {ee ed L : Addr} {vs : Array Value} {h₀ : Heap} {m : Str → Option Value} {news : List (Addr × Obj)} {es es' : List DictEntry} {n n' : Nat} {name : Str}
theorem err_inst {oe : Obj} (N : News h₀ L s.heap news) (hm : (ee, (⟨.ref 179, some ed, .fields vs, #[]⟩ : Obj)) ∈ news) (hd : (ed, oe) ∈ news) : InstAt s.heap ee ⟨.ref 179, some ed, .fields vs, #[]⟩ 179 (some oe) := ⟨(N _ hm).1, rfl, rfl, (N _ hd).1⟩
theorem err_get {v : Value} {expr : Bool} {Q : Value → Shared → Prop} (F : Fr h₀ L s.heap m) (X₀ : (Mine.hd.heap_39 w.params).In h₀) (N : News h₀ L s.heap news) (hm : (ee, (⟨.ref 179, some ed, .fields vs, #[]⟩ : Obj)) ∈ news) (hd : (ed, dictOf es n) ∈ news)
    (hf : findObj (Mine.hd.heap_39 w.params) 179 (some (dictOf es n)) name = some (.value v)) (hv : handedIn v = true) (h : Q v { s with toks := s.toks + 1 }) : wpAny (model PG w) A (getAttr (.ref ee) name expr) Q E s := by
  have I := err_inst N hm hd
  have X := X₀.keeps F.keep
  obtain ⟨hh, g, dd, tk, os⟩ := s
  have L0 := I.type (M := model PG w)
  have L1 := looks_findIn (M := model PG w) X (show findIn (Mine.hd.heap_39 w.params) (.ref 179) "__getattribute__" = some (some (.builtin "BaseException.__getattribute__")) by kernel_rfl)
  have L2 := looks_findIn (M := model PG w) X (show findIn (Mine.hd.heap_39 w.params) (.ref 179) "__getattr__" = some none by kernel_rfl)
  have L3 := looks_find (M := model PG w) X I hf
  have Lb : Looks (model PG w) hh (isInstance (.ref ee) (.type "BaseException")) true := L0.andThen (looks_mroIn X (by kernel_rfl))
  unfold getAttr getAttrBy
  refine wpAny_bind (wpAny_mkText (wpAny_holding (wpAny_bind (L0.at (wpAny_bind (L1.at ?_))))))
  show wpAny _ _ (getAttrByItsOwn _ _ _ _ _ _) _ _ _
  unfold getAttrByItsOwn hookBefore
  rw [if_pos (by rfl)]
  refine wpAny_bind (L2.at ?_)
  refine wpAny_bind (wpAny_attempt (wpAny_holding ?_))
  unfold callGetattribute boundAndCalled
  rw [if_neg (by cases expr <;> exact Bool.false_ne_true)]
  refine wpAny_bind (wpAny_of_eq (a := (.builtin "BaseException.__getattribute__", [.ref ee])) (by kernel_rfl) ?_)
  refine wpAny_call (codeAny_call_builtin be_plain be_entry (@check_slot (model PG w) _ _ _ "BaseException.__getattribute__" "BaseException" "__getattribute__" (.ref ee) [.str name tk] [] _ be_kind be_split Lb (be_args _ _) ?_))
  unfold Builtin.«object.__getattribute__»
  refine wpAny_bind (wpAny_of_eq (a := (.ref ee, [.str name tk])) (by first | rfl | kernel_rfl) ?_)
  dsimp only
  refine wpAny_bind (wpAny_of_eq (a := name) (by first | rfl | kernel_rfl) ?_)
  refine wpAny_bind (L0.at (wpAny_bind (L3.at ?_)))
  refine wpAny_pure ?_
  dsimp only
  rw [handedOut_of hv]
  exact wpAny_pure h
theorem e179_set : findIn (Mine.hd.heap_39 w.params) (.ref 179) "__setattr__" = some (some (.builtin "object.__setattr__")) := by kernel_rfl
theorem err_passes (x : Value) : refuseLoop x "__setattr__" [.ref 179, .ref 123, .ref 137, .type "Exception", .type "BaseException", .type "object"] = pure () := by
  rw [refuseLoop_ref, refuseLoop_ref, refuseLoop_ref]
  first
    | rfl
    | kernel_rfl
theorem err_cls : ∃ cd, clsIn (Mine.hd.heap_39 w.params) 179 = some cd ∧ cd.mro = [.ref 179, .ref 123, .ref 137, .type "Exception", .type "BaseException", .type "object"] ∧ cd.hasDict = true := by
  have h1 : (clsIn (Mine.hd.heap_39 w.params) 179).map (·.mro) = some [.ref 179, .ref 123, .ref 137, .type "Exception", .type "BaseException", .type "object"] := by kernel_rfl
  have h2 : (clsIn (Mine.hd.heap_39 w.params) 179).map (·.hasDict) = some true := by kernel_rfl
  cases e : clsIn (Mine.hd.heap_39 w.params) 179 with
  | none => rw [e] at h1; cases h1
  | some cd =>
    rw [e] at h1 h2
    exact ⟨cd, rfl, Option.some.inj h1, Option.some.inj h2⟩
theorem err_set {v : Value} {g : Obj → List (Addr × Obj)} {Q : Unit → Shared → Prop} (F : Fr h₀ L s.heap m) (X₀ : (Mine.hd.heap_39 w.params).In h₀) (N : News h₀ L s.heap news) (hm : (ee, (⟨.ref 179, some ed, .fields vs, #[]⟩ : Obj)) ∈ news)
    (U : UpdF ed (dictOf es n) news g) (ha : findIn (Mine.hd.heap_39 w.params) (.ref 179) name = some none) (hl : (!es.any (·.key.isStr name) && es.any (·.refKey)) = false) (hz : es'.length ≤ 1000)
    (hp : (putL name (PyData.keyHash w.params name) (.str name (s.toks + 1)) v es, putN name es n) = (es', n'))
    (h : ∀ h', Fr h₀ L h' m → News h₀ L h' (g (dictOf es' n')) → Q () { s with heap := h', toks := s.toks + 2 }) : wpAny (model PG w) A (setAttr (.ref ee) name v) Q E s := by
  have I := err_inst N hm (updF_mem U)
  obtain ⟨pre, post, rfl, hg, a, b⟩ := U.split
  obtain ⟨e1, e2⟩ := Prod.mk.inj hp
  have X := X₀.keeps F.keep
  obtain ⟨cd, hc, hmro, hdict⟩ := err_cls (w := w)
  obtain ⟨hh, gg, dd, tk, os⟩ := s
  dsimp only at I X N F hp e1 h
  have SF := PySem.F.store_object
  have sub : Looks (model PG w) hh (isInstance (.ref ee) (.type "object")) true := I.type.andThen (looks_mroIn X (by kernel_rfl))
  have hmr : Looks (model PG w) hh (mroOf (.ref 179)) cd.mro := (looks_clsIn X hc).andThen .now
  refine set_plain X I e179_set ?_
  refine codeAny_call_builtin SF.slot.plain SF.entry (@check_slot (model PG w) _ _ _ "object.__setattr__" "object" "__setattr__" (.ref ee) [.str name tk, v] [] _ SF.kind SF.split sub (SF.args (.ref ee) (.str name tk) v) ?_)
  rw [osa_eq, refuse_eq]
  refine wpAny_bind (wpAny_bind (I.type.at (wpAny_bind (hmr.at ?_))))
  rw [hmro, err_passes]
  refine wpAny_pure (wpAny_bind (I.type.at (wpAny_bind ((looks_findIn X ha).at (wpAny_bind (wpAny_pure ?_))))))
  have D := (N (ed, dictOf es n) (by simp)).1
  have hput : Obj.putName name (PyData.keyHash w.params name) (.str name (tk + 1)) v (dictOf es n) = dictOf es' n' := by rw [putName_dict, e1, e2]
  obtain ⟨U1, U2⟩ := news_upd (f := Obj.putName name (PyData.keyHash w.params name) (.str name (tk + 1)) v) F N a b hput rfl
  have D' := (U2 (ed, dictOf es' n') (by simp)).1
  refine wpAny_bind (wpAny_pure (wpAny_bind (wpAny_bind (wpAny_loadPart I.at_ (wpAny_bind ((looks_clsIn X hc).at ?_))))))
  rw [hdict]
  refine wpAny_pure (a := some ed) (wpAny_bind (wpAny_pure (wpAny_bind ?_)))
  unfold nsSet
  refine wpAny_bind (wpAny_bind (wpAny_askSetting (wpAny_pure (wpAny_bind (wpAny_mkText (wpAny_bind (wpAny_loadPart D ?_)))))))
  dsimp only
  rw [aRefKeyMayBeTheName_at]
  have hl2 : (!es.toArray.any (·.key.isStr name) && es.toArray.any (·.refKey)) = false := by
    rw [← Array.any_toList, ← Array.any_toList]; exact hl
  rw [hl2, if_neg Bool.false_ne_true]
  refine wpAny_updatePart D ?_
  refine wpAny_bind (wpAny_lookBehind D' (pastItsLine_dict (by rw [List.size_toArray, sizeLine_eq]; omega)) ?_)
  exact wpAny_pure (h _ U1 (by rw [hg]; exact U2))
theorem err_pos {q1 q2 q3 : Int} {u1 u3 u5 : Tok} {v1 v2 v3 : Value} : findObj (Mine.hd.heap_39 w.params) 179 (some (dictOf [⟨q1, .str (Str.ofString "text") u1, v1⟩, ⟨q2, .str (Str.ofString "pos") u3, v2⟩, ⟨q3, .str (Str.ofString "expr") u5, v3⟩] 3)) (Str.ofString "pos") = some (.value v2) := by kernel_rfl
theorem err_expr {q1 q2 q3 : Int} {u1 u3 u5 : Tok} {v1 v2 v3 : Value} : findObj (Mine.hd.heap_39 w.params) 179 (some (dictOf [⟨q1, .str (Str.ofString "text") u1, v1⟩, ⟨q2, .str (Str.ofString "pos") u3, v2⟩, ⟨q3, .str (Str.ofString "expr") u5, v3⟩] 3)) (Str.ofString "expr") = some (.value v3) := by kernel_rfl
theorem err_nopos : findIn (Mine.hd.heap_39 w.params) (.ref 179) (Str.ofString "pos") = some none := by kernel_rfl
theorem err_noexpr : findIn (Mine.hd.heap_39 w.params) (.ref 179) (Str.ofString "expr") = some none := by kernel_rfl
end

theorem muts_d {w : World} {b : Nat} {tx : Str} {c : Addr} {C : List (Int × Value)} {S : List (Addr × Obj)} {k : EK} {x d : Addr} {o : Obj} {mt : Addr} {nm : Str} {kids rest : EF} {n : Nat} {M : List (Addr × Obj)} (h : Muts w b tx c C S (.cons k x d o mt nm kids rest) n M) : ∃ es i, (d, dictOf es i) ∈ M := by
  cases h with
  | cons h1 _ _ =>
    cases h1 with
    | fresh0 => exact ⟨_, _, List.mem_append_left _ (.head _)⟩
    | fresh1 _ _ _ => exact ⟨_, _, List.mem_append_left _ (.head _)⟩
    | live _ _ _ _ _ => exact ⟨_, _, List.mem_append_left _ (.head _)⟩

theorem e_name_try {w : World} {A : Around} {E : Value → Shared → Prop} {s : Shared} {x d mt L : Addr} {k : EK} {nm : Str} {o : Obj} {h₀ : Heap} {m : Str → Option Value} {news : List (Addr × Obj)} {t : Tok} {od : Obj} {Q : Option Value → Shared → Prop} (F : Fr h₀ L s.heap m) (X₀ : (Mine.hd.heap_39 w.params).In h₀) (N : News h₀ L s.heap news) (e : k.Is d mt nm o) (hx : (x, o) ∈ news) (hd : (d, od) ∈ news)
    (h : ∀ t, Q (some (.str nm t)) s) : wpAny (model PG w) A (getAttrBy? (.ref x) (.str (Str.ofString "name") t)) Q E s := by
  obtain ⟨p, a1, a2, a3, a4⟩ := (ecls_of (w := w) k).name
  obtain ⟨_, _, _, tn, hs⟩ := e.obj
  have I := e.inst N hx hd
  have X := X₀.keeps F.keep
  have hf := find_dataO (od := some od) (ecls_of (w := w) k).cls a1 a2 a3
  unfold getAttrBy?
  refine wpAny_bind (wpAny_attempt (m_open3 X I (plainGet_of ((ecls_of (w := w) k).get (Str.ofString "name"))).1 ?_))
  obtain ⟨hh', g, dd, tk, os⟩ := s
  have L0 := I.type (M := model PG w)
  have L1 := looks_find (M := model PG w) X I hf
  have L2 := looks_findIn (M := model PG w) X (plainGet_of ((ecls_of (w := w) k).get (Str.ofString "name"))).2
  refine wpAny_bind (wpAny_pure (wpAny_bind (L0.at (wpAny_bind (L1.at (wpAny_bind (L2.at ?_)))))))
  show wpAny _ _ (holding [.ref p] (call (.builtin "member_descriptor.__get__") [.ref p, .ref x, .ref k.cls.1]) >>= ret) _ _ _
  refine wpAny_bind (wpAny_holding (wpAny_call (slot_get X I a4 hs ?_)))
  refine wpAny_pure ?_
  show wpAny _ _ (handedOut _) _ _ _
  rw [handedOut_of rfl]
  exact wpAny_pure (wpAny_pure (h tn))
-- McL
theorem mc_of {w : World} {dN uN : Nat} {k : EK} {x d : Addr} {o : Obj} {mt : Addr} {nm : Str} {kids : EF} (hum : UM w dN uN k x d o mt nm kids) : MC w (dN + 8) (uN + 90) k x d o mt nm kids := by
  w_on
  intro b tx c ee ed eo Y nf oc C oe M loc S H tkx tkp ps ctx st hall hwf hstat hps hH hSl
  intro A h₀ L m s R hAmb hHL F N hS hdep hun hret
  obtain ⟨A₀, base, outer, env, p, loose, mean, mg, mb, B, X, T, hA, hf, hke, hrw⟩ := hAmb
  obtain ⟨hd, dp, fr, gd, un⟩ := A
  dsimp only at hA hdep hun
  subst hA
  revert X hrw
  k_fill
  intro X hrw
  clear hrw
  (k_dflt (refine' code_def (binds := [(Str.ofString "self", .ref x), (Str.ofString "text", .str tx tkx), (Str.ofString "pos", .int ps tkp), (Str.ofString "cache", .ref c), (Str.ofString "error", .ref ee)]) ?k1 ?k2 ?k3 ?k4 ?k5 ?kA ?kF ?kK ?k6 ?k7 ?k8 ?k9 ?kB ?_ ?c2 ?c3 ?c4 ?c5; (case kA => exact rfl); (case kF => first | exact rfl | assumption); (case kK => first | exact rfl | assumption); (case k1 => k_asm); (case k2 => k_asm); (case k3 => k_asm); (case k4 => k_asm); (case k5 => k_asm); (case k6 => k_is); (case k7 => k_is); (case k8 => k_room); (case k9 => first | exact BindsTo.of_eq rfl | exact binds_K (by k_in) rfl (by k_is) rfl rfl rfl); (case c5 => decide); (case kB => exact locs rfl); (case c2 => exact rfl); (case c3 => exact rfl); (case c4 => exact rfl); k_whole))
  intro g' L' h' FG' F' N' B' X' T'
  (try dsimp only [List.reverse, List.reverseAux] at F')
  repeat' (first | ((fail_if_success (with_reducible show wpAny _ _ (exec (PySem.Stmt.For _ _ _ _ _) _) _ _ _)); (first | (k_unfold; (try dsimp only)) | (k_end; wrow_close) | walk1 | (dsimp only; walk1) | (leave1; walk_say "STEP leave1"; try dsimp only) | fail "no step")))
  obtain ⟨hdict, hcok, herr, hmuts, hroom, hrows⟩ := st
  have hx : (x, o) ∈ loc := hstat _ (by cases k <;> simp [EF.stat])
  have hk : k.Is d mt nm o := hwf.1
  have hdp := (EF.cons k x d o mt nm kids .nil).pegs tx
  cases hmuts with
  | @cons _ _ _ _ _ _ _ _ n1 n2 n3 M1 M2 M3 hm1 hm2 hm3 =>
  cases hm3
  have hHR : HandL { handled := hd, depth := dp, frames := some (env :: outer), guards := gd, units := un } (M2 ++ loc) := handL_mono hHL (fun q hq => List.mem_append_right _ (hH q hq))
  rw [List.append_nil] at *
  refine wpAny_mono (Q := fun f s1 => f = .next ∧ Cut1 w b tx c ed (k.run tx x nm (kids.pegs tx)) d n1 C oe M2 loc S ((c, oc) :: (ed, oe) :: (M1 ++ M2 ++ loc)) g' L' (fun y => List.lookup y [(Str.ofString "error", Value.ref ee), (Str.ofString "cache", Value.ref c), (Str.ofString "pos", Value.int ps tkp), (Str.ofString "text", Value.str tx tkx), (Str.ofString "self", Value.ref x)]) s s1) (E := fun _ _ => False) ?loop ?rest (fun _ _ z => z.elim)
  case loop =>
    refine wpAny_For ?_
    cases hm1 with
    | @live T0 P0 i0 ti0 t0 r0 orow olds memo a1 a2 a3 a4 a5 =>
      simp only [List.cons_append, List.nil_append, List.append_assoc] at N' hS
      have hxR : (x, o) ∈ M2 ++ loc := List.mem_append_right _ hx
      repeat' (first | ((fail_if_success (with_reducible show wpAny _ _ (call (Value.builtin "getattr") _ _) _ _ _)); (first | (k_unfold; (try dsimp only)) | (k_end; wrow_close) | walk1 | (dsimp only; walk1) | (leave1; walk_say "STEP leave1"; try dsimp only) | fail "no step")))
      rename_i D1 hb Fb Nb lb
      refine e_oids_hit Fb X' Nb hk (by (repeat (first | exact hxR | refine List.Mem.tail _ ?_))) (by k_mem) ?_
      refine m_tpyIter Fb Nb (l := T0) (its := .ref P0 :: olds) (by k_mem) fun I h2 oI F2 N2 hI lt2 => ?_
      refine for_turn (m_tnext_item F2 N2 (l := T0) (its := .ref P0 :: olds) (by k_mem) rfl hI (.head fun p hp => Nat.ne_of_lt (lt2 p hp)) fun h3 oI3 F3 N3 hI3 => ?_)
      dsimp only
      refine m_owned_tit (N3 _ (.head _)).1 hI3 ?_
      have NR := newsSub (rest := M2 ++ loc) N3 fun q hq => by (repeat (first | exact hq | refine List.Mem.tail _ ?_))
      refine m_unpackT (items := #[.int i0 ti0, .ref r0]) (handL_ok hHR NR) (handL_there hHR NR) F3 N3 ⟨_, (N3 (P0, tupO [.int i0 ti0, .ref r0] 0) (by k_mem)).1, rfl, _, rfl⟩ rfl rfl fun h4 F4 N4 => ?_
      repeat' (first | ((fail_if_success (with_reducible show wpAny _ _ (getMethod _ _ _) _ _ _)); (first | (k_unfold; (try dsimp only)) | (k_end; wrow_close) | walk1 | (dsimp only; walk1) | (leave1; walk_say "STEP leave1"; try dsimp only) | fail "no step")))
      rename_i F5 N5
      refine kdg_method (knd := intKind _ _) N5 (o := oc) (by k_mem) hdict ?_
      repeat' (first | ((fail_if_success (with_reducible show wpAny _ _ (call (Value.builtin "dict.get") _ _) _ _ _)); (first | (k_unfold; (try dsimp only)) | (k_end; wrow_close) | walk1 | (dsimp only; walk1) | (leave1; walk_say "STEP leave1"; try dsimp only) | fail "no step")))
      refine kdg_get1 (knd := intKind _ _) N5 (o := oc) (by k_mem) hdict ctx.lo (intKind_is _ _ _ _) (some (.ref r0)) a1 ?_
      dsimp only [Option.getD]
      repeat' (first | ((first | (k_unfold; (try dsimp only)) | (k_end; wrow_close) | walk1 | (dsimp only; walk1) | (leave1; walk_say "STEP leave1"; try dsimp only) | fail "no step")))
      simp only [List.cons_append, List.nil_append] at hrows
      exact ⟨_, _, oc, C, T0, P0, i0, ti0, t0, r0, orow, olds, memo, some (.int i0 ti0), [], _, rfl, F5, rfl, newsSub N5 (fun q hq => .tail _ (.tail _ hq)), hS, hdict, hcok, .refl, rfl, a1, a2, a3, a4, a5, hrows, fun a ha => by simpa using ha⟩
    | @fresh1 T0 P0 i0 ti0 t0 r0 oz hb1 a1 a2 =>
      simp only [List.cons_append, List.nil_append] at N' hS hrows
      have hxR : (x, o) ∈ M2 ++ loc := List.mem_append_right _ hx
      repeat' (first | ((fail_if_success (with_reducible show wpAny _ _ (call (Value.builtin "getattr") _ _) _ _ _)); (first | (k_unfold; (try dsimp only)) | (k_end; wrow_close) | walk1 | (dsimp only; walk1) | (leave1; walk_say "STEP leave1"; try dsimp only) | fail "no step")))
      rename_i D1 hb Fb Nb lb
      refine e_oids_hit Fb X' Nb hk (by (repeat (first | exact hxR | refine List.Mem.tail _ ?_))) (by k_mem) ?_
      refine m_tpyIter Fb Nb (l := T0) (its := [.ref P0]) (by k_mem) fun I h2 oI F2 N2 hI lt2 => ?_
      refine for_turn (m_tnext_item F2 N2 (l := T0) (its := [.ref P0]) (by k_mem) rfl hI (.head fun p hp => Nat.ne_of_lt (lt2 p hp)) fun h3 oI3 F3 N3 hI3 => ?_)
      dsimp only
      refine m_owned_tit (N3 _ (.head _)).1 hI3 ?_
      have NR := newsSub (rest := M2 ++ loc) N3 fun q hq => by (repeat (first | exact hq | refine List.Mem.tail _ ?_))
      refine m_unpackT (items := #[.int i0 ti0, .ref r0]) (handL_ok hHR NR) (handL_there hHR NR) F3 N3 ⟨_, (N3 (P0, tupO [.int i0 ti0, .ref r0] 0) (by k_mem)).1, rfl, _, rfl⟩ rfl rfl fun h4 F4 N4 => ?_
      repeat' (first | ((fail_if_success (with_reducible show wpAny _ _ (getMethod _ _ _) _ _ _)); (first | (k_unfold; (try dsimp only)) | (k_end; wrow_close) | walk1 | (dsimp only; walk1) | (leave1; walk_say "STEP leave1"; try dsimp only) | fail "no step")))
      rename_i F5 N5
      refine kdg_method (knd := intKind _ _) N5 (o := oc) (by k_mem) hdict ?_
      repeat' (first | ((fail_if_success (with_reducible show wpAny _ _ (call (Value.builtin "dict.get") _ _) _ _ _)); (first | (k_unfold; (try dsimp only)) | (k_end; wrow_close) | walk1 | (dsimp only; walk1) | (leave1; walk_say "STEP leave1"; try dsimp only) | fail "no step")))
      refine kdg_get1 (knd := intKind _ _) N5 (o := oc) (by k_mem) hdict ctx.lo (intKind_is _ _ _ _) _ rfl ?_
      repeat' (first | ((fail_if_success (with_reducible show wpAny _ _ (compareOp _ _ _) _ _ _)); (first | (k_unfold; (try dsimp only)) | (k_end; wrow_close) | walk1 | (dsimp only; walk1) | (leave1; walk_say "STEP leave1"; try dsimp only) | fail "no step")))
      refine m_is_stale (r0 := r0) hcok hrows (fun q hq => by (repeat (first | exact hq | refine List.Mem.tail _ ?_))) N5 (by k_mem) a1 ?_
      repeat' (first | ((fail_if_success (with_reducible show wpAny _ _ (codeAny _ _ (Code.forLoop _ _ _ _ _) _ _) _ _ _)); (first | (k_unfold; (try dsimp only)) | (k_end; wrow_close) | walk1 | (dsimp only; walk1) | (leave1; walk_say "STEP leave1"; try dsimp only) | fail "no step")))
      refine for_turn (m_tnext_end (its := [.ref P0]) (rest := (D1, { cls := Value.type "tuple", data := Data.seq #[] }) :: (c, oc) :: (ed, oe) :: (d, _) :: (T0, tupO [.ref P0] 0) :: (P0, _) :: (r0, oz) :: (M2 ++ loc)) (handL_ok hHR (newsSub N5 fun q hq => by (repeat (first | exact hq | refine List.Mem.tail _ ?_)))) (handL_ne hHR fun q hq => lt2 _ (by (repeat (first | exact hq | refine List.Mem.tail _ ?_)))) F5 N5 (by k_mem) (Nat.le_refl _) hI3 (.head _) (fun q hq => .tail _ hq) (fun q hq => Nat.ne_of_lt (lt2 _ hq)) fun h6 F6 N6 => ?_)
      dsimp only
      repeat' (first | ((first | (k_unfold; (try dsimp only)) | (k_end; wrow_close) | walk1 | (dsimp only; walk1) | (leave1; walk_say "STEP leave1"; try dsimp only) | fail "no step")))
      rename_i dN h7 oN lo7 hs7 fs7 hi7 fi7 l7 h8 F8 N8
      have S8 : Sep _ := sep_push (a := dN) (o := oN) (sep_push (a := D1) (o := tupO [] 0) hS (ktn_ltOf lb)) (ktn_ltOf l7)
      refine kda_len (knd := intKind _ _) N8 (o := oc) (by k_mem) hdict ctx.lo (by omega) ?_
      refine kda_set (knd := intKind _ _) F8 N8 (updF_sep (pre := [(dN, oN), (D1, tupO [] 0)]) (d := c) (o := oc) S8) hdict (intKind_is _ _ _ _) (by rw [sizeLine_eq]; omega) fun h9 oc9 F9 N9 hd9 => ?_
      rw [stored_top hcok] at hd9
      have S9 : Sep _ := sep_set (pre := [(dN, oN), (D1, tupO [] 0)]) (o' := oc9) S8
      have cok9 := cok_push (r := dN) hcok l7.2.1
      simp only [List.cons_append, List.nil_append] at N9 S9
      repeat' (first | ((fail_if_success (with_reducible show wpAny _ _ (call (Value.builtin "len") _ _) _ _ _)); (first | (k_unfold; (try dsimp only)) | (k_end; wrow_close) | walk1 | (dsimp only; walk1) | (leave1; walk_say "STEP leave1"; try dsimp only) | fail "no step")))
      refine kda_len (knd := intKind _ _) N9 (o := oc9) (by k_mem) hd9 ctx.lo (by simp; omega) ?_
      repeat' (first | ((fail_if_success (with_reducible show wpAny _ _ (call (Value.builtin "getattr") _ _) _ _ _)); (first | (k_unfold; (try dsimp only)) | (k_end; wrow_close) | walk1 | (dsimp only; walk1) | (leave1; walk_say "STEP leave1"; try dsimp only) | fail "no step")))
      rename_i Pn h10 lP Tn h11 lT D2 h12 F12 N12 lD2
      refine e_oids_hit F12 X' N12 hk (by (repeat (first | exact hxR | refine List.Mem.tail _ ?_))) (by k_mem) ?_
      repeat' (first | ((first | (k_unfold; (try dsimp only)) | (k_end; wrow_close) | walk1 | (dsimp only; walk1) | (leave1; walk_say "STEP leave1"; try dsimp only) | fail "no step")))
      rename_i D3 h13 F13 N13 lD3
      have S13 := sep4 N13 S9 lP lT lD2 lD3
      refine e_oids_set F13 X' N13 hk (by (repeat (first | exact hxR | refine List.Mem.tail _ ?_))) (updF_sep (pre := [(D3, _), (D2, _), (Tn, _), (Pn, _), (dN, oN), (D1, tupO [] 0), (c, oc9), (ed, oe)]) (d := d) S13) (es' := [⟨PyData.keyHash w.params (Str.ofString "oids"), .str (Str.ofString "oids") t0, .ref D3⟩]) (n' := 1) (by rfl) (Nat.le_of_ble_eq_true rfl) (by rfl) fun h14 F14 N14 => ?_
      have S14 := sep_set (pre := [(D3, _), (D2, _), (Tn, _), (Pn, _), (dN, oN), (D1, tupO [] 0), (c, oc9), (ed, oe)]) (o' := oidsD (PyData.keyHash w.params (Str.ofString "oids")) t0 D3) S13
      simp only [List.cons_append, List.nil_append] at N14 S14
      have el : ((C ++ [((C.length : Int), Value.ref dN)]).length : Int) - 1 = (C.length : Int) := by simp
      rw [el] at N14 S14
      repeat' (first | ((first | (k_unfold; (try dsimp only)) | (k_end; wrow_close) | walk1 | (dsimp only; walk1) | (leave1; walk_say "STEP leave1"; try dsimp only) | fail "no step")))
      dsimp only
      refine ⟨h14, _, oc9, C ++ [((C.length : Int), .ref dN)], D3, Pn, C.length, _, t0, dN, oN, [.ref P0], [], some (.int i0 ti0), [(T0, _), (P0, _), (r0, oz)], _, rfl, ?_, rfl, cut_news (N1 := [(T0, _), (P0, _), (r0, oz)]) N14, cut_sep (N1 := [(T0, _), (P0, _), (r0, oz)]) S14, hd9, cok9, grow_push, by simp, push_top hcok, hi7, lo7, (fun _ h => nomatch h), (by simpa using hb1), rows_fresh (N1 := [(T0, _), (P0, _), (r0, oz)]) hrows rfl (isDict_cls hi7), ?_⟩
      · refine cast (congrArg (Fr g' L' h14) (funext fun y => ?_)) F14
        by_cases hy : y = Str.ofString "expr_cache" <;> simp [hy]
      · intro a ha
        simp only [List.map_cons, List.map_append, List.map_nil, List.mem_cons, List.mem_append, List.cons_append, List.nil_append] at ha ⊢
        rcases ha with h | h | h | h | h | h | h | h <;> simp [h]
    | fresh0 =>
      simp only [List.cons_append, List.nil_append] at N' hS hrows
      have hxR : (x, o) ∈ M2 ++ loc := List.mem_append_right _ hx
      repeat' (first | ((fail_if_success (with_reducible show wpAny _ _ (call (Value.builtin "getattr") _ _) _ _ _)); (first | (k_unfold; (try dsimp only)) | (k_end; wrow_close) | walk1 | (dsimp only; walk1) | (leave1; walk_say "STEP leave1"; try dsimp only) | fail "no step")))
      rename_i D1 hb Fb Nb lb
      refine e_oids_miss (handL_ok hHR (newsSub Nb fun q hq => by (repeat (first | exact hq | refine List.Mem.tail _ ?_)))) Fb X' Nb hk (by (repeat (first | exact hxR | refine List.Mem.tail _ ?_))) (by k_mem) fun hb2 tkb Fb2 Nb2 => ?_
      refine m_tpyIter Fb2 Nb2 (l := D1) (its := []) (n := 0) (.head _) fun I h2 oI F2 N2 hI lt2 => ?_
      refine for_turn (m_tnext_end (its := []) (rest := (D1, tupO [] 0) :: (c, oc) :: (ed, oe) :: (d, dictOf [] 0) :: (M2 ++ loc)) (handL_ok hHR (newsSub N2 fun q hq => by (repeat (first | exact hq | refine List.Mem.tail _ ?_)))) (handL_ne hHR fun q hq => lt2 _ (by (repeat (first | exact hq | refine List.Mem.tail _ ?_)))) F2 N2 (.tail _ (.head _)) (Nat.le_refl _) hI (.head _) (fun q hq => .tail _ hq) (fun q hq => Nat.ne_of_lt (lt2 _ hq)) fun h6 F6 N6 => ?_)
      dsimp only
      repeat' (first | ((first | (k_unfold; (try dsimp only)) | (k_end; wrow_close) | walk1 | (dsimp only; walk1) | (leave1; walk_say "STEP leave1"; try dsimp only) | fail "no step")))
      rename_i dN h7 oN lo7 hs7 fs7 hi7 fi7 l7 h8 F8 N8
      have S8 : Sep _ := sep_push (a := dN) (o := oN) (sep_push (a := D1) (o := tupO [] 0) hS (ktn_ltOf lb)) (ktn_ltOf l7)
      refine kda_len (knd := intKind _ _) N8 (o := oc) (by k_mem) hdict ctx.lo (by omega) ?_
      refine kda_set (knd := intKind _ _) F8 N8 (updF_sep (pre := [(dN, oN), (D1, tupO [] 0)]) (d := c) (o := oc) S8) hdict (intKind_is _ _ _ _) (by rw [sizeLine_eq]; omega) fun h9 oc9 F9 N9 hd9 => ?_
      rw [stored_top hcok] at hd9
      have S9 : Sep _ := sep_set (pre := [(dN, oN), (D1, tupO [] 0)]) (o' := oc9) S8
      have cok9 := cok_push (r := dN) hcok l7.2.1
      simp only [List.cons_append, List.nil_append] at N9 S9
      repeat' (first | ((fail_if_success (with_reducible show wpAny _ _ (call (Value.builtin "len") _ _) _ _ _)); (first | (k_unfold; (try dsimp only)) | (k_end; wrow_close) | walk1 | (dsimp only; walk1) | (leave1; walk_say "STEP leave1"; try dsimp only) | fail "no step")))
      refine kda_len (knd := intKind _ _) N9 (o := oc9) (by k_mem) hd9 ctx.lo (by simp; omega) ?_
      repeat' (first | ((fail_if_success (with_reducible show wpAny _ _ (call (Value.builtin "getattr") _ _) _ _ _)); (first | (k_unfold; (try dsimp only)) | (k_end; wrow_close) | walk1 | (dsimp only; walk1) | (leave1; walk_say "STEP leave1"; try dsimp only) | fail "no step")))
      rename_i Pn h10 lP Tn h11 lT D2 h12 F12 N12 lD2
      refine e_oids_miss (handL_ok hHR (newsSub N12 fun q hq => by (repeat (first | exact hq | refine List.Mem.tail _ ?_)))) F12 X' N12 hk (by (repeat (first | exact hxR | refine List.Mem.tail _ ?_))) (by k_mem) fun hc tkc Fc Nc => ?_
      repeat' (first | ((first | (k_unfold; (try dsimp only)) | (k_end; wrow_close) | walk1 | (dsimp only; walk1) | (leave1; walk_say "STEP leave1"; try dsimp only) | fail "no step")))
      have S13 := sep3 Nc S9 lP lT lD2
      refine e_oids_set Fc X' Nc hk (by (repeat (first | exact hxR | refine List.Mem.tail _ ?_))) (updF_sep (pre := [(D2, _), (Tn, _), (Pn, _), (dN, oN), (D1, tupO [] 0), (c, oc9), (ed, oe)]) (d := d) S13) (by rfl) (es' := [⟨PyData.keyHash w.params (Str.ofString "oids"), .str (Str.ofString "oids") (tkc + 1), .ref Tn⟩]) (n' := 1) (Nat.le_of_ble_eq_true rfl) (by rfl) fun h14 F14 N14 => ?_
      have S14 := sep_set (pre := [(D2, _), (Tn, _), (Pn, _), (dN, oN), (D1, tupO [] 0), (c, oc9), (ed, oe)]) (o' := oidsD (PyData.keyHash w.params (Str.ofString "oids")) (tkc + 1) Tn) S13
      simp only [List.cons_append, List.nil_append] at N14 S14
      have el : ((C ++ [((C.length : Int), Value.ref dN)]).length : Int) - 1 = (C.length : Int) := by simp
      rw [el] at N14 S14
      repeat' (first | ((first | (k_unfold; (try dsimp only)) | (k_end; wrow_close) | walk1 | (dsimp only; walk1) | (leave1; walk_say "STEP leave1"; try dsimp only) | fail "no step")))
      dsimp only
      refine ⟨h14, _, oc9, C ++ [((C.length : Int), .ref dN)], Tn, Pn, C.length, _, _, dN, oN, [], [], none, [], _, rfl, ?_, rfl, cut3_news N14, cut3_sep S14, hd9, cok9, grow_push, by simp, push_top hcok, hi7, lo7, (fun _ h => nomatch h), (by simp), rows_fresh (N1 := []) hrows rfl (isDict_cls hi7), ?_⟩
      · refine cast (congrArg (Fr g' L' h14) (funext fun y => ?_)) F14
        by_cases hy : y = Str.ofString "expr_cache"
        · simp [hy]
        · by_cases hy2 : y = Str.ofString "oid"
          · subst hy2; simp only [hy, if_false, if_true]; rfl
          · simp only [hy, hy2, if_false]
      · intro a ha
        simp only [List.map_cons, List.map_append, List.map_nil, List.mem_cons, List.mem_append, List.cons_append, List.nil_append] at ha ⊢
        rcases ha with h | h | h | h | h <;> simp [h]
  case rest =>
    rintro f s1 ⟨rfl, h1, tk1, oc1, C1, T1, P1, i1, ti1, t1, r1, orow, olds, memo, vo, N1, led1, rfl, F1, rfl, N1', S1, hd1, cok1, gr1, len1, at1, hm1, lo1, mo1, ol1, rows1, ad1⟩
    dsimp only at F1 ⊢
    repeat' (first | ((fail_if_success (with_reducible show wpAny _ _ (exec (PySem.Stmt.If _ _ _ _) _) _ _ _)); (first | (k_unfold; (try dsimp only)) | (k_end; wrow_close) | walk1 | (dsimp only; walk1) | (leave1; walk_say "STEP leave1"; try dsimp only) | fail "no step")))
    refine wpAny_mono (Q := fun f s2 => f = .next ∧ Cut2 w b tx c ed Y (.cons k x d o mt nm kids .nil) (n1 + n2 + 0) C ((c, oc) :: (ed, oe) :: (M1 ++ M2 ++ loc)) loc S (k.run tx x nm (kids.pegs tx) ps) g' L' (fun y => List.lookup y [(Str.ofString "error", Value.ref ee), (Str.ofString "cache", Value.ref c), (Str.ofString "pos", Value.int ps tkp), (Str.ofString "text", Value.str tx tkx), (Str.ofString "self", Value.ref x)]) s s2) (E := fun _ _ => False) ?zmid ?ztail (fun _ _ z => z.elim)
    case zmid =>
      repeat' (first | ((fail_if_success (with_reducible show wpAny _ _ (compareOp _ _ _) _ _ _)); (first | (k_unfold; (try dsimp only)) | (k_end; wrow_close) | walk1 | (dsimp only; walk1) | (leave1; walk_say "STEP leave1"; try dsimp only) | fail "no step")))
      cases hv : valueAt memo (ps : Int) with
      | some v =>
        refine kda_in (knd := intKind _ _) N1' (o := orow) (by k_mem) hm1 lo1 (intKind_is _ _ _ _) true (by rw [hv]; rfl) ?_
        repeat' (first | ((fail_if_success (with_reducible show wpAny _ _ (subscriptTail _ _ _ _) _ _ _)); (first | (k_unfold; (try dsimp only)) | (k_end; wrow_close) | walk1 | (dsimp only; walk1) | (leave1; walk_say "STEP leave1"; try dsimp only) | fail "no step")))
        refine kda_item (knd := intKind _ _) N1' (o := orow) (by k_mem) hm1 (intKind_is _ _ _ _) hv ?_
        repeat' (first | ((first | (k_unfold; (try dsimp only)) | (k_end; wrow_close) | walk1 | (dsimp only; walk1) | (leave1; walk_say "STEP leave1"; try dsimp only) | fail "no step")))
        dsimp only
        rename_i h2 F2 N2
        have sub1 : ∀ q ∈ S, q ∈ N1 ++ S := fun q hq => List.mem_append_right _ hq
        refine ⟨h2, _, v, vo, r1, _, rfl, F2, N2, S1, oc1, C1, oe, 0 + n2 + 0, [(d, oidsD (PyData.keyHash w.params (Str.ofString "oids")) t1 T1), (T1, tupO (.ref P1 :: olds) 0), (P1, tupO [.int i1 ti1, .ref r1] 0), (r1, orow)] ++ (M2 ++ []), N1, by simp, ⟨hd1, cok1, herr, .cons (.live at1 hm1 lo1 (mo1.mono sub1) ol1) (hm2.mono gr1 sub1) .nil, by omega, by simpa using rows1⟩, gr1, by omega, ?_, ad1⟩
        obtain ⟨n, e, _, hr⟩ := mo1 _ (valueAt_mem hv)
        have e2 : n = ps := by simp at e; omega
        subst e2; exact hr.mono sub1
      | none =>
        refine kda_in (knd := intKind _ _) N1' (o := orow) (by k_mem) hm1 lo1 (intKind_is _ _ _ _) false (by rw [hv]; rfl) ?_
        repeat' (first | ((fail_if_success (with_reducible show wpAny _ _ (setItem _ _ _) _ _ _)); (first | (k_unfold; (try dsimp only)) | (k_end; wrow_close) | walk1 | (dsimp only; walk1) | (leave1; walk_say "STEP leave1"; try dsimp only) | fail "no step")))
        have hml := memo_len mo1 (isDict_nodup hm1) ctx.len
        refine kda_set (knd := intKind _ _) (by k_asm) N1' (updF_sep (pre := [(c, oc1), (ed, oe), (d, _), (T1, _), (P1, _)]) (d := r1) (o := orow) S1) hm1 (intKind_is _ _ _ _) (by rw [sizeLine_eq]; omega) fun h3 or3 F3 N3 hm3 => ?_
        rw [stored_new hv] at hm3
        have S3 := sep_set (pre := [(c, oc1), (ed, oe), (d, _), (T1, _), (P1, _)]) (o' := or3) S1
        simp only [List.cons_append, List.nil_append] at N3 S3
        have hxN : (x, o) ∈ M2 ++ (N1 ++ loc) := List.mem_append_right _ (List.mem_append_right _ hx)
        repeat' (first | ((fail_if_success (with_reducible show wpAny _ _ (getMethod _ _ _) _ _ _)); (first | (k_unfold; (try dsimp only)) | (k_end; wrow_close) | walk1 | (dsimp only; walk1) | (leave1; walk_say "STEP leave1"; try dsimp only) | fail "no step")))
        refine e_um (n := 1) F3 X' N3 hk (by (repeat (first | exact hxN | refine List.Mem.tail _ ?_))) (.tail _ (.tail _ (.head _))) (by rfl) ?_
        dsimp only
        refine callWith_K X' (ecls_of k).keep ?_
        repeat' (first | ((fail_if_success (with_reducible show wpAny _ _ (call _ _ _) _ _ _)); (first | (k_unfold; (try dsimp only)) | (k_end; wrow_close) | walk1 | (dsimp only; walk1) | (leave1; walk_say "STEP leave1"; try dsimp only) | fail "no step")))
        refine wpAny_call ?_
        have subH : ∀ q ∈ H, q ∈ (d, oidsD (PyData.keyHash w.params (Str.ofString "oids")) t1 T1) :: (T1, tupO (.ref P1 :: olds) 0) :: (P1, tupO [.int i1 ti1, .ref r1] 0) :: (r1, or3) :: (N1 ++ loc) := fun q hq => .tail _ (.tail _ (.tail _ (.tail _ (List.mem_append_right _ (hH q hq)))))
        have subL : ∀ q ∈ loc, q ∈ (d, oidsD (PyData.keyHash w.params (Str.ofString "oids")) t1 T1) :: (T1, tupO (.ref P1 :: olds) 0) :: (P1, tupO [.int i1 ti1, .ref r1] 0) :: (r1, or3) :: (N1 ++ loc) := fun q hq => .tail _ (.tail _ (.tail _ (.tail _ (List.mem_append_right _ hq))))
        have N3p := newsSub N3 (fun q hq => (perm_in.mem_iff).mpr hq)
        have S3p := sep_perm S3 perm_in
        have rows3 : Rows C1 ((d, oidsD (PyData.keyHash w.params (Str.ofString "oids")) t1 T1) :: (T1, tupO (.ref P1 :: olds) 0) :: (P1, tupO [.int i1 ti1, .ref r1] 0) :: (r1, or3) :: (M2 ++ (N1 ++ loc))) := rows_set (pre := [(d, _), (T1, _), (P1, _)]) (o' := or3) rows1 (isDict_cls hm3)
        refine runM_call (h₀ := g') (L := L') (H := H) (hum b tx c ee ed eo Y n2 oc1 C1 oe M2 _ S H _ _ ps ⟨ctx.lo, ctx.eis, subL _ ctx.em, fun y hy => ?ys, ctx.len, trivial⟩ ⟨hd1, cok1, herr, hm2.mono gr1 (fun _ h => h), by omega, rows_mono rows3 (fun q hq => ?rw)⟩ hall hwf (fun q hq => subL q (hstat q hq)) ⟨_, .head _⟩ hps subH (fun q hq => subL q (hSl q hq))) ⟨_, _, _, _, _, _, _, _, _, by k_asm, by k_asm, by k_asm, rfl, rfl, rfl, rfl⟩ ?hand F3 N3p S3p ?hdp ?hun fun v2 led4 h4 tk4 F4 N4 S4 hp4 => ?_
        case hand => exact hHL
        case hdp => (try simp only [depth_mark, depth_under_make, depth_under_kw, depth_in1, depth_deeper, depth_caller]); omega
        case hun => (try simp only [units_in1, units_deeper, Around.mark_units, units_caller]); omega
        case ys =>
          obtain ⟨k9, d9, mt9, nm9, o9, e1, e2, e3⟩ := ctx.ys y hy
          refine ⟨k9, d9, mt9, nm9, o9, e1, subL _ e2, ?_⟩
          have := ad1 _ e3
          simp only [List.map_cons, List.map_append, List.mem_cons, List.mem_append] at this ⊢
          rcases this with h | h | h | h | h | h | h | h | h <;> simp [h]
        case rw =>
          simp only [List.mem_cons, List.mem_append] at hq ⊢
          rcases hq with h | h | h | h | h | h | h <;> simp [h]
        obtain ⟨oc4, C4, oe4, nf4, M4, N4', rfl, st4, gr4, len4, res4, ad4⟩ := hp4
        have N5 := newsSub N4 (fun q hq => (perm_out.mem_iff).mpr hq)
        have S5 := sep_perm S4 perm_out
        clear N4
        dsimp only
        repeat' (first | ((fail_if_success (with_reducible show wpAny _ _ (setItem _ _ _) _ _ _)); (first | (k_unfold; (try dsimp only)) | (k_end; wrow_close) | walk1 | (dsimp only; walk1) | (leave1; walk_say "STEP leave1"; try dsimp only) | fail "no step")))
        rename_i h5 F5 N5b
        refine kda_set (knd := intKind _ _) F5 N5b (updF_sep (pre := [(c, oc4), (ed, oe4), (d, _), (T1, _), (P1, _)]) (d := r1) (o := or3) S5) hm3 (intKind_is _ _ _ _) (by simp [sizeLine_eq]; omega) fun h6 or6 F6 N6 hm6 => ?_
        rw [stored_last hv] at hm6
        have S6 := sep_set (pre := [(c, oc4), (ed, oe4), (d, _), (T1, _), (P1, _)]) (o' := or6) S5
        simp only [List.cons_append, List.nil_append] at N6 S6
        repeat' (first | ((first | (k_unfold; (try dsimp only)) | (k_end; wrow_close) | walk1 | (dsimp only; walk1) | (leave1; walk_say "STEP leave1"; try dsimp only) | fail "no step")))
        dsimp only
        have sub4 : ∀ q ∈ N4' ++ S, q ∈ (N4' ++ N1) ++ S := fun q hq => by
          rcases List.mem_append.mp hq with h | h
          · exact List.mem_append_left _ (List.mem_append_left _ h)
          · exact List.mem_append_right _ h
        have rows5 : Rows C4 ((d, oidsD (PyData.keyHash w.params (Str.ofString "oids")) t1 T1) :: (T1, tupO (.ref P1 :: olds) 0) :: (P1, tupO [.int i1 ti1, .ref r1] 0) :: (r1, or3) :: (M4 ++ (N4' ++ (N1 ++ loc)))) := rows_mono st4.rows fun q hq => by
          simp only [List.mem_cons, List.mem_append] at hq ⊢
          rcases hq with h | h | h | h | h | h | h | h <;> simp [h]
        have rows6 := rows_set (pre := [(d, _), (T1, _), (P1, _)]) (o' := or6) rows5 (isDict_cls hm6)
        have room4 := st4.room
        refine ⟨h6, _, v2, vo, r1, _, rfl, F6, N6, S6, oc4, C4, oe4, 0 + nf4 + 0, [(d, oidsD (PyData.keyHash w.params (Str.ofString "oids")) t1 T1), (T1, tupO (.ref P1 :: olds) 0), (P1, tupO [.int i1 ti1, .ref r1] 0), (r1, or6)] ++ (M4 ++ []), N4' ++ N1, by simp, ⟨st4.dict, st4.cok, st4.err, .cons (.live (gr4 _ _ at1) hm6 lo1 ?memo ol1) (st4.muts.mono .refl sub4) .nil, by omega, by simpa using rows6⟩, gr1.trans gr4, by omega, res4.mono sub4, ?addr⟩
        case memo =>
          intro p hp
          rcases List.mem_append.mp hp with h | h
          · exact mo1.mono (fun q hq => List.mem_append_right _ hq) p h
          · rw [List.mem_singleton.mp h]; exact ⟨ps, rfl, hps, res4.mono sub4⟩
        case addr =>
          intro a ha
          have h1 := ad1 a ha
          have h2 := ad4 a (by
            simp only [List.map_cons, List.map_append, List.mem_cons, List.mem_append] at h1 ⊢
            rcases h1 with h | h | h | h | h | h | h | h | h <;> simp [h])
          simp only [List.map_cons, List.map_append, List.mem_cons, List.mem_append] at h2 ⊢
          rcases h2 with h | h | h | h | h | h | h | h | h | h <;> simp [h]
    case ztail =>
      rintro f s2 ⟨rfl, h2, tk2, v, vo, r, led2, rfl, F2, N2, S2, hp2⟩
      obtain ⟨oc2, C2, oe2, nf2, M', N', rfl, st2, gr2, len2, res2, ad2⟩ := hp2
      dsimp only at F2 ⊢
      obtain ⟨o220, h220⟩ : ∃ o, (Mine.hd.heap_39 w.params).lookup 220 = some o := Option.isSome_iff_exists.mp (by kernel_rfl)
      have g220 := X' 220 _ h220
      repeat' (first | ((fail_if_success (with_reducible show wpAny _ _ (compareOp _ _ _) _ _ _)); (first | (k_unfold; (try dsimp only)) | (k_end; wrow_close) | walk1 | (dsimp only; walk1) | (leave1; walk_say "STEP leave1"; try dsimp only) | fail "no step")))
      rcases res_val res2 with rfl | ⟨a, oa, rfl, ha, hac⟩
      · refine wpAny_is_other (by rfl) (by intro x; cases x) ?_
        obtain ⟨eP, eV, hie, hp1, hp2, hye⟩ := st2.err
        obtain ⟨q1, q2, q3, u1, u2, u3, u4, u5, rfl⟩ := hie
        obtain ⟨evs, rfl⟩ := ctx.eis
        have emR : (ee, (⟨.ref 179, some ed, .fields evs, #[]⟩ : Obj)) ∈ M' ++ (N' ++ loc) := List.mem_append_right _ (List.mem_append_right _ ctx.em)
        repeat' (first | ((fail_if_success (with_reducible show wpAny _ _ (getAttr (Value.ref _) _ _) _ _ _)); (first | (k_unfold; (try dsimp only)) | (k_end; wrow_close) | walk1 | (dsimp only; walk1) | (leave1; walk_say "STEP leave1"; try dsimp only) | fail "no step")))
        refine err_get F2 X' N2 (by (repeat (first | exact emR | refine List.Mem.tail _ ?_))) (.tail _ (.head _)) err_pos rfl ?_
        repeat' (first | ((fail_if_success (with_reducible show wpAny _ _ (getAttr (Value.ref _) _ _) _ _ _)); (first | (k_unfold; (try dsimp only)) | (k_end; wrow_close) | walk1 | (dsimp only; walk1) | (leave1; walk_say "STEP leave1"; try dsimp only) | fail "no step")))
        rotate_left
        · exact hret _ _ _ _ (by assumption) (by assumption) S2 ⟨oc2, C2, _, nf2, M', N', rfl, st2, gr2, len2, res2, ad2⟩
        obtain ⟨des, dn, hdm⟩ := muts_d st2.muts
        have hxM : (x, o) ∈ M' ++ (N' ++ loc) := List.mem_append_right _ (List.mem_append_right _ hx)
        refine e_name F2 X' N2 hk (by (repeat (first | exact hxM | refine List.Mem.tail _ ?_))) (.tail _ (.tail _ (List.mem_append_left _ hdm))) fun tn => ?_
        refine P.truthy_str (by have := hall.1.2; omega) ?_
        repeat' (first | ((fail_if_success (with_reducible show wpAny _ _ (getAttr (Value.ref _) _ _) _ _ _)); (fail_if_success (with_reducible show wpAny _ _ (setAttr (Value.ref _) _ _) _ _ _)); (first | (k_unfold; (try dsimp only)) | (k_end; wrow_close) | walk1 | (dsimp only; walk1) | (leave1; walk_say "STEP leave1"; try dsimp only) | fail "no step")))
        · refine err_set F2 X' N2 (by (repeat (first | exact emR | refine List.Mem.tail _ ?_))) (updF_sep (pre := [(c, oc2)]) (d := ed) S2) err_noexpr (by rfl) (es' := [⟨q1, .str (Str.ofString "text") u1, .str tx u2⟩, ⟨q2, .str (Str.ofString "pos") u3, .int eP u4⟩, ⟨q3, .str (Str.ofString "expr") u5, .ref x⟩]) (n' := 3) (Nat.le_of_ble_eq_true rfl) (by rfl) fun h5 F5 N5 => ?_
          have S5 := sep_set (pre := [(c, oc2)]) (o' := dictOf [⟨q1, .str (Str.ofString "text") u1, .str tx u2⟩, ⟨q2, .str (Str.ofString "pos") u3, .int eP u4⟩, ⟨q3, .str (Str.ofString "expr") u5, .ref x⟩] 3) S2
          simp only [List.cons_append, List.nil_append] at N5 S5
          repeat' (first | ((fail_if_success (with_reducible show wpAny _ _ (setAttr (Value.ref _) _ _) _ _ _)); (first | (k_unfold; (try dsimp only)) | (k_end; wrow_close) | walk1 | (dsimp only; walk1) | (leave1; walk_say "STEP leave1"; try dsimp only) | fail "no step")))
          refine err_set F5 X' N5 (by (repeat (first | exact emR | refine List.Mem.tail _ ?_))) (updF_sep (pre := [(c, oc2)]) (d := ed) S5) err_nopos (by rfl) (es' := [⟨q1, .str (Str.ofString "text") u1, .str tx u2⟩, ⟨q2, .str (Str.ofString "pos") u3, .int ps tkp⟩, ⟨q3, .str (Str.ofString "expr") u5, .ref x⟩]) (n' := 3) (Nat.le_of_ble_eq_true rfl) (by rfl) fun h6 F6 N6 => ?_
          have S6 := sep_set (pre := [(c, oc2)]) (o' := dictOf [⟨q1, .str (Str.ofString "text") u1, .str tx u2⟩, ⟨q2, .str (Str.ofString "pos") u3, .int ps tkp⟩, ⟨q3, .str (Str.ofString "expr") u5, .ref x⟩] 3) S5
          simp only [List.cons_append, List.nil_append] at N6 S6
          repeat' (first | ((first | (k_unfold; (try dsimp only)) | (k_end; wrow_close) | walk1 | (dsimp only; walk1) | (leave1; walk_say "STEP leave1"; try dsimp only) | fail "no step")))
          exact hret _ _ _ _ (by assumption) (by assumption) S6 ⟨oc2, C2, _, nf2, M', N', rfl, ⟨st2.dict, st2.cok, ⟨ps, .ref x, ⟨q1, q2, q3, u1, u2, u3, tkp, u5, rfl⟩, by omega, by omega, .inr ⟨x, rfl, hall.1.1⟩⟩, st2.muts, st2.room, st2.rows⟩, gr2, len2, res2, ad2⟩
        · rcases hye with rfl | ⟨y, rfl, hy⟩
          · refine err_get F2 X' N2 (by (repeat (first | exact emR | refine List.Mem.tail _ ?_))) (.tail _ (.head _)) err_expr rfl ?_
            repeat' (first | ((fail_if_success (with_reducible show wpAny _ _ (call (Value.builtin "getattr") _ _) _ _ _)); (first | (k_unfold; (try dsimp only)) | (k_end; wrow_close) | walk1 | (dsimp only; walk1) | (leave1; walk_say "STEP leave1"; try dsimp only) | fail "no step")))
            have hOK := handL_ok (handL_mono hHL (led' := M' ++ (N' ++ loc)) (fun q hq => List.mem_append_right _ (List.mem_append_right _ (hH q hq)))) (newsSub N2 fun q hq => .tail _ (.tail _ hq))
            refine m_getattr3_none (m_try_none (s := ⟨h2, _, _, _, _⟩) hOK miss_none_name (by rw [sizeLine_eq]; decide) fun h4 tk4 kp => ?_)
            have F4 := F2.keeps kp
            have N4 := news_keeps N2 kp
            dsimp only [Option.getD]
            repeat' (first | ((fail_if_success (with_reducible show wpAny _ _ (setAttr (Value.ref _) _ _) _ _ _)); (first | (k_unfold; (try dsimp only)) | (k_end; wrow_close) | walk1 | (dsimp only; walk1) | (leave1; walk_say "STEP leave1"; try dsimp only) | fail "no step")))
            refine err_set F4 X' N4 (by (repeat (first | exact emR | refine List.Mem.tail _ ?_))) (updF_sep (pre := [(c, oc2)]) (d := ed) S2) err_noexpr (by rfl) (es' := [⟨q1, .str (Str.ofString "text") u1, .str tx u2⟩, ⟨q2, .str (Str.ofString "pos") u3, .int eP u4⟩, ⟨q3, .str (Str.ofString "expr") u5, .ref x⟩]) (n' := 3) (Nat.le_of_ble_eq_true rfl) (by rfl) fun h5 F5 N5 => ?_
            have S5 := sep_set (pre := [(c, oc2)]) (o' := dictOf [⟨q1, .str (Str.ofString "text") u1, .str tx u2⟩, ⟨q2, .str (Str.ofString "pos") u3, .int eP u4⟩, ⟨q3, .str (Str.ofString "expr") u5, .ref x⟩] 3) S2
            simp only [List.cons_append, List.nil_append] at N5 S5
            repeat' (first | ((fail_if_success (with_reducible show wpAny _ _ (setAttr (Value.ref _) _ _) _ _ _)); (first | (k_unfold; (try dsimp only)) | (k_end; wrow_close) | walk1 | (dsimp only; walk1) | (leave1; walk_say "STEP leave1"; try dsimp only) | fail "no step")))
            refine err_set F5 X' N5 (by (repeat (first | exact emR | refine List.Mem.tail _ ?_))) (updF_sep (pre := [(c, oc2)]) (d := ed) S5) err_nopos (by rfl) (es' := [⟨q1, .str (Str.ofString "text") u1, .str tx u2⟩, ⟨q2, .str (Str.ofString "pos") u3, .int ps tkp⟩, ⟨q3, .str (Str.ofString "expr") u5, .ref x⟩]) (n' := 3) (Nat.le_of_ble_eq_true rfl) (by rfl) fun h6 F6 N6 => ?_
            have S6 := sep_set (pre := [(c, oc2)]) (o' := dictOf [⟨q1, .str (Str.ofString "text") u1, .str tx u2⟩, ⟨q2, .str (Str.ofString "pos") u3, .int ps tkp⟩, ⟨q3, .str (Str.ofString "expr") u5, .ref x⟩] 3) S5
            simp only [List.cons_append, List.nil_append] at N6 S6
            repeat' (first | ((first | (k_unfold; (try dsimp only)) | (k_end; wrow_close) | walk1 | (dsimp only; walk1) | (leave1; walk_say "STEP leave1"; try dsimp only) | fail "no step")))
            exact hret _ _ _ _ (by assumption) (by assumption) S6 ⟨oc2, C2, _, nf2, M', N', rfl, ⟨st2.dict, st2.cok, ⟨ps, .ref x, ⟨q1, q2, q3, u1, u2, u3, tkp, u5, rfl⟩, by omega, by omega, .inr ⟨x, rfl, hall.1.1⟩⟩, st2.muts, st2.room, st2.rows⟩, gr2, len2, res2, ad2⟩
          · refine err_get F2 X' N2 (by (repeat (first | exact emR | refine List.Mem.tail _ ?_))) (.tail _ (.head _)) err_expr rfl ?_
            repeat' (first | ((fail_if_success (with_reducible show wpAny _ _ (call (Value.builtin "getattr") _ _) _ _ _)); (first | (k_unfold; (try dsimp only)) | (k_end; wrow_close) | walk1 | (dsimp only; walk1) | (leave1; walk_say "STEP leave1"; try dsimp only) | fail "no step")))
            obtain ⟨ky, dy, mty, nmy, oy, ey1, ey2, ey3⟩ := ctx.ys y hy
            obtain ⟨⟨dy2, ody⟩, hdy, hde⟩ := List.mem_map.mp (ad2 _ ey3)
            dsimp only at hde
            subst hde
            have hyM : (y, oy) ∈ M' ++ (N' ++ loc) := List.mem_append_right _ (List.mem_append_right _ ey2)
            refine m_getattr3 (X'.keeps F2.keep) (ey1.inst N2 (by (repeat (first | exact hyM | refine List.Mem.tail _ ?_))) hdy) (ecls_of ky).nomod (by decide +kernel) (e_name_try F2 X' N2 ey1 (by (repeat (first | exact hyM | refine List.Mem.tail _ ?_))) hdy fun ty => ?_)
            dsimp only [Option.getD]
            repeat' (first | ((first | (k_unfold; (try dsimp only)) | (k_end; wrow_close) | walk1 | (dsimp only; walk1) | (leave1; walk_say "STEP leave1"; try dsimp only) | fail "no step")))
            exact hret _ _ _ _ (by assumption) (by assumption) S2 ⟨oc2, C2, _, nf2, M', N', rfl, st2, gr2, len2, res2, ad2⟩
      · have ha2 : (a, oa) ∈ (c, oc2) :: (ed, oe2) :: (M' ++ (N' ++ loc)) := .tail _ (.tail _ (List.mem_append_right _ (by
          rcases List.mem_append.mp ha with h | h
          · exact List.mem_append_left _ h
          · exact List.mem_append_right _ (hSl _ h))))
        refine kto_is (N2 _ ha2).1 (F2.keep _ _ g220) (fun e => ?_) (by rw [hac]; exact fun x => nomatch x) ?_
        · have := (N2 _ ha2).2.2
          rw [e, g220] at this; cases this
        repeat' (first | ((first | (k_unfold; (try dsimp only)) | (k_end; wrow_close) | walk1 | (dsimp only; walk1) | (leave1; walk_say "STEP leave1"; try dsimp only) | fail "no step")))
        exact hret _ _ _ _ (by assumption) (by assumption) S2 ⟨oc2, C2, oe2, nf2, M', N', rfl, st2, gr2, len2, res2, ad2⟩
-- Slot
/-- the slot of an expression's class -/
def SlotOf (w : World) (C : Addr) (name : Str) (i : Nat) : Prop := ∃ p, findIn (Mine.hd.heap_39 w.params) (.ref C) name = some (some (.ref p)) ∧ specialIn (Mine.hd.heap_39 w.params) (.ref p) "__get__" = some (some (.builtin "member_descriptor.__get__")) ∧ takesIn (Mine.hd.heap_39 w.params) (.ref p) = some true ∧ slotIn (Mine.hd.heap_39 w.params) p C = some i
theorem so_lit {w : World} : SlotOf w 336 (Str.ofString "literal") 0 := ⟨337, by kernel_rfl, by kernel_rfl, by kernel_rfl, by kernel_rfl⟩
theorem so_mseq {w : World} : SlotOf w 394 (Str.ofString "members") 0 := ⟨368, by kernel_rfl, by kernel_rfl, by kernel_rfl, by kernel_rfl⟩
theorem so_malt {w : World} : SlotOf w 420 (Str.ofString "members") 0 := ⟨368, by kernel_rfl, by kernel_rfl, by kernel_rfl, by kernel_rfl⟩
theorem so_mlook {w : World} : SlotOf w 458 (Str.ofString "members") 1 := ⟨368, by kernel_rfl, by kernel_rfl, by kernel_rfl, by kernel_rfl⟩
theorem so_mqnt {w : World} : SlotOf w 504 (Str.ofString "members") 2 := ⟨368, by kernel_rfl, by kernel_rfl, by kernel_rfl, by kernel_rfl⟩
theorem so_neg {w : World} : SlotOf w 458 (Str.ofString "negativity") 0 := ⟨459, by kernel_rfl, by kernel_rfl, by kernel_rfl, by kernel_rfl⟩
theorem so_max {w : World} : SlotOf w 504 (Str.ofString "max") 0 := ⟨505, by kernel_rfl, by kernel_rfl, by kernel_rfl, by kernel_rfl⟩
theorem so_min {w : World} : SlotOf w 504 (Str.ofString "min") 1 := ⟨506, by kernel_rfl, by kernel_rfl, by kernel_rfl, by kernel_rfl⟩
theorem e_slot {w : World} {A : Around} {E : Value → Shared → Prop} {s : Shared} {x d mt L : Addr} {k : EK} {nm : Str} {o : Obj} {h₀ : Heap} {m : Str → Option Value} {news : List (Addr × Obj)} {name : Str} {i : Nat} {v : Value} {expr : Bool} {Q : Value → Shared → Prop} {od : Obj} (F : Fr h₀ L s.heap m) (X₀ : (Mine.hd.heap_39 w.params).In h₀) (N : News h₀ L s.heap news) (e : k.Is d mt nm o) (hx : (x, o) ∈ news) (hd : (d, od) ∈ news)
    (so : SlotOf w k.cls.1 name i) (hs : (o.slots[i]?).join = some v) (hv : handedIn v = true) (h : Q v { s with toks := s.toks + 1 }) : wpAny (model PG w) A (getAttr (.ref x) name expr) Q E s := by
  obtain ⟨p, a1, a2, a3, a4⟩ := so
  exact get_slotO F X₀ (e.inst N hx hd) ((ecls_of k).get _) (ecls_of k).cls a1 a2 a3 a4 hs hv h
def EK.mslot : EK → Nat
  | .nota => 1
  | .star => 2
  | .opt => 2
  | _ => 0
theorem e_members {w : World} {A : Around} {E : Value → Shared → Prop} {s : Shared} {x d mt L : Addr} {k : EK} {nm : Str} {o : Obj} {h₀ : Heap} {m : Str → Option Value} {news : List (Addr × Obj)} {expr : Bool} {Q : Value → Shared → Prop} {od : Obj} (F : Fr h₀ L s.heap m) (X₀ : (Mine.hd.heap_39 w.params).In h₀) (N : News h₀ L s.heap news) (e : k.Is d mt nm o) (hx : (x, o) ∈ news) (hd : (d, od) ∈ news) (hk : ∀ s, k ≠ .lit s)
    (h : Q (.ref mt) { s with toks := s.toks + 1 }) : wpAny (model PG w) A (getAttr (.ref x) "members" expr) Q E s := by
  cases k
  · exact absurd rfl (hk _)
  · have e' := e; obtain ⟨it, t, rfl⟩ := e'; exact e_slot F X₀ N e hx hd so_mseq rfl rfl h
  · have e' := e; obtain ⟨it, t, rfl⟩ := e'; exact e_slot F X₀ N e hx hd so_malt rfl rfl h
  · have e' := e; obtain ⟨it, t, rfl⟩ := e'; exact e_slot F X₀ N e hx hd so_mlook rfl rfl h
  · have e' := e; obtain ⟨it, t1, t2, t3, rfl⟩ := e'; exact e_slot F X₀ N e hx hd so_mqnt rfl rfl h
  · have e' := e; obtain ⟨it, t1, t2, t3, rfl⟩ := e'; exact e_slot F X₀ N e hx hd so_mqnt rfl rfl h
-- Node2
theorem mH_truthy_cons {prog : Program} {w : World} {A : Around} {E : Value → Shared → Prop} {s : Shared} {h₀ : Heap} {L l : Addr} {news : List (Addr × Obj)} {v : Value} {vs : List Value} {n : Nat} {Q : Bool → Shared → Prop} (N : News h₀ L s.heap news) (hl : (l, lstO (v :: vs) n) ∈ news) (hz : vs.length < 2 ^ 24) (h : Q true { s with toks := s.toks + 1 + 1 }) :
    wpAny (model prog w) A (truthy (.ref l)) Q E s :=
  wpAny_truthy_list (items := (v :: vs).toArray) ⟨_, (N _ hl).1, rfl, _, rfl⟩ (by simp; omega) (by
    have e : (!(v :: vs).toArray.isEmpty) = true := by simp
    rw [e]; exact h)

/-- a call of f, whatever is handled around; what it made and keeps (tl) stands above the ledger -/
def RunH (w : World) (f : Addr) (args : List Value) (kw : List (Str × Value)) (dN uN : Nat) (pre : List (Addr × Obj)) (Post : Value → List (Addr × Obj) → Prop) : Prop :=
  ∀ (A : Around) (h₀ : Heap) (L : Addr) (m : Str → Option Value) (s : Shared) (R : Result → Shared → Prop),
    Amb w A h₀ L → Fr h₀ L s.heap m → News h₀ L s.heap pre → A.depth + dN ≤ 600 → A.units + uN ≤ 9000 →
    (∀ v tl h' tk', Fr h₀ L h' m → News h₀ L h' (tl ++ pre) → Desc tl → (∀ q ∈ tl, ∀ p ∈ pre, p.1 < q.1) → Post v tl → R (.ok (.ret v)) { s with heap := h', toks := tk' }) →
    codeAny (model PG w) A (.call (.ref f) ⟨args, kw⟩) R s
theorem runH_call {w : World} {f : Addr} {args : List Value} {kw : List (Str × Value)} {dN uN : Nat} {pre : List (Addr × Obj)} {Post : Value → List (Addr × Obj) → Prop} {A : Around} {h₀ : Heap} {L : Addr} {m : Str → Option Value} {s : Shared} {R : Result → Shared → Prop}
    (h : RunH w f args kw dN uN pre Post) (ha : Amb w A h₀ L) (F : Fr h₀ L s.heap m) (N : News h₀ L s.heap pre) (hd : A.depth + dN ≤ 600) (hu : A.units + uN ≤ 9000)
    (k : ∀ v tl h' tk', Fr h₀ L h' m → News h₀ L h' (tl ++ pre) → Desc tl → (∀ q ∈ tl, ∀ p ∈ pre, p.1 < q.1) → Post v tl → R (.ok (.ret v)) { s with heap := h', toks := tk' }) : codeAny (model PG w) A (.call (.ref f) ⟨args, kw⟩) R s := h A h₀ L m s R ha F N hd hu k
/-- a node without children is made -/
theorem nodeH0_ok {w : World} {x : Addr} {tx : Str} {tkx t1 t2 : Tok} {st en : Int} {pre : List (Addr × Obj)} :
    RunH w 99 [.ref x, .str tx tkx, .int st t1, .int en t2] [] 10 60 pre (fun v tl => ∃ a d cl, v = .ref a ∧ tl = [(cl, lstO [] 0), (a, nodeO d (.ref cl) (.int en t2) (.ref x) (.str tx tkx) (.int st t1)), (d, dictOf [] 0)]) := by
  w_on
  intro A h₀ L m s R hAmb F N hdep hun hret
  obtain ⟨A₀, base, outer, env, p, loose, mean, mg, mb, B, X, T, hA, hf, hke, hrw⟩ := hAmb
  obtain ⟨hd, dp, fr, gd, un⟩ := A
  dsimp only at hA hdep hun
  subst hA
  revert X hrw
  k_fill
  intro X hrw
  clear hrw
  (k_dflt (refine' make_K (by k_asm) (by k_asm) ?kx ?k1 ?k2 ?k3 ?_; (case kx => k_in); (case k1 => k_is); (case k2 => k_is); (case k3 => k_is); k_whole))
  intro a d h1 F1 N1 l1 l2
  replace l1 := allLt_of l1
  k_lt2 l2
  have l1x := tbn_up l2 l1
  (try simp only [AllLt, and_true] at l1 l1x)
  (k_dflt (refine' code_def (binds := [(Str.ofString "self", .ref a), (Str.ofString "expr", .ref x), (Str.ofString "full_text", .str tx tkx), (Str.ofString "start", .int st t1), (Str.ofString "end", .int en t2), (Str.ofString "children", .none)]) ?k1 ?k2 ?k3 ?k4 ?k5 ?kA ?kF ?kK ?k6 ?k7 ?k8 ?k9 ?kB ?_ ?c2 ?c3 ?c4 ?c5; (case kA => exact rfl); (case kF => first | exact rfl | assumption); (case kK => first | exact rfl | assumption); (case k1 => k_asm); (case k2 => k_asm); (case k3 => k_asm); (case k4 => k_asm); (case k5 => k_asm); (case k6 => k_is); (case k7 => k_is); (case k8 => k_room); (case k9 => first | exact BindsTo.of_eq rfl | exact binds_K (by k_in) rfl (by k_is) rfl rfl rfl); (case c5 => decide); (case kB => exact locs rfl); (case c2 => exact rfl); (case c3 => exact rfl); (case c4 => exact rfl); k_whole))
  intro g' L' h' FG' F' N' B' X' T'
  (try dsimp only [List.reverse, List.reverseAux] at F')
  repeat' (first | ((first | (k_unfold; (try dsimp only)) | (k_end; wrow_close) | walk1 | (dsimp only; walk1) | (leave1; walk_say "STEP leave1"; try dsimp only) | fail "no step")))
  refine' hret _ [(?c1, ?oc1), (a, nodeO d (.ref ?c1) (.int en t2) (.ref x) (.str tx tkx) (.int st t1)), (d, ?od)] _ _ ?kF ?kN ?kDesc ?kOrd ?kPost
  (case kF => assumption)
  (case kN => (refine' newsSub ?n ?s; (case n => assumption); (case s => walk_at "m sub")))
  (case kDesc => walk_at "m desc")
  (case kOrd => walk_at "m ord")
  (case kPost => exact ⟨a, d, _, rfl, rfl⟩)

/-- a node with a list of children is made: some, so the list itself is kept -/
theorem nodeH1_ok {w : World} {x cl : Addr} {tx : Str} {tkx t1 t2 : Tok} {st en : Int} {v0 : Value} {vs : List Value} {n : Nat} {pre : List (Addr × Obj)} (hl : (cl, lstO (v0 :: vs) n) ∈ pre) (hz : vs.length < 16777216) :
    RunH w 99 [.ref x, .str tx tkx, .int st t1, .int en t2, .ref cl] [] 10 60 pre (fun v tl => ∃ a d, v = .ref a ∧ tl = [(a, nodeO d (.ref cl) (.int en t2) (.ref x) (.str tx tkx) (.int st t1)), (d, dictOf [] 0)]) := by
  w_on
  intro A h₀ L m s R hAmb F N hdep hun hret
  obtain ⟨A₀, base, outer, env, p, loose, mean, mg, mb, B, X, T, hA, hf, hke, hrw⟩ := hAmb
  obtain ⟨hd, dp, fr, gd, un⟩ := A
  dsimp only at hA hdep hun
  subst hA
  revert X hrw
  k_fill
  intro X hrw
  clear hrw
  replace N := news_dup N hl
  (k_dflt (refine' make_K (by k_asm) (by k_asm) ?kx ?k1 ?k2 ?k3 ?_; (case kx => k_in); (case k1 => k_is); (case k2 => k_is); (case k3 => k_is); k_whole))
  intro a d h1 F1 N1 l1 l2
  replace l1 := allLt_of l1
  k_lt2 l2
  have l1x := tbn_up l2 l1
  (try simp only [AllLt, and_true] at l1 l1x)
  (k_dflt (refine' code_def (binds := [(Str.ofString "self", .ref a), (Str.ofString "expr", .ref x), (Str.ofString "full_text", .str tx tkx), (Str.ofString "start", .int st t1), (Str.ofString "end", .int en t2), (Str.ofString "children", .ref cl)]) ?k1 ?k2 ?k3 ?k4 ?k5 ?kA ?kF ?kK ?k6 ?k7 ?k8 ?k9 ?kB ?_ ?c2 ?c3 ?c4 ?c5; (case kA => exact rfl); (case kF => first | exact rfl | assumption); (case kK => first | exact rfl | assumption); (case k1 => k_asm); (case k2 => k_asm); (case k3 => k_asm); (case k4 => k_asm); (case k5 => k_asm); (case k6 => k_is); (case k7 => k_is); (case k8 => k_room); (case k9 => first | exact BindsTo.of_eq rfl | exact binds_K (by k_in) rfl (by k_is) rfl rfl rfl); (case c5 => decide); (case kB => exact locs rfl); (case c2 => exact rfl); (case c3 => exact rfl); (case c4 => exact rfl); k_whole))
  intro g' L' h' FG' F' N' B' X' T'
  (try dsimp only [List.reverse, List.reverseAux] at F')
  repeat' (first | ((fail_if_success (with_reducible show wpAny _ _ (truthy (Value.ref _)) _ _ _)); (first | (k_unfold; (try dsimp only)) | (k_end; wrow_close) | walk1 | (dsimp only; walk1) | (leave1; walk_say "STEP leave1"; try dsimp only) | fail "no step")))
  rename_i h4 F4 N4
  refine mH_truthy_cons N4 (by k_mem) (by omega) ?_
  repeat' (first | ((first | (k_unfold; (try dsimp only)) | (k_end; wrow_close) | walk1 | (dsimp only; walk1) | (leave1; walk_say "STEP leave1"; try dsimp only) | fail "no step")))
  refine' hret _ [(a, ?oa), (d, ?od)] _ _ ?kF ?kN ?kDesc ?kOrd ?kPost
  (case kF => assumption)
  (case kN => (refine' newsSub ?n ?s; (case n => assumption); (case s => walk_at "m sub")))
  (case kDesc => walk_at "m desc")
  (case kOrd => walk_at "m ord")
  (case kPost => exact ⟨a, d, rfl, rfl⟩)
/-- an empty list of children: a new list -/
theorem nodeH2_ok {w : World} {x cl : Addr} {tx : Str} {tkx t1 t2 : Tok} {st en : Int} {n : Nat} {pre : List (Addr × Obj)} (hl : (cl, lstO [] n) ∈ pre) :
    RunH w 99 [.ref x, .str tx tkx, .int st t1, .int en t2, .ref cl] [] 10 60 pre (fun v tl => ∃ a d cl, v = .ref a ∧ tl = [(cl, lstO [] 0), (a, nodeO d (.ref cl) (.int en t2) (.ref x) (.str tx tkx) (.int st t1)), (d, dictOf [] 0)]) := by
  w_on
  intro A h₀ L m s R hAmb F N hdep hun hret
  obtain ⟨A₀, base, outer, env, p, loose, mean, mg, mb, B, X, T, hA, hf, hke, hrw⟩ := hAmb
  obtain ⟨hd, dp, fr, gd, un⟩ := A
  dsimp only at hA hdep hun
  subst hA
  revert X hrw
  k_fill
  intro X hrw
  clear hrw
  replace N := news_dup N hl
  (k_dflt (refine' make_K (by k_asm) (by k_asm) ?kx ?k1 ?k2 ?k3 ?_; (case kx => k_in); (case k1 => k_is); (case k2 => k_is); (case k3 => k_is); k_whole))
  intro a d h1 F1 N1 l1 l2
  replace l1 := allLt_of l1
  k_lt2 l2
  have l1x := tbn_up l2 l1
  (try simp only [AllLt, and_true] at l1 l1x)
  (k_dflt (refine' code_def (binds := [(Str.ofString "self", .ref a), (Str.ofString "expr", .ref x), (Str.ofString "full_text", .str tx tkx), (Str.ofString "start", .int st t1), (Str.ofString "end", .int en t2), (Str.ofString "children", .ref cl)]) ?k1 ?k2 ?k3 ?k4 ?k5 ?kA ?kF ?kK ?k6 ?k7 ?k8 ?k9 ?kB ?_ ?c2 ?c3 ?c4 ?c5; (case kA => exact rfl); (case kF => first | exact rfl | assumption); (case kK => first | exact rfl | assumption); (case k1 => k_asm); (case k2 => k_asm); (case k3 => k_asm); (case k4 => k_asm); (case k5 => k_asm); (case k6 => k_is); (case k7 => k_is); (case k8 => k_room); (case k9 => first | exact BindsTo.of_eq rfl | exact binds_K (by k_in) rfl (by k_is) rfl rfl rfl); (case c5 => decide); (case kB => exact locs rfl); (case c2 => exact rfl); (case c3 => exact rfl); (case c4 => exact rfl); k_whole))
  intro g' L' h' FG' F' N' B' X' T'
  (try dsimp only [List.reverse, List.reverseAux] at F')
  repeat' (first | ((fail_if_success (with_reducible show wpAny _ _ (truthy (Value.ref _)) _ _ _)); (first | (k_unfold; (try dsimp only)) | (k_end; wrow_close) | walk1 | (dsimp only; walk1) | (leave1; walk_say "STEP leave1"; try dsimp only) | fail "no step")))
  rename_i h4 F4 N4
  refine wpAny_truthy_list (News.isList N4 (by k_mem)) (by simp) ?_
  repeat' (first | ((first | (k_unfold; (try dsimp only)) | (k_end; wrow_close) | walk1 | (dsimp only; walk1) | (leave1; walk_say "STEP leave1"; try dsimp only) | fail "no step")))
  refine' hret _ [(?c1, ?oc1), (a, nodeO d (.ref ?c1) (.int en t2) (.ref x) (.str tx tkx) (.int st t1)), (d, ?od)] _ _ ?kF ?kN ?kDesc ?kOrd ?kPost
  (case kF => assumption)
  (case kN => (refine' newsSub ?n ?s; (case n => assumption); (case s => walk_at "m sub")))
  (case kDesc => walk_at "m desc")
  (case kOrd => walk_at "m ord")
  (case kPost => exact ⟨a, d, _, rfl, rfl⟩)
/-- the children by keyword -/
theorem nodeH3_ok {w : World} {x cl : Addr} {tx : Str} {tkx t1 t2 : Tok} {st en : Int} {v0 : Value} {vs : List Value} {n : Nat} {pre : List (Addr × Obj)} (hl : (cl, lstO (v0 :: vs) n) ∈ pre) (hz : vs.length < 16777216) :
    RunH w 99 [.ref x, .str tx tkx, .int st t1, .int en t2] [(Str.ofString "children", .ref cl)] 10 60 pre (fun v tl => ∃ a d, v = .ref a ∧ tl = [(a, nodeO d (.ref cl) (.int en t2) (.ref x) (.str tx tkx) (.int st t1)), (d, dictOf [] 0)]) := by
  w_on
  intro A h₀ L m s R hAmb F N hdep hun hret
  obtain ⟨A₀, base, outer, env, p, loose, mean, mg, mb, B, X, T, hA, hf, hke, hrw⟩ := hAmb
  obtain ⟨hd, dp, fr, gd, un⟩ := A
  dsimp only at hA hdep hun
  subst hA
  revert X hrw
  k_fill
  intro X hrw
  clear hrw
  replace N := news_dup N hl
  (k_dflt (refine' make_K (by k_asm) (by k_asm) ?kx ?k1 ?k2 ?k3 ?_; (case kx => k_in); (case k1 => k_is); (case k2 => k_is); (case k3 => k_is); k_whole))
  intro a d h1 F1 N1 l1 l2
  replace l1 := allLt_of l1
  k_lt2 l2
  have l1x := tbn_up l2 l1
  (try simp only [AllLt, and_true] at l1 l1x)
  (k_dflt (refine' code_def (binds := [(Str.ofString "self", .ref a), (Str.ofString "expr", .ref x), (Str.ofString "full_text", .str tx tkx), (Str.ofString "start", .int st t1), (Str.ofString "end", .int en t2), (Str.ofString "children", .ref cl)]) ?k1 ?k2 ?k3 ?k4 ?k5 ?kA ?kF ?kK ?k6 ?k7 ?k8 ?k9 ?kB ?_ ?c2 ?c3 ?c4 ?c5; (case kA => exact rfl); (case kF => first | exact rfl | assumption); (case kK => first | exact rfl | assumption); (case k1 => k_asm); (case k2 => k_asm); (case k3 => k_asm); (case k4 => k_asm); (case k5 => k_asm); (case k6 => k_is); (case k7 => k_is); (case k8 => k_room); (case k9 => first | exact BindsTo.of_eq rfl | exact binds_K (by k_in) rfl (by k_is) rfl rfl rfl); (case c5 => decide); (case kB => exact locs rfl); (case c2 => exact rfl); (case c3 => exact rfl); (case c4 => exact rfl); k_whole))
  intro g' L' h' FG' F' N' B' X' T'
  (try dsimp only [List.reverse, List.reverseAux] at F')
  repeat' (first | ((fail_if_success (with_reducible show wpAny _ _ (truthy (Value.ref _)) _ _ _)); (first | (k_unfold; (try dsimp only)) | (k_end; wrow_close) | walk1 | (dsimp only; walk1) | (leave1; walk_say "STEP leave1"; try dsimp only) | fail "no step")))
  rename_i h4 F4 N4
  refine mH_truthy_cons N4 (by k_mem) (by omega) ?_
  repeat' (first | ((first | (k_unfold; (try dsimp only)) | (k_end; wrow_close) | walk1 | (dsimp only; walk1) | (leave1; walk_say "STEP leave1"; try dsimp only) | fail "no step")))
  refine' hret _ [(a, ?oa), (d, ?od)] _ _ ?kF ?kN ?kDesc ?kOrd ?kPost
  (case kF => assumption)
  (case kN => (refine' newsSub ?n ?s; (case n => assumption); (case s => walk_at "m sub")))
  (case kDesc => walk_at "m desc")
  (case kOrd => walk_at "m ord")
  (case kPost => exact ⟨a, d, rfl, rfl⟩)
-- Spec
theorem fromIndex_nat {n p : Nat} (h : p ≤ n) : fromIndex n (p : Int) = p := by
  unfold fromIndex
  rw [if_neg (by omega), Int.max_eq_right (by omega)]
  omega
/-- an answer spans a piece of the text -/
def GoodPeg (tx : Str) (f : PegF) : Prop := ∀ p G, p ≤ tx.length → f p = some G → ∃ e nm en ch, G = .cons e nm p en ch .nil ∧ p ≤ en ∧ en ≤ tx.length
theorem seqRun_span {tx : Str} : ∀ (fs : List PegF) (p : Nat) (F : PF) (q : Nat), (∀ f ∈ fs, GoodPeg tx f) → p ≤ tx.length → seqRun fs p = some (F, q) → p ≤ q ∧ q ≤ tx.length
  | [], p, F, q, _, hp, h => by
    simp only [seqRun, Option.some.injEq, Prod.mk.injEq] at h
    omega
  | f :: fs, p, F, q, hg, hp, h => by
    unfold seqRun at h
    cases hf : f p with
    | none => rw [hf] at h; cases h
    | some G =>
      obtain ⟨e, nm, en, ch, rfl, h1, h2⟩ := hg f (.head _) p G hp hf
      rw [hf] at h
      dsimp only at h
      cases hr : seqRun fs (p + (en - p)) with
      | none => rw [hr] at h; cases h
      | some r =>
        rw [hr] at h
        obtain ⟨F', q'⟩ := r
        simp only [Option.some.injEq, Prod.mk.injEq] at h
        have := seqRun_span fs _ F' q' (fun g hg' => hg g (.tail _ hg')) (by omega) hr
        omega
theorem altRun_span {tx : Str} : ∀ (fs : List PegF) (p : Nat) (G : PF), (∀ f ∈ fs, GoodPeg tx f) → altRun fs p = some G → ∃ f ∈ fs, f p = some G
  | [], p, G, _, h => by cases h
  | f :: fs, p, G, hg, h => by
    unfold altRun at h
    cases hf : f p with
    | none =>
      rw [hf] at h
      obtain ⟨g, hg', e⟩ := altRun_span fs p G (fun g hg' => hg g (.tail _ hg')) h
      exact ⟨g, .tail _ hg', e⟩
    | some G' => rw [hf] at h; exact ⟨f, .head _, by rw [hf]; exact h⟩
theorem starRun_span {tx : Str} {f : PegF} (hg : GoodPeg tx f) {mx : Option Nat} : ∀ (fuel cnt p : Nat), p ≤ tx.length → p ≤ (starRun f tx.length mx fuel cnt p).2 ∧ (starRun f tx.length mx fuel cnt p).2 ≤ tx.length
  | 0, _, p, hp => ⟨Nat.le_refl _, hp⟩
  | fuel + 1, cnt, p, hp => by
    unfold starRun
    split
    · cases hf : f p with
      | none => exact ⟨Nat.le_refl _, hp⟩
      | some G =>
        obtain ⟨e, nm, en, ch, rfl, h1, h2⟩ := hg p G hp hf
        dsimp only
        split
        · exact ⟨Nat.le_refl _, hp⟩
        · have := starRun_span hg (mx := mx) fuel (cnt + 1) (p + (en - p)) (by omega)
          dsimp only
          omega
    · exact ⟨Nat.le_refl _, hp⟩
theorem run_good {tx : Str} {k : EK} {x : Addr} {nm : Str} {fs : List PegF} (hg : ∀ f ∈ fs, GoodPeg tx f) : GoodPeg tx (k.run tx x nm fs) := by
  intro p G hp h
  cases k with
  | lit s =>
    simp only [EK.run] at h
    split at h
    · rename_i hs
      unfold startsAt at hs
      rw [fromIndex_nat hp] at hs
      simp only [Bool.and_eq_true, decide_eq_true_eq] at hs
      cases h
      exact ⟨_, _, _, _, rfl, by omega, hs.1⟩
    · cases h
  | seq =>
    simp only [EK.run] at h
    cases hr : seqRun fs p with
    | none => rw [hr] at h; cases h
    | some r =>
      rw [hr] at h; cases h
      have := seqRun_span fs p r.1 r.2 hg hp hr
      exact ⟨_, _, _, _, rfl, this.1, this.2⟩
  | alt =>
    simp only [EK.run] at h
    cases hr : altRun fs p with
    | none => rw [hr] at h; cases h
    | some r =>
      rw [hr] at h; cases h
      obtain ⟨f, hf, e⟩ := altRun_span fs p r hg hr
      obtain ⟨e, nm, en, ch, rfl, h1, h2⟩ := hg f hf p r hp e
      exact ⟨_, _, _, _, rfl, h1, h2⟩
  | nota =>
    simp only [EK.run] at h
    cases hh : fs.head? with
    | none => rw [hh] at h; cases h
    | some f =>
      rw [hh] at h
      dsimp only at h
      split at h
      · cases h; exact ⟨_, _, _, _, rfl, Nat.le_refl _, hp⟩
      · cases h
  | star =>
    simp only [EK.run] at h
    cases hh : fs.head? with
    | none => rw [hh] at h; cases h
    | some f =>
      rw [hh] at h
      cases h
      have := starRun_span (hg f (List.mem_of_mem_head? hh)) (mx := none) (tx.length + 1) 0 p hp
      exact ⟨_, _, _, _, rfl, this.1, this.2⟩
  | opt =>
    simp only [EK.run] at h
    cases hh : fs.head? with
    | none => rw [hh] at h; cases h
    | some f =>
      rw [hh] at h
      cases h
      have := starRun_span (hg f (List.mem_of_mem_head? hh)) (mx := some 1) (tx.length + 1) 0 p hp
      exact ⟨_, _, _, _, rfl, this.1, this.2⟩
theorem pegs_good {tx : Str} : ∀ F : EF, ∀ f ∈ F.pegs tx, GoodPeg tx f
  | .nil => fun f hf => by cases hf
  | .cons k x d o mt nm kids rest => fun f hf => by
    rcases List.mem_cons.mp hf with h | h
    · subst h; exact run_good (pegs_good kids)
    · exact pegs_good rest f h
-- Exc
def excShape (K : Frag) (C : Addr) (bm : List Value) (newId : String) : Bool := match K.lookup C with
  | some ⟨.type "type", _, .cls cd, sl⟩ => (match sl.toList with
    | [_, _, _, _, some (.builtin n), _] => cd.mro == .ref C :: bm && n == newId && !cd.hasDel
    | _ => false)
  | _ => false
theorem shape_of {K : Frag} {h : Heap} {C : Addr} {bm : List Value} {newId : String} (X : K.In h) (e : excShape K C bm newId = true) :
    ∃ nm q N bs hdct sn sub ab col dd k0 k1 k2 k3 k5, h.get? C = some (excClassObj nm q C N bs bm hdct sn sub ab col dd k0 k1 k2 k3 k5 newId) := by
  unfold excShape at e
  split at e
  · rename_i dd cd sl ho
    split at e
    · rename_i k0 k1 k2 k3 n k5 hs
      simp only [Bool.and_eq_true, beq_iff_eq, Bool.not_eq_true'] at e
      obtain ⟨⟨hm, rfl⟩, hdel⟩ := e
      obtain ⟨nm, bs, mro, ns, qn, hd, sn, sub, ab, col, del⟩ := cd
      dsimp only at hm hdel
      subst hm hdel
      have hsl : sl = #[k0, k1, k2, k3, some (.builtin n), k5] := by
        obtain ⟨l⟩ := sl
        simp only at hs
        rw [hs]
      subst hsl
      exact ⟨nm, qn, ns, bs, hd, sn, sub, ab, col, dd, k0, k1, k2, k3, k5, X _ _ ho⟩
    · cases e
  · cases e
abbrev errBm : List Value := [.ref 123, .ref 137, .type "Exception", .type "BaseException", .type "object"]
abbrev errBmB : List Value := [.type "Exception", .type "BaseException", .type "object"]
theorem err_shape {w : World} : excShape (Mine.hd.heap_39 w.params) 179 errBm "Exception.__new__" = true := by kernel_rfl
theorem err_tail {w : World} : tailIn (Mine.hd.heap_39 w.params) errBmB errBm = true := by kernel_rfl
theorem err_initf {w : World} : findIn (Mine.hd.heap_39 w.params) (.ref 179) "__init__" = some (some (.ref 155)) := by kernel_rfl
theorem err_inity {w : World} : typeIn (Mine.hd.heap_39 w.params) (.ref 155) = some (.type "function") := by kernel_rfl
theorem err_call {w : World} : specialIn (Mine.hd.heap_39 w.params) (.ref 179) "__call__" = some (some (.builtin "type.__call__")) := by kernel_rfl
theorem err_typ {w : World} : instIn (Mine.hd.heap_39 w.params) (.ref 179) (.type "type") = some true := by kernel_rfl

/-- a ParseError is made -/
theorem make_E {w : World} {A : Around} {s : Shared} {h₀ : Heap} {L : Addr} {m : Str → Option Value} {news : List (Addr × Obj)} {R : Result → Shared → Prop} {rest : List Value} (F : Fr h₀ L s.heap m) (N : News h₀ L s.heap news) (X : (Mine.hd.heap_39 w.params).In s.heap) (hr : rest.length ≤ sizeLine)
    (h : ∀ x t h', Fr h₀ L h' m → News h₀ L h' ((x, (⟨.ref 179, none, .fields #[.ref t, .none, .none, .none, .bool false, .none], #[]⟩ : Obj)) :: (t, tupO rest 0) :: news) → (∀ p ∈ news, p.1 < t) → t < x →
      codeAny (model PG w) (A.under (.builtin "type.__call__" ⟨.ref 179 :: rest, []⟩)) (.call (.ref 155) ⟨.ref x :: rest, []⟩) (InitBack x R) { s with heap := h' }) :
    codeAny (model PG w) A (.call (.ref 179) ⟨rest, []⟩) R s := by
  obtain ⟨hh, g, d, tk, os⟩ := s
  dsimp only at F N X h ⊢
  obtain ⟨nm, q, NN, bs, hdct, sn, sub, ab, col, dd, k0, k1, k2, k3, k5, hC⟩ := shape_of X err_shape
  have T := tail_of_in X (err_tail (w := w))
  have call := looks_specialIn (M := model PG w) X err_call
  have typ := looks_instIn (M := model PG w) X err_typ
  have Fn := PySem.F.excBase_Exception
  refine codeAny_of_tree ?_
  show wpAny _ _ (callAny (.ref 179) _) _ _ _
  refine nd_load hC ?_
  show wpAny _ _ (callAny.viaDunder (.ref 179) _) _ _ _
  unfold callAny.viaDunder
  refine wpAny_bind (call.at ?_)
  dsimp only
  rw [tc_bind]
  refine wpAny_bind (wpAny_pure (wpAny_bind (wpAny_pure ?_)))
  refine wpAny_pure (a := Fin.again (.call (.builtin "type.__call__") ⟨.ref 179 :: rest, []⟩)) (And.intro rfl ?_)
  refine codeAny_call_builtin_at (Code.quiet_builtin _ (by decide +kernel)) entry_typeCall (check_slot tc_kind tc_split typ (tc_args _ _ _) ?_)
  unfold Builtin.«type.__call__»
  have hB : errBmB.contains (.type "Exception") = true := by decide
  repeat (first | with_reducible refine wpAny_loadPart_at hC ?_ | with_reducible refine wpAny_madeBy_exc hC ?_ | wp_step)
  refine codeAny_call_builtin_code (Code.quiet_builtin _ Fn.quiet) (wpAny_check_new_subU Fn hB T hC ?_)
  refine codeAny_exc_new_subU Fn hB Fn T hC ?_ hr
  show wpAny _ _ _ _ _ _
  generalize hoT : ({ cls := Value.type "tuple", data := Data.seq rest.toArray } : Obj) = oT
  generalize hoE : ({ cls := Value.ref 179, data := Data.fields #[Value.ref hh.objs.size, Value.none, Value.none, Value.none, Value.bool false, Value.none] } : Obj) = oE
  have k : ∀ b o, hh.get? b = some o → ((hh.push oT).push oE).get? b = some o := fun b o e => Heap.get?_push_of_some _ (Heap.get?_push_of_some _ e)
  have hx : ((hh.push oT).push oE).get? (hh.objs.size + 1) = some oE := by
    have := Heap.get?_push_size (hh.push oT) (o := oE) (by rw [← hoE]; rfl)
    rwa [Heap.size_push] at this
  have hx2 : ((hh.push oT).push oE).get? (hh.objs.size + 1) = some ({ cls := Value.ref 179, data := Data.fields #[Value.ref hh.objs.size, Value.none, Value.none, Value.none, Value.bool false, Value.none] } : Obj) := by rw [hx, ← hoE]
  have t1 : Looks (model PG w) ((hh.push oT).push oE) (typeOf (.ref (hh.objs.size + 1))) (.ref 179) := (Looks.ld hx2).andThen .now
  have s1 : Looks (model PG w) ((hh.push oT).push oE) (isSubtype (.ref 179) (.ref 179)) true := looks_mroIn (X.keeps k) (by kernel_rfl)
  have i1 : Looks (model PG w) ((hh.push oT).push oE) (typeLookup (.ref 179) "__init__") (some (.ref 155)) := looks_findIn (X.keeps k) err_initf
  have b1 : Looks (model PG w) ((hh.push oT).push oE) (bindSpecial (.ref 155) (.ref (hh.objs.size + 1))) (.ref 155, [.ref (hh.objs.size + 1)]) := bind_fn (X.keeps k) _ err_inity
  unfold isInstance callSpecial? specialOf
  repeat (first | with_reducible refine wpAny_call ?_ | lk)
  have hT : ∀ es n, oT.data ≠ .dict es n := fun es n q => by rw [← hoT] at q; cases q
  have hE : ∀ es n, oE.data ≠ .dict es n := fun es n q => by rw [← hoE] at q; cases q
  have F2 := (F.push oT).push oE
  have N2 := (News.push F N oT (by rw [← hoT]; rfl)).push (F.push oT) oE (by rw [← hoE]; rfl)
  rw [Heap.size_push] at N2
  have z := h (hh.objs.size + 1) hh.objs.size _ F2 (by rw [← hoT, ← hoE] at N2 ⊢; exact N2) (fun p hp => Heap.lt_size (N p hp).1) (Nat.lt_succ_self _)
  refine codeAny_mono z fun r s' z => ?_
  rcases r with e | (v | _ | _ | _) <;> first | exact z | exact z.elim | skip
  obtain ⟨rfl, z⟩ := z
  exact wpAny_pure (wpAny_pure z)
-- Um
theorem em_lit {w : World} : findIn (Mine.hd.heap_39 w.params) (.ref 336) "match_core" = some (some (.ref 266)) := by kernel_rfl
theorem em_seq {w : World} : findIn (Mine.hd.heap_39 w.params) (.ref 394) "match_core" = some (some (.ref 266)) := by kernel_rfl
theorem em_alt {w : World} : findIn (Mine.hd.heap_39 w.params) (.ref 420) "match_core" = some (some (.ref 266)) := by kernel_rfl
theorem em_look {w : World} : findIn (Mine.hd.heap_39 w.params) (.ref 458) "match_core" = some (some (.ref 266)) := by kernel_rfl
theorem em_qnt {w : World} : findIn (Mine.hd.heap_39 w.params) (.ref 504) "match_core" = some (some (.ref 266)) := by kernel_rfl
theorem em_fn {w : World} : isFn (Mine.hd.heap_39 w.params) (.ref 266) = true := by kernel_rfl
theorem em_keep {w : World} : keepIn (Mine.hd.heap_39 w.params) (.ref 266) = true := by kernel_rfl
theorem em_of {w : World} (k : EK) : findIn (Mine.hd.heap_39 w.params) (.ref k.cls.1) "match_core" = some (some (.ref 266)) := by
  cases k <;> first | exact em_lit | exact em_seq | exact em_alt | exact em_look | exact em_qnt
theorem e_mc {w : World} {A : Around} {E : Value → Shared → Prop} {s : Shared} {x d mt L : Addr} {k : EK} {nm : Str} {o : Obj} {h₀ : Heap} {m : Str → Option Value} {news : List (Addr × Obj)} {pl : Sem Bool} {od : List DictEntry} {n : Nat} {Q : Value × List Value → Shared → Prop} (F : Fr h₀ L s.heap m) (X₀ : (Mine.hd.heap_39 w.params).In h₀) (N : News h₀ L s.heap news) (e : k.Is d mt nm o) (hx : (x, o) ∈ news) (hd : (d, dictOf od n) ∈ news)
    (hl : getL (Str.ofString "match_core") od = some none) (h : Q (.ref 266, [.ref x]) s) : wpAny (model PG w) A (getMethod (.ref x) "match_core" pl) Q E s :=
  method_inst F X₀ (e.inst N hx hd) ((ecls_of k).get _) (em_of k) em_fn hl h

/-- a member of the forest -/
inductive EF.Mem (k : EK) (x d : Addr) (o : Obj) (mt : Addr) (nm : Str) (kids : EF) : EF → Prop
  | head {rest : EF} : EF.Mem k x d o mt nm kids (.cons k x d o mt nm kids rest)
  | tail {k' : EK} {x' d' : Addr} {o' : Obj} {mt' : Addr} {nm' : Str} {kids' rest : EF} : EF.Mem k x d o mt nm kids rest → EF.Mem k x d o mt nm kids (.cons k' x' d' o' mt' nm' kids' rest)
section
variable {w : World} {k : EK} {x d : Addr} {o : Obj} {mt : Addr} {nm : Str} {kids F : EF}
theorem EF.Mem.alls {Y : Addr → Prop} (h : EF.Mem k x d o mt nm kids F) (a : F.all Y) : (EF.cons k x d o mt nm kids .nil).all Y := by
  induction h with
  | head => exact ⟨a.1, a.2.1, trivial⟩
  | tail _ ih => exact ih a.2.2
theorem EF.Mem.wfs (h : EF.Mem k x d o mt nm kids F) (a : F.wf) : (EF.cons k x d o mt nm kids .nil).wf := by
  induction h with
  | head => exact ⟨a.1, a.2.1, a.2.2.1, trivial⟩
  | tail _ ih => exact ih a.2.2.2
theorem EF.Mem.stats (h : EF.Mem k x d o mt nm kids F) : ∀ q ∈ (EF.cons k x d o mt nm kids .nil).stat, q ∈ F.stat := by
  induction h with
  | head =>
    intro q hq
    simp only [EF.stat, List.mem_append, List.append_nil] at hq ⊢
    rcases hq with h | h
    · exact .inl h
    · exact .inr (.inl h)
  | tail _ ih =>
    intro q hq
    have := ih q hq
    exact List.mem_append_right _ (List.mem_append_right _ this)
theorem muts_split {b : Nat} {tx : Str} {c : Addr} {C : List (Int × Value)} {S M : List (Addr × Obj)} {n : Nat} (hm : EF.Mem k x d o mt nm kids F) (h : Muts w b tx c C S F n M) :
    ∃ A B Mh nh, M = A ++ (Mh ++ B) ∧ nh ≤ n ∧ Muts w b tx c C S (.cons k x d o mt nm kids .nil) nh Mh ∧
      ∀ C' S' nh' Mh', Grow C C' → (∀ p ∈ S, p ∈ S') → Muts w b tx c C' S' (.cons k x d o mt nm kids .nil) nh' Mh' → Muts w b tx c C' S' F (n - nh + nh') (A ++ (Mh' ++ B)) := by
  induction hm generalizing n M with
  | head =>
    cases h with
    | @cons _ _ _ _ _ _ _ _ n1 n2 n3 M1 M2 M3 h1 h2 h3 =>
    refine ⟨[], M3, M1 ++ (M2 ++ []), n1 + n2 + 0, by simp, by omega, .cons h1 h2 .nil, fun C' S' nh' Mh' g s h' => ?_⟩
    cases h' with
    | @cons _ _ _ _ _ _ _ _ m1 m2 m3 L1 L2 L3 j1 j2 j3 =>
    cases j3
    have e : n1 + n2 + n3 - (n1 + n2 + 0) + (m1 + m2 + 0) = m1 + m2 + n3 := by omega
    rw [e]
    simpa using Muts.cons j1 j2 (h3.mono g s)
  | tail _ ih =>
    cases h with
    | @cons _ _ _ _ _ _ _ _ n1 n2 n3 M1 M2 M3 h1 h2 h3 =>
    obtain ⟨A, B, Mh, nh, rfl, hle, hh, k⟩ := ih h3
    refine ⟨M1 ++ (M2 ++ A), B, Mh, nh, by simp, by omega, hh, fun C' S' nh' Mh' g s h' => ?_⟩
    have e : n1 + n2 + n3 - nh + nh' = n1 + n2 + (n3 - nh + nh') := by omega
    rw [e]
    simpa using Muts.cons (h1.mono g s) (h2.mono g s) (k C' S' nh' Mh' g s h')
end

/-- where matching the members stands -/
structure MAll (w : World) (b : Nat) (tx : Str) (c ee ed : Addr) (eo : Obj) (Y : Addr → Prop) (F : EF) (nf : Nat) (oc : Obj) (C : List (Int × Value)) (oe : Obj) (M loc S H : List (Addr × Obj)) : Prop where
  ctx : MCtx w tx c ee ed eo Y ((c, oc) :: (ed, oe) :: (M ++ loc)) loc
  st : MSt w b tx c Y F nf oc C oe M loc S
  all : F.all Y
  wf : F.wf
  stat : ∀ q ∈ F.stat, q ∈ loc
  hH : ∀ q ∈ H, q ∈ loc
  hS : ∀ q ∈ S, q ∈ loc
/-- from one stand to a later one -/
structure Acc (C : List (Int × Value)) (nf : Nat) (led : List (Addr × Obj)) (C' : List (Int × Value)) (nf' : Nat) (led' : List (Addr × Obj)) : Prop where
  grow : Grow C C'
  len : C'.length + nf' = C.length + nf
  addr : ∀ a ∈ led.map (·.1), a ∈ led'.map (·.1)
theorem Acc.refl {C : List (Int × Value)} {nf : Nat} {led : List (Addr × Obj)} : Acc C nf led C nf led := ⟨.refl, rfl, fun _ h => h⟩
theorem Acc.trans {C C' C'' : List (Int × Value)} {nf nf' nf'' : Nat} {led led' led'' : List (Addr × Obj)} (a : Acc C nf led C' nf' led') (b : Acc C' nf' led' C'' nf'' led'') : Acc C nf led C'' nf'' led'' :=
  ⟨a.grow.trans b.grow, by have := a.len; have := b.len; omega, fun q h => b.addr q (a.addr q h)⟩

theorem perm_mem1 {T A Mh B loc : List (Addr × Obj)} {a b : Addr × Obj} : (T ++ (a :: b :: ((A ++ (Mh ++ B)) ++ loc))).Perm (a :: b :: (Mh ++ (A ++ (B ++ (T ++ loc))))) := by
  classical
  refine List.perm_iff_count.mpr fun q => ?_
  simp only [List.count_append, List.count_cons]
  omega
theorem perm_mem2 {T A Mh B loc N : List (Addr × Obj)} {a b : Addr × Obj} : (a :: b :: (Mh ++ (N ++ (A ++ (B ++ (T ++ loc)))))).Perm (T ++ (a :: b :: ((A ++ (Mh ++ B)) ++ (N ++ loc)))) := by
  classical
  refine List.perm_iff_count.mpr fun q => ?_
  simp only [List.count_append, List.count_cons]
  omega
theorem map_mem {l l' : List (Addr × Obj)} {a : Addr} (s : ∀ p ∈ l, p ∈ l') (h : a ∈ l.map (·.1)) : a ∈ l'.map (·.1) := by
  obtain ⟨p, hp, rfl⟩ := List.mem_map.mp h
  exact List.mem_map_of_mem (s _ hp)

/-- a member is matched -/
theorem mem_call {w : World} {dN uN : Nat} {k : EK} {x d : Addr} {o : Obj} {mt : Addr} {nm : Str} {kids F : EF} (hmem : EF.Mem k x d o mt nm kids F) (hmc : MC w dN uN k x d o mt nm kids)
    {b : Nat} {tx : Str} {c ee ed : Addr} {eo : Obj} {Y : Addr → Prop} {nf : Nat} {oc : Obj} {C : List (Int × Value)} {oe : Obj} {M loc S H T : List (Addr × Obj)} {tkx tkp : Tok} {p : Nat} {A : Around} {h₀ : Heap} {L : Addr} {m : Str → Option Value} {s : Shared} {R : Result → Shared → Prop}
    (al : MAll w b tx c ee ed eo Y F nf oc C oe M loc S H) (hT : ∀ q ∈ T, q.2.cls ≠ .type "dict") (hp : p ≤ tx.length) (ha : Amb w A h₀ L) (hHL : HandL A H) (Fm : Fr h₀ L s.heap m)
    (N : News h₀ L s.heap (T ++ ((c, oc) :: (ed, oe) :: (M ++ loc)))) (Sp : Sep (T ++ ((c, oc) :: (ed, oe) :: (M ++ loc)))) (hd : A.depth + dN ≤ 600) (hu : A.units + uN ≤ 9000)
    (cont : ∀ v h' tk' oc' C' oe' nf' M' N', Fr h₀ L h' m → News h₀ L h' (T ++ ((c, oc') :: (ed, oe') :: (M' ++ (N' ++ loc)))) → Sep (T ++ ((c, oc') :: (ed, oe') :: (M' ++ (N' ++ loc)))) →
      MAll w b tx c ee ed eo Y F nf' oc' C' oe' M' (N' ++ loc) (N' ++ S) H → Acc C nf ((c, oc) :: (ed, oe) :: (M ++ loc)) C' nf' ((c, oc') :: (ed, oe') :: (M' ++ (N' ++ loc))) → Res tx (N' ++ S) (k.run tx x nm (kids.pegs tx) p) v → R (.ok (.ret v)) { s with heap := h', toks := tk' }) :
    codeAny (model PG w) A (.call (.ref 266) ⟨[.ref x, .str tx tkx, .int p tkp, .ref c, .ref ee], []⟩) R s := by
  obtain ⟨A1, B1, Mh, nh, rfl, hle, hh, back⟩ := muts_split hmem al.st.muts
  have subL : ∀ q ∈ loc, q ∈ A1 ++ (B1 ++ (T ++ loc)) := fun q hq => List.mem_append_right _ (List.mem_append_right _ (List.mem_append_right _ hq))
  have room := al.st.room
  refine runM_call (hmc b tx c ee ed eo Y nh oc C oe Mh (A1 ++ (B1 ++ (T ++ loc))) S H tkx tkp p ⟨al.ctx.lo, al.ctx.eis, subL _ al.ctx.em, fun y hy => ?ys, al.ctx.len, trivial⟩ ⟨al.st.dict, al.st.cok, al.st.err, hh, by omega, rows_mono al.st.rows fun q hq => ?rw⟩ (hmem.alls al.all) (hmem.wfs al.wf) (fun q hq => subL q (al.stat q (hmem.stats q hq))) hp (fun q hq => subL q (al.hH q hq)) (fun q hq => subL q (al.hS q hq)))
    ha hHL Fm (newsSub N fun q hq => perm_mem1.mem_iff.mpr hq) (sep_perm Sp perm_mem1) hd hu fun v led' h' tk' F' N' S' hp' => ?_
  case ys =>
    obtain ⟨k9, d9, mt9, nm9, o9, e1, e2, e3⟩ := al.ctx.ys y hy
    exact ⟨k9, d9, mt9, nm9, o9, e1, subL _ e2, map_mem (fun p hp => by
      simp only [List.mem_cons, List.mem_append] at hp ⊢
      rcases hp with h | h | (h | h | h) | h <;> simp [h]) e3⟩
  case rw =>
    simp only [List.mem_append] at hq ⊢
    rcases hq with (h | h | h) | h <;> simp [h]
  obtain ⟨oc', C', oe', nf', M', Nw, rfl, st', gr, len, res, ad⟩ := hp'
  have subL' : ∀ q ∈ loc, q ∈ Nw ++ loc := fun q hq => List.mem_append_right _ hq
  have ad' : ∀ a ∈ ((c, oc) :: (ed, oe) :: ((A1 ++ (Mh ++ B1)) ++ loc)).map (·.1), a ∈ ((c, oc') :: (ed, oe') :: ((A1 ++ (M' ++ B1)) ++ (Nw ++ loc))).map (·.1) := by
    intro a ha
    have old : ∀ q ∈ ((A1 ++ B1) ++ loc).map (·.1), q ∈ ((c, oc') :: (ed, oe') :: ((A1 ++ (M' ++ B1)) ++ (Nw ++ loc))).map (·.1) := fun q hq => map_mem (fun p hp => by
      simp only [List.mem_cons, List.mem_append] at hp ⊢
      rcases hp with (h | h) | h <;> simp [h]) hq
    simp only [List.map_cons, List.map_append, List.mem_cons, List.mem_append] at ha
    rcases ha with h | h | (h | h | h) | h
    · rw [h]; exact .head _
    · rw [h]; exact .tail _ (.head _)
    · exact old a (by simp [h])
    · -- the member's own
      have hn := ad a (by simp only [List.map_cons, List.map_append, List.mem_cons, List.mem_append]; exact .inr (.inr (.inl h)))
      simp only [List.map_cons, List.map_append, List.mem_cons, List.mem_append] at hn
      rcases hn with h2 | h2 | h2 | h2 | h2 | h2 | h2 | h2
      · rw [h2]; exact .head _
      · rw [h2]; exact .tail _ (.head _)
      · simp only [List.map_cons, List.map_append, List.mem_cons, List.mem_append]; simp [h2]
      · simp only [List.map_cons, List.map_append, List.mem_cons, List.mem_append]; simp [h2]
      · exact old a (by simp [h2])
      · exact old a (by simp [h2])
      · -- not in T
        exfalso
        have h3 : a ∈ T.map (·.1) := h2
        have Sn : ((T ++ ((c, oc) :: (ed, oe) :: ((A1 ++ (Mh ++ B1)) ++ loc))).map (·.1)).Nodup := Sp
        rw [List.map_append, List.nodup_append] at Sn
        exact Sn.2.2 a h3 a (by simp only [List.map_cons, List.map_append, List.mem_cons, List.mem_append]; simp [h]) rfl
      · exact old a (by simp [h2])
    · exact old a (by simp [h])
    · exact old a (by simp [h])
  have room' := st'.room
  refine cont v h' tk' oc' C' oe' (nf - nh + nf') (A1 ++ (M' ++ B1)) Nw F' (newsSub N' fun q hq => perm_mem2.mem_iff.mpr hq) (sep_perm S' perm_mem2) ⟨⟨al.ctx.lo, al.ctx.eis, subL' _ al.ctx.em, fun y hy => ?ys2, al.ctx.len, trivial⟩, ⟨st'.dict, st'.cok, st'.err, back C' _ nf' M' gr (fun q hq => List.mem_append_right _ hq) st'.muts, by omega, ?rows⟩, al.all, al.wf, fun q hq => subL' q (al.stat q hq), fun q hq => subL' q (al.hH q hq), fun q hq => ?ss⟩ ⟨gr, by omega, ad'⟩ res
  case ys2 =>
    obtain ⟨k9, d9, mt9, nm9, o9, e1, e2, e3⟩ := al.ctx.ys y hy
    exact ⟨k9, d9, mt9, nm9, o9, e1, subL' _ e2, ad' _ e3⟩
  case ss =>
    rcases List.mem_append.mp hq with h | h
    · exact List.mem_append_left _ h
    · exact subL' q (al.hS q h)
  case rows =>
    -- a row of the cache is a dict: it does not lie in T
    intro q hq
    obtain ⟨r, or, e, hm, hc⟩ := st'.rows q hq
    refine ⟨r, or, e, ?_, hc⟩
    simp only [List.mem_append] at hm ⊢
    rcases hm with h | h | h | h | h | h
    · simp [h]
    · simp [h]
    · simp [h]
    · simp [h]
    · exact absurd hc (hT _ h)
    · simp [h]
theorem perm_fin {X M N loc : List (Addr × Obj)} {a b : Addr × Obj} : (X ++ (a :: b :: (M ++ (N ++ loc)))).Perm (a :: b :: (M ++ ((X ++ N) ++ loc))) := by
  classical
  refine List.perm_iff_count.mpr fun q => ?_
  simp only [List.count_append, List.count_cons]
  omega
theorem sep_tl {tl pre : List (Addr × Obj)} (S : Sep pre) (d : Desc tl) (h : ∀ q ∈ tl, ∀ p ∈ pre, p.1 < q.1) : Sep (tl ++ pre) := by
  unfold Sep
  rw [List.map_append, List.nodup_append]
  refine ⟨desc_nodup d, S, fun a ha b hb e => ?_⟩
  obtain ⟨q, hq, rfl⟩ := List.mem_map.mp ha
  obtain ⟨p, hp, rfl⟩ := List.mem_map.mp hb
  have := h q hq p hp
  rw [e] at this
  exact absurd this (Nat.lt_irrefl _)
theorem fin_post {w : World} {b : Nat} {tx : Str} {c ee ed : Addr} {eo : Obj} {Y : Addr → Prop} {F : EF} {nf nf' : Nat} {oc' : Obj} {C C' : List (Int × Value)} {oe' : Obj} {M' N' loc S H led : List (Addr × Obj)} {r : Option PF} {v : Value}
    (al : MAll w b tx c ee ed eo Y F nf' oc' C' oe' M' (N' ++ loc) (N' ++ S) H) (ac : Acc C nf led C' nf' ((c, oc') :: (ed, oe') :: (M' ++ (N' ++ loc)))) (X : List (Addr × Obj)) (res : Res tx ((X ++ N') ++ S) r v) :
    MPost w b tx c ed Y F nf C led loc S r v ((c, oc') :: (ed, oe') :: (M' ++ ((X ++ N') ++ loc))) := by
  refine ⟨oc', C', oe', nf', M', X ++ N', rfl, ⟨al.st.dict, al.st.cok, al.st.err, al.st.muts.mono .refl fun p hp => ?_, al.st.room, rows_mono al.st.rows fun p hp => ?_⟩, ac.grow, ac.len, res, fun a ha => map_mem (fun p hp => ?_) (ac.addr a ha)⟩
  · rcases List.mem_append.mp hp with h | h
    · simp [h]
    · simp [h]
  · simp only [List.mem_append] at hp ⊢
    rcases hp with h | h | h <;> simp [h]
  · simp only [List.mem_cons, List.mem_append] at hp ⊢
    rcases hp with h | h | h | h | h <;> simp [h]
/-- the members at the start -/
theorem mall_of {w : World} {b : Nat} {tx : Str} {c ee ed : Addr} {eo : Obj} {Y : Addr → Prop} {k : EK} {x d : Addr} {o : Obj} {mt : Addr} {nm : Str} {kids : EF} {nf : Nat} {oc : Obj} {C : List (Int × Value)} {oe : Obj} {M loc S H : List (Addr × Obj)}
    (ctx : MCtx w tx c ee ed eo Y ((c, oc) :: (ed, oe) :: (M ++ loc)) loc) (st : MSt w b tx c Y kids nf oc C oe M loc S) (hall : (EF.cons k x d o mt nm kids .nil).all Y) (hwf : (EF.cons k x d o mt nm kids .nil).wf) (hstat : ∀ q ∈ (EF.cons k x d o mt nm kids .nil).stat, q ∈ loc) (hH : ∀ q ∈ H, q ∈ loc) (hS : ∀ q ∈ S, q ∈ loc) :
    MAll w b tx c ee ed eo Y kids nf oc C oe M loc S H := ⟨ctx, st, hall.2.1, hwf.2.2.1, fun q hq => hstat q (List.mem_append_right _ (List.mem_append_left _ hq)), hH, hS⟩
-- ErrI
theorem err_notext {w : World} : findIn (Mine.hd.heap_39 w.params) (.ref 179) (Str.ofString "text") = some none := by kernel_rfl
/-- an exception's first own attribute: its __dict__ is made -/
theorem err_first {w : World} {A : Around} {E : Value → Shared → Prop} {s : Shared} {ee L : Addr} {vs : Array Value} {h₀ : Heap} {m : Str → Option Value} {news : List (Addr × Obj)} {name : Str} {v : Value} {Q : Unit → Shared → Prop} (F : Fr h₀ L s.heap m) (X₀ : (Mine.hd.heap_39 w.params).In h₀) (N : News h₀ L s.heap ((ee, (⟨.ref 179, none, .fields vs, #[]⟩ : Obj)) :: news)) (off : ∀ p ∈ news, p.1 ≠ ee)
    (ha : findIn (Mine.hd.heap_39 w.params) (.ref 179) name = some none)
    (h : ∀ ed h', Fr h₀ L h' m → News h₀ L h' ((ed, dictOf [⟨PyData.keyHash w.params name, .str name (s.toks + 1), v⟩] 1) :: (ee, (⟨.ref 179, some ed, .fields vs, #[]⟩ : Obj)) :: news) → (∀ p ∈ news, p.1 < ed) → ee < ed → Q () { s with heap := h', toks := s.toks + 2 }) : wpAny (model PG w) A (setAttr (.ref ee) name v) Q E s := by
  have I : InstAt s.heap ee ⟨.ref 179, none, .fields vs, #[]⟩ 179 none := ⟨(N _ (.head _)).1, rfl, rfl, trivial⟩
  have X := X₀.keeps F.keep
  obtain ⟨cd, hc, hmro, hdict⟩ := err_cls (w := w)
  have bnd : ∀ p ∈ news, p.1 < s.heap.objs.size := fun p hp => Heap.lt_size (N p (.tail _ hp)).1
  have bnd2 : ee < s.heap.objs.size := Heap.lt_size (N _ (.head _)).1
  obtain ⟨hh, gg, dd, tk, os⟩ := s
  dsimp only at I X N F h bnd bnd2
  have SF := PySem.F.store_object
  have sub : Looks (model PG w) hh (isInstance (.ref ee) (.type "object")) true := I.type.andThen (looks_mroIn X (by kernel_rfl))
  have hmr : Looks (model PG w) hh (mroOf (.ref 179)) cd.mro := (looks_clsIn X hc).andThen .now
  refine set_plain X I e179_set ?_
  refine codeAny_call_builtin SF.slot.plain SF.entry (@check_slot (model PG w) _ _ _ "object.__setattr__" "object" "__setattr__" (.ref ee) [.str name tk, v] [] _ SF.kind SF.split sub (SF.args (.ref ee) (.str name tk) v) ?_)
  rw [osa_eq, refuse_eq]
  refine wpAny_bind (wpAny_bind (I.type.at (wpAny_bind (hmr.at ?_))))
  rw [hmro, err_passes]
  refine wpAny_pure (wpAny_bind (I.type.at (wpAny_bind ((looks_findIn X ha).at (wpAny_bind (wpAny_pure ?_))))))
  refine wpAny_bind (wpAny_pure (wpAny_bind (wpAny_bind (wpAny_loadPart I.at_ (wpAny_bind ((looks_clsIn X hc).at ?_))))))
  rw [hdict]
  rw [if_neg (by decide)]
  dsimp only
  rw [if_neg (by decide)]
  have off2 : ∀ p ∈ [(hh.objs.size, emptyDict)], p.1 ≠ ee := fun p hp => by rw [List.mem_singleton.mp hp]; exact Nat.ne_of_gt bnd2
  obtain ⟨U1, U2⟩ := news_upd (pre := [(hh.objs.size, emptyDict)]) (f := fun o => { o with dict := some hh.objs.size }) (F.push emptyDict) (N.push F emptyDict) off2 off (o' := (⟨.ref 179, some hh.objs.size, .fields vs, #[]⟩ : Obj)) rfl rfl
  have he : (hh.push emptyDict).get? ee = some (⟨.ref 179, none, .fields vs, #[]⟩ : Obj) := Heap.get?_push_of_some _ (N _ (.head _)).1
  refine wpAny_bind (wpAny_alloc (wpAny_bind (wpAny_update he (wpAny_pure ?_))))
  dsimp only
  have D := (U2 (hh.objs.size, emptyDict) (by simp)).1
  have hput : Obj.putName name (PyData.keyHash w.params name) (.str name (tk + 1)) v emptyDict = dictOf [⟨PyData.keyHash w.params name, .str name (tk + 1), v⟩] 1 := by kernel_rfl
  have off3 : ∀ p ∈ (ee, (⟨.ref 179, some hh.objs.size, .fields vs, #[]⟩ : Obj)) :: news, p.1 ≠ hh.objs.size := fun p hp => by
    rcases List.mem_cons.mp hp with rfl | hp
    · exact Nat.ne_of_lt bnd2
    · exact Nat.ne_of_lt (bnd p hp)
  obtain ⟨V1, V2⟩ := news_upd (pre := []) (f := Obj.putName name (PyData.keyHash w.params name) (.str name (tk + 1)) v) U1 U2 (by simp) off3 hput rfl
  have D' := (V2 (hh.objs.size, _) (.head _)).1
  refine wpAny_bind (wpAny_pure (wpAny_bind ?_))
  unfold nsSet
  refine wpAny_bind (wpAny_bind (wpAny_askSetting (wpAny_pure (wpAny_bind (wpAny_mkText (wpAny_bind (wpAny_loadPart D ?_)))))))
  dsimp only
  rw [aRefKeyMayBeTheName_at, if_neg (by simp)]
  refine wpAny_updatePart D ?_
  refine wpAny_bind (wpAny_lookBehind D' (pastItsLine_dict (by simp [sizeLine_eq])) ?_)
  exact wpAny_pure (h _ _ V1 V2 bnd bnd2)
/-- ParseError(text) -/
theorem perr_ok {w : World} {tx : Str} {tkx : Tok} {pre : List (Addr × Obj)} :
    RunH w 179 [.str tx tkx] [] 10 60 pre (fun v tl => ∃ e t ed oe, v = .ref e ∧ tl = [(ed, oe), (e, (⟨.ref 179, some ed, .fields #[.ref t, .none, .none, .none, .bool false, .none], #[]⟩ : Obj)), (t, tupO [.str tx tkx] 0)] ∧ IsErr w tx oe (-1) .none) := by
  w_on
  intro A h₀ L m s R hAmb F N hdep hun hret
  obtain ⟨A₀, base, outer, env, p, loose, mean, mg, mb, B, X, T, hA, hf, hke, hrw⟩ := hAmb
  obtain ⟨hd, dp, fr, gd, un⟩ := A
  dsimp only at hA hdep hun
  subst hA
  revert X hrw
  k_fill
  intro X hrw
  clear hrw
  refine make_E F N (X.keeps F.keep) (by rw [sizeLine_eq]; simp) fun e t h1 F1 N1 lt1 lt2 => ?_
  (k_dflt (refine' code_def (binds := [(Str.ofString "self", .ref e), (Str.ofString "text", .str tx tkx), (Str.ofString "pos", .int (-1) 373), (Str.ofString "expr", .none)]) ?k1 ?k2 ?k3 ?k4 ?k5 ?kA ?kF ?kK ?k6 ?k7 ?k8 ?k9 ?kB ?_ ?c2 ?c3 ?c4 ?c5; (case kA => exact rfl); (case kF => first | exact rfl | assumption); (case kK => first | exact rfl | assumption); (case k1 => k_asm); (case k2 => k_asm); (case k3 => k_asm); (case k4 => k_asm); (case k5 => k_asm); (case k6 => k_is); (case k7 => k_is); (case k8 => k_room); (case k9 => first | exact BindsTo.of_eq rfl | exact binds_K (by k_in) rfl (by k_is) rfl rfl rfl); (case c5 => decide); (case kB => exact locs rfl); (case c2 => exact rfl); (case c3 => exact rfl); (case c4 => exact rfl); k_whole))
  intro g' L' h' FG' F' N' B' X' T'
  (try dsimp only [List.reverse, List.reverseAux] at F')
  repeat' (first | ((fail_if_success (with_reducible show wpAny _ _ (setAttr (Value.ref _) _ _) _ _ _)); (first | (k_unfold; (try dsimp only)) | (k_end; wrow_close) | walk1 | (dsimp only; walk1) | (leave1; walk_say "STEP leave1"; try dsimp only) | fail "no step")))
  refine err_first F' X' N' (fun p hp => ?_) err_notext fun ed h2 F2 N2 lt3 lt4 => ?_
  · rcases List.mem_cons.mp hp with rfl | hp
    · exact Nat.ne_of_lt lt2
    · exact Nat.ne_of_lt (Nat.lt_trans (lt1 p hp) lt2)
  have up3 : ∀ p ∈ (e, (⟨.ref 179, some ed, .fields #[.ref t, .none, .none, .none, .bool false, .none], #[]⟩ : Obj)) :: (t, tupO [.str tx tkx] 0) :: pre, p.1 ≠ ed := fun p hp => by
    rcases List.mem_cons.mp hp with rfl | hp
    · exact Nat.ne_of_lt lt4
    · exact Nat.ne_of_lt (lt3 p hp)
  repeat' (first | ((fail_if_success (with_reducible show wpAny _ _ (setAttr (Value.ref _) _ _) _ _ _)); (first | (k_unfold; (try dsimp only)) | (k_end; wrow_close) | walk1 | (dsimp only; walk1) | (leave1; walk_say "STEP leave1"; try dsimp only) | fail "no step")))
  refine err_set F2 X' N2 (.tail _ (.head _)) (.head up3) err_nopos (by rfl) (Nat.le_of_ble_eq_true rfl) rfl fun h3 F3 N3 => ?_
  repeat' (first | ((fail_if_success (with_reducible show wpAny _ _ (setAttr (Value.ref _) _ _) _ _ _)); (first | (k_unfold; (try dsimp only)) | (k_end; wrow_close) | walk1 | (dsimp only; walk1) | (leave1; walk_say "STEP leave1"; try dsimp only) | fail "no step")))
  refine err_set F3 X' N3 (.tail _ (.head _)) (.head up3) err_noexpr (by rfl) (Nat.le_of_ble_eq_true rfl) rfl fun h4 F4 N4 => ?_
  repeat' (first | ((first | (k_unfold; (try dsimp only)) | (k_end; wrow_close) | walk1 | (dsimp only; walk1) | (leave1; walk_say "STEP leave1"; try dsimp only) | fail "no step")))
  refine hret _ [(ed, _), (e, _), (t, _)] _ _ (by assumption) (by assumption) (desc_cons (allLt_of fun p hp => ?_) (desc_cons (allLt_of fun p hp => ?_) (desc_cons trivial desc_nil))) (fun q hq p hp => ?_) ⟨e, t, ed, _, rfl, rfl, _, _, _, _, _, _, _, _, rfl⟩
  · rcases List.mem_cons.mp hp with rfl | hp
    · exact lt4
    · rw [List.mem_singleton.mp hp]; exact Nat.lt_trans lt2 lt4
  · rw [List.mem_singleton.mp hp]; exact lt2
  · rcases List.mem_cons.mp hq with rfl | hq
    · exact lt3 p (.tail _ hp)
    · rcases List.mem_cons.mp hq with rfl | hq
      · exact Nat.lt_trans (lt1 p hp) lt2
      · rw [List.mem_singleton.mp hq]; exact lt1 p hp
-- NodeG
theorem so_nch {w : World} : SlotOf w 99 (Str.ofString "children") 0 := ⟨100, by kernel_rfl, by kernel_rfl, by kernel_rfl, by kernel_rfl⟩
theorem so_nen {w : World} : SlotOf w 99 (Str.ofString "end") 1 := ⟨101, by kernel_rfl, by kernel_rfl, by kernel_rfl, by kernel_rfl⟩
theorem so_nex {w : World} : SlotOf w 99 (Str.ofString "expr") 2 := ⟨102, by kernel_rfl, by kernel_rfl, by kernel_rfl, by kernel_rfl⟩
theorem so_nft {w : World} : SlotOf w 99 (Str.ofString "full_text") 3 := ⟨103, by kernel_rfl, by kernel_rfl, by kernel_rfl, by kernel_rfl⟩
theorem so_nst {w : World} : SlotOf w 99 (Str.ofString "start") 4 := ⟨104, by kernel_rfl, by kernel_rfl, by kernel_rfl, by kernel_rfl⟩
theorem n_get99 {w : World} (name : Str) : plainGet (Mine.hd.heap_39 w.params) 99 name = true := by kernel_rfl
theorem n_cls99 {w : World} : isClsIn (Mine.hd.heap_39 w.params) 99 = true := by kernel_rfl
/-- a node's own attributes -/
theorem n_slot {w : World} {A : Around} {E : Value → Shared → Prop} {s : Shared} {a d L : Addr} {c1 c2 c3 c4 c5 : Value} {h₀ : Heap} {m : Str → Option Value} {news : List (Addr × Obj)} {name : Str} {i : Nat} {v : Value} {expr : Bool} {Q : Value → Shared → Prop} (F : Fr h₀ L s.heap m) (X₀ : (Mine.hd.heap_39 w.params).In h₀) (N : News h₀ L s.heap news) (hx : (a, nodeO d c1 c2 c3 c4 c5) ∈ news) (hd : (d, dictOf [] 0) ∈ news)
    (so : SlotOf w 99 name i) (hs : ((#[some c1, some c2, some c3, some c4, some c5] : Array (Option Value))[i]?).join = some v) (hv : handedIn v = true) (h : Q v { s with toks := s.toks + 1 }) : wpAny (model PG w) A (getAttr (.ref a) name expr) Q E s := by
  obtain ⟨p, a1, a2, a3, a4⟩ := so
  exact get_slotO F X₀ (InstAt.of_news N hx hd) (n_get99 _) n_cls99 a1 a2 a3 a4 hs hv h
theorem handL_ne2 {A : Around} {led : List (Addr × Obj)} {I : Addr} (H : HandL A led) (hI : ∀ p ∈ led, p.1 ≠ I) : ∀ a, A.handled = some (.ref a) → a ≠ I := by
  intro a ha
  rcases H with hh | ⟨a', o, vs, hh, hm, _⟩
  · rw [hh] at ha; cases ha
  · rw [hh] at ha
    have e : a' = a := by injection ha with ha; injection ha
    subst e
    exact hI _ hm
theorem muts_mc {w : World} {b : Nat} {tx : Str} {c : Addr} {C : List (Int × Value)} {S : List (Addr × Obj)} {k : EK} {x d : Addr} {o : Obj} {mt : Addr} {nm : Str} {kids F : EF} {n : Nat} {M : List (Addr × Obj)} (hm : EF.Mem k x d o mt nm kids F) (h : Muts w b tx c C S F n M) : ∃ es i, (d, dictOf es i) ∈ M ∧ getL (Str.ofString "match_core") es = some none := by
  induction hm generalizing n M with
  | head =>
    cases h with
    | cons h1 _ _ =>
      cases h1 with
      | fresh0 => exact ⟨_, _, List.mem_append_left _ (.head _), by rfl⟩
      | fresh1 _ _ _ => exact ⟨_, _, List.mem_append_left _ (.head _), by rfl⟩
      | live _ _ _ _ _ => exact ⟨_, _, List.mem_append_left _ (.head _), by rfl⟩
  | tail _ ih =>
    cases h with
    | cons _ _ h3 =>
    obtain ⟨es, i, a, b⟩ := ih h3
    exact ⟨es, i, List.mem_append_right _ (List.mem_append_right _ a), b⟩
theorem stat_self {k : EK} {x d : Addr} {o : Obj} {mt : Addr} {nm : Str} {kids rest : EF} : (x, o) ∈ (EF.cons k x d o mt nm kids rest).stat := by
  refine List.mem_append_left _ ?_
  cases k <;> exact .head _
-- UmP
/-- one forest behind the other -/
def PF.app : PF → PF → PF
  | .nil, G => G
  | .cons e nm st en ch rest, G => .cons e nm st en ch (rest.app G)
theorem PF.app_nil : ∀ F : PF, F.app .nil = F
  | .nil => rfl
  | .cons _ _ _ _ _ rest => by simp [PF.app, PF.app_nil rest]
theorem PF.app_assoc : ∀ F G H : PF, (F.app G).app H = F.app (G.app H)
  | .nil, _, _ => rfl
  | .cons _ _ _ _ _ rest, G, H => by simp [PF.app, PF.app_assoc rest G H]
theorem nodes_app {tx : Str} {S : List (Addr × Obj)} {vs vs' : List Value} {F G : PF} (h : NodesIn tx S vs F) (h' : NodesIn tx S vs' G) : NodesIn tx S (vs ++ vs') (F.app G) := by
  induction h with
  | nil => exact h'
  | cons a b c d _ _ ih => exact .cons a b c d ih
theorem fr_map {g h : Heap} {L : Addr} {m m' : Str → Option Value} (F : Fr g L h m) (e : ∀ y, m y = m' y) : Fr g L h m' := by
  rw [← (funext e : m = m')]; exact F
theorem res_one {tx : Str} {S : List (Addr × Obj)} {G : PF} {v : Value} (h : Res tx S (some G) v) : ∃ a d cl e t1 t2 t3 st en n nm chs ch, v = .ref a ∧ G = .cons e nm st en ch .nil ∧ (a, nodeO d (.ref cl) (.int en t1) (.ref e) (.str tx t2) (.int st t3)) ∈ S ∧ (d, dictOf [] 0) ∈ S ∧ (cl, lstO chs n) ∈ S ∧ NodesIn tx S chs ch := by
  obtain ⟨h1, h2⟩ := h
  cases h2 with
  | @cons a d cl e t1 t2 t3 st en n nm chs vs ch rest p1 p2 p3 p4 p5 =>
  cases p5
  exact ⟨_, _, _, _, _, _, _, _, _, _, _, _, _, rfl, rfl, p1, p2, p3, p4⟩
-- UmL
theorem um_lit {w : World} {lt : Str} {x d : Addr} {o : Obj} {mt : Addr} {nm : Str} (hlt : lt.length ≤ 2) : UM w 14 100 (.lit lt) x d o mt nm .nil := by
  w_on
  intro b tx c ee ed eo Y nf oc C oe M loc S H tkx tkp ps ctx st hall hwf hstat hod hps hH hSl
  show RunM _ 325 _ _ _ _ _ _ _
  have al := mall_of ctx st hall hwf hstat hH hSl
  obtain ⟨od, hod⟩ := hod
  intro A h₀ L m s R hAmb hHL F N hS hdep hun hret
  obtain ⟨A₀, base, outer, env, p, loose, mean, mg, mb, B, X, T, hA, hf, hke, hrw⟩ := hAmb
  obtain ⟨hd, dp, fr, gd, un⟩ := A
  dsimp only at hA hdep hun
  subst hA
  revert X hrw
  k_fill
  intro X hrw
  clear hrw
  (k_dflt (refine' code_def (binds := [(Str.ofString "self", .ref x), (Str.ofString "text", .str tx tkx), (Str.ofString "pos", .int ps tkp), (Str.ofString "cache", .ref c), (Str.ofString "error", .ref ee)]) ?k1 ?k2 ?k3 ?k4 ?k5 ?kA ?kF ?kK ?k6 ?k7 ?k8 ?k9 ?kB ?_ ?c2 ?c3 ?c4 ?c5; (case kA => exact rfl); (case kF => first | exact rfl | assumption); (case kK => first | exact rfl | assumption); (case k1 => k_asm); (case k2 => k_asm); (case k3 => k_asm); (case k4 => k_asm); (case k5 => k_asm); (case k6 => k_is); (case k7 => k_is); (case k8 => k_room); (case k9 => first | exact BindsTo.of_eq rfl | exact binds_K (by k_in) rfl (by k_is) rfl rfl rfl); (case c5 => decide); (case kB => exact locs rfl); (case c2 => exact rfl); (case c3 => exact rfl); (case c4 => exact rfl); k_whole))
  intro g' L' h' FG' F' N' B' X' T'
  (try dsimp only [List.reverse, List.reverseAux] at F')
  have hx : (x, o) ∈ loc := hstat _ (.head _)
  have hxM : (x, o) ∈ M ++ loc := List.mem_append_right _ hx
  have hdM : (d, od) ∈ M ++ loc := List.mem_append_right _ hod
  have hk : (EK.lit lt).Is d mt nm o := hwf.1
  have hk' := hk
  obtain ⟨it, t1, t2, rfl⟩ := hk'
  repeat' (first | ((fail_if_success (with_reducible show wpAny _ _ (getAttr (Value.ref _) _ _) _ _ _)); (first | (k_unfold; (try dsimp only)) | (k_end; wrow_close) | walk1 | (dsimp only; walk1) | (leave1; walk_say "STEP leave1"; try dsimp only) | fail "no step")))
  refine e_slot F' X' N' hk (by (repeat (first | exact hxM | refine List.Mem.tail _ ?_))) (by (repeat (first | exact hdM | refine List.Mem.tail _ ?_))) so_lit rfl rfl ?_
  repeat' (first | ((fail_if_success (with_reducible show wpAny _ _ (call (Value.builtin "str.startswith") _ _) _ _ _)); (first | (k_unfold; (try dsimp only)) | (k_end; wrow_close) | walk1 | (dsimp only; walk1) | (leave1; walk_say "STEP leave1"; try dsimp only) | fail "no step")))
  refine SC.startswith3 ?_
  cases hb : Txt.startswith3 tx lt (ps : Int)
  · repeat' (first | ((first | (k_unfold; (try dsimp only)) | (k_end; wrow_close) | walk1 | (dsimp only; walk1) | (leave1; walk_say "STEP leave1"; try dsimp only) | fail "no step")))
    refine hret _ _ _ _ (by assumption) (by assumption) hS ?_
    have hr : (EK.lit lt).run tx x nm [] ps = none := by
      show (if startsAt tx lt ps then _ else _) = _
      rw [show startsAt tx lt ps = false from hb]; rfl
    rw [show EF.pegs tx EF.nil = [] from rfl, hr]
    exact fin_post (N' := []) al .refl [] rfl
  · repeat' (first | ((fail_if_success (with_reducible show wpAny _ _ (getAttr (Value.ref _) _ _) _ _ _)); (fail_if_success (with_reducible show wpAny _ _ (call (Value.ref 99) _ _) _ _ _)); (first | (k_unfold; (try dsimp only)) | (k_end; wrow_close) | walk1 | (dsimp only; walk1) | (leave1; walk_say "STEP leave1"; try dsimp only) | fail "no step")))
    refine e_slot F' X' N' hk (by (repeat (first | exact hxM | refine List.Mem.tail _ ?_))) (by (repeat (first | exact hdM | refine List.Mem.tail _ ?_))) so_lit rfl rfl ?_
    repeat' (first | ((fail_if_success (with_reducible show wpAny _ _ (call (Value.builtin "len") _ _) _ _ _)); (first | (k_unfold; (try dsimp only)) | (k_end; wrow_close) | walk1 | (dsimp only; walk1) | (leave1; walk_say "STEP leave1"; try dsimp only) | fail "no step")))
    refine P.len_str (by omega) ?_
    repeat' (first | ((fail_if_success (with_reducible show wpAny _ _ (call (Value.ref 99) _ _) _ _ _)); (first | (k_unfold; (try dsimp only)) | (k_end; wrow_close) | walk1 | (dsimp only; walk1) | (leave1; walk_say "STEP leave1"; try dsimp only) | fail "no step")))
    refine wpAny_call ?_
    refine nodeH0_ok _ _ _ _ _ _ ⟨_, _, _, _, _, _, _, _, _, by k_asm, by k_asm, by k_asm, rfl, rfl, rfl, rfl⟩ (by k_asm) (by k_asm) (by (try simp only [depth_mark, depth_under_make, depth_under_kw, depth_in1, depth_deeper, depth_caller]); omega) (by (try simp only [units_in1, units_deeper, Around.mark_units, units_caller]); omega) fun v tl h1 tk1 F1 N1 dc1 lt1 hp => ?_
    obtain ⟨a, d2, cl, rfl, rfl⟩ := hp
    dsimp only
    repeat' (first | ((first | (k_unfold; (try dsimp only)) | (k_end; wrow_close) | walk1 | (dsimp only; walk1) | (leave1; walk_say "STEP leave1"; try dsimp only) | fail "no step")))
    have S1 := sep_tl hS dc1 lt1
    refine hret _ _ _ _ (by assumption) (newsSub (by assumption) fun q hq => (perm_fin (N := [])).mem_iff.mpr hq) (sep_perm S1 (perm_fin (N := []))) ?_
    have hr : (EK.lit lt).run tx x nm [] ps = some (.cons x nm ps (ps + lt.length) .nil .nil) := by
      show (if startsAt tx lt ps then _ else _) = _
      rw [show startsAt tx lt ps = true from hb]; rfl
    rw [show EF.pegs tx EF.nil = [] from rfl, hr]
    refine fin_post (N' := []) al .refl _ ⟨rfl, ?_⟩
    have e1 : ((ps : Int) + (lt.length : Int)) = ((ps + lt.length : Nat) : Int) := (Int.natCast_add _ _).symm
    rw [e1]
    exact .cons (.tail _ (.head _)) (.tail _ (.tail _ (.head _))) (.head _) .nil .nil
-- UmS
theorem seq_canon {g h : Heap} {L : Addr} {A1 A2 B1 B2 C1 C2 D1 D2 E : Option Value} {m0 : Str → Option Value}
    (F : Fr g L h fun y => if y = Str.ofString "new_pos" then A1 else if y = Str.ofString "length" then B1 else if y = Str.ofString "node" then C1 else if y = Str.ofString "m" then D1 else if y = Str.ofString "length" then B2 else if y = Str.ofString "node" then C2 else if y = Str.ofString "m" then D2 else if y = Str.ofString "children" then E else if y = Str.ofString "new_pos" then A2 else m0 y) :
    Fr g L h fun y => if y = Str.ofString "length" then B1 else if y = Str.ofString "node" then C1 else if y = Str.ofString "m" then D1 else if y = Str.ofString "children" then E else if y = Str.ofString "new_pos" then A1 else m0 y := by
  refine fr_map F fun y => ?_
  by_cases e1 : y = Str.ofString "new_pos"
  · subst e1; rfl
  by_cases e2 : y = Str.ofString "length"
  · subst e2; rfl
  by_cases e3 : y = Str.ofString "node"
  · subst e3; rfl
  by_cases e4 : y = Str.ofString "m"
  · subst e4; rfl
  simp only [if_neg e1, if_neg e2, if_neg e3, if_neg e4]
theorem um_seq {w : World} {dN uN : Nat} {x d : Addr} {o : Obj} {mt : Addr} {nm : Str} {kids : EF} (hkids : ∀ k x d o mt nm ks, EF.Mem k x d o mt nm ks kids → MC w dN uN k x d o mt nm ks) : UM w (dN + 20) (uN + 150) .seq x d o mt nm kids := by
  w_on
  intro b tx c ee ed eo Y nf oc C oe M loc S H tkx tkp ps ctx st hall hwf hstat hod hps hH hSl
  show RunM _ 384 _ _ _ _ _ _ _
  have al := mall_of ctx st hall hwf hstat hH hSl
  obtain ⟨od, hod⟩ := hod
  intro A h₀ L m s R hAmb hHL F N hS hdep hun hret
  obtain ⟨A₀, base, outer, env, p, loose, mean, mg, mb, B, X, T, hA, hf, hke, hrw⟩ := hAmb
  obtain ⟨hd, dp, fr, gd, un⟩ := A
  dsimp only at hA hdep hun
  subst hA
  revert X hrw
  k_fill
  intro X hrw
  clear hrw
  (k_dflt (refine' code_def (binds := [(Str.ofString "self", .ref x), (Str.ofString "text", .str tx tkx), (Str.ofString "pos", .int ps tkp), (Str.ofString "cache", .ref c), (Str.ofString "error", .ref ee)]) ?k1 ?k2 ?k3 ?k4 ?k5 ?kA ?kF ?kK ?k6 ?k7 ?k8 ?k9 ?kB ?_ ?c2 ?c3 ?c4 ?c5; (case kA => exact rfl); (case kF => first | exact rfl | assumption); (case kK => first | exact rfl | assumption); (case k1 => k_asm); (case k2 => k_asm); (case k3 => k_asm); (case k4 => k_asm); (case k5 => k_asm); (case k6 => k_is); (case k7 => k_is); (case k8 => k_room); (case k9 => first | exact BindsTo.of_eq rfl | exact binds_K (by k_in) rfl (by k_is) rfl rfl rfl); (case c5 => decide); (case kB => exact locs rfl); (case c2 => exact rfl); (case c3 => exact rfl); (case c4 => exact rfl); k_whole))
  intro g' L' h' FG' F' N' B' X' T'
  (try dsimp only [List.reverse, List.reverseAux] at F')
  have hx : (x, o) ∈ loc := hstat _ (.head _)
  have hmt : (mt, tupO kids.roots 0) ∈ loc := hstat _ (.tail _ (.head _))
  have hxM : (x, o) ∈ M ++ loc := List.mem_append_right _ hx
  have hdM : (d, od) ∈ M ++ loc := List.mem_append_right _ hod
  have hmM : (mt, tupO kids.roots 0) ∈ M ++ loc := List.mem_append_right _ hmt
  have hk : EK.seq.Is d mt nm o := hwf.1
  repeat' (first | ((fail_if_success (with_reducible show wpAny _ _ (exec (PySem.Stmt.For _ _ _ _ _) _) _ _ _)); (first | (k_unfold; (try dsimp only)) | (k_end; wrow_close) | walk1 | (dsimp only; walk1) | (leave1; walk_say "STEP leave1"; try dsimp only) | fail "no step")))
  refine wpAny_For ?_
  repeat' (first | ((fail_if_success (with_reducible show wpAny _ _ (getAttr (Value.ref _) _ _) _ _ _)); (first | (k_unfold; (try dsimp only)) | (k_end; wrow_close) | walk1 | (dsimp only; walk1) | (leave1; walk_say "STEP leave1"; try dsimp only) | fail "no step")))
  rename_i ch h0 lch h1 F1 N1
  refine e_members F1 X' N1 hk (by (repeat (first | exact hxM | refine List.Mem.tail _ ?_))) (by (repeat (first | exact hdM | refine List.Mem.tail _ ?_))) (by intro s e; cases e) ?_
  refine m_tpyIter F1 N1 (l := mt) (its := kids.roots) (by (repeat (first | exact hmM | refine List.Mem.tail _ ?_))) fun I h2 oI F2 N2 hI lt2 => ?_
  have S1 : Sep ((ch, W.listOf #[] 0) :: (c, oc) :: (ed, oe) :: (M ++ loc)) := sep_push hS (ktn_ltOf lch)
  have S2 : Sep ((I, oI) :: (ch, W.listOf #[] 0) :: (c, oc) :: (ed, oe) :: (M ++ loc)) := sep_push S1 lt2
  dsimp only
  obtain ⟨G, i, vs, n, q, tq, oc1, C1, oe1, nf1, M1, Nw, Fs, vl, vn, vm, hmem, hroots, hvi, hIi, F3, N3, S3, al3, ac3, hq, hnodes, hspec⟩ : ∃ (G : EF) (i : Nat) (vs : List Value) (n q : Nat) (tq : Tok) (oc1 : Obj) (C1 : List (Int × Value)) (oe1 : Obj) (nf1 : Nat) (M1 Nw : List (Addr × Obj)) (Fs : PF) (vl vn vm : Option Value),
      (∀ k x d o mt nm ks, EF.Mem k x d o mt nm ks G → EF.Mem k x d o mt nm ks kids) ∧ kids.roots.drop i = G.roots ∧ (vs.length = i ∧ i ≤ kids.len) ∧ IsTit oI mt i ∧
      Fr g' L' h2 (fun y => if y = Str.ofString "length" then vl else if y = Str.ofString "node" then vn else if y = Str.ofString "m" then vm else if y = Str.ofString "children" then some (Value.ref ch) else if y = Str.ofString "new_pos" then some (Value.int q tq) else List.lookup y [(Str.ofString "error", Value.ref ee), (Str.ofString "cache", Value.ref c), (Str.ofString "pos", Value.int ps tkp), (Str.ofString "text", Value.str tx tkx), (Str.ofString "self", Value.ref x)]) ∧
      News g' L' h2 ((I, oI) :: (ch, lstO vs n) :: (c, oc1) :: (ed, oe1) :: (M1 ++ (Nw ++ loc))) ∧ Sep ((I, oI) :: (ch, lstO vs n) :: (c, oc1) :: (ed, oe1) :: (M1 ++ (Nw ++ loc))) ∧
      MAll w b tx c ee ed eo Y kids nf1 oc1 C1 oe1 M1 (Nw ++ loc) (Nw ++ S) H ∧ Acc C nf ((c, oc) :: (ed, oe) :: (M ++ loc)) C1 nf1 ((c, oc1) :: (ed, oe1) :: (M1 ++ (Nw ++ loc))) ∧
      q ≤ tx.length ∧ NodesIn tx (Nw ++ S) vs Fs ∧ EK.seq.run tx x nm (kids.pegs tx) ps = (seqRun (G.pegs tx) q).map fun r => .cons x nm ps r.2 (Fs.app r.1) .nil := by
    refine ⟨kids, 0, [], 0, ps, tkp, oc, C, oe, nf, M, [], .nil, none, none, none, fun _ _ _ _ _ _ _ h => h, rfl, ⟨rfl, Nat.zero_le _⟩, hI, fr_map F2 fun y => ?_, N2, S2, al, .refl, hps, .nil, rfl⟩
    by_cases e1 : y = Str.ofString "length"
    · subst e1; rfl
    by_cases e2 : y = Str.ofString "node"
    · subst e2; rfl
    by_cases e3 : y = Str.ofString "m"
    · subst e3; rfl
    rw [if_neg e1, if_neg e2, if_neg e3]
  clear F1 N1 lch F2 N2 lt2 hI S1 S2
  have hlk : kids.len = 1 ∨ kids.len = 2 := hwf.2.1
  have hkr : ∀ F : EF, F.roots.length = F.len := fun F => by induction F with | nil => rfl | cons _ _ _ _ _ _ _ _ _ ih => simp [EF.roots, EF.len, ih]
  refine' (show ∀ tkz : Nat, codeAny _ _ _ _ (⟨h2, s.gens, s.drawn, tkz, s.os⟩ : Shared) from ?_) _
  intro tkz
  induction G generalizing h2 tkz oI i vs n q tq oc1 C1 oe1 nf1 M1 Nw Fs vl vn vm with
  | nil =>
    have hmM1 : (mt, tupO kids.roots 0) ∈ M1 ++ (Nw ++ loc) := List.mem_append_right _ (List.mem_append_right _ hmt)
    have hge : kids.roots.length ≤ i := by
      have e := congrArg List.length hroots
      simp only [List.length_drop, EF.roots, List.length_nil] at e
      omega
    refine for_turn (m_tnext_end (its := kids.roots) (rest := (ch, lstO vs n) :: (c, oc1) :: (ed, oe1) :: (M1 ++ (Nw ++ loc))) (handL_ok hHL (newsSub N3 fun q hq => .tail _ (.tail _ (.tail _ (.tail _ (List.mem_append_right _ (List.mem_append_right _ (hH q hq)))))))) (handL_ne2 hHL fun q hq => (sep_off (pre := []) S3).2 q (.tail _ (.tail _ (.tail _ (List.mem_append_right _ (List.mem_append_right _ (hH q hq))))))) F3 N3 (by (repeat (first | exact hmM1 | refine List.Mem.tail _ ?_))) hge hIi (.head _) (fun q hq => .tail _ hq) (fun q hq => (sep_off (pre := []) S3).2 q hq) fun h4 F4 N4 => ?_)
    dsimp only
    repeat' (first | ((fail_if_success (with_reducible show wpAny _ _ (call (Value.ref 99) _ _) _ _ _)); (first | (k_unfold; (try dsimp only)) | (k_end; wrow_close) | walk1 | (dsimp only; walk1) | (leave1; walk_say "STEP leave1"; try dsimp only) | fail "no step")))
    refine wpAny_call ?_
    have hlen := hkr kids
    obtain ⟨hv1, hv2⟩ := hvi
    cases vs with
    | nil => simp at hv1; omega
    | cons v0 vs =>
    simp only [List.length_cons] at hv1
    refine nodeH1_ok (v0 := v0) (vs := vs) (n := n) (.head _) (by omega) _ _ _ _ _ _ ⟨_, _, _, _, _, _, _, _, _, by k_asm, by k_asm, by k_asm, rfl, rfl, rfl, rfl⟩ (by k_asm) (by k_asm) (by (try simp only [depth_mark, depth_under_make, depth_under_kw, depth_in1, depth_deeper, depth_caller]); omega) (by (try simp only [units_in1, units_deeper, Around.mark_units, units_caller]); omega) fun v tl h5 tk5 F5 N5 dc5 lt5 hp5 => ?_
    obtain ⟨a, d2, rfl, rfl⟩ := hp5
    dsimp only
    repeat' (first | ((first | (k_unfold; (try dsimp only)) | (k_end; wrow_close) | walk1 | (dsimp only; walk1) | (leave1; walk_say "STEP leave1"; try dsimp only) | fail "no step")))
    have S4 : Sep ((ch, lstO (v0 :: vs) n) :: (c, oc1) :: (ed, oe1) :: (M1 ++ (Nw ++ loc))) := sep_sub S3 (.cons _ (.refl _))
    have S5 := sep_tl S4 dc5 lt5
    refine hret _ _ _ _ (by assumption) (newsSub (by assumption) fun q hq => (perm_fin (X := [_, _, _])).mem_iff.mpr hq) (sep_perm S5 (perm_fin (X := [_, _, _]))) ?_
    rw [hspec]
    refine fin_post al3 ac3 [_, _, _] ⟨rfl, ?_⟩
    exact .cons (.head _) (.tail _ (.head _)) (.tail _ (.tail _ (.head _))) (by rw [PF.app_nil]; exact hnodes.mono fun p hp => .tail _ (.tail _ (.tail _ hp))) .nil
  | cons k x1 d1 o1 mt1 nm1 ks rest ih1 ih2 =>
    clear ih1
    have hme : EF.Mem k x1 d1 o1 mt1 nm1 ks kids := hmem _ _ _ _ _ _ _ EF.Mem.head
    have hk1 : k.Is d1 mt1 nm1 o1 := (hme.wfs al3.wf).1
    have hx1 : (x1, o1) ∈ M1 ++ (Nw ++ loc) := List.mem_append_right _ (al3.stat _ (hme.stats _ stat_self))
    obtain ⟨es1, ei1, hd1, hl1⟩ := muts_mc hme al3.st.muts
    have hd1M : (d1, dictOf es1 ei1) ∈ M1 ++ (Nw ++ loc) := List.mem_append_left _ hd1
    have hmM1 : (mt, tupO kids.roots 0) ∈ M1 ++ (Nw ++ loc) := List.mem_append_right _ (List.mem_append_right _ hmt)
    have hlt : i < kids.roots.length := by
      have e := congrArg List.length hroots
      simp only [List.length_drop, EF.roots, List.length_cons] at e
      omega
    have hget : kids.roots[i]? = some (.ref x1) := by
      have e := congrArg (fun l : List Value => l[0]?) hroots
      simpa [EF.roots] using e
    have hdrop : kids.roots.drop (i + 1) = rest.roots := by
      have e := congrArg (List.drop 1) hroots
      simpa [EF.roots, Nat.add_comm] using e
    refine for_turn (m_tnext_item F3 N3 (by (repeat (first | exact hmM1 | refine List.Mem.tail _ ?_))) hget hIi (updF_sep (pre := []) S3) fun h4 oI4 F4 N4 hI4 => ?_)
    have S4 := sep_set (pre := []) (o' := oI4) S3
    simp only [List.nil_append] at N4 S4
    dsimp only
    refine wpAny_pure ?_
    repeat' (first | ((fail_if_success (with_reducible show wpAny _ _ (getMethod _ _ _) _ _ _)); (first | (k_unfold; (try dsimp only)) | (k_end; wrow_close) | walk1 | (dsimp only; walk1) | (leave1; walk_say "STEP leave1"; try dsimp only) | fail "no step")))
    rename_i F5 N5
    refine e_mc F5 X' N5 hk1 (by (repeat (first | exact hx1 | refine List.Mem.tail _ ?_))) (by (repeat (first | exact hd1M | refine List.Mem.tail _ ?_))) hl1 ?_
    repeat' (first | ((fail_if_success (with_reducible show wpAny _ _ (callWith _ _ _ _ _) _ _ _)); (first | (k_unfold; (try dsimp only)) | (k_end; wrow_close) | walk1 | (dsimp only; walk1) | (leave1; walk_say "STEP leave1"; try dsimp only) | fail "no step")))
    refine callWith_K X' em_keep ?_
    repeat' (first | ((fail_if_success (with_reducible show wpAny _ _ (call _ _ _) _ _ _)); (first | (k_unfold; (try dsimp only)) | (k_end; wrow_close) | walk1 | (dsimp only; walk1) | (leave1; walk_say "STEP leave1"; try dsimp only) | fail "no step")))
    refine wpAny_call ?_
    refine mem_call (h₀ := g') (L := L') (T := [_, _]) hme (hkids _ _ _ _ _ _ _ hme) al3 ?hT hq ⟨_, _, _, _, _, _, _, _, _, by k_asm, by k_asm, by k_asm, rfl, rfl, rfl, rfl⟩ hHL F5 N5 S4 ?hdp ?hun fun v h6 tk6 oc6 C6 oe6 nf6 M6 Nw6 F6 N6 S6 al6 ac6 res6 => ?_
    case hT =>
      intro p hp
      rcases List.mem_cons.mp hp with rfl | hp
      · show oI4.cls ≠ _
        rw [hI4.1]; decide
      · rw [List.mem_singleton.mp hp]; show Value.type "list" ≠ _; decide
    case hdp => (try simp only [depth_mark, depth_under_make, depth_under_kw, depth_in1, depth_deeper, depth_caller]); omega
    case hun => (try simp only [units_in1, units_deeper, Around.mark_units, units_caller]); omega
    simp only [List.cons_append, List.nil_append] at N6 S6
    obtain ⟨Nz, hNz⟩ : ∃ Nz, Nz = Nw6 ++ Nw := ⟨_, rfl⟩
    have e1 : ∀ l, Nw6 ++ (Nw ++ l) = Nz ++ l := fun l => by rw [hNz, List.append_assoc]
    have sbN : ∀ p ∈ Nw ++ S, p ∈ Nz ++ S := fun p hp => by rw [← e1]; exact List.mem_append_right _ hp
    simp only [e1] at N6 S6 al6 ac6 res6
    have ac7 := ac3.trans ac6
    clear al3 ac3 ac6 e1 hNz
    dsimp only
    cases hrun : k.run tx x1 nm1 (ks.pegs tx) q with
    | none =>
      rw [hrun] at res6
      have hv : v = .none := res6
      subst hv
      repeat' (first | ((first | (k_unfold; (try dsimp only)) | (k_end; wrow_close) | walk1 | (dsimp only; walk1) | (leave1; walk_say "STEP leave1"; try dsimp only) | fail "no step")))
      refine hret _ _ _ _ (by assumption) (newsSub (by assumption) fun p hp => .tail _ ((perm_fin (X := [_])).mem_iff.mpr hp)) (sep_perm (sep_sub S6 (.cons _ (.refl _))) (perm_fin (X := [_]))) ?_
      rw [hspec]
      simp only [EF.pegs, seqRun, hrun]
      exact fin_post al6 ac7 [_] rfl
    | some G' =>
      rw [hrun] at res6
      obtain ⟨G1, G2, G3, G4, hG1, hG2, hG3⟩ := pegs_good (EF.cons k x1 d1 o1 mt1 nm1 ks .nil) _ (.head _) q G' hq hrun
      obtain ⟨a, da, cla, ea, t1, t2, t3, st1, en1, n1, nma, chs, cha, rfl, rfl, hna, hnd, hnl, hnc⟩ := res_one res6
      cases hG1
      have sNz : ∀ p ∈ Nz ++ S, p ∈ M6 ++ (Nz ++ loc) := fun p hp => List.mem_append_right _ (al6.hS p hp)
      repeat' (first | ((fail_if_success (with_reducible show wpAny _ _ (call (Value.builtin "list.append") _ _) _ _ _)); (first | (k_unfold; (try dsimp only)) | (k_end; wrow_close) | walk1 | (dsimp only; walk1) | (leave1; walk_say "STEP leave1"; try dsimp only) | fail "no step")))
      rename_i h7 F7 N7
      refine m_append F7 N7 (updF_sep (pre := [(I, oI4)]) S6) (by rw [sizeLine_eq]; omega) fun h8 F8 N8 => ?_
      have S8 := sep_set (pre := [(I, oI4)]) (o' := lstO (vs ++ [Value.ref a]) (n + 1)) S6
      simp only [List.cons_append, List.nil_append] at N8 S8
      have hna' := sNz _ hna
      have hnd' := sNz _ hnd
      repeat' (first | ((fail_if_success (with_reducible show wpAny _ _ (getAttr (Value.ref a) _ _) _ _ _)); (first | (k_unfold; (try dsimp only)) | (k_end; wrow_close) | walk1 | (dsimp only; walk1) | (leave1; walk_say "STEP leave1"; try dsimp only) | fail "no step")))
      refine n_slot F8 X' N8 (by (repeat (first | exact hna' | refine List.Mem.tail _ ?_))) (by (repeat (first | exact hnd' | refine List.Mem.tail _ ?_))) so_nen rfl rfl ?_
      repeat' (first | ((fail_if_success (with_reducible show wpAny _ _ (getAttr (Value.ref a) _ _) _ _ _)); (first | (k_unfold; (try dsimp only)) | (k_end; wrow_close) | walk1 | (dsimp only; walk1) | (leave1; walk_say "STEP leave1"; try dsimp only) | fail "no step")))
      refine n_slot F8 X' N8 (by (repeat (first | exact hna' | refine List.Mem.tail _ ?_))) (by (repeat (first | exact hnd' | refine List.Mem.tail _ ?_))) so_nst rfl rfl ?_
      repeat' (first | ((fail_if_success (with_reducible show wpAny _ _ (codeAny _ _ (Code.forLoop _ _ _ _ _) _ _) _ _ _)); (first | (k_unfold; (try dsimp only)) | (k_end; wrow_close) | walk1 | (dsimp only; walk1) | (leave1; walk_say "STEP leave1"; try dsimp only) | fail "no step")))
      dsimp only
      rename_i h9 F9 N9
      have e9 : (q : Int) + ((G3 : Int) - (q : Int)) = (G3 : Int) := by omega
      rw [e9] at F9
      have hvi1 := hvi.1
      have hlen := hkr kids
      refine ih2 _ oI4 (i + 1) (vs ++ [Value.ref a]) (n + 1) G3 _ oc6 C6 oe6 nf6 M6 Nz (Fs.app (.cons G1 G2 q G3 G4 .nil)) _ _ _ (fun k x d o mt nm ks hm => hmem _ _ _ _ _ _ _ (.tail hm)) hdrop ⟨by simp [hvi1], by omega⟩ hI4 (seq_canon F9) N9 S8 al6 ac7 hG3 (nodes_app (hnodes.mono sbN) (.cons hna hnd hnl hnc .nil)) ?_ _
      rw [hspec]
      have eq9 : q + (G3 - q) = G3 := by omega
      simp only [EF.pegs, seqRun, hrun, eq9]
      cases seqRun (rest.pegs tx) G3 with
      | none => rfl
      | some r => simp [PF.app_assoc, PF.app]
-- UmA
theorem alt_canon {g h : Heap} {L : Addr} {C1 C2 D1 D2 : Option Value} {m0 : Str → Option Value}
    (F : Fr g L h fun y => if y = Str.ofString "node" then C1 else if y = Str.ofString "m" then D1 else if y = Str.ofString "node" then C2 else if y = Str.ofString "m" then D2 else m0 y) :
    Fr g L h fun y => if y = Str.ofString "node" then C1 else if y = Str.ofString "m" then D1 else m0 y := by
  refine fr_map F fun y => ?_
  by_cases e3 : y = Str.ofString "node"
  · subst e3; rfl
  by_cases e4 : y = Str.ofString "m"
  · subst e4; rfl
  simp only [if_neg e3, if_neg e4]
theorem um_alt {w : World} {dN uN : Nat} {x d : Addr} {o : Obj} {mt : Addr} {nm : Str} {kids : EF} (hkids : ∀ k x d o mt nm ks, EF.Mem k x d o mt nm ks kids → MC w dN uN k x d o mt nm ks) : UM w (dN + 20) (uN + 150) .alt x d o mt nm kids := by
  w_on
  intro b tx c ee ed eo Y nf oc C oe M loc S H tkx tkp ps ctx st hall hwf hstat hod hps hH hSl
  show RunM _ 410 _ _ _ _ _ _ _
  have al := mall_of ctx st hall hwf hstat hH hSl
  obtain ⟨od, hod⟩ := hod
  intro A h₀ L m s R hAmb hHL F N hS hdep hun hret
  obtain ⟨A₀, base, outer, env, p, loose, mean, mg, mb, B, X, T, hA, hf, hke, hrw⟩ := hAmb
  obtain ⟨hd, dp, fr, gd, un⟩ := A
  dsimp only at hA hdep hun
  subst hA
  revert X hrw
  k_fill
  intro X hrw
  clear hrw
  (k_dflt (refine' code_def (binds := [(Str.ofString "self", .ref x), (Str.ofString "text", .str tx tkx), (Str.ofString "pos", .int ps tkp), (Str.ofString "cache", .ref c), (Str.ofString "error", .ref ee)]) ?k1 ?k2 ?k3 ?k4 ?k5 ?kA ?kF ?kK ?k6 ?k7 ?k8 ?k9 ?kB ?_ ?c2 ?c3 ?c4 ?c5; (case kA => exact rfl); (case kF => first | exact rfl | assumption); (case kK => first | exact rfl | assumption); (case k1 => k_asm); (case k2 => k_asm); (case k3 => k_asm); (case k4 => k_asm); (case k5 => k_asm); (case k6 => k_is); (case k7 => k_is); (case k8 => k_room); (case k9 => first | exact BindsTo.of_eq rfl | exact binds_K (by k_in) rfl (by k_is) rfl rfl rfl); (case c5 => decide); (case kB => exact locs rfl); (case c2 => exact rfl); (case c3 => exact rfl); (case c4 => exact rfl); k_whole))
  intro g' L' h' FG' F' N' B' X' T'
  (try dsimp only [List.reverse, List.reverseAux] at F')
  have hx : (x, o) ∈ loc := hstat _ (.head _)
  have hmt : (mt, tupO kids.roots 0) ∈ loc := hstat _ (.tail _ (.head _))
  have hxM : (x, o) ∈ M ++ loc := List.mem_append_right _ hx
  have hdM : (d, od) ∈ M ++ loc := List.mem_append_right _ hod
  have hmM : (mt, tupO kids.roots 0) ∈ M ++ loc := List.mem_append_right _ hmt
  have hk : EK.alt.Is d mt nm o := hwf.1
  repeat' (first | ((fail_if_success (with_reducible show wpAny _ _ (exec (PySem.Stmt.For _ _ _ _ _) _) _ _ _)); (first | (k_unfold; (try dsimp only)) | (k_end; wrow_close) | walk1 | (dsimp only; walk1) | (leave1; walk_say "STEP leave1"; try dsimp only) | fail "no step")))
  refine wpAny_For ?_
  repeat' (first | ((fail_if_success (with_reducible show wpAny _ _ (getAttr (Value.ref _) _ _) _ _ _)); (first | (k_unfold; (try dsimp only)) | (k_end; wrow_close) | walk1 | (dsimp only; walk1) | (leave1; walk_say "STEP leave1"; try dsimp only) | fail "no step")))
  refine e_members F' X' N' hk (by (repeat (first | exact hxM | refine List.Mem.tail _ ?_))) (by (repeat (first | exact hdM | refine List.Mem.tail _ ?_))) (by intro s e; cases e) ?_
  refine m_tpyIter F' N' (l := mt) (its := kids.roots) (by (repeat (first | exact hmM | refine List.Mem.tail _ ?_))) fun I h2 oI F2 N2 hI lt2 => ?_
  have S2 : Sep ((I, oI) :: (c, oc) :: (ed, oe) :: (M ++ loc)) := sep_push hS lt2
  dsimp only
  obtain ⟨G, i, oc1, C1, oe1, nf1, M1, Nw, vn, vm, hmem, hroots, hIi, F3, N3, S3, al3, ac3, hspec⟩ : ∃ (G : EF) (i : Nat) (oc1 : Obj) (C1 : List (Int × Value)) (oe1 : Obj) (nf1 : Nat) (M1 Nw : List (Addr × Obj)) (vn vm : Option Value),
      (∀ k x d o mt nm ks, EF.Mem k x d o mt nm ks G → EF.Mem k x d o mt nm ks kids) ∧ kids.roots.drop i = G.roots ∧ IsTit oI mt i ∧
      Fr g' L' h2 (fun y => if y = Str.ofString "node" then vn else if y = Str.ofString "m" then vm else List.lookup y [(Str.ofString "error", Value.ref ee), (Str.ofString "cache", Value.ref c), (Str.ofString "pos", Value.int ps tkp), (Str.ofString "text", Value.str tx tkx), (Str.ofString "self", Value.ref x)]) ∧
      News g' L' h2 ((I, oI) :: (c, oc1) :: (ed, oe1) :: (M1 ++ (Nw ++ loc))) ∧ Sep ((I, oI) :: (c, oc1) :: (ed, oe1) :: (M1 ++ (Nw ++ loc))) ∧
      MAll w b tx c ee ed eo Y kids nf1 oc1 C1 oe1 M1 (Nw ++ loc) (Nw ++ S) H ∧ Acc C nf ((c, oc) :: (ed, oe) :: (M ++ loc)) C1 nf1 ((c, oc1) :: (ed, oe1) :: (M1 ++ (Nw ++ loc))) ∧
      EK.alt.run tx x nm (kids.pegs tx) ps = (altRun (G.pegs tx) ps).map fun F => .cons x nm ps F.endOf F .nil := by
    refine ⟨kids, 0, oc, C, oe, nf, M, [], none, none, fun _ _ _ _ _ _ _ h => h, rfl, hI, fr_map F2 fun y => ?_, N2, S2, al, .refl, rfl⟩
    by_cases e2 : y = Str.ofString "node"
    · subst e2; rfl
    by_cases e3 : y = Str.ofString "m"
    · subst e3; rfl
    rw [if_neg e2, if_neg e3]
  clear F2 N2 lt2 hI S2
  have hlk : kids.len = 2 := hwf.2.1
  have hkr : ∀ F : EF, F.roots.length = F.len := fun F => by induction F with | nil => rfl | cons _ _ _ _ _ _ _ _ _ ih => simp [EF.roots, EF.len, ih]
  refine' (show ∀ tkz : Nat, codeAny _ _ _ _ (⟨h2, s.gens, s.drawn, tkz, s.os⟩ : Shared) from ?_) _
  intro tkz
  induction G generalizing h2 tkz oI i oc1 C1 oe1 nf1 M1 Nw vn vm with
  | nil =>
    have hmM1 : (mt, tupO kids.roots 0) ∈ M1 ++ (Nw ++ loc) := List.mem_append_right _ (List.mem_append_right _ hmt)
    have hge : kids.roots.length ≤ i := by
      have e := congrArg List.length hroots
      simp only [List.length_drop, EF.roots, List.length_nil] at e
      omega
    refine for_turn (m_tnext_end (its := kids.roots) (rest := (c, oc1) :: (ed, oe1) :: (M1 ++ (Nw ++ loc))) (handL_ok hHL (newsSub N3 fun q hq => .tail _ (.tail _ (.tail _ ((List.mem_append_right _ (List.mem_append_right _ (hH q hq)))))))) (handL_ne2 hHL fun q hq => (sep_off (pre := []) S3).2 q (.tail _ (.tail _ ((List.mem_append_right _ (List.mem_append_right _ (hH q hq))))))) F3 N3 (by (repeat (first | exact hmM1 | refine List.Mem.tail _ ?_))) hge hIi (.head _) (fun q hq => .tail _ hq) (fun q hq => (sep_off (pre := []) S3).2 q hq) fun h4 F4 N4 => ?_)
    dsimp only
    repeat' (first | ((first | (k_unfold; (try dsimp only)) | (k_end; wrow_close) | walk1 | (dsimp only; walk1) | (leave1; walk_say "STEP leave1"; try dsimp only) | fail "no step")))
    refine hret _ _ _ _ (by assumption) (newsSub (by assumption) fun p hp => (perm_fin (X := [])).mem_iff.mpr hp) (sep_perm (sep_sub S3 (.cons _ (.refl _))) (perm_fin (X := []))) ?_
    rw [hspec]
    exact fin_post al3 ac3 [] rfl
  | cons k x1 d1 o1 mt1 nm1 ks rest ih1 ih2 =>
    clear ih1
    have hme : EF.Mem k x1 d1 o1 mt1 nm1 ks kids := hmem _ _ _ _ _ _ _ EF.Mem.head
    have hk1 : k.Is d1 mt1 nm1 o1 := (hme.wfs al3.wf).1
    have hx1 : (x1, o1) ∈ M1 ++ (Nw ++ loc) := List.mem_append_right _ (al3.stat _ (hme.stats _ stat_self))
    obtain ⟨es1, ei1, hd1, hl1⟩ := muts_mc hme al3.st.muts
    have hd1M : (d1, dictOf es1 ei1) ∈ M1 ++ (Nw ++ loc) := List.mem_append_left _ hd1
    have hmM1 : (mt, tupO kids.roots 0) ∈ M1 ++ (Nw ++ loc) := List.mem_append_right _ (List.mem_append_right _ hmt)
    have hlt : i < kids.roots.length := by
      have e := congrArg List.length hroots
      simp only [List.length_drop, EF.roots, List.length_cons] at e
      omega
    have hget : kids.roots[i]? = some (.ref x1) := by
      have e := congrArg (fun l : List Value => l[0]?) hroots
      simpa [EF.roots] using e
    have hdrop : kids.roots.drop (i + 1) = rest.roots := by
      have e := congrArg (List.drop 1) hroots
      simpa [EF.roots, Nat.add_comm] using e
    refine for_turn (m_tnext_item F3 N3 (by (repeat (first | exact hmM1 | refine List.Mem.tail _ ?_))) hget hIi (updF_sep (pre := []) S3) fun h4 oI4 F4 N4 hI4 => ?_)
    have S4 := sep_set (pre := []) (o' := oI4) S3
    simp only [List.nil_append] at N4 S4
    dsimp only
    refine wpAny_pure ?_
    repeat' (first | ((fail_if_success (with_reducible show wpAny _ _ (getMethod _ _ _) _ _ _)); (first | (k_unfold; (try dsimp only)) | (k_end; wrow_close) | walk1 | (dsimp only; walk1) | (leave1; walk_say "STEP leave1"; try dsimp only) | fail "no step")))
    rename_i F5 N5
    refine e_mc F5 X' N5 hk1 (by (repeat (first | exact hx1 | refine List.Mem.tail _ ?_))) (by (repeat (first | exact hd1M | refine List.Mem.tail _ ?_))) hl1 ?_
    repeat' (first | ((fail_if_success (with_reducible show wpAny _ _ (callWith _ _ _ _ _) _ _ _)); (first | (k_unfold; (try dsimp only)) | (k_end; wrow_close) | walk1 | (dsimp only; walk1) | (leave1; walk_say "STEP leave1"; try dsimp only) | fail "no step")))
    refine callWith_K X' em_keep ?_
    repeat' (first | ((fail_if_success (with_reducible show wpAny _ _ (call _ _ _) _ _ _)); (first | (k_unfold; (try dsimp only)) | (k_end; wrow_close) | walk1 | (dsimp only; walk1) | (leave1; walk_say "STEP leave1"; try dsimp only) | fail "no step")))
    refine wpAny_call ?_
    refine mem_call (h₀ := g') (L := L') (T := [_]) hme (hkids _ _ _ _ _ _ _ hme) al3 ?hT hps ⟨_, _, _, _, _, _, _, _, _, by k_asm, by k_asm, by k_asm, rfl, rfl, rfl, rfl⟩ hHL F5 N5 S4 ?hdp ?hun fun v h6 tk6 oc6 C6 oe6 nf6 M6 Nw6 F6 N6 S6 al6 ac6 res6 => ?_
    case hT =>
      intro p hp
      rw [List.mem_singleton.mp hp]
      show oI4.cls ≠ _
      rw [hI4.1]; decide
    case hdp => (try simp only [depth_mark, depth_under_make, depth_under_kw, depth_in1, depth_deeper, depth_caller]); omega
    case hun => (try simp only [units_in1, units_deeper, Around.mark_units, units_caller]); omega
    simp only [List.cons_append, List.nil_append] at N6 S6
    obtain ⟨Nz, hNz⟩ : ∃ Nz, Nz = Nw6 ++ Nw := ⟨_, rfl⟩
    have e1 : ∀ l, Nw6 ++ (Nw ++ l) = Nz ++ l := fun l => by rw [hNz, List.append_assoc]
    have sbN : ∀ p ∈ Nw ++ S, p ∈ Nz ++ S := fun p hp => by rw [← e1]; exact List.mem_append_right _ hp
    simp only [e1] at N6 S6 al6 ac6 res6
    have ac7 := ac3.trans ac6
    clear al3 ac3 ac6 e1 hNz
    dsimp only
    cases hrun : k.run tx x1 nm1 (ks.pegs tx) ps with
    | none =>
      rw [hrun] at res6
      have hv : v = .none := res6
      subst hv
      repeat' (first | ((fail_if_success (with_reducible show wpAny _ _ (codeAny _ _ (Code.forLoop _ _ _ _ _) _ _) _ _ _)); (first | (k_unfold; (try dsimp only)) | (k_end; wrow_close) | walk1 | (dsimp only; walk1) | (leave1; walk_say "STEP leave1"; try dsimp only) | fail "no step")))
      dsimp only
      rename_i F9 N9
      refine ih2 _ oI4 (i + 1) oc6 C6 oe6 nf6 M6 Nz _ _ (fun k x d o mt nm ks hm => hmem _ _ _ _ _ _ _ (.tail hm)) hdrop hI4 (alt_canon F9) N9 S6 al6 ac7 ?_ _
      rw [hspec]
      simp only [EF.pegs, altRun, hrun]
    | some G' =>
      rw [hrun] at res6
      obtain ⟨G1, G2, G3, G4, hG1, hG2, hG3⟩ := pegs_good (EF.cons k x1 d1 o1 mt1 nm1 ks .nil) _ (.head _) ps G' hps hrun
      obtain ⟨a, da, cla, ea, t1, t2, t3, st1, en1, n1, nma, chs, cha, rfl, rfl, hna, hnd, hnl, hnc⟩ := res_one res6
      cases hG1
      have sNz : ∀ p ∈ Nz ++ S, p ∈ M6 ++ (Nz ++ loc) := fun p hp => List.mem_append_right _ (al6.hS p hp)
      have hna' := sNz _ hna
      have hnd' := sNz _ hnd
      repeat' (first | ((fail_if_success (with_reducible show wpAny _ _ (getAttr (Value.ref a) _ _) _ _ _)); (first | (k_unfold; (try dsimp only)) | (k_end; wrow_close) | walk1 | (dsimp only; walk1) | (leave1; walk_say "STEP leave1"; try dsimp only) | fail "no step")))
      rename_i h7 F7 N7
      refine n_slot F7 X' N7 (by (repeat (first | exact hna' | refine List.Mem.tail _ ?_))) (by (repeat (first | exact hnd' | refine List.Mem.tail _ ?_))) so_nen rfl rfl ?_
      repeat' (first | ((fail_if_success (with_reducible show wpAny _ _ (call (Value.ref 99) _ _) _ _ _)); (first | (k_unfold; (try dsimp only)) | (k_end; wrow_close) | walk1 | (dsimp only; walk1) | (leave1; walk_say "STEP leave1"; try dsimp only) | fail "no step")))
      refine wpAny_call ?_
      rename_i lc h9 F9 N9 lt8
      have S9 : Sep ((lc, lstO [Value.ref a] 0) :: (I, oI4) :: (c, oc6) :: (ed, oe6) :: (M6 ++ (Nz ++ loc))) := sep_push S6 (ktn_ltOf lt8)
      refine nodeH3_ok (v0 := Value.ref a) (vs := []) (n := 0) (cl := lc) (.head _) (by simp) _ _ _ _ _ _ ⟨_, _, _, _, _, _, _, _, _, by k_asm, by k_asm, by k_asm, rfl, rfl, rfl, rfl⟩ (by k_asm) (by k_asm) (by (try simp only [depth_mark, depth_under_make, depth_under_kw, depth_in1, depth_deeper, depth_caller]); omega) (by (try simp only [units_in1, units_deeper, Around.mark_units, units_caller]); omega) fun v tl h5 tk5 F5 N5 dc5 lt5 hp5 => ?_
      obtain ⟨a2, d2, rfl, rfl⟩ := hp5
      dsimp only
      repeat' (first | ((first | (k_unfold; (try dsimp only)) | (k_end; wrow_close) | walk1 | (dsimp only; walk1) | (leave1; walk_say "STEP leave1"; try dsimp only) | fail "no step")))
      have S5 := sep_tl S9 dc5 lt5
      refine hret _ _ _ _ (by assumption) (newsSub (by assumption) fun q hq => (perm_fin (X := [_, _, _, _])).mem_iff.mpr hq) (sep_perm S5 (perm_fin (X := [_, _, _, _]))) ?_
      rw [hspec]
      simp only [EF.pegs, altRun, hrun]
      refine fin_post al6 ac7 [_, _, _, _] ⟨rfl, ?_⟩
      have up : ∀ p ∈ Nz ++ S, p ∈ [(a2, nodeO d2 (Value.ref lc) (Value.int G3 t1) (Value.ref x) (Value.str tx tkx) (Value.int ps tkp)), (d2, dictOf [] 0), (lc, lstO [Value.ref a] 0), (I, oI4)] ++ Nz ++ S := fun p hp => .tail _ (.tail _ (.tail _ (.tail _ hp)))
      exact .cons (.head _) (.tail _ (.head _)) (.tail _ (.tail _ (.head _))) (.cons (up _ hna) (up _ hnd) (up _ hnl) (hnc.mono up) .nil) .nil
-- UmN
theorem len_one {F : EF} (h : F.len = 1) : ∃ k x d o mt nm ks, F = .cons k x d o mt nm ks .nil := by
  cases F with
  | nil => cases h
  | cons k x d o mt nm ks rest =>
    cases rest with
    | nil => exact ⟨_, _, _, _, _, _, _, rfl⟩
    | cons => simp [EF.len] at h
theorem um_nota {w : World} {dN uN : Nat} {x d : Addr} {o : Obj} {mt : Addr} {nm : Str} {kids : EF} (hkids : ∀ k x d o mt nm ks, EF.Mem k x d o mt nm ks kids → MC w dN uN k x d o mt nm ks) : UM w (dN + 20) (uN + 150) .nota x d o mt nm kids := by
  w_on
  intro b tx c ee ed eo Y nf oc C oe M loc S H tkx tkp ps ctx st hall hwf hstat hod hps hH hSl
  show RunM _ 447 _ _ _ _ _ _ _
  have al := mall_of ctx st hall hwf hstat hH hSl
  obtain ⟨od, hod⟩ := hod
  obtain ⟨k, x1, d1, o1, mt1, nm1, ks, rfl⟩ := len_one (F := kids) hwf.2.1
  intro A h₀ L m s R hAmb hHL F N hS hdep hun hret
  obtain ⟨A₀, base, outer, env, p, loose, mean, mg, mb, B, X, T, hA, hf, hke, hrw⟩ := hAmb
  obtain ⟨hd, dp, fr, gd, un⟩ := A
  dsimp only at hA hdep hun
  subst hA
  revert X hrw
  k_fill
  intro X hrw
  clear hrw
  (k_dflt (refine' code_def (binds := [(Str.ofString "self", .ref x), (Str.ofString "text", .str tx tkx), (Str.ofString "pos", .int ps tkp), (Str.ofString "cache", .ref c), (Str.ofString "error", .ref ee)]) ?k1 ?k2 ?k3 ?k4 ?k5 ?kA ?kF ?kK ?k6 ?k7 ?k8 ?k9 ?kB ?_ ?c2 ?c3 ?c4 ?c5; (case kA => exact rfl); (case kF => first | exact rfl | assumption); (case kK => first | exact rfl | assumption); (case k1 => k_asm); (case k2 => k_asm); (case k3 => k_asm); (case k4 => k_asm); (case k5 => k_asm); (case k6 => k_is); (case k7 => k_is); (case k8 => k_room); (case k9 => first | exact BindsTo.of_eq rfl | exact binds_K (by k_in) rfl (by k_is) rfl rfl rfl); (case c5 => decide); (case kB => exact locs rfl); (case c2 => exact rfl); (case c3 => exact rfl); (case c4 => exact rfl); k_whole))
  intro g' L' h' FG' F' N' B' X' T'
  (try dsimp only [List.reverse, List.reverseAux] at F')
  have hx : (x, o) ∈ loc := hstat _ (.head _)
  have hmt : (mt, tupO [.ref x1] 0) ∈ loc := hstat _ (.tail _ (.head _))
  have hxM : (x, o) ∈ M ++ loc := List.mem_append_right _ hx
  have hdM : (d, od) ∈ M ++ loc := List.mem_append_right _ hod
  have hmM : (mt, tupO [.ref x1] 0) ∈ M ++ loc := List.mem_append_right _ hmt
  have hk : EK.nota.Is d mt nm o := hwf.1
  have hme : EF.Mem k x1 d1 o1 mt1 nm1 ks (.cons k x1 d1 o1 mt1 nm1 ks .nil) := .head
  have hk1 : k.Is d1 mt1 nm1 o1 := (hme.wfs al.wf).1
  have hx1 : (x1, o1) ∈ M ++ loc := List.mem_append_right _ (al.stat _ (hme.stats _ stat_self))
  obtain ⟨es1, ei1, hd1, hl1⟩ := muts_mc hme al.st.muts
  have hd1M : (d1, dictOf es1 ei1) ∈ M ++ loc := List.mem_append_left _ hd1
  repeat' (first | ((fail_if_success (with_reducible show wpAny _ _ (getAttr (Value.ref _) _ _) _ _ _)); (first | (k_unfold; (try dsimp only)) | (k_end; wrow_close) | walk1 | (dsimp only; walk1) | (leave1; walk_say "STEP leave1"; try dsimp only) | fail "no step")))
  refine e_members F' X' N' hk (by (repeat (first | exact hxM | refine List.Mem.tail _ ?_))) (by (repeat (first | exact hdM | refine List.Mem.tail _ ?_))) (by intro s e; cases e) ?_
  repeat' (first | ((fail_if_success (with_reducible show wpAny _ _ (subscriptTail _ _ _ _) _ _ _)); (first | (k_unfold; (try dsimp only)) | (k_end; wrow_close) | walk1 | (dsimp only; walk1) | (leave1; walk_say "STEP leave1"; try dsimp only) | fail "no step")))
  refine item_tupleT (l := [.ref x1]) (j := 0) (x := .ref x1) ⟨_, (N' (mt, tupO [.ref x1] 0) (by (repeat (first | exact hmM | refine List.Mem.tail _ ?_)))).1, rfl, _, rfl⟩ (by decide) (by decide) rfl rfl ?_ (by with_unfolding_all rfl)
  repeat' (first | ((fail_if_success (with_reducible show wpAny _ _ (getMethod _ _ _) _ _ _)); (first | (k_unfold; (try dsimp only)) | (k_end; wrow_close) | walk1 | (dsimp only; walk1) | (leave1; walk_say "STEP leave1"; try dsimp only) | fail "no step")))
  refine e_mc F' X' N' hk1 (by (repeat (first | exact hx1 | refine List.Mem.tail _ ?_))) (by (repeat (first | exact hd1M | refine List.Mem.tail _ ?_))) hl1 ?_
  repeat' (first | ((fail_if_success (with_reducible show wpAny _ _ (callWith _ _ _ _ _) _ _ _)); (first | (k_unfold; (try dsimp only)) | (k_end; wrow_close) | walk1 | (dsimp only; walk1) | (leave1; walk_say "STEP leave1"; try dsimp only) | fail "no step")))
  refine callWith_K X' em_keep ?_
  repeat' (first | ((fail_if_success (with_reducible show wpAny _ _ (call _ _ _) _ _ _)); (first | (k_unfold; (try dsimp only)) | (k_end; wrow_close) | walk1 | (dsimp only; walk1) | (leave1; walk_say "STEP leave1"; try dsimp only) | fail "no step")))
  refine wpAny_call ?_
  refine mem_call (h₀ := g') (L := L') (T := []) hme (hkids _ _ _ _ _ _ _ hme) al ?hT hps ⟨_, _, _, _, _, _, _, _, _, by k_asm, by k_asm, by k_asm, rfl, rfl, rfl, rfl⟩ hHL F' N' hS ?hdp ?hun fun v h6 tk6 oc6 C6 oe6 nf6 M6 Nz F6 N6 S6 al6 ac6 res6 => ?_
  case hT => intro p hp; cases hp
  case hdp => (try simp only [depth_mark, depth_under_make, depth_under_kw, depth_in1, depth_deeper, depth_caller]); omega
  case hun => (try simp only [units_in1, units_deeper, Around.mark_units, units_caller]); omega
  simp only [List.cons_append, List.nil_append] at N6 S6
  dsimp only
  have hxM6 : (x, o) ∈ M6 ++ (Nz ++ loc) := List.mem_append_right _ (List.mem_append_right _ hx)
  have hdM6 : (d, od) ∈ M6 ++ (Nz ++ loc) := List.mem_append_right _ (List.mem_append_right _ hod)
  have hko := hk
  obtain ⟨it, tn, rfl⟩ := hko
  cases hrun : k.run tx x1 nm1 (ks.pegs tx) ps with
  | none =>
    rw [hrun] at res6
    have hv : v = .none := res6
    subst hv
    repeat' (first | ((fail_if_success (with_reducible show wpAny _ _ (getAttr (Value.ref _) _ _) _ _ _)); (first | (k_unfold; (try dsimp only)) | (k_end; wrow_close) | walk1 | (dsimp only; walk1) | (leave1; walk_say "STEP leave1"; try dsimp only) | fail "no step")))
    rename_i h7 F7 N7
    refine e_slot F7 X' N7 hk (by (repeat (first | exact hxM6 | refine List.Mem.tail _ ?_))) (by (repeat (first | exact hdM6 | refine List.Mem.tail _ ?_))) so_neg rfl rfl ?_
    repeat' (first | ((fail_if_success (with_reducible show wpAny _ _ (call (Value.ref 99) _ _) _ _ _)); (first | (k_unfold; (try dsimp only)) | (k_end; wrow_close) | walk1 | (dsimp only; walk1) | (leave1; walk_say "STEP leave1"; try dsimp only) | fail "no step")))
    refine wpAny_call ?_
    refine nodeH0_ok _ _ _ _ _ _ ⟨_, _, _, _, _, _, _, _, _, by k_asm, by k_asm, by k_asm, rfl, rfl, rfl, rfl⟩ (by k_asm) (by k_asm) (by (try simp only [depth_mark, depth_under_make, depth_under_kw, depth_in1, depth_deeper, depth_caller]); omega) (by (try simp only [units_in1, units_deeper, Around.mark_units, units_caller]); omega) fun v tl h5 tk5 F5 N5 dc5 lt5 hp5 => ?_
    obtain ⟨a, d2, cl, rfl, rfl⟩ := hp5
    dsimp only
    repeat' (first | ((first | (k_unfold; (try dsimp only)) | (k_end; wrow_close) | walk1 | (dsimp only; walk1) | (leave1; walk_say "STEP leave1"; try dsimp only) | fail "no step")))
    have S5 := sep_tl S6 dc5 lt5
    refine hret _ _ _ _ (by assumption) (newsSub (by assumption) fun q hq => (perm_fin (X := [_, _, _])).mem_iff.mpr hq) (sep_perm S5 (perm_fin (X := [_, _, _]))) ?_
    have hr : EK.nota.run tx x nm (EF.pegs tx (.cons k x1 d1 o1 mt1 nm1 ks .nil)) ps = some (.cons x nm ps ps .nil .nil) := by
      show (if (k.run tx x1 nm1 (ks.pegs tx) ps).isNone then some _ else none) = _
      rw [hrun]; rfl
    rw [hr]
    refine fin_post al6 ac6 [_, _, _] ⟨rfl, ?_⟩
    exact .cons (.tail _ (.head _)) (.tail _ (.tail _ (.head _))) (.head _) .nil .nil
  | some G' =>
    rw [hrun] at res6
    obtain ⟨G1, G2, G3, G4, hG1, hG2, hG3⟩ := pegs_good (EF.cons k x1 d1 o1 mt1 nm1 ks .nil) _ (.head _) ps G' hps hrun
    obtain ⟨a, da, cla, ea, t1, t2, t3, st1, en1, n1, nma, chs, cha, rfl, rfl, hna, hnd, hnl, hnc⟩ := res_one res6
    repeat' (first | ((fail_if_success (with_reducible show wpAny _ _ (getAttr (Value.ref _) _ _) _ _ _)); (first | (k_unfold; (try dsimp only)) | (k_end; wrow_close) | walk1 | (dsimp only; walk1) | (leave1; walk_say "STEP leave1"; try dsimp only) | fail "no step")))
    rename_i h7 F7 N7
    refine e_slot F7 X' N7 hk (by (repeat (first | exact hxM6 | refine List.Mem.tail _ ?_))) (by (repeat (first | exact hdM6 | refine List.Mem.tail _ ?_))) so_neg rfl rfl ?_
    repeat' (first | ((first | (k_unfold; (try dsimp only)) | (k_end; wrow_close) | walk1 | (dsimp only; walk1) | (leave1; walk_say "STEP leave1"; try dsimp only) | fail "no step")))
    refine hret _ _ _ _ (by assumption) (newsSub (by assumption) fun q hq => (perm_fin (X := [])).mem_iff.mpr hq) (sep_perm S6 (perm_fin (X := []))) ?_
    have hr : EK.nota.run tx x nm (EF.pegs tx (.cons k x1 d1 o1 mt1 nm1 ks .nil)) ps = none := by
      show (if (k.run tx x1 nm1 (ks.pegs tx) ps).isNone then some _ else none) = _
      rw [hrun]; rfl
    rw [hr]
    exact fin_post al6 ac6 [] rfl
-- UmQ
section
variable {prog : Program} {w : World} {A : Around} {E : Value → Shared → Prop} {s : Shared} {env : Env}
/-- one turn of a while -/
theorem while_turn {R : Result → Shared → Prop} {test : Expr} {body orelse : List Stmt}
    (h : wpAny (model prog w) A (isTrue test env (eval test env)) (fun b s₂ =>
        if b then wpAny (model prog w) A (execs body env) (fun f s₃ => match f with
            | .next | .cont => codeAny (model prog w) A (.whileLoop test body orelse env) R s₃
            | .brk => R (.ok .next) s₃
            | .ret v => R (.ok (.ret v)) s₃) (notedBy (model prog w) A env fun e s' => R (.error e) s') s₂
        else wpAny (model prog w) A (execs orelse env) (fun f s₃ => R (.ok f) s₃) (notedBy (model prog w) A env fun e s' => R (.error e) s') s₂)
        (notedBy (model prog w) A env fun e s' => R (.error e) s') s) : codeAny (model prog w) A (.whileLoop test body orelse env) R s := by
  refine codeAny_of_tree ?_
  show wpAny _ A ((whileTurn test body orelse env).onRaise (fun x => do noteFrame x env; theTreesLotGoes x)) _ _ s
  refine wpAny_noted ?_
  simp only [whileTurn]
  refine wpAny_bind (wpAny_mono h (fun b s₂ h₂ => ?_) fun _ _ h' => h')
  cases b with
  | false =>
    simp only [Bool.false_eq_true, if_false] at h₂ ⊢
    exact wpAny_bind (wpAny_mono h₂ (fun f s₃ h₃ => wpAny_pure h₃) fun _ _ h' => h')
  | true =>
    simp only [if_true] at h₂ ⊢
    refine wpAny_bind (wpAny_mono h₂ (fun f s₃ h₃ => ?_) fun _ _ h' => h')
    cases f with
    | next => exact wpAny_pure ⟨rfl, h₃⟩
    | cont => exact wpAny_pure ⟨rfl, h₃⟩
    | brk => exact wpAny_pure h₃
    | ret v => exact wpAny_pure h₃
end
/-- a list is shorter than the bound -/
def MxV (mx : Option Nat) (v : Value) : Prop := match mx with
  | none => ∃ t, v = infV t
  | some b => ∃ t, v = .int (b : Int) t
theorem inf_gt (n : Nat) : (Float64.cmpInt ((Num.parseText? (Str.ofString "inf")).getD 0) (n : Int) == some Ordering.gt) = true := by
  have e : Float64.decode ((Num.parseText? (Str.ofString "inf")).getD 0) = .inf false := by kernel_rfl
  unfold Float64.cmpInt
  rw [e]; rfl
theorem lt_max {prog : Program} {w : World} {A : Around} {E : Value → Shared → Prop} {s : Shared} {mx : Option Nat} {mv : Value} {n : Nat} {t : Tok} {Q : Value → Shared → Prop} (h : MxV mx mv) (hq : Q (.bool (mx.all fun b => decide (n < b))) s) : wpAny (model prog w) A (compareOp .Lt (.int (n : Int) t) mv) Q E s := by
  cases mx with
  | none =>
    obtain ⟨t', rfl⟩ := h
    refine lt_if ?_
    rw [inf_gt]; exact hq
  | some b =>
    obtain ⟨t', rfl⟩ := h
    refine lt_int ?_
    have e : decide ((n : Int) < (b : Int)) = decide (n < b) := by simp
    rw [e]; exact hq
theorem q_canon1 {g h : Heap} {L : Addr} {B2 C1 C2 : Option Value} {m0 : Str → Option Value}
    (F : Fr g L h fun y => if y = Str.ofString "node" then C1 else if y = Str.ofString "length" then B2 else if y = Str.ofString "node" then C2 else m0 y) :
    Fr g L h fun y => if y = Str.ofString "length" then B2 else if y = Str.ofString "node" then C1 else m0 y := by
  refine fr_map F fun y => ?_
  by_cases e3 : y = Str.ofString "node"
  · subst e3; rfl
  by_cases e4 : y = Str.ofString "length"
  · subst e4; rfl
  simp only [if_neg e3, if_neg e4]
theorem q_canon2 {g h : Heap} {L : Addr} {B1 B2 C1 C2 : Option Value} {m0 : Str → Option Value}
    (F : Fr g L h fun y => if y = Str.ofString "length" then B1 else if y = Str.ofString "node" then C1 else if y = Str.ofString "length" then B2 else if y = Str.ofString "node" then C2 else m0 y) :
    Fr g L h fun y => if y = Str.ofString "length" then B1 else if y = Str.ofString "node" then C1 else m0 y := by
  refine fr_map F fun y => ?_
  by_cases e3 : y = Str.ofString "node"
  · subst e3; rfl
  by_cases e4 : y = Str.ofString "length"
  · subst e4; rfl
  simp only [if_neg e3, if_neg e4]
theorem q_canon3 {g h : Heap} {L : Addr} {A1 A2 B1 B2 C1 C2 D E : Option Value} {m0 : Str → Option Value}
    (F : Fr g L h fun y => if y = Str.ofString "new_pos" then A1 else if y = Str.ofString "length" then B1 else if y = Str.ofString "node" then C1 else if y = Str.ofString "length" then B2 else if y = Str.ofString "node" then C2 else if y = Str.ofString "size" then D else if y = Str.ofString "children" then E else if y = Str.ofString "new_pos" then A2 else m0 y) :
    Fr g L h fun y => if y = Str.ofString "length" then B1 else if y = Str.ofString "node" then C1 else if y = Str.ofString "size" then D else if y = Str.ofString "children" then E else if y = Str.ofString "new_pos" then A1 else m0 y := by
  refine fr_map F fun y => ?_
  by_cases e1 : y = Str.ofString "new_pos"
  · subst e1; rfl
  by_cases e3 : y = Str.ofString "node"
  · subst e3; rfl
  by_cases e4 : y = Str.ofString "length"
  · subst e4; rfl
  simp only [if_neg e1, if_neg e3, if_neg e4]
/-- after the loop of a Quantifier -/
def CutQ (w : World) (b : Nat) (tx : Str) (c ee ed : Addr) (eo : Obj) (Y : Addr → Prop) (F : EF) (nf : Nat) (C : List (Int × Value)) (led loc S H : List (Addr × Obj)) (f : PegF) (mx : Option Nat) (ps : Nat) (ch : Addr) (g : Heap) (L : Addr) (m0 : Str → Option Value) (sz : Option Value) (s s1 : Shared) : Prop :=
  ∃ h tk vs n q tq oc1 C1 oe1 nf1 M1 Nw Fs vl vn, s1 = { s with heap := h, toks := tk } ∧
    Fr g L h (fun y => if y = Str.ofString "length" then vl else if y = Str.ofString "node" then vn else if y = Str.ofString "size" then sz else if y = Str.ofString "children" then some (Value.ref ch) else if y = Str.ofString "new_pos" then some (Value.int (q : Nat) tq) else m0 y) ∧
    News g L h ((ch, lstO vs n) :: (c, oc1) :: (ed, oe1) :: (M1 ++ (Nw ++ loc))) ∧ Sep ((ch, lstO vs n) :: (c, oc1) :: (ed, oe1) :: (M1 ++ (Nw ++ loc))) ∧
    MAll w b tx c ee ed eo Y F nf1 oc1 C1 oe1 M1 (Nw ++ loc) (Nw ++ S) H ∧ Acc C nf led C1 nf1 ((c, oc1) :: (ed, oe1) :: (M1 ++ (Nw ++ loc))) ∧ NodesIn tx (Nw ++ S) vs Fs ∧ starRun f tx.length mx (tx.length + 1) 0 ps = (Fs, q) ∧ vs.length ≤ 10
theorem um_qnt {w : World} {dN uN : Nat} {k0 : EK} {mx : Option Nat} (hk0 : (k0 = .star ∧ mx = none) ∨ (k0 = .opt ∧ mx = some 1)) {x d : Addr} {o : Obj} {mt : Addr} {nm : Str} {kids : EF} (hkids : ∀ k x d o mt nm ks, EF.Mem k x d o mt nm ks kids → MC w dN uN k x d o mt nm ks) : UM w (dN + 20) (uN + 150) k0 x d o mt nm kids := by
  w_on
  intro b tx c ee ed eo Y nf oc C oe M loc S H tkx tkp ps ctx st hall hwf hstat hod hps hH hSl
  have al := mall_of ctx st hall hwf hstat hH hSl
  have hx : (x, o) ∈ loc := hstat _ stat_self
  have hmt : (mt, tupO kids.roots 0) ∈ loc := hstat _ (by rcases hk0 with ⟨rfl, _⟩ | ⟨rfl, _⟩ <;> exact .tail _ (.head _))
  have hk : k0.Is d mt nm o := hwf.1
  have hlen : kids.len = 1 := by rcases hk0 with ⟨rfl, _⟩ | ⟨rfl, _⟩ <;> exact hwf.2.1
  have hnl : ∀ s, k0 ≠ .lit s := by rcases hk0 with ⟨rfl, _⟩ | ⟨rfl, _⟩ <;> (intro s e; cases e)
  have hmax : ∃ mv, MxV mx mv ∧ (o.slots[0]?).join = some mv ∧ handedIn mv = true := by
    rcases hk0 with ⟨rfl, rfl⟩ | ⟨rfl, rfl⟩ <;> obtain ⟨it, t1, t2, t3, rfl⟩ := hk
    · exact ⟨_, ⟨_, rfl⟩, rfl, rfl⟩
    · exact ⟨_, ⟨_, rfl⟩, rfl, rfl⟩
  have hmin : ∃ t, (o.slots[1]?).join = some (.int 0 t) := by
    rcases hk0 with ⟨rfl, rfl⟩ | ⟨rfl, rfl⟩ <;> obtain ⟨it, t1, t2, t3, rfl⟩ := hk <;> exact ⟨_, rfl⟩
  have hcl : k0.cls.1 = 504 := by rcases hk0 with ⟨rfl, _⟩ | ⟨rfl, _⟩ <;> rfl
  have hrunq : k0.run tx x nm (kids.pegs tx) ps = match (kids.pegs tx).head? with | some f => some (.cons x nm ps (starRun f tx.length mx (tx.length + 1) 0 ps).2 (starRun f tx.length mx (tx.length + 1) 0 ps).1 .nil) | none => none := by
    rcases hk0 with ⟨rfl, rfl⟩ | ⟨rfl, rfl⟩ <;> rfl
  have hum : k0.cls.2.1 = 493 := by rcases hk0 with ⟨rfl, _⟩ | ⟨rfl, _⟩ <;> rfl
  rw [hum]
  obtain ⟨mv, hmv, hms, hmh⟩ := hmax
  obtain ⟨tmin, hmins⟩ := hmin
  obtain ⟨od, hod⟩ := hod
  obtain ⟨k, x1, d1, o1, mt1, nm1, ks, rfl⟩ := len_one (F := kids) hlen
  intro A h₀ L m s R hAmb hHL F N hS hdep hun hret
  obtain ⟨A₀, base, outer, env, p, loose, mean, mg, mb, B, X, T, hA, hf, hke, hrw⟩ := hAmb
  obtain ⟨hd, dp, fr, gd, un⟩ := A
  dsimp only at hA hdep hun
  subst hA
  revert X hrw
  k_fill
  intro X hrw
  clear hrw
  (k_dflt (refine' code_def (binds := [(Str.ofString "self", .ref x), (Str.ofString "text", .str tx tkx), (Str.ofString "pos", .int ps tkp), (Str.ofString "cache", .ref c), (Str.ofString "error", .ref ee)]) ?k1 ?k2 ?k3 ?k4 ?k5 ?kA ?kF ?kK ?k6 ?k7 ?k8 ?k9 ?kB ?_ ?c2 ?c3 ?c4 ?c5; (case kA => exact rfl); (case kF => first | exact rfl | assumption); (case kK => first | exact rfl | assumption); (case k1 => k_asm); (case k2 => k_asm); (case k3 => k_asm); (case k4 => k_asm); (case k5 => k_asm); (case k6 => k_is); (case k7 => k_is); (case k8 => k_room); (case k9 => first | exact BindsTo.of_eq rfl | exact binds_K (by k_in) rfl (by k_is) rfl rfl rfl); (case c5 => decide); (case kB => exact locs rfl); (case c2 => exact rfl); (case c3 => exact rfl); (case c4 => exact rfl); k_whole))
  intro g' L' h' FG' F' N' B' X' T'
  (try dsimp only [List.reverse, List.reverseAux] at F')
  have hme : EF.Mem k x1 d1 o1 mt1 nm1 ks (.cons k x1 d1 o1 mt1 nm1 ks .nil) := .head
  have hk1 : k.Is d1 mt1 nm1 o1 := (hme.wfs al.wf).1
  repeat' (first | ((fail_if_success (with_reducible show wpAny _ _ (call (Value.builtin "len") _ _) _ _ _)); (first | (k_unfold; (try dsimp only)) | (k_end; wrow_close) | walk1 | (dsimp only; walk1) | (leave1; walk_say "STEP leave1"; try dsimp only) | fail "no step")))
  refine P.len_str (by have := ctx.len; omega) ?_
  repeat' (first | ((fail_if_success (with_reducible show wpAny _ _ (exec (PySem.Stmt.While _ _ _ _) _) _ _ _)); (first | (k_unfold; (try dsimp only)) | (k_end; wrow_close) | walk1 | (dsimp only; walk1) | (leave1; walk_say "STEP leave1"; try dsimp only) | fail "no step")))
  rename_i ch hq0 lch h1 h2 F1x N2
  have S2 : Sep ((ch, W.listOf #[] 0) :: (c, oc) :: (ed, oe) :: (M ++ loc)) := sep_push hS (ktn_ltOf lch)
  obtain ⟨szv, F2⟩ : ∃ tsz, Fr g' L' h2 fun y => if y = Str.ofString "size" then some (Value.int tx.length tsz) else if y = Str.ofString "children" then some (Value.ref ch) else if y = Str.ofString "new_pos" then some (Value.int ps tkp) else List.lookup y [(Str.ofString "error", Value.ref ee), (Str.ofString "cache", Value.ref c), (Str.ofString "pos", Value.int ps tkp), (Str.ofString "text", Value.str tx tkx), (Str.ofString "self", Value.ref x)] := ⟨_, F1x⟩
  clear F1x
  refine wpAny_mono (Q := fun f s1 => f = .next ∧ CutQ w b tx c ee ed eo Y (.cons k x1 d1 o1 mt1 nm1 ks .nil) nf C ((c, oc) :: (ed, oe) :: (M ++ loc)) loc S H (k.run tx x1 nm1 (ks.pegs tx)) mx ps ch g' L' (fun y => List.lookup y [(Str.ofString "error", Value.ref ee), (Str.ofString "cache", Value.ref c), (Str.ofString "pos", Value.int ps tkp), (Str.ofString "text", Value.str tx tkx), (Str.ofString "self", Value.ref x)]) (some (Value.int tx.length szv)) s s1) (E := fun _ _ => False) ?loop ?rest (fun _ _ z => z.elim)
  case rest =>
    rintro f s1 ⟨rfl, h4, tk4, vs, n, q, tq, oc1, C1, oe1, nf1, M1, Nw, Fs, vl, vn, rfl, F4, N4, S4, al4, ac4, hnodes, hspec, hvs⟩
    dsimp only
    have hxM : (x, o) ∈ M1 ++ (Nw ++ loc) := List.mem_append_right _ (List.mem_append_right _ hx)
    have hdM : (d, od) ∈ M1 ++ (Nw ++ loc) := List.mem_append_right _ (List.mem_append_right _ hod)
    repeat' (first | ((fail_if_success (with_reducible show wpAny _ _ (call (Value.builtin "len") _ _) _ _ _)); (first | (k_unfold; (try dsimp only)) | (k_end; wrow_close) | walk1 | (dsimp only; walk1) | (leave1; walk_say "STEP leave1"; try dsimp only) | fail "no step")))
    refine len_list (items := vs.toArray) ⟨_, (N4 _ (.head _)).1, rfl, _, rfl⟩ (by simp; omega) ?_
    repeat' (first | ((fail_if_success (with_reducible show wpAny _ _ (getAttr (Value.ref _) _ _) _ _ _)); (first | (k_unfold; (try dsimp only)) | (k_end; wrow_close) | walk1 | (dsimp only; walk1) | (leave1; walk_say "STEP leave1"; try dsimp only) | fail "no step")))
    refine e_slot F4 X' N4 hk (by (repeat (first | exact hxM | refine List.Mem.tail _ ?_))) (by (repeat (first | exact hdM | refine List.Mem.tail _ ?_))) (by rw [hcl]; exact so_min) hmins rfl ?_
    repeat' (first | ((fail_if_success (with_reducible show wpAny _ _ (compareOp _ _ _) _ _ _)); (first | (k_unfold; (try dsimp only)) | (k_end; wrow_close) | walk1 | (dsimp only; walk1) | (leave1; walk_say "STEP leave1"; try dsimp only) | fail "no step")))
    refine P.ge_int ?_
    have e0 : decide ((vs.toArray.size : Int) ≥ 0) = true := by simp
    rw [e0]
    repeat' (first | ((fail_if_success (with_reducible show wpAny _ _ (call (Value.ref 99) _ _) _ _ _)); (first | (k_unfold; (try dsimp only)) | (k_end; wrow_close) | walk1 | (dsimp only; walk1) | (leave1; walk_say "STEP leave1"; try dsimp only) | fail "no step")))
    refine wpAny_call ?_
    have hr : k0.run tx x nm (EF.pegs tx (.cons k x1 d1 o1 mt1 nm1 ks .nil)) ps = some (.cons x nm ps q Fs .nil) := by
      have hh : (EF.pegs tx (.cons k x1 d1 o1 mt1 nm1 ks .nil)).head? = some (k.run tx x1 nm1 (ks.pegs tx)) := rfl
      rw [hrunq, hh]
      dsimp only
      rw [hspec]
    rw [hr] at hret
    cases vs with
    | nil =>
      refine nodeH2_ok (n := n) (.head _) _ _ _ _ _ _ ⟨_, _, _, _, _, _, _, _, _, by k_asm, by k_asm, by k_asm, rfl, rfl, rfl, rfl⟩ (by k_asm) (by k_asm) (by (try simp only [depth_mark, depth_under_make, depth_under_kw, depth_in1, depth_deeper, depth_caller]); omega) (by (try simp only [units_in1, units_deeper, Around.mark_units, units_caller]); omega) fun v tl h5 tk5 F5 N5 dc5 lt5 hp5 => ?_
      obtain ⟨a, d2, cl2, rfl, rfl⟩ := hp5
      dsimp only
      repeat' (first | ((first | (k_unfold; (try dsimp only)) | (k_end; wrow_close) | walk1 | (dsimp only; walk1) | (leave1; walk_say "STEP leave1"; try dsimp only) | fail "no step")))
      have S5 := sep_tl S4 dc5 lt5
      refine hret _ _ _ _ (by assumption) (newsSub (by assumption) fun q hq => (perm_fin (X := [_, _, _, _])).mem_iff.mpr hq) (sep_perm S5 (perm_fin (X := [_, _, _, _]))) ?_
      refine fin_post al4 ac4 [_, _, _, _] ⟨rfl, ?_⟩
      cases hnodes
      exact .cons (.tail _ (.head _)) (.tail _ (.tail _ (.head _))) (.head _) .nil .nil
    | cons v0 vs =>
      simp only [List.length_cons] at hvs
      refine nodeH1_ok (v0 := v0) (vs := vs) (n := n) (.head _) (by omega) _ _ _ _ _ _ ⟨_, _, _, _, _, _, _, _, _, by k_asm, by k_asm, by k_asm, rfl, rfl, rfl, rfl⟩ (by k_asm) (by k_asm) (by (try simp only [depth_mark, depth_under_make, depth_under_kw, depth_in1, depth_deeper, depth_caller]); omega) (by (try simp only [units_in1, units_deeper, Around.mark_units, units_caller]); omega) fun v tl h5 tk5 F5 N5 dc5 lt5 hp5 => ?_
      obtain ⟨a, d2, rfl, rfl⟩ := hp5
      dsimp only
      repeat' (first | ((first | (k_unfold; (try dsimp only)) | (k_end; wrow_close) | walk1 | (dsimp only; walk1) | (leave1; walk_say "STEP leave1"; try dsimp only) | fail "no step")))
      have S5 := sep_tl S4 dc5 lt5
      refine hret _ _ _ _ (by assumption) (newsSub (by assumption) fun q hq => (perm_fin (X := [_, _, _])).mem_iff.mpr hq) (sep_perm S5 (perm_fin (X := [_, _, _]))) ?_
      refine fin_post al4 ac4 [_, _, _] ⟨rfl, ?_⟩
      exact .cons (.head _) (.tail _ (.head _)) (.tail _ (.tail _ (.head _))) (hnodes.mono fun p hp => .tail _ (.tail _ (.tail _ hp))) .nil
  case loop =>
    refine wpAny_While ?_
    obtain ⟨RS, hRS⟩ : ∃ r, starRun (k.run tx x1 nm1 (ks.pegs tx)) tx.length mx (tx.length + 1) 0 ps = r := ⟨_, rfl⟩
    have dsp : ∃ (fuel cnt : Nat) (vs : List Value) (n q : Nat) (tq : Tok) (oc1 : Obj) (C1 : List (Int × Value)) (oe1 : Obj) (nf1 : Nat) (M1 Nw : List (Addr × Obj)) (Fs : PF) (vl vn : Option Value),
      Fr g' L' h2 (fun y => if y = Str.ofString "length" then vl else if y = Str.ofString "node" then vn else if y = Str.ofString "size" then some (Value.int tx.length szv) else if y = Str.ofString "children" then some (Value.ref ch) else if y = Str.ofString "new_pos" then some (Value.int q tq) else List.lookup y [(Str.ofString "error", Value.ref ee), (Str.ofString "cache", Value.ref c), (Str.ofString "pos", Value.int ps tkp), (Str.ofString "text", Value.str tx tkx), (Str.ofString "self", Value.ref x)]) ∧
      News g' L' h2 ((ch, lstO vs n) :: (c, oc1) :: (ed, oe1) :: (M1 ++ (Nw ++ loc))) ∧ Sep ((ch, lstO vs n) :: (c, oc1) :: (ed, oe1) :: (M1 ++ (Nw ++ loc))) ∧
      MAll w b tx c ee ed eo Y (.cons k x1 d1 o1 mt1 nm1 ks .nil) nf1 oc1 C1 oe1 M1 (Nw ++ loc) (Nw ++ S) H ∧ Acc C nf ((c, oc) :: (ed, oe) :: (M ++ loc)) C1 nf1 ((c, oc1) :: (ed, oe1) :: (M1 ++ (Nw ++ loc))) ∧ NodesIn tx (Nw ++ S) vs Fs ∧
      RS = (Fs.app (starRun (k.run tx x1 nm1 (ks.pegs tx)) tx.length mx fuel cnt q).1, (starRun (k.run tx x1 nm1 (ks.pegs tx)) tx.length mx fuel cnt q).2) ∧
      vs.length = cnt ∧ tx.length < q + fuel ∧ cnt + fuel ≤ 6 ∧ q ≤ tx.length := by
      refine ⟨tx.length + 1, 0, [], 0, ps, tkp, oc, C, oe, nf, M, [], .nil, none, none, fr_map F2 fun y => ?_, N2, S2, al, .refl, .nil, hRS.symm, rfl, by omega, by have := ctx.len; omega, hps⟩
      by_cases e1 : y = Str.ofString "length"
      · subst e1; rfl
      by_cases e2 : y = Str.ofString "node"
      · subst e2; rfl
      rw [if_neg e1, if_neg e2]
    obtain ⟨fuel, cnt, vs, n, q, tq, oc1, C1, oe1, nf1, M1, Nw, Fs, vl, vn, F3, N3, S3, al3, ac3, hnodes, hspec, hcnt, hfu, hcf, hq⟩ := dsp
    clear F2 N2 lch S2
    refine' (show ∀ tkz : Nat, codeAny _ _ _ _ (⟨h2, s.gens, s.drawn, tkz, s.os⟩ : Shared) from ?_) _
    intro tkz
    induction fuel generalizing h2 tkz cnt vs n q tq oc1 C1 oe1 nf1 M1 Nw Fs vl vn with
    | zero => exact absurd hfu (by omega)
    | succ fuel ih =>
      have hxM : (x, o) ∈ M1 ++ (Nw ++ loc) := List.mem_append_right _ (List.mem_append_right _ hx)
      have hdM : (d, od) ∈ M1 ++ (Nw ++ loc) := List.mem_append_right _ (List.mem_append_right _ hod)
      have hmM : (mt, tupO [.ref x1] 0) ∈ M1 ++ (Nw ++ loc) := List.mem_append_right _ (List.mem_append_right _ hmt)
      have hx1 : (x1, o1) ∈ M1 ++ (Nw ++ loc) := List.mem_append_right _ (al3.stat _ (hme.stats _ stat_self))
      obtain ⟨es1, ei1, hd1, hl1⟩ := muts_mc hme al3.st.muts
      have hd1M : (d1, dictOf es1 ei1) ∈ M1 ++ (Nw ++ loc) := List.mem_append_left _ hd1
      refine while_turn ?_
      repeat' (first | ((fail_if_success (with_reducible show wpAny _ _ (compareOp _ _ _) _ _ _)); (first | (k_unfold; (try dsimp only)) | (k_end; wrow_close) | walk1 | (dsimp only; walk1) | (leave1; walk_say "STEP leave1"; try dsimp only) | fail "no step")))
      refine P.lt_int ?_
      have e0 : decide ((q : Int) < (tx.length : Int)) = decide (q < tx.length) := by simp
      rw [e0]
      by_cases hlt : q < tx.length
      rotate_left
      · rw [decide_eq_false hlt]
        repeat' (first | ((first | (k_unfold; (try dsimp only)) | (k_end; wrow_close) | walk1 | (dsimp only; walk1) | (leave1; walk_say "STEP leave1"; try dsimp only) | fail "no step")))
        rw [starRun, if_neg (fun z => hlt z.1), PF.app_nil] at hspec
        exact ⟨h2, _, vs, n, q, tq, oc1, C1, oe1, nf1, M1, Nw, Fs, vl, vn, rfl, F3, N3, S3, al3, ac3, hnodes, hRS.trans hspec, by omega⟩
      rw [decide_eq_true hlt]
      repeat' (first | ((fail_if_success (with_reducible show wpAny _ _ (call (Value.builtin "len") _ _) _ _ _)); (first | (k_unfold; (try dsimp only)) | (k_end; wrow_close) | walk1 | (dsimp only; walk1) | (leave1; walk_say "STEP leave1"; try dsimp only) | fail "no step")))
      refine len_list (items := vs.toArray) ⟨_, (N3 _ (.head _)).1, rfl, _, rfl⟩ (by simp; omega) ?_
      repeat' (first | ((fail_if_success (with_reducible show wpAny _ _ (getAttr (Value.ref _) _ _) _ _ _)); (first | (k_unfold; (try dsimp only)) | (k_end; wrow_close) | walk1 | (dsimp only; walk1) | (leave1; walk_say "STEP leave1"; try dsimp only) | fail "no step")))
      refine e_slot F3 X' N3 hk (by (repeat (first | exact hxM | refine List.Mem.tail _ ?_))) (by (repeat (first | exact hdM | refine List.Mem.tail _ ?_))) (by rw [hcl]; exact so_max) hms hmh ?_
      repeat' (first | ((fail_if_success (with_reducible show wpAny _ _ (compareOp _ _ _) _ _ _)); (first | (k_unfold; (try dsimp only)) | (k_end; wrow_close) | walk1 | (dsimp only; walk1) | (leave1; walk_say "STEP leave1"; try dsimp only) | fail "no step")))
      refine lt_max (mx := mx) (n := vs.toArray.size) hmv ?_
      have e1 : vs.toArray.size = cnt := by simp [hcnt]
      rw [e1]
      cases hm : (mx.all fun b => decide (cnt < b)) with
      | false =>
        repeat' (first | ((first | (k_unfold; (try dsimp only)) | (k_end; wrow_close) | walk1 | (dsimp only; walk1) | (leave1; walk_say "STEP leave1"; try dsimp only) | fail "no step")))
        rw [starRun, if_neg (fun z => by rw [hm] at z; exact absurd z.2 (by decide)), PF.app_nil] at hspec
        exact ⟨h2, _, vs, n, q, tq, oc1, C1, oe1, nf1, M1, Nw, Fs, vl, vn, rfl, F3, N3, S3, al3, ac3, hnodes, hRS.trans hspec, by omega⟩
      | true =>
      repeat' (first | ((fail_if_success (with_reducible show wpAny _ _ (getAttr (Value.ref _) _ _) _ _ _)); (first | (k_unfold; (try dsimp only)) | (k_end; wrow_close) | walk1 | (dsimp only; walk1) | (leave1; walk_say "STEP leave1"; try dsimp only) | fail "no step")))
      refine e_members F3 X' N3 hk (by (repeat (first | exact hxM | refine List.Mem.tail _ ?_))) (by (repeat (first | exact hdM | refine List.Mem.tail _ ?_))) hnl ?_
      repeat' (first | ((fail_if_success (with_reducible show wpAny _ _ (subscriptTail _ _ _ _) _ _ _)); (first | (k_unfold; (try dsimp only)) | (k_end; wrow_close) | walk1 | (dsimp only; walk1) | (leave1; walk_say "STEP leave1"; try dsimp only) | fail "no step")))
      refine item_tupleT (l := [.ref x1]) (j := 0) (x := .ref x1) ⟨_, (N3 (mt, tupO [.ref x1] 0) (by (repeat (first | exact hmM | refine List.Mem.tail _ ?_)))).1, rfl, _, rfl⟩ (by decide) (by decide) rfl rfl ?_ (by with_unfolding_all rfl)
      repeat' (first | ((fail_if_success (with_reducible show wpAny _ _ (getMethod _ _ _) _ _ _)); (first | (k_unfold; (try dsimp only)) | (k_end; wrow_close) | walk1 | (dsimp only; walk1) | (leave1; walk_say "STEP leave1"; try dsimp only) | fail "no step")))
      refine e_mc F3 X' N3 hk1 (by (repeat (first | exact hx1 | refine List.Mem.tail _ ?_))) (by (repeat (first | exact hd1M | refine List.Mem.tail _ ?_))) hl1 ?_
      repeat' (first | ((fail_if_success (with_reducible show wpAny _ _ (callWith _ _ _ _ _) _ _ _)); (first | (k_unfold; (try dsimp only)) | (k_end; wrow_close) | walk1 | (dsimp only; walk1) | (leave1; walk_say "STEP leave1"; try dsimp only) | fail "no step")))
      refine callWith_K X' em_keep ?_
      repeat' (first | ((fail_if_success (with_reducible show wpAny _ _ (call _ _ _) _ _ _)); (first | (k_unfold; (try dsimp only)) | (k_end; wrow_close) | walk1 | (dsimp only; walk1) | (leave1; walk_say "STEP leave1"; try dsimp only) | fail "no step")))
      refine wpAny_call ?_
      refine mem_call (h₀ := g') (L := L') (T := [_]) hme (hkids _ _ _ _ _ _ _ hme) al3 ?hT hq ⟨_, _, _, _, _, _, _, _, _, by k_asm, by k_asm, by k_asm, rfl, rfl, rfl, rfl⟩ hHL F3 N3 S3 ?hdp ?hun fun v h6 tk6 oc6 C6 oe6 nf6 M6 Nw6 F6 N6 S6 al6 ac6 res6 => ?_
      case hT => intro p hp; rw [List.mem_singleton.mp hp]; show Value.type "list" ≠ _; decide
      case hdp => (try simp only [depth_mark, depth_under_make, depth_under_kw, depth_in1, depth_deeper, depth_caller]); omega
      case hun => (try simp only [units_in1, units_deeper, Around.mark_units, units_caller]); omega
      simp only [List.cons_append, List.nil_append] at N6 S6
      obtain ⟨Nz, hNz⟩ : ∃ Nz, Nz = Nw6 ++ Nw := ⟨_, rfl⟩
      have e2 : ∀ l, Nw6 ++ (Nw ++ l) = Nz ++ l := fun l => by rw [hNz, List.append_assoc]
      have sbN : ∀ p ∈ Nw ++ S, p ∈ Nz ++ S := fun p hp => by rw [← e2]; exact List.mem_append_right _ hp
      simp only [e2] at N6 S6 al6 ac6 res6
      have ac7 := ac3.trans ac6
      clear al3 ac3 ac6 e2 hNz
      dsimp only
      rw [starRun, if_pos ⟨hlt, hm⟩] at hspec
      cases hrun : k.run tx x1 nm1 (ks.pegs tx) q with
      | none =>
        rw [hrun] at res6 hspec
        dsimp only at hspec
        rw [PF.app_nil] at hspec
        have hv : v = .none := res6
        subst hv
        repeat' (first | ((first | (k_unfold; (try dsimp only)) | (k_end; wrow_close) | walk1 | (dsimp only; walk1) | (leave1; walk_say "STEP leave1"; try dsimp only) | fail "no step")))
        rename_i F9 N9
        exact ⟨_, _, vs, n, q, tq, oc6, C6, oe6, nf6, M6, Nz, Fs, vl, _, rfl, q_canon1 F9, N9, S6, al6, ac7, hnodes.mono sbN, hRS.trans hspec, by omega⟩
      | some G' =>
        rw [hrun] at res6 hspec
        obtain ⟨G1, G2, G3, G4, hG1, hG2, hG3⟩ := pegs_good (EF.cons k x1 d1 o1 mt1 nm1 ks .nil) _ (.head _) q G' hq hrun
        obtain ⟨a, da, cla, ea, t1, t2, t3, st1, en1, n1, nma, chs, cha, rfl, rfl, hna, hnd, hnl2, hnc⟩ := res_one res6
        cases hG1
        dsimp only at hspec
        have sNz : ∀ p ∈ Nz ++ S, p ∈ M6 ++ (Nz ++ loc) := fun p hp => List.mem_append_right _ (al6.hS p hp)
        repeat' (first | ((fail_if_success (with_reducible show wpAny _ _ (call (Value.builtin "list.append") _ _) _ _ _)); (first | (k_unfold; (try dsimp only)) | (k_end; wrow_close) | walk1 | (dsimp only; walk1) | (leave1; walk_say "STEP leave1"; try dsimp only) | fail "no step")))
        rename_i h7 F7 N7
        refine m_append F7 N7 (updF_sep (pre := []) S6) (by rw [sizeLine_eq]; omega) fun h8 F8 N8 => ?_
        have S8 := sep_set (pre := []) (o' := lstO (vs ++ [Value.ref a]) (n + 1)) S6
        simp only [List.nil_append] at N8 S8
        have hna' := sNz _ hna
        have hnd' := sNz _ hnd
        have hxM6 : (x, o) ∈ M6 ++ (Nz ++ loc) := List.mem_append_right _ (List.mem_append_right _ hx)
        have hdM6 : (d, od) ∈ M6 ++ (Nz ++ loc) := List.mem_append_right _ (List.mem_append_right _ hod)
        repeat' (first | ((fail_if_success (with_reducible show wpAny _ _ (getAttr (Value.ref a) _ _) _ _ _)); (first | (k_unfold; (try dsimp only)) | (k_end; wrow_close) | walk1 | (dsimp only; walk1) | (leave1; walk_say "STEP leave1"; try dsimp only) | fail "no step")))
        refine n_slot F8 X' N8 (by (repeat (first | exact hna' | refine List.Mem.tail _ ?_))) (by (repeat (first | exact hnd' | refine List.Mem.tail _ ?_))) so_nen rfl rfl ?_
        repeat' (first | ((fail_if_success (with_reducible show wpAny _ _ (getAttr (Value.ref a) _ _) _ _ _)); (first | (k_unfold; (try dsimp only)) | (k_end; wrow_close) | walk1 | (dsimp only; walk1) | (leave1; walk_say "STEP leave1"; try dsimp only) | fail "no step")))
        refine n_slot F8 X' N8 (by (repeat (first | exact hna' | refine List.Mem.tail _ ?_))) (by (repeat (first | exact hnd' | refine List.Mem.tail _ ?_))) so_nst rfl rfl ?_
        repeat' (first | ((fail_if_success (with_reducible show wpAny _ _ (call (Value.builtin "len") _ _) _ _ _)); (first | (k_unfold; (try dsimp only)) | (k_end; wrow_close) | walk1 | (dsimp only; walk1) | (leave1; walk_say "STEP leave1"; try dsimp only) | fail "no step")))
        rename_i h9 F9 N9
        refine len_list (items := (vs ++ [Value.ref a]).toArray) ⟨_, (N9 _ (.head _)).1, rfl, _, rfl⟩ (by simp; omega) ?_
        repeat' (first | ((fail_if_success (with_reducible show wpAny _ _ (getAttr (Value.ref _) _ _) _ _ _)); (first | (k_unfold; (try dsimp only)) | (k_end; wrow_close) | walk1 | (dsimp only; walk1) | (leave1; walk_say "STEP leave1"; try dsimp only) | fail "no step")))
        refine e_slot F9 X' N9 hk (by (repeat (first | exact hxM6 | refine List.Mem.tail _ ?_))) (by (repeat (first | exact hdM6 | refine List.Mem.tail _ ?_))) (by rw [hcl]; exact so_min) hmins rfl ?_
        repeat' (first | ((fail_if_success (with_reducible show wpAny _ _ (compareOp _ _ _) _ _ _)); (first | (k_unfold; (try dsimp only)) | (k_end; wrow_close) | walk1 | (dsimp only; walk1) | (leave1; walk_say "STEP leave1"; try dsimp only) | fail "no step")))
        refine P.ge_int ?_
        have e0 : decide (((vs ++ [Value.ref a]).toArray.size : Int) ≥ 0) = true := decide_eq_true (Int.natCast_nonneg _)
        rw [e0]
        repeat' (first | ((fail_if_success (with_reducible show wpAny _ _ (compareOp _ _ _) _ _ _)); (first | (k_unfold; (try dsimp only)) | (k_end; wrow_close) | walk1 | (dsimp only; walk1) | (leave1; walk_say "STEP leave1"; try dsimp only) | fail "no step")))
        refine P.eq_int ?_
        have e3 : (((G3 : Int) - (q : Int)) == 0) = decide (G3 - q = 0) := by
          by_cases hz : G3 - q = 0
          · have e : (G3 : Int) - (q : Int) = 0 := by omega
            rw [e, decide_eq_true hz]; rfl
          · have e : (G3 : Int) - (q : Int) ≠ 0 := by omega
            rw [decide_eq_false hz]; simpa using e
        rw [e3]
        have hno : NodesIn tx (Nz ++ S) (vs ++ [Value.ref a]) (Fs.app (.cons G1 G2 q G3 G4 .nil)) := nodes_app (hnodes.mono sbN) (.cons hna hnd hnl2 hnc .nil)
        by_cases hz : G3 - q = 0
        · rw [decide_eq_true hz]
          rw [if_pos hz] at hspec
          repeat' (first | ((first | (k_unfold; (try dsimp only)) | (k_end; wrow_close) | walk1 | (dsimp only; walk1) | (leave1; walk_say "STEP leave1"; try dsimp only) | fail "no step")))
          exact ⟨_, _, _, _, q, tq, oc6, C6, oe6, nf6, M6, Nz, _, _, _, rfl, q_canon2 F9, N9, S8, al6, ac7, hno, hRS.trans hspec, by simp; omega⟩
        · rw [decide_eq_false hz]
          rw [if_neg hz] at hspec
          repeat' (first | ((fail_if_success (with_reducible show wpAny _ _ (codeAny _ _ (Code.whileLoop _ _ _ _) _ _) _ _ _)); (first | (k_unfold; (try dsimp only)) | (k_end; wrow_close) | walk1 | (dsimp only; walk1) | (leave1; walk_say "STEP leave1"; try dsimp only) | fail "no step")))
          dsimp only
          rename_i h10 F10 N10
          have e9 : (q : Int) + ((G3 : Int) - (q : Int)) = (G3 : Int) := by omega
          have e8 : q + (G3 - q) = G3 := by omega
          rw [e9] at F10
          rw [e8] at hspec
          refine ih _ (cnt + 1) _ _ G3 _ oc6 C6 oe6 nf6 M6 Nz _ _ _ (q_canon3 F10) N10 S8 al6 ac7 hno ?_ (by simp [hcnt]) (by omega) (by omega) hG3 _
          rw [hspec, PF.app_assoc]
          rfl
-- MAll
theorem mc_mono {w : World} {dN uN dN' uN' : Nat} {k : EK} {x d : Addr} {o : Obj} {mt : Addr} {nm : Str} {kids : EF} (h : MC w dN uN k x d o mt nm kids) (hd : dN ≤ dN') (hu : uN ≤ uN') : MC w dN' uN' k x d o mt nm kids := by
  intro b tx c ee ed eo Y nf oc C oe M loc S H tkx tkp p a1 a2 a3 a4 a5 a6 a7 a8 A h₀ L m s R b1 b2 b3 b4 b5 b6 b7 b8
  exact h b tx c ee ed eo Y nf oc C oe M loc S H tkx tkp p a1 a2 a3 a4 a5 a6 a7 a8 A h₀ L m s R b1 b2 b3 b4 b5 (by omega) (by omega) b8
theorem um_mono {w : World} {dN uN dN' uN' : Nat} {k : EK} {x d : Addr} {o : Obj} {mt : Addr} {nm : Str} {kids : EF} (h : UM w dN uN k x d o mt nm kids) (hd : dN ≤ dN') (hu : uN ≤ uN') : UM w dN' uN' k x d o mt nm kids := by
  intro b tx c ee ed eo Y nf oc C oe M loc S H tkx tkp p a1 a2 a3 a4 a5 a6 a7 a8 a9 A h₀ L m s R b1 b2 b3 b4 b5 b6 b7 b8
  exact h b tx c ee ed eo Y nf oc C oe M loc S H tkx tkp p a1 a2 a3 a4 a5 a6 a7 a8 a9 A h₀ L m s R b1 b2 b3 b4 b5 (by omega) (by omega) b8
theorem lit_len {s : Str} (h : s = Str.ofString "a" ∨ s = Str.ofString "b" ∨ s = Str.ofString "ab" ∨ s = Str.ofString "") : s.length ≤ 2 := by
  rcases h with rfl | rfl | rfl | rfl <;> decide
/-- match_core of every expression -/
theorem mc_all {w : World} : ∀ (F : EF) (n : Nat), F.wf → F.lits → F.ht ≤ n → ∀ k x d o mt nm kids, EF.Mem k x d o mt nm kids F → MC w (40 * n) (400 * n) k x d o mt nm kids
  | .nil, _, _, _, _ => fun _ _ _ _ _ _ _ h => by cases h
  | .cons k x d o mt nm kids rest, n, hwf, hl, hn => fun k' x' d' o' mt' nm' kids' hm => by
    rw [EF.ht] at hn
    cases hm with
    | tail h => exact mc_all (w := w) rest n hwf.2.2.2 hl.2.2 (by omega) k' x' d' o' mt' nm' kids' h
    | head =>
      obtain ⟨n, rfl⟩ : ∃ m, n = m + 1 := ⟨n - 1, by omega⟩
      have ih := mc_all (w := w) kids n hwf.2.2.1 hl.2.1 (by omega)
      refine mc_mono (mc_of (dN := 40 * n + 20) (uN := 400 * n + 150) ?_) (by omega) (by omega)
      cases k with
      | lit s =>
        have hk0 : kids = .nil := by
          have := hwf.2.1
          cases kids with
          | nil => rfl
          | cons => simp [EK.arity, EF.len] at this
        subst hk0
        exact um_mono (um_lit (lit_len hl.1)) (by omega) (by omega)
      | seq => exact um_seq ih
      | alt => exact um_alt ih
      | nota => exact um_nota ih
      | star => exact um_qnt (.inl ⟨rfl, rfl⟩) ih
      | opt => exact um_qnt (.inr ⟨rfl, rfl⟩) ih
-- Fly
/-- a ParseError as it stands: its __dict__, its args, its traceback -/
abbrev errO (ed t : Addr) (tb : Value) : Obj := ⟨.ref 179, some ed, .fields #[.ref t, tb, .none, .none, .bool false, .none], #[]⟩
/-- the ParseError e is on its way through the frames l; B stays -/
def FlyE (B : Heap) (l : List Env) (e ed t : Addr) (fl : Value) (h : Heap) : Prop :=
  B.StaysIn h ∧ B.get? e = none ∧ h.FunFrames B l ∧ ∃ T oT ts, h.get? e = some (errO ed t (.ref T)) ∧ B.get? T = none ∧ T ≠ e ∧ h.get? T = some oT ∧ oT.data = .fields ts ∧ ts[3]? = some fl
theorem FlyE.base {B B' : Heap} {l : List Env} {e ed t : Addr} {fl : Value} {h : Heap} (k : B'.StaysIn B) (x : FlyE B l e ed t fl h) : FlyE B' l e ed t fl h := by
  obtain ⟨f1, f2, f3, T, oT, ts, a1, a2, a3, a4, a5, a6⟩ := x
  exact ⟨fun b o q => f1 b o (k b o q), fresh_of_stays k f2, funFrames_base k f3, T, oT, ts, a1, fresh_of_stays k a2, a3, a4, a5, a6⟩
section
variable {M : Model} {A : Around} {E : Value → Shared → Prop} {s : Shared} {B : Heap} {env : Env} {outer l : List Env} {L e ed t : Addr}
/-- a row for this frame is laid -/
theorem entry_E {tb head : Value} {hadNext : Bool} {Q : Unit → Shared → Prop} (hfr : A.frames = some (env :: outer)) (hl : s.heap.FunFrames B (env :: outer)) (hf : env.frame = some L)
    (he : s.heap.get? e = some (errO ed t tb)) (kb : B.StaysIn s.heap) (hen : B.get? e = none)
    (h : ∀ h', FlyE B (env :: outer) e ed t (rawInt L) h' → s.heap.UpToSlots h' → Q () { s with heap := h' }) :
    wpAny M A (do let a ← frameOf env; let pl ← entryPlaceOf L hadNext; let b ← EntryCells.newEntry head a .none (rawInt L) .none pl; setField (.ref e) 1 b) Q E s := by
  have nofr : e ∉ (env :: outer).filterMap (·.frame) := fun hm => by
    obtain ⟨o, ho, hn⟩ := (hl.mem hm).2
    rw [he] at ho
    exact hn _ (congrArg Obj.data (Option.some.inj ho)).symm
  refine wpAny_bind (wpAny_frameOf_fun hfr hl hf fun h1 hs => wpAny_bind (wpAny_entryPlaceOf fun pl hpl => ?_))
  have he1 : h1.get? e = some (errO ed t tb) := (hs.2.1 e nofr).trans he
  have kb1 : B.StaysIn h1 := fun b o hb => (hs.2.1 b fun hm => by rw [(hl.mem hm).1] at hb; cases hb).trans (kb b o hb)
  unfold EntryCells.newEntry newFields
  refine wpAny_bind (wpAny_newObj_type ?_ (hpl.sizeOk5 _ _ _ _ _))
  generalize hoT : ({ cls := .type "traceback", dict := none, data := .fields ([head, .ref L, .none, rawInt L, .none] ++ (if pl.isEmpty then List.replicate 6 Value.none else pl)).toArray } : Obj) = oT
  have dT : oT.data = .fields ([head, .ref L, .none, rawInt L, .none] ++ (if pl.isEmpty then List.replicate 6 Value.none else pl)).toArray := by rw [← hoT]
  have fT : oT.isFreed = false := by rw [← hoT]; rfl
  have he2 := Heap.get?_push_of_some oT he1
  have ne : h1.objs.size ≠ e := Nat.ne_of_gt (Heap.lt_size he1)
  refine wpAny_setField he2 rfl (by simp) (h _ ⟨fun b o hb => ?_, hen, hl.of_keeps fun b o hb hn => ?_, h1.objs.size, oT, _, ?_, kb1.fresh, ne, ?_, dT, by simp⟩ fun b o hb hn => ?_)
  · rw [Heap.get?_update_other _ _ (fun z => by rw [← z, hen] at hb; cases hb)]
    exact Heap.get?_push_of_some oT (kb1 b o hb)
  · obtain ⟨sl, hsl⟩ := hs.2.2 b o hb
    refine ⟨{ o with slots := sl }, ?_, rfl⟩
    rw [Heap.get?_update_other _ _ (fun z => by rw [← z, he] at hb; exact hn _ (congrArg Obj.data (Option.some.inj hb)).symm)]
    exact Heap.get?_push_of_some oT hsl
  · exact Heap.get?_update_self _ he2 rfl
  · exact (Heap.get?_update_other _ _ (Ne.symm ne)).trans (Heap.get?_push_size h1 fT)
  · obtain ⟨sl, hsl⟩ := hs.2.2 b o hb
    refine ⟨sl, ?_⟩
    rw [Heap.get?_update_other _ _ (fun z => by rw [← z, he] at hb; exact hn _ (congrArg Obj.data (Option.some.inj hb)).symm)]
    exact Heap.get?_push_of_some oT hsl
/-- its row is no longer the one in flight -/
theorem land_E {fl : Value} {Q : Unit → Shared → Prop} (x : FlyE B l e ed t fl s.heap) (h : ∀ h', FlyE B l e ed t .none h' → s.heap.UpToSlots h' → Q () { s with heap := h' }) : wpAny M A (setFlight (.ref e) none) Q E s := by
  obtain ⟨f1, f2, f3, T, oT, ts, a1, a2, a3, a4, a5, a6⟩ := x
  have hz : 3 < ts.size := (Array.getElem?_eq_some_iff.mp a6).1
  unfold setFlight
  refine wpAny_bind (wpAny_field a1 rfl (x := .ref T) rfl ?_)
  rw [if_pos (show (Value.ref T != Value.none) = true from by simp)]
  have oth : ∀ b, b ≠ T → (s.heap.update T (Obj.mapFields (·.setIfInBounds 3 ((none : Option Addr).elim Value.none fun f => rawInt f)))).get? b = s.heap.get? b := fun b hb => Heap.get?_update_other _ _ (Ne.symm hb)
  have nT : ∀ b o, s.heap.get? b = some o → (∀ vs, o.data ≠ .fields vs) → b ≠ T := fun b o hb hn z => by
    rw [z, a4] at hb; exact hn ts (by rw [← Option.some.inj hb]; exact a5)
  refine wpAny_setField a4 a5 hz (h _ ⟨fun b o hb => (oth b fun z => by rw [z, a2] at hb; cases hb).trans (f1 b o hb), f2, f3.of_keeps fun b o hb hn => ⟨o, (oth b (nT b o hb hn)).trans hb, rfl⟩, T, _, _, (oth e (Ne.symm a3)).trans a1, a2, a3, Heap.get?_update_self _ a4 (Obj.isFreed_of_fields (Obj.data_mapFields a5 _)), Obj.data_mapFields a5 _, by simp [hz]⟩ fun b o hb hn => ⟨o.slots, (oth b (nT b o hb hn)).trans hb⟩)
/-- the first frame is left -/
theorem leave_E1 {Q : Unit → Shared → Prop} (hfr : A.frames = some (env :: outer)) (hl : s.heap.FunFrames B (env :: outer)) (hf : env.frame = some L)
    (he : s.heap.get? e = some (errO ed t .none)) (kb : B.StaysIn s.heap) (hen : B.get? e = none)
    (h : ∀ h', FlyE B outer e ed t .none h' → s.heap.UpToSlots h' → Q () { s with heap := h' }) : wpAny M A (leaving env (.ref e)) Q E s := by
  unfold leaving noteFrame
  simp only [hf]
  refine wpAny_bind (wpAny_bind (wpAny_field he rfl (x := .none) rfl ?_))
  rw [if_neg (by decide)]
  refine entry_E hfr hl hf he kb hen fun h1 x1 u1 => land_E x1 fun h2 x2 u2 => ?_
  obtain ⟨k1, k2, ⟨_, _, k3⟩, k4⟩ := x2
  exact h h2 ⟨k1, k2, k3, k4⟩ (u1.trans u2)
/-- a frame that looks at it -/
theorem look_E {Q : Unit → Shared → Prop} (hfr : A.frames = some (env :: outer)) (hf : env.frame = some L) (x : FlyE B (env :: outer) e ed t .none s.heap)
    (h : ∀ h', FlyE B (env :: outer) e ed t (rawInt L) h' → s.heap.UpToSlots h' → Q () { s with heap := h' }) : wpAny M A (noteFrame (.ref e) env) Q E s := by
  obtain ⟨f1, f2, f3, T, oT, ts, a1, a2, a3, a4, a5, a6⟩ := x
  have hz : 3 < ts.size := (Array.getElem?_eq_some_iff.mp a6).1
  unfold noteFrame
  simp only [hf]
  refine wpAny_bind (wpAny_field a1 rfl (x := .ref T) rfl ?_)
  rw [if_pos (show (Value.ref T != Value.none) = true from by simp)]
  refine wpAny_bind (wpAny_field a4 a5 a6 ?_)
  rw [if_neg (show ¬ ((Value.none == rawInt L) = true) from by simp [rawInt])]
  have oth : ∀ b, b ≠ T → (s.heap.update T (Obj.mapFields (·.setIfInBounds 3 Value.none))).get? b = s.heap.get? b := fun b hb => Heap.get?_update_other _ _ (Ne.symm hb)
  have nT : ∀ b o, s.heap.get? b = some o → (∀ vs, o.data ≠ .fields vs) → b ≠ T := fun b o hb hn z => by
    rw [z, a4] at hb; exact hn ts (by rw [← Option.some.inj hb]; exact a5)
  refine wpAny_bind (wpAny_setField a4 a5 hz ?_)
  refine entry_E hfr (f3.of_keeps fun b o hb hn => ⟨o, (oth b (nT b o hb hn)).trans hb, rfl⟩) hf ((oth e (Ne.symm a3)).trans a1) (fun b o hb => (oth b fun z => by rw [z, a2] at hb; cases hb).trans (f1 b o hb)) f2 fun h' x' u' => h h' x' fun b o hb hn => u' b o ((oth b (nT b o hb hn)).trans hb) hn
end
-- Read1
/-- node.text -/
theorem text_ok {w : World} {a d cl e : Addr} {t1 t2 t3 : Tok} {tx : Str} {st en : Nat} {pre : List (Addr × Obj)} (hm : (a, nodeO d (.ref cl) (.int en t1) (.ref e) (.str tx t2) (.int st t3)) ∈ pre) (hd : (d, dictOf [] 0) ∈ pre) (hz : tx.length ≤ 5) :
    Run w 59 [.ref a] [] 6 60 pre (fun v tl => tl = [] ∧ (Txt.slice tx (some (st : Int)) (some (en : Int))).length ≤ tx.length ∧ ∃ tk, v = .str (Txt.slice tx (some (st : Int)) (some (en : Int))) tk) := by
  w_on
  intro A h₀ L m s R hAmb hhd F N hdep hun hret
  obtain ⟨A₀, base, outer, env, p, loose, mean, mg, mb, B, X, T, hA, hf, hke, hrw⟩ := hAmb
  obtain ⟨hd, dp, fr, gd, un⟩ := A
  dsimp only at hA hhd hdep hun
  subst hA hhd
  revert X hrw
  k_fill
  intro X hrw
  clear hrw
  (k_dflt (refine' code_def (binds := [(Str.ofString "self", .ref a)]) ?k1 ?k2 ?k3 ?k4 ?k5 ?kA ?kF ?kK ?k6 ?k7 ?k8 ?k9 ?kB ?_ ?c2 ?c3 ?c4 ?c5; (case kA => exact rfl); (case kF => first | exact rfl | assumption); (case kK => first | exact rfl | assumption); (case k1 => k_asm); (case k2 => k_asm); (case k3 => k_asm); (case k4 => k_asm); (case k5 => k_asm); (case k6 => k_is); (case k7 => k_is); (case k8 => k_room); (case k9 => first | exact BindsTo.of_eq rfl | exact binds_K (by k_in) rfl (by k_is) rfl rfl rfl); (case c5 => decide); (case kB => exact locs rfl); (case c2 => exact rfl); (case c3 => exact rfl); (case c4 => exact rfl); k_whole))
  intro g' L' h' FG' F' N' B' X' T'
  (try dsimp only [List.reverse, List.reverseAux] at F')
  repeat' (first | ((fail_if_success (with_reducible show wpAny _ _ (getAttr (Value.ref _) _ _) _ _ _)); (first | (k_unfold; (try dsimp only)) | (k_end; wrow_close) | walk1 | (dsimp only; walk1) | (leave1; walk_say "STEP leave1"; try dsimp only) | fail "no step")))
  refine n_slot F' X' N' (by (repeat (first | exact hm | refine List.Mem.tail _ ?_))) (by (repeat (first | exact hd | refine List.Mem.tail _ ?_))) so_nft rfl rfl ?_
  repeat' (first | ((fail_if_success (with_reducible show wpAny _ _ (getAttr (Value.ref _) _ _) _ _ _)); (first | (k_unfold; (try dsimp only)) | (k_end; wrow_close) | walk1 | (dsimp only; walk1) | (leave1; walk_say "STEP leave1"; try dsimp only) | fail "no step")))
  refine n_slot F' X' N' (by (repeat (first | exact hm | refine List.Mem.tail _ ?_))) (by (repeat (first | exact hd | refine List.Mem.tail _ ?_))) so_nst rfl rfl ?_
  repeat' (first | ((fail_if_success (with_reducible show wpAny _ _ (getAttr (Value.ref _) _ _) _ _ _)); (first | (k_unfold; (try dsimp only)) | (k_end; wrow_close) | walk1 | (dsimp only; walk1) | (leave1; walk_say "STEP leave1"; try dsimp only) | fail "no step")))
  refine n_slot F' X' N' (by (repeat (first | exact hm | refine List.Mem.tail _ ?_))) (by (repeat (first | exact hd | refine List.Mem.tail _ ?_))) so_nen rfl rfl ?_
  repeat' (first | ((first | (k_unfold; (try dsimp only)) | (k_end; wrow_close) | walk1 | (dsimp only; walk1) | (leave1; walk_say "STEP leave1"; try dsimp only) | fail "no step")))
  refine' hret _ [] _ _ ?kF ?kN ?kDesc ?kOrd ?kPost
  (case kF => assumption)
  (case kN => (refine' newsSub ?n ?s; (case n => assumption); (case s => walk_at "m sub")))
  (case kDesc => walk_at "m desc")
  (case kOrd => walk_at "m ord")
  (case kPost => exact ⟨rfl, by assumption, _, rfl⟩)
/-- node.expr_name -/
theorem ename_ok {w : World} {a d cl e de mt : Addr} {k : EK} {nm : Str} {o od : Obj} {en st : Value} {ft : Value} {pre : List (Addr × Obj)} (hm : (a, nodeO d (.ref cl) en (.ref e) ft st) ∈ pre) (hd : (d, dictOf [] 0) ∈ pre) (hk : k.Is de mt nm o) (he : (e, o) ∈ pre) (hde : (de, od) ∈ pre) :
    Run w 44 [.ref a] [] 6 60 pre (fun v tl => tl = [] ∧ ∃ tk, v = .str nm tk) := by
  w_on
  intro A h₀ L m s R hAmb hhd F N hdep hun hret
  obtain ⟨A₀, base, outer, env, p, loose, mean, mg, mb, B, X, T, hA, hf, hke, hrw⟩ := hAmb
  obtain ⟨hd, dp, fr, gd, un⟩ := A
  dsimp only at hA hhd hdep hun
  subst hA hhd
  revert X hrw
  k_fill
  intro X hrw
  clear hrw
  (k_dflt (refine' code_def (binds := [(Str.ofString "self", .ref a)]) ?k1 ?k2 ?k3 ?k4 ?k5 ?kA ?kF ?kK ?k6 ?k7 ?k8 ?k9 ?kB ?_ ?c2 ?c3 ?c4 ?c5; (case kA => exact rfl); (case kF => first | exact rfl | assumption); (case kK => first | exact rfl | assumption); (case k1 => k_asm); (case k2 => k_asm); (case k3 => k_asm); (case k4 => k_asm); (case k5 => k_asm); (case k6 => k_is); (case k7 => k_is); (case k8 => k_room); (case k9 => first | exact BindsTo.of_eq rfl | exact binds_K (by k_in) rfl (by k_is) rfl rfl rfl); (case c5 => decide); (case kB => exact locs rfl); (case c2 => exact rfl); (case c3 => exact rfl); (case c4 => exact rfl); k_whole))
  intro g' L' h' FG' F' N' B' X' T'
  (try dsimp only [List.reverse, List.reverseAux] at F')
  repeat' (first | ((fail_if_success (with_reducible show wpAny _ _ (getAttr (Value.ref _) _ _) _ _ _)); (first | (k_unfold; (try dsimp only)) | (k_end; wrow_close) | walk1 | (dsimp only; walk1) | (leave1; walk_say "STEP leave1"; try dsimp only) | fail "no step")))
  refine n_slot F' X' N' (by (repeat (first | exact hm | refine List.Mem.tail _ ?_))) (by (repeat (first | exact hd | refine List.Mem.tail _ ?_))) so_nex rfl rfl ?_
  repeat' (first | ((fail_if_success (with_reducible show wpAny _ _ (getAttr (Value.ref _) _ _) _ _ _)); (first | (k_unfold; (try dsimp only)) | (k_end; wrow_close) | walk1 | (dsimp only; walk1) | (leave1; walk_say "STEP leave1"; try dsimp only) | fail "no step")))
  refine e_name F' X' N' hk (by (repeat (first | exact he | refine List.Mem.tail _ ?_))) (by (repeat (first | exact hde | refine List.Mem.tail _ ?_))) fun tn => ?_
  repeat' (first | ((first | (k_unfold; (try dsimp only)) | (k_end; wrow_close) | walk1 | (dsimp only; walk1) | (leave1; walk_say "STEP leave1"; try dsimp only) | fail "no step")))
  refine' hret _ [] _ _ ?kF ?kN ?kDesc ?kOrd ?kPost
  (case kF => assumption)
  (case kN => (refine' newsSub ?n ?s; (case n => assumption); (case s => walk_at "m sub")))
  (case kDesc => walk_at "m desc")
  (case kOrd => walk_at "m ord")
  (case kPost => exact ⟨rfl, _, rfl⟩)
/-- node.__class__ -/
theorem n_class {w : World} {A : Around} {E : Value → Shared → Prop} {s : Shared} {a d L : Addr} {c1 c2 c3 c4 c5 : Value} {h₀ : Heap} {m : Str → Option Value} {news : List (Addr × Obj)} {expr : Bool} {Q : Value → Shared → Prop} (F : Fr h₀ L s.heap m) (X₀ : (Mine.hd.heap_39 w.params).In h₀) (N : News h₀ L s.heap news) (hx : (a, nodeO d c1 c2 c3 c4 c5) ∈ news) (hd : (d, dictOf [] 0) ∈ news)
    (h : Q (.ref 99) { s with toks := s.toks + 1 }) : wpAny (model PG w) A (getAttr (.ref a) "__class__" expr) Q E s := by
  have I := InstAt.of_news N hx hd
  exact get_bind (X₀.keeps F.keep) I (plainGet_of (n_get99 "__class__")).1 (find_dataO n_cls99 (by kernel_rfl) (by kernel_rfl) (by kernel_rfl)) (plainGet_of (n_get99 "__class__")).2
    (wpAny_call (class_get (s := { s with toks := s.toks + 1 }) (X₀.keeps F.keep) I (by kernel_rfl) (handed_on rfl h)))
theorem name99_entry : entryFor table "type.__name__" = some Builtin.«type.__name__» := entryFor_of_tree (by kernel_rfl)
theorem name99_type : typeOf (.builtin "type.__name__") = pure (.type "getset_descriptor") := by show builtinType _ = _; rw [builtinType_eq_fast]; kernel_rfl
theorem name99_owner : Builtin.Getset_descriptor.descrOwnerAndName "type.__name__" = ("type", "__name__") := by decide +kernel
theorem slot99 {w : World} : ∃ o, (Mine.hd.heap_39 w.params).lookup 99 = some o ∧ (o.slots[2]?).join = some (.str (Str.ofString "Node") 196) := by
  have h : ((Mine.hd.heap_39 w.params).lookup 99).map (fun o => (o.slots[2]?).join) = some (some (.str (Str.ofString "Node") 196)) := by kernel_rfl
  cases e : (Mine.hd.heap_39 w.params).lookup 99 with
  | none => rw [e] at h; cases h
  | some o => rw [e] at h; exact ⟨o, rfl, Option.some.inj h⟩
/-- Node.__name__ -/
theorem n_name99 {w : World} {A : Around} {E : Value → Shared → Prop} {s : Shared} {L : Addr} {h₀ : Heap} {m : Str → Option Value} {expr : Bool} {Q : Value → Shared → Prop} (F : Fr h₀ L s.heap m) (X₀ : (Mine.hd.heap_39 w.params).In h₀)
    (h : Q (.str (Str.ofString "Node") 196) { s with toks := s.toks + 1 }) : wpAny (model PG w) A (getAttr (.ref 99) "__name__" expr) Q E s := by
  have X := X₀.keeps F.keep
  obtain ⟨o99, l99, e99⟩ := slot99 (w := w)
  have g99 := X _ _ l99
  refine cls_bind (mc := .type "type") X (by kernel_rfl) (g := .builtin "getset_descriptor.__get__") (a := .builtin "type.__name__") (obj := .ref 99) (tp := .type "type") (by kernel_rfl) ?_
  refine wpAny_call ?_
  obtain ⟨hh, g, dr, t, os⟩ := s
  dsimp only at X g99 h ⊢
  have L0 : Looks (model PG w) hh (typeOf (.ref 99)) (.type "type") := looks_typeIn X (by kernel_rfl)
  have L1 : Looks (model PG w) hh (isSubtype (.type "type") (.type "type")) true := Looks.of_pure (by rw [isSubtype_type]; kernel_rfl)
  have L2 : Looks (model PG w) hh (slotAt 99 2) (some (.str (Str.ofString "Node") 196)) := by
    have := (Looks.ld (M := model PG w) (part := some (slotPart 2)) g99).andThen (f := fun o => (pure ((o.slots[2]?).join) : Sem (Option Value))) (.now)
    rw [e99] at this
    exact this
  refine codeAny_call_builtin KF.slot_gs.plain KF.entry_gs (KF.slot_gs.check _ _ _ _ _ _ _ _ name99_type (KF.args_gs _ _ _) ?_)
  unfold Builtin.«getset_descriptor.__get__» Builtin.Getset_descriptor.descrGet
  rw [dga_obj]
  refine wpAny_bind (wpAny_pure ?_)
  unfold Builtin.Getset_descriptor.descrGetter Builtin.Getset_descriptor.descrCheckInstance Builtin.Getset_descriptor.descrNameAndClass isInstance
  simp only [name99_owner]
  repeat lk
  refine ⟨Code.quiet_builtin _ (by decide +kernel), codeAny_builtin name99_entry ?_⟩
  unfold Builtin.«type.__name__»
  dsimp only
  unfold Builtin.keptObject
  repeat lk
  exact h
/-- a property of a node is read -/
theorem n_text {w : World} {A : Around} {E : Value → Shared → Prop} {s : Shared} {a d L : Addr} {c1 c2 c3 c4 c5 : Value} {h₀ : Heap} {m : Str → Option Value} {news : List (Addr × Obj)} {expr : Bool} {Q : Value → Shared → Prop} (F : Fr h₀ L s.heap m) (X₀ : (Mine.hd.heap_39 w.params).In h₀) (N : News h₀ L s.heap news) (hx : (a, nodeO d c1 c2 c3 c4 c5) ∈ news) (hd : (d, dictOf [] 0) ∈ news)
    (h : codeAny (model PG w) A.in1 (.call (.ref 59) ⟨[.ref a], []⟩) (fun r s' => match r with | .ok (.ret v) => wpAny (model PG w) A (handedOut v) Q E s' | .ok _ => False | .error e => wpAny (model PG w) A (noteIf true (.ref a) (.str (Str.ofString "text") s.toks) e) (fun _ s'' => E e s'') E s') { s with toks := s.toks + 1 }) :
    wpAny (model PG w) A (getAttr (.ref a) "text" expr) Q E s :=
  get_propO (p := 60) (fget := 59) (rest := [.none, .none, .none, .str (Str.ofString "text") 248, .bool false]) F X₀ (InstAt.of_news N hx hd) (n_get99 _) n_cls99 (by kernel_rfl) (by kernel_rfl) (by kernel_rfl) (by kernel_rfl) h
theorem n_ename {w : World} {A : Around} {E : Value → Shared → Prop} {s : Shared} {a d L : Addr} {c1 c2 c3 c4 c5 : Value} {h₀ : Heap} {m : Str → Option Value} {news : List (Addr × Obj)} {expr : Bool} {Q : Value → Shared → Prop} (F : Fr h₀ L s.heap m) (X₀ : (Mine.hd.heap_39 w.params).In h₀) (N : News h₀ L s.heap news) (hx : (a, nodeO d c1 c2 c3 c4 c5) ∈ news) (hd : (d, dictOf [] 0) ∈ news)
    (h : codeAny (model PG w) A.in1 (.call (.ref 44) ⟨[.ref a], []⟩) (fun r s' => match r with | .ok (.ret v) => wpAny (model PG w) A (handedOut v) Q E s' | .ok _ => False | .error e => wpAny (model PG w) A (noteIf true (.ref a) (.str (Str.ofString "expr_name") s.toks) e) (fun _ s'' => E e s'') E s') { s with toks := s.toks + 1 }) :
    wpAny (model PG w) A (getAttr (.ref a) "expr_name" expr) Q E s :=
  get_propO (p := 45) (fget := 44) (rest := [.none, .none, .none, .str (Str.ofString "expr_name") 233, .bool false]) F X₀ (InstAt.of_news N hx hd) (n_get99 _) n_cls99 (by kernel_rfl) (by kernel_rfl) (by kernel_rfl) (by kernel_rfl) h
-- Nest
abbrev qualI : Str := Str.ofString "Node.prettily.<locals>.indent"
/-- a code object with the table P1 -/
def CodeO (oc : Obj) (P1 : Addr) (qual : Str) : Prop := ∃ vs file tf flags tg inF text tt t, oc.cls = .type "code" ∧ oc.data = .fields vs ∧ vs[1]? = some (.str qual t) ∧ vs[11]? = some (.ref P1) ∧ vs.getD 11 .none = .ref P1 ∧ vs.getD 18 .none = .str file tf ∧ vs.getD 7 .none = .int flags tg ∧ vs.getD 9 .none = .bool inF ∧ vs.getD 10 .none = .int text tt
theorem CodeO.code {oc : Obj} {P1 c1 : Addr} {qual : Str} {h : Heap} {ps : Array Value} (x : CodeO oc P1 qual) (hc : h.get? c1 = some oc) (hP : h.get? P1 = some (tabObj ps)) (ht : TriplesOk ps.toList) (hne : c1 ≠ P1) : h.IsCode c1 P1 ps := by
  obtain ⟨vs, file, tf, flags, tg, inF, text, tt, t, e1, e2, e3, e4, e5, e6, e7, e8, e9⟩ := x
  exact ⟨oc, vs, file, tf, flags, tg, inF, text, tt, tabObj ps, hc, e2, e5, e6, e7, e8, e9, hP, rfl, ht, hne⟩
theorem CodeO.rec {oc : Obj} {P1 c1 : Addr} {qual : Str} {h : Heap} (x : CodeO oc P1 qual) (hc : h.get? c1 = some oc) : h.CodeRec (.ref c1) qual := by
  obtain ⟨vs, _, _, _, _, _, _, _, t, _, e2, e3, _⟩ := x
  exact ⟨c1, oc, vs, t, rfl, hc, e2, e3⟩
/-- the table of prettily's code: nothing made yet, or the code of its def -/
inductive Tabs : List (Addr × Obj) → Prop
  | t0 : Tabs [(63, tabObj #[])]
  | t1 {c1 P1 : Addr} {oc : Obj} {ps : Array Value} : CodeO oc P1 qualI → TriplesOk ps.toList → Tabs [(63, tabObj #[rawInt 28, rawInt 8, .ref c1]), (c1, oc), (P1, tabObj ps)]

abbrev t1L (c1 P1 : Addr) (oc : Obj) (ps : Array Value) : List (Addr × Obj) := [(63, tabObj #[rawInt 28, rawInt 8, .ref c1]), (c1, oc), (P1, tabObj ps)]
section
variable {w : World} {A : Around} {E : Value → Shared → Prop} {s : Shared} {h₀ : Heap} {L a : Addr} {m mg mb : Str → Option Value} {cn : Str} {cs : Scope} {news tabs rest : List (Addr × Obj)}
  {p : Program} {loose : List Str} {mean : ExcName → Option Value} {name qual : Str} {params : Arguments} {body : List Stmt} {scope : Scope} {pos : Pos} {firstLine : Nat}
/-- the tail of a def's making, once its code is at hand -/
theorem make_nest {env : Env} {Q : Value → Shared → Prop} (T : Top p loose mean mg mb h₀) (hcl : closureFor scope env = pure []) (hge0 : env.globals = mainGlobals)
    (h : wpAny (model PG w) A (functionCode env pos firstLine name qual params scope (.stmts body)) (fun cv s1 => ∃ c1, cv = .ref c1 ∧ (∀ b o, h₀.get? b = some o → s1.heap.get? b = some o) ∧
      ∀ doc ctv tk, Q (.ref s1.heap.objs.size) { s1 with heap := s1.heap.push (fnMade name qual params body scope [] doc ((mg "__name__").getD .none) c1 ctv), toks := tk }) E s) :
    wpAny (model PG w) A (makeFunction name qual params (.stmts body) scope env [] [] [] pos firstLine) Q E s := by
  rw [makeFunction_eq]
  simp only [List.zip_nil_right, List.filterMap_nil, List.isEmpty_nil, if_true, pure_bind]
  unfold makeTail
  rw [hcl, hge0]
  refine wpAny_bind (wpAny_pure ?_)
  simp only [List.isEmpty_nil, if_true]
  refine wpAny_bind (wpAny_pure ?_)
  refine wpAny_bind (wpAny_mono h (fun cv s1 hk => ?_) fun _ _ z => z)
  obtain ⟨c1, rfl, keep, hk⟩ := hk
  obtain ⟨bm, ob, b1, b2, b3, b4, b5, b6⟩ := T.bmain
  have hg := T.g.keeps keep
  refine wpAny_bind (wpAny_builtinsFor hg b1 b2 (keep _ _ b3) b4 b5 b6 ?_)
  refine wpAny_bind (wpAny_nsGet hg ?_)
  cases hdoc : docOf body with
  | none => exact wpAny_bind (wpAny_pure (wpAny_newObj_type (hk .none .none s1.toks) (by size_fits)))
  | some t => exact wpAny_bind (wpAny_mkText (wpAny_newObj_type (hk _ .none _) (by size_fits)))
end
section
variable {w : World} {A : Around} {E : Value → Shared → Prop} {s : Shared} {h₀ : Heap} {L a : Addr} {m mg mb : Str → Option Value} {cn : Str} {cs : Scope} {news tabs rest : List (Addr × Obj)}
  {p : Program} {loose : List Str} {mean : ExcName → Option Value} {name : Str} {params : Arguments} {body : List Stmt} {scope : Scope} {pos : Pos} {firstLine : Nat}
theorem nest_T {env : Env} {Q : Value → Shared → Prop} (F : Fr h₀ L s.heap m) (N : News h₀ L s.heap (tabs ++ rest)) (S : Sep (tabs ++ rest)) (hT : Tabs tabs) (T : Top p loose mean mg mb h₀) (C : CodeHd h₀ 67 63) (hcd : env.code = .ref 67) (hge0 : env.globals = mainGlobals) (hcl : closureFor scope env = pure []) (hl : pos.line = 28) (hc : pos.col = 8)
    (h : ∀ f c1 P1 oc ps doc pm ctv h' tk, Fr h₀ L h' m → CodeO oc P1 qualI → TriplesOk ps.toList → (∀ d1 Q1 od qs, tabs = t1L d1 Q1 od qs → c1 = d1 ∧ P1 = Q1 ∧ oc = od) →
      News h₀ L h' ((f, fnMade name qualI params body scope [] doc pm c1 ctv) :: (63, tabObj #[rawInt 28, rawInt 8, .ref c1]) :: (c1, oc) :: (P1, tabObj ps) :: rest) →
      Sep ((f, fnMade name qualI params body scope [] doc pm c1 ctv) :: (63, tabObj #[rawInt 28, rawInt 8, .ref c1]) :: (c1, oc) :: (P1, tabObj ps) :: rest) → Q (.ref f) { s with heap := h', toks := tk }) :
    wpAny (model PG w) A (makeFunction name qualI params (.stmts body) scope env [] [] [] pos firstLine) Q E s := by
  have fresh : ∀ b, L < b → h₀.get? b = none := fun b hb => Heap.get?_none_of_le (Nat.le_trans F.above (Nat.le_of_lt hb))
  have hLs : L < s.heap.objs.size := F.ns.lt
  refine make_nest (mg := mg) T hcl hge0 ?_
  cases hT with
  | t0 =>
    have hm := N _ (.head _)
    have hP := hm.1
    refine wpAny_functionCodeX hcd ((C.keeps F.keep).code hP trivial) ((C.keeps F.keep).tab hP) rfl fun c' h' tk hx hge hlt _ hrec htb hcode => ?_
    obtain ⟨P', hP', hck, htk⟩ := hcode
    obtain ⟨⟨oc, vc, hoc, hcc, hdc, h11c⟩, htP⟩ := htk
    obtain ⟨o2, vs, file, tf, flags, tg, inF, text, tt, op, e1, e2, e3, e4, e5, e6, e7, _, _, _, hne⟩ := hck
    rw [hoc] at e1; cases e1
    rw [hdc] at e2; cases e2
    obtain ⟨c3, o3, vs3, t3, q1, q2, q3, q4⟩ := hrec
    cases q1
    rw [hoc] at q2; cases q2
    rw [hdc] at q3; cases q3
    have hO : CodeO oc P' qualI := ⟨_, file, tf, flags, tg, inF, text, tt, t3, hcc, hdc, q4, h11c, e3, e4, e5, e6, e7⟩
    have keep : ∀ b o, h₀.get? b = some o → h'.get? b = some o := fun b o e => hx b o (fun z => by have := hm.2.2; rw [← z, e] at this; cases this) (F.keep b o e)
    have hPl : P' < h'.objs.size := Heap.lt_size htP
    have tb : h'.get? 63 = some (tabObj #[rawInt 28, rawInt 8, .ref c']) := by have := htb.2; rw [hl, hc] at this; exact this
    refine ⟨c', rfl, keep, fun doc ctv tk2 => ?_⟩
    have old : ∀ q ∈ rest, h'.get? q.1 = some q.2 := fun q hq => hx _ _ ((sep_off (pre := []) S).2 q hq) (N q (.tail _ hq)).1
    have lt1 : ∀ q ∈ (63, tabObj #[]) :: rest, q.1 < s.heap.objs.size := fun q hq => Heap.lt_size (N q hq).1
    refine h h'.objs.size c' P' oc #[] doc ((mg "__name__").getD .none) ctv _ tk2 ⟨(F.ns.extBut hx (fun z => hm.2.1 z.symm)).push _, fun b o e => Heap.get?_push_of_some _ (keep b o e), F.above⟩ hO trivial (fun d1 Q1 od qs e => by cases e) (fun q hq => ?_) ?_
    · rcases List.mem_cons.mp hq with rfl | hq
      · exact ⟨Heap.get?_push_size _ rfl, Nat.ne_of_gt (Nat.lt_of_lt_of_le hLs (Nat.le_trans hge (Nat.le_of_lt hlt))), fresh _ (Nat.lt_of_lt_of_le hLs (Nat.le_trans hge (Nat.le_of_lt hlt)))⟩
      rcases List.mem_cons.mp hq with rfl | hq
      · exact ⟨Heap.get?_push_of_some _ tb, hm.2⟩
      rcases List.mem_cons.mp hq with rfl | hq
      · exact ⟨Heap.get?_push_of_some _ hoc, Nat.ne_of_gt (Nat.lt_of_lt_of_le hLs hge), fresh _ (Nat.lt_of_lt_of_le hLs hge)⟩
      rcases List.mem_cons.mp hq with rfl | hq
      · exact ⟨Heap.get?_push_of_some _ htP, Nat.ne_of_gt (Nat.lt_of_lt_of_le hLs hP'), fresh _ (Nat.lt_of_lt_of_le hLs hP')⟩
      · exact ⟨Heap.get?_push_of_some _ (old q hq), (N q (.tail _ hq)).2⟩
    · have S' : ((63 : Nat) :: rest.map (·.1)).Nodup := S
      have n63 := (lt1 _ (.head _))
      unfold Sep
      simp only [List.map_cons, List.nodup_cons, List.mem_cons, List.mem_map, not_or, not_exists, not_and] at S' ⊢
      have lr : ∀ q ∈ rest, q.1 < s.heap.objs.size := fun q hq => lt1 q (.tail _ hq)
      refine ⟨⟨Nat.ne_of_gt (Nat.lt_of_lt_of_le n63 (Nat.le_trans hge (Nat.le_of_lt hlt))), Nat.ne_of_gt hlt, Nat.ne_of_gt hPl, fun q hq z => ?_⟩, ⟨Nat.ne_of_lt (Nat.lt_of_lt_of_le n63 hge), Nat.ne_of_lt (Nat.lt_of_lt_of_le n63 hP'), fun q hq z => S'.1 q hq z⟩, ⟨hne, fun q hq z => ?_⟩, ⟨fun q hq z => ?_, S'.2⟩⟩
      · have := lr q hq; rw [z] at this; exact absurd (Nat.lt_of_lt_of_le this (Nat.le_trans hge (Nat.le_of_lt hlt))) (Nat.lt_irrefl _)
      · have := lr q hq; rw [z] at this; exact absurd (Nat.lt_of_lt_of_le this hge) (Nat.lt_irrefl _)
      · have := lr q hq; rw [z] at this; exact absurd (Nat.lt_of_lt_of_le this hP') (Nat.lt_irrefl _)
  | @t1 c1 P1 oc ps hO hps =>
    have hm := N _ (.head _)
    have hP := hm.1
    refine wpAny_functionCode_hit hcd ((C.keeps F.keep).code hP (by exact trivial)) (c' := .ref c1) (by rw [show (#[rawInt 28, rawInt 8, Value.ref c1] : Array Value).toList = [rawInt 28, rawInt 8, .ref c1] from rfl]; simp [codeAmong, rawInt, hl, hc]) ?_
    refine ⟨c1, rfl, F.keep, fun doc ctv tk2 => ?_⟩
    refine h s.heap.objs.size c1 P1 oc ps doc ((mg "__name__").getD .none) ctv _ tk2 (F.push _) hO hps (fun d1 Q1 od qs e => by cases e; exact ⟨rfl, rfl, rfl⟩) (News.push F N _ rfl) (sep_push S fun q hq => Heap.lt_size (N q hq).1)
end
-- RunX
section
variable {M : Model} {A : Around} {E : Value → Shared → Prop} {s : Shared} {h₀ g : Heap} {env : Env} {outer : List Env} {L L' a e ed t : Addr} {m m' : Str → Option Value} {name : Str} {scope : Scope} {cd : Value} {led : List (Addr × Obj)}
/-- the frame in which a ParseError is raised is left -/
theorem leave_X {Q : Unit → Shared → Prop} (K : Below A h₀ (env :: outer) g) (hL : env.frame = some L) (F : Fr g L' s.heap m') (N : News g L' s.heap led) (he : (e, errO ed t .none) ∈ led) (FG : Fr h₀ L g m)
    (k : ∀ B h', h₀.StaysIn B → B.get? L = none → (∀ q ∈ led, q.1 ≠ e → B.get? q.1 = some q.2 ∧ h₀.get? q.1 = none) → FlyE B (env :: outer) e ed t .none h' → Fr h₀ L h' m → Q () { s with heap := h' }) (hk : scope.kind = .function := by rfl) :
    wpAny M (A.deeper (envOf name scope L' a cd)) (leaving (envOf name scope L' a cd) (.ref e)) Q E s := by
  have K' := K.push (name := name) (a := a) (cd := cd) F hk
  have hnew : h₀.get? e = none := fresh_of_stays K.stays (N _ he).2.2
  obtain ⟨as, has⟩ : ∃ as, as = e :: (envOf name scope L' a cd :: env :: outer).filterMap (·.frame) := ⟨_, rfl⟩
  have st : h₀.StaysIn (hideAll s.heap as) := fun b o q => hideAll_get _ (K'.stays b o q) fun hm => by
    rw [has] at hm
    rcases List.mem_cons.mp hm with rfl | hm
    · rw [hnew] at q; cases q
    · rw [(K'.frames.mem hm).1] at q; cases q
  have hin : ∀ x ∈ (envOf name scope L' a cd :: env :: outer), ∀ b, x.frame = some b → b ∈ as := fun x hx b hb => by
    rw [has]; exact .tail _ (List.mem_filterMap.mpr ⟨x, hx, hb⟩)
  have hl : ∀ q ∈ led, q.1 ≠ e → (hideAll s.heap as).get? q.1 = some q.2 ∧ h₀.get? q.1 = none := fun q hq hne => by
    refine ⟨hideAll_get _ (N q hq).1 fun hm => ?_, fresh_of_stays K.stays (N q hq).2.2⟩
    rw [has] at hm
    rcases List.mem_cons.mp hm with z | hm
    · exact hne z
    obtain ⟨x, hx, hf⟩ := List.mem_filterMap.mp hm
    rcases List.mem_cons.mp hx with rfl | hx
    · exact (N q hq).2.1 (Option.some.inj hf).symm
    · obtain ⟨o, ho, _⟩ := (K.frames.mem (List.mem_filterMap.mpr ⟨x, hx, hf⟩)).2
      rw [(N q hq).2.2] at ho; cases ho
  refine leave_E1 (B := hideAll s.heap as) (ed := ed) (t := t) K'.stack (funFrames_hide K'.frames hin) rfl (N _ he).1 (fun b o q => of_hideAll _ q) (hideAll_none _ (by rw [has]; exact .head _)) fun h' x u => ?_
  exact k _ h' st (hideAll_none _ (hin env (.tail _ (.head _)) L hL)) hl x (FG.of_stays (fun b o q => x.1 b o (st b o q)) ((Heap.UpToSlots.of_keeps F.keep).trans u))
/-- raise e, where e is a ParseError that was not raised before -/
theorem raise_E {w : World} {x : Sem Value} {Q : Flow → Shared → Prop} (hh : A.handled = none)
    (h : wpAny M A x (fun v s1 => v = .ref e ∧ (Mine.hd.heap_39 w.params).In s1.heap ∧ s1.heap.get? e = some (errO ed t .none) ∧ E (.ref e) s1) E s) : wpAny M A (raiseStmt env (some x) none) Q E s := by
  unfold raiseStmt
  refine wpAny_bind (wpAny_mono h (fun v s1 h1 => ?_) fun _ _ z => z)
  obtain ⟨rfl, X, he, hE⟩ := h1
  obtain ⟨nm, q, NN, bs, hdct, sn, sub, ab, col, dd, k0, k1, k2, k3, k5, hC⟩ := shape_of X err_shape
  have hcB : (Value.ref 179 :: errBm).contains (.type "BaseException") = true := by decide
  obtain ⟨hp, g, d, tk, os⟩ := s1
  dsimp only at X he hC
  repeat (first | with_reducible refine wpAny_loadPart_at he ?_ | with_reducible refine wpAny_loadPart_at hC ?_ | (with_reducible refine wpAny_isSubtype_exc hC ?_; rw [hcB]) | wp_step)
  exact wpAny_raiseNew_none hh hE
end
/-- as RunM, where the call may raise a ParseError -/
def RunX (w : World) (f : Addr) (args : List Value) (kw : List (Str × Value)) (dN uN : Nat) (H pre : List (Addr × Obj)) (none : Prop) (Post : Value → List (Addr × Obj) → Prop) (PostE : Addr → Addr → Addr → List (Addr × Obj) → Prop) : Prop :=
  ∀ (A : Around) (h₀ : Heap) (L : Addr) (m : Str → Option Value) (s : Shared) (R : Result → Shared → Prop) (A₀ : Around) (outer : List Env) (env : Env) (p : Program) (loose : List Str) (mean : ExcName → Option Value) (mg mb : Str → Option Value),
    Below A₀ h₀ outer h₀ → (Mine.hd.heap_39 w.params).In h₀ → Top p loose mean mg mb h₀ → A.frames = some (env :: outer) → env.frame = some L → env.scope.kind = .function →
    HandL A H → (none → A.handled = Option.none) → Fr h₀ L s.heap m → News h₀ L s.heap pre → Sep pre → A.depth + dN ≤ 600 → A.units + uN ≤ 9000 →
    (∀ v led h' tk', Fr h₀ L h' m → News h₀ L h' led → Sep led → Post v led → R (.ok (.ret v)) { s with heap := h', toks := tk' }) →
    (∀ e ed t led B h' tk', h₀.StaysIn B → B.get? L = Option.none → (∀ q ∈ led, q.1 ≠ e → B.get? q.1 = some q.2 ∧ h₀.get? q.1 = Option.none) → FlyE B (env :: outer) e ed t .none h' → Fr h₀ L h' m → Sep led → PostE e ed t led → R (.error (.ref e)) { s with heap := h', toks := tk' }) →
    codeAny (model PG w) A (.call (.ref f) ⟨args, kw⟩) R s
-- Indent
theorem CodeO.tab {oc : Obj} {P1 c1 : Addr} {qual : Str} {h : Heap} {ps : Array Value} (x : CodeO oc P1 qual) (hc : h.get? c1 = some oc) (hP : h.get? P1 = some (tabObj ps)) : h.TableAt c1 P1 ps := by
  obtain ⟨vs, _, _, _, _, _, _, _, _, e1, e2, _, e4, _⟩ := x
  exact ⟨⟨oc, vs, hc, e1, e2, e4⟩, hP⟩
/-- a genexpr's code, made or at hand -/
theorem gencode_T {M : Model} {A : Around} {E : Value → Shared → Prop} {s : Shared} {env : Env} {c1 P1 : Addr} {oc : Obj} {qual qn : Str} {ps : Array Value} {pos : Pos} {scope : Scope} {Q : Value → Shared → Prop} (hc : env.code = .ref c1) (hO : CodeO oc P1 qual) (h1 : s.heap.get? c1 = some oc) (h2 : s.heap.get? P1 = some (tabObj ps)) (ht : TriplesOk ps.toList) (hne : c1 ≠ P1)
    (h : ∀ code h' tk ps', Heap.ExtBut P1 s.heap h' → s.heap.objs.size ≤ h'.objs.size → h'.get? P1 = some (tabObj ps') → TriplesOk ps'.toList → Q code { s with heap := h', toks := tk }) : wpAny M A (genexprCode env pos qn scope) Q E s := by
  have hk := hO.code h1 h2 ht hne
  cases hnf : codeAmong pos ps.toList with
  | some cv => exact wpAny_genexprCode_hit hc hk hnf (h cv s.heap s.toks ps (Heap.ExtBut.refl _ _) (Nat.le_refl _) h2 ht)
  | none =>
    refine wpAny_genexprCodeX hc hk (hO.tab h1 h2) hnf fun c' h' tk hx hge hlt hck _ htb _ => ?_
    obtain ⟨_, _, _, _, _, _, _, _, _, _, _, _, _, _, _, _, _, _, _, htr, _⟩ := hck
    exact h (.ref c') h' tk _ hx (Nat.le_trans hge (Nat.le_of_lt hlt)) htb.2 htr
theorem passing_all (n : Nat) : passing (fun _ => true) n 0 = List.range n := by simp [passing]
/-- what indent answers -/
def indentS (x : Str) : Str := Txt.join (Str.ofString "\n") ((Txt.lines x).map fun l => Str.ofString "    " ++ l)
/-- a call of the def that prettily makes -/
def IndentSpec (w : World) (params : Arguments) (body : List Stmt) (scope : Scope) : Prop :=
  ∀ (A : Around) (h₀ : Heap) (L : Addr) (m : Str → Option Value) (s : Shared) (R : Result → Shared → Prop) (rest : List (Addr × Obj)) (f c1 P1 : Addr) (oc : Obj) (ps : Array Value) (doc pm ctv : Value) (x : Str) (tk : Tok),
    Amb w A h₀ L → A.handled = none → Fr h₀ L s.heap m → News h₀ L s.heap ((P1, tabObj ps) :: rest) → (f, fnMade (Str.ofString "indent") qualI params body scope [] doc pm c1 ctv) ∈ rest → (c1, oc) ∈ rest → CodeO oc P1 qualI → TriplesOk ps.toList → (∀ q ∈ rest, q.1 ≠ P1) → AllBare s.gens → x.length ≤ 8000000 → (∀ b ∈ Txt.lines x, b.length ≤ 8000000) → A.depth + 20 ≤ 600 → A.units + 200 ≤ 9000 →
    JoinOk (Str.ofString "\n") ((Txt.lines x).map fun l => Str.ofString "    " ++ l) = true →
    (∀ ps' s' t, Fr h₀ L s'.heap m → News h₀ L s'.heap ((P1, tabObj ps') :: rest) → TriplesOk ps'.toList → AllBare s'.gens → s'.os = s.os → R (.ok (.ret (.str (indentS x) t))) s') →
    codeAny (model PG w) A (.call (.ref f) ⟨[.str x tk], []⟩) R s
-- Match
/-- between two matches: whatever the cache will be -/
def Idle (w : World) (b : Nat) (tx : Str) (F : EF) (nf : Nat) (M : List (Addr × Obj)) : Prop := ∀ c, (∀ p ∈ M, p.1 < c) → Muts w b tx c [] [] F nf M
/-- expr.match(text) -/
theorem match_ok {w : World} {b dN uN : Nat} {k : EK} {x d : Addr} {o : Obj} {mt : Addr} {nm : Str} {kids : EF} (hmc : MC w dN uN k x d o mt nm kids) {tx : Str} {tkx : Tok} {Y : Addr → Prop} {nf : Nat} {M loc H : List (Addr × Obj)}
    (hid : Idle w b tx (.cons k x d o mt nm kids .nil) nf M) (hys : ∀ y, Y y → ∃ k d mt nm o, EK.Is k d mt nm o ∧ (y, o) ∈ loc ∧ d ∈ (M ++ loc).map (·.1)) (hlen : tx.length ≤ 5) (hnf : nf ≤ 1000)
    (hall : (EF.cons k x d o mt nm kids .nil).all Y) (hwf : (EF.cons k x d o mt nm kids .nil).wf) (hstat : ∀ q ∈ (EF.cons k x d o mt nm kids .nil).stat, q ∈ loc) (hH : ∀ q ∈ H, q ∈ loc) (hd1 : ∃ es n, (d, dictOf es n) ∈ M ++ loc ∧ getL (Str.ofString "match") es = some none ∧ getL (Str.ofString "match_core") es = some none) :
    RunX w 259 [.ref x, .str tx tkx] [] (dN + 30) (uN + 200) H (M ++ loc) (k.run tx x nm (kids.pegs tx) 0 = none)
      (fun v led' => ∃ c ed e t led0, MPost w b tx c ed Y (.cons k x d o mt nm kids .nil) nf [] led0 ((e, errO ed t .none) :: (t, tupO [.str tx tkx] 0) :: loc) [] (k.run tx x nm (kids.pegs tx) 0) v led' ∧ (∀ a ∈ (M ++ loc).map (·.1), a ∈ led0.map (·.1)) ∧ k.run tx x nm (kids.pegs tx) 0 ≠ none)
      (fun e ed t led' => ∃ c led0, MPost w b tx c ed Y (.cons k x d o mt nm kids .nil) nf [] led0 ((e, errO ed t .none) :: (t, tupO [.str tx tkx] 0) :: loc) [] none .none led' ∧ (∀ a ∈ (M ++ loc).map (·.1), a ∈ led0.map (·.1)) ∧ k.run tx x nm (kids.pegs tx) 0 = none) := by
  w_on
  have hx : (x, o) ∈ loc := hstat _ stat_self
  have hxM : (x, o) ∈ M ++ loc := List.mem_append_right _ hx
  intro A h₀ L m s R A₀ outer env p loose mean mg mb B X T hA hf hke hHL hnn F N hS hdep hun hret herr
  obtain ⟨hd, dp, fr, gd, un⟩ := A
  dsimp only at hA hdep hun hnn
  subst hA
  have hrw : PySem.Challenge.rw_vj0020_01 = PySem.Challenge.rw_vj0020_01 := rfl
  revert X hrw
  k_fill
  intro X hrw
  clear hrw
  (k_dflt (refine' code_def (binds := [(Str.ofString "self", .ref x), (Str.ofString "text", .str tx tkx), (Str.ofString "pos", .int 0 507)]) ?k1 ?k2 ?k3 ?k4 ?k5 ?kA ?kF ?kK ?k6 ?k7 ?k8 ?k9 ?kB ?_ ?c2 ?c3 ?c4 ?c5; (case kA => exact rfl); (case kF => first | exact rfl | assumption); (case kK => first | exact rfl | assumption); (case k1 => k_asm); (case k2 => k_asm); (case k3 => k_asm); (case k4 => k_asm); (case k5 => k_asm); (case k6 => k_is); (case k7 => k_is); (case k8 => k_room); (case k9 => first | exact BindsTo.of_eq rfl | exact binds_K (by k_in) rfl (by k_is) rfl rfl rfl); (case c5 => decide); (case kB => exact locs rfl); (case c2 => exact rfl); (case c3 => exact rfl); (case c4 => exact rfl); k_whole))
  intro g' L' h' FG' F' N' B' X' T'
  (try dsimp only [List.reverse, List.reverseAux] at F')
  repeat' (first | ((fail_if_success (with_reducible show wpAny _ _ (call (Value.ref 179) _ _) _ _ _)); (first | (k_unfold; (try dsimp only)) | (k_end; wrow_close) | walk1 | (dsimp only; walk1) | (leave1; walk_say "STEP leave1"; try dsimp only) | fail "no step")))
  refine wpAny_call ?_
  refine perr_ok _ _ _ _ _ _ ⟨_, _, _, _, _, _, _, _, _, by k_asm, by k_asm, by k_asm, rfl, rfl, rfl, rfl⟩ (by k_asm) (by k_asm) (by (try simp only [depth_mark, depth_under_make, depth_under_kw, depth_in1, depth_deeper, depth_caller]); omega) (by (try simp only [units_in1, units_deeper, Around.mark_units, units_caller]); omega) fun v tl h1 tk1 F1 N1 dc1 lt1 hp1 => ?_
  obtain ⟨e, t, ed, oe, rfl, rfl, hie⟩ := hp1
  have S1 := sep_tl hS dc1 lt1
  simp only [List.cons_append, List.nil_append] at N1 S1
  dsimp only
  obtain ⟨es, ne, hd1M, hl1, hl2⟩ := hd1
  repeat' (first | ((fail_if_success (with_reducible show wpAny _ _ (getMethod _ _ _) _ _ _)); (first | (k_unfold; (try dsimp only)) | (k_end; wrow_close) | walk1 | (dsimp only; walk1) | (leave1; walk_say "STEP leave1"; try dsimp only) | fail "no step")))
  rename_i h2 F2 N2
  have hk : k.Is d mt nm o := hwf.1
  refine e_mc F2 X' N2 hk (by (repeat (first | exact hxM | refine List.Mem.tail _ ?_))) (by (repeat (first | exact hd1M | refine List.Mem.tail _ ?_))) hl2 ?_
  repeat' (first | ((fail_if_success (with_reducible show wpAny _ _ (callWith _ _ _ _ _) _ _ _)); (first | (k_unfold; (try dsimp only)) | (k_end; wrow_close) | walk1 | (dsimp only; walk1) | (leave1; walk_say "STEP leave1"; try dsimp only) | fail "no step")))
  refine callWith_K X' em_keep ?_
  repeat' (first | ((fail_if_success (with_reducible show wpAny _ _ (call _ _ _) _ _ _)); (first | (k_unfold; (try dsimp only)) | (k_end; wrow_close) | walk1 | (dsimp only; walk1) | (leave1; walk_say "STEP leave1"; try dsimp only) | fail "no step")))
  rename_i c h3 oc F3 N3 lo3 hs3 fs3 hi3 fi3 l3
  have S3 : Sep ((c, oc) :: (ed, oe) :: (e, errO ed t .none) :: (t, tupO [.str tx tkx] 0) :: (M ++ loc)) := sep_push S1 (ktn_ltOf l3)
  have bc : ∀ p ∈ M, p.1 < c := fun p hp => ktn_ltOf l3.2.2.2 p (List.mem_append_left _ hp)
  have pm : ((c, oc) :: (ed, oe) :: (e, errO ed t .none) :: (t, tupO [.str tx tkx] 0) :: (M ++ loc)).Perm ((c, oc) :: (ed, oe) :: (M ++ ((e, errO ed t .none) :: (t, tupO [.str tx tkx] 0) :: loc))) := by
    classical
    refine List.perm_iff_count.mpr fun q => ?_
    simp only [List.count_append, List.count_cons]
    omega
  have upL : ∀ q ∈ loc, q ∈ (e, errO ed t .none) :: (t, tupO [.str tx tkx] 0) :: loc := fun q hq => .tail _ (.tail _ hq)
  have upA : ∀ a ∈ (M ++ loc).map (·.1), a ∈ ((c, oc) :: (ed, oe) :: (M ++ ((e, errO ed t .none) :: (t, tupO [.str tx tkx] 0) :: loc))).map (·.1) := fun a ha => map_mem (fun p hp => by
    simp only [List.mem_cons, List.mem_append] at hp ⊢
    rcases hp with h | h <;> simp [h]) ha
  refine wpAny_call ?_
  refine runM_call (h₀ := g') (L := L') (H := H) (hmc b tx c e ed (errO ed t .none) Y nf oc [] oe M ((e, errO ed t .none) :: (t, tupO [.str tx tkx] 0) :: loc) [] H _ _ 0 ⟨lo3, ⟨_, rfl⟩, .head _, fun y hy => ?ys, hlen, trivial⟩ ⟨hi3, ⟨fun p hp => (nomatch hp), fun p hp => (nomatch hp)⟩, ⟨-1, .none, hie, by omega, by omega, .inl rfl⟩, hid c bc, by simpa using hnf, fun p hp => (nomatch hp)⟩ hall hwf (fun q hq => upL q (hstat q hq)) (Nat.zero_le _) (fun q hq => upL q (hH q hq)) (fun q hq => nomatch hq))
    ⟨_, _, _, _, _, _, _, _, _, by k_asm, by k_asm, by k_asm, rfl, rfl, rfl, rfl⟩ ?hand F3 (newsSub N3 fun q hq => pm.mem_iff.mpr hq) (sep_perm S3 pm) ?hdp ?hun fun v led4 h4 tk4 F4 N4 S4 hp4 => ?_
  case hand => exact hHL
  case hdp => (try simp only [depth_mark, depth_under_make, depth_under_kw, depth_in1, depth_deeper, depth_caller]); omega
  case hun => (try simp only [units_in1, units_deeper, Around.mark_units, units_caller]); omega
  case ys =>
    obtain ⟨k9, d9, mt9, nm9, o9, e1, e2, e3⟩ := hys y hy
    exact ⟨k9, d9, mt9, nm9, o9, e1, upL _ e2, upA _ e3⟩
  dsimp only
  cases hrun : k.run tx x nm (kids.pegs tx) 0 with
  | some G =>
    rw [hrun] at hp4 hret
    have hp4' := hp4
    obtain ⟨oc5, C5, oe5, nf5, M5, N5', rfl, st5, gr5, len5, res5, ad5⟩ := hp4'
    obtain ⟨a, da, cla, ea, t1, t2, t3, st1, en1, n1, nma, chs, cha, rfl, rfl, hna, hnd, hnl, hnc⟩ := res_one res5
    repeat' (first | ((first | (k_unfold; (try dsimp only)) | (k_end; wrow_close) | walk1 | (dsimp only; walk1) | (leave1; walk_say "STEP leave1"; try dsimp only) | fail "no step")))
    exact hret _ _ _ _ (by assumption) (by assumption) S4 ⟨c, ed, e, t, _, hp4, upA, by simp⟩
  | none =>
    rw [hrun] at hp4 herr
    have hp4' := hp4
    obtain ⟨oc5, C5, oe5, nf5, M5, N5', rfl, st5, gr5, len5, res5, ad5⟩ := hp4'
    have hv : v = .none := res5
    subst hv
    repeat' (first | ((fail_if_success (with_reducible show wpAny _ _ (exec (PySem.Stmt.Raise _ _ _) _) _ _ _)); (first | (k_unfold; (try dsimp only)) | (k_end; wrow_close) | walk1 | (dsimp only; walk1) | (leave1; walk_say "STEP leave1"; try dsimp only) | fail "no step")))
    rename_i h6 F6 N6
    rw [arm_exec_Raise]
    refine wpAny_bind (wpAny_standAt (raise_E (w := w) (e := e) (ed := ed) (t := t) (hnn hrun) ?_))
    dsimp only
    refine wpAny_bind ?_
    repeat' (first | ((fail_if_success (with_reducible show wpAny _ _ (bind _ _) _ _ _)); (first | (k_unfold; (try dsimp only)) | (k_end; wrow_close) | walk1 | (dsimp only; walk1) | (leave1; walk_say "STEP leave1"; try dsimp only) | fail "no step")))
    have heM : (e, errO ed t .none) ∈ (c, oc5) :: (ed, oe5) :: (M5 ++ (N5' ++ (e, errO ed t .none) :: (t, tupO [.str tx tkx] 0) :: loc)) := .tail _ (.tail _ (List.mem_append_right _ (List.mem_append_right _ (.head _))))
    refine wpAny_bind (wpAny_standAt (wpAny_pure ⟨rfl, X'.keeps F6.keep, (N6 _ heM).1, ?_⟩))
    refine leave_X B' hf F6 N6 heM FG' fun B6 h7 b1 b2 b3 b4 b5 => ?_
    exact herr e ed t _ B6 h7 _ b1 b2 b3 b4 b5 S4 ⟨c, _, hp4, upA, rfl⟩
-- Caught
section
variable {w : World} {A₀ : Around} {E : Value → Shared → Prop} {s' : Shared} {h₀ B : Heap} {outer : List Env} {L a e ed t : Addr} {m : Str → Option Value} {name : Str} {scope : Scope} {cd : Value}
  {n : Str} {b₀ : Stmt} {suite : List Stmt} {pos np : Pos} {rest : List ExceptHandler} {Q : Flow → Shared → Prop} {led : List (Addr × Obj)} {p : Program} {loose : List Str} {mean : ExcName → Option Value} {mg mb : Str → Option Value} {x : Str}
/-- except ParseError as n -/
theorem caught_X (K : Below A₀ h₀ outer h₀) (F : Fr h₀ L s'.heap m) (hB : h₀.StaysIn B) (hBL : B.get? L = none) (hl : ∀ q ∈ led, q.1 ≠ e → B.get? q.1 = some q.2 ∧ h₀.get? q.1 = none) (R : FlyE B (envOf name scope L a cd :: outer) e ed t .none s'.heap)
    (X : (Mine.hd.heap_39 w.params).In h₀) (T : TopRead p loose mg mb h₀) (ex : nsIn (Mine.hd.heap_39 w.params) mainGlobals x = some (some (.ref 179)))
    (k : ∀ h' tb tk, Fr h₀ L h' (fun y => if y = n then some (.ref e) else m y) → (∀ led', (∀ q ∈ led', q = (e, errO ed t tb) ∨ (q ∈ led ∧ q.1 ≠ e)) → News h₀ L h' led') →
      wpAny (model PG w) ((A₀.deeper (envOf name scope L a cd)).mark (some (.ref e))) (execs (b₀ :: suite) (envOf name scope L a cd))
        (fun f s₄ => wpAny (model PG w) (A₀.deeper (envOf name scope L a cd)) (do bindName (envOf name scope L a cd) n .none; unbindBehindTheSuite (envOf name scope L a cd) n pos) (fun _ s₅ => Q f s₅) E s₄)
        (AsSuiteRaised (model PG w) ((A₀.deeper (envOf name scope L a cd)).mark (some (.ref e))) (envOf name scope L a cd) n pos (notedBy (model PG w) ((A₀.deeper (envOf name scope L a cd)).mark (some (.ref e))) (envOf name scope L a cd) (cameBackBy (model PG w) (A₀.deeper (envOf name scope L a cd)) (envOf name scope L a cd) E)))
        { s' with heap := h', toks := tk })
    (hk : scope.kind = .function := by rfl) (hlo : (envOf name scope L a cd).kindOf n = some .local := by rfl) (hx : (envOf name scope L a cd).kindOf x = some .globalImplicit := by rfl) (hd : (x == ("__debug__" : Str)) = false := by decide) :
    wpAny (model PG w) (A₀.deeper (envOf name scope L a cd)) (noteFrame (.ref e) (envOf name scope L a cd))
      (fun _ s₂ => wpAny (model PG w) (A₀.deeper (envOf name scope L a cd)) (setFlight (.ref e) none) (fun _ s₃ =>
        wpAny (model PG w) (A₀.deeper (envOf name scope L a cd)) (handleBy (.ref e) (envOf name scope L a cd) (.ExceptHandler (some (.Name x np)) (some n) (b₀ :: suite) pos :: rest)) Q E s₃) E s₂) E s' := by
  have heL : e ≠ L := fun z => by
    obtain ⟨_, f2, ⟨_, ⟨L', o, hf, _, ho, hn⟩, _⟩, T', _, _, a1, _⟩ := R
    obtain rfl : L = L' := Option.some.inj hf
    rw [← z, a1] at ho
    exact hn _ (congrArg Obj.data (Option.some.inj ho)).symm
  refine look_E (Around.frames_deeper K.stack) rfl R fun h4 x4 u4 => land_E x4 fun h5 x5 u5 => ?_
  have st5 : h₀.StaysIn h5 := fun b o q => x5.1 b o (hB b o q)
  have F5 := F.of_stays st5 (u4.trans u5)
  obtain ⟨_, _, _, T5, oT5, ts5, he5, _⟩ := id x5
  refine wpAny_handleBy_cons (codeAny_handlers_test (name_K F5 X T ex ?_ hk hx hd)) (by intro q; cases q)
  obtain ⟨nm, q, NN, bs, hdct, sn, sub, ab, col, dd, k0, k1, k2, k3, k5, hC⟩ := shape_of (X.keeps F5.keep) err_shape
  refine wpAny_excMatches_sub_self hC he5 rfl (by decide) (codeAny_handlers_suite_as ?_)
  refine land_E x5 fun h6 x6 u6 => ?_
  have st6 : h₀.StaysIn h6 := fun b o q => x6.1 b o (hB b o q)
  have F6 := F.of_stays st6 ((u4.trans u5).trans u6)
  obtain ⟨T6, oT6, ts6, he6, _⟩ := id x6.2.2.2
  have N6 : ∀ led', (∀ q ∈ led', q = (e, errO ed t (.ref T6)) ∨ (q ∈ led ∧ q.1 ≠ e)) → News h₀ L h6 led' := fun led' hs q hq => by
    rcases hs q hq with rfl | ⟨hq, hne⟩
    · exact ⟨he6, heL, fresh_of_stays hB x6.2.1⟩
    · exact ⟨x6.1 _ _ (hl q hq hne).1, (fun z => by have := (hl q hq hne).1; rw [z, hBL] at this; cases this), (hl q hq hne).2⟩
  exact wpAny_storeName_local hlo F6.ns (fun h7 hn7 hs7 => k h7 (.ref T6) _ (F6.set hn7 hs7) fun led' hs => (N6 led' hs).set hs7)
    (by show (scope.kind == .class || (scope.kind == .module && L != mainGlobals)) = false; rw [hk]; rfl)
end
-- Pretty
/-- the def that prettily made, as an object of the ledger -/
def IndentFn (w : World) (fo : Obj) (c1 : Addr) : Prop := ∃ params body scope doc pm ctv, fo = fnMade (Str.ofString "indent") qualI params body scope [] doc pm c1 ctv ∧ IndentSpec w params body scope
theorem pack_indent {w : World} {params : Arguments} {body : List Stmt} {scope : Scope} (h : IndentSpec w params body scope) {h₀ h' : Heap} {L f c1 : Addr} {doc pm ctv : Value} {rest : List (Addr × Obj)} (N : News h₀ L h' ((f, fnMade (Str.ofString "indent") qualI params body scope [] doc pm c1 ctv) :: rest)) (S : Sep ((f, fnMade (Str.ofString "indent") qualI params body scope [] doc pm c1 ctv) :: rest)) :
    ∃ fo, IndentFn w fo c1 ∧ News h₀ L h' ((f, fo) :: rest) ∧ Sep ((f, fo) :: rest) := ⟨_, ⟨_, _, _, _, _, _, rfl, h⟩, N, S⟩
/-- a text is at hand; nothing else is new -/
def AtS (g : Heap) (L : Addr) (m : Str → Option Value) (led : List (Addr × Obj)) (s : Shared) (x : Str) (v : Value) (s' : Shared) : Prop := ∃ h' tk' t, v = .str x t ∧ s' = { s with heap := h', toks := tk' } ∧ Fr g L h' m ∧ News g L h' led
theorem if_str {M : Model} {A : Around} {E : Value → Shared → Prop} {s : Shared} {c : Bool} {ex ey : Expr} {env : Env} {Q P : Value → Shared → Prop} (h1 : c = true → wpAny M A (eval ex env) P E s) (h2 : c = false → wpAny M A (eval ey env) P E s) (h : ∀ v s', P v s' → Q v s') :
    if c = true then wpAny M A (eval ex env) Q E s else wpAny M A (eval ey env) Q E s := by
  cases c with
  | true => rw [if_pos rfl]; exact wpAny_mono (h1 rfl) (fun v s' x => h v s' x) fun _ _ e => e
  | false => rw [if_neg (by decide)]; exact wpAny_mono (h2 rfl) (fun v s' x => h v s' x) fun _ _ e => e
/-- the name's part of the first line -/
def callS (nm : Str) : Str := if nm.length = 0 then Str.ofString "" else Str.ofString " called \"" ++ nm ++ Str.ofString "\""
theorem callS_len {nm : Str} (h : nm.length ≤ 100) : (callS nm).length ≤ 110 := by
  unfold callS
  split
  · decide
  · have e1 : (Str.ofString " called \"").length = 9 := by decide
    have e2 : (Str.ofString "\"").length = 1 := by decide
    rw [Str.length_append, Str.length_append, e1, e2]; omega
/-- the first line of a node's picture -/
def headS (nm t : Str) : Str := Str.ofString "<Node" ++ callS nm ++ Str.ofString " matching \"" ++ t ++ Str.ofString "\">"
/-- the pictures of the roots -/
def PF.pret (tx : Str) : PF → List Str
  | .nil => []
  | .cons _ nm st en ch rest => Txt.join (Str.ofString "\n") (headS nm (Txt.slice tx (some (st : Int)) (some (en : Int))) :: (ch.pret tx).map indentS) :: rest.pret tx
/-- as RunG for prettily: its tables may grow -/
def RunP (w : World) (fn : Addr) (args : List Value) (kw : List (Str × Value)) (dN uN : Nat) (pre : List (Addr × Obj)) (x : Str) : Prop :=
  ∀ (A : Around) (h₀ : Heap) (L : Addr) (m : Str → Option Value) (s : Shared) (R : Result → Shared → Prop) (tabs : List (Addr × Obj)),
    Amb w A h₀ L → A.handled = none → Tabs tabs → Fr h₀ L s.heap m → News h₀ L s.heap (tabs ++ pre) → Sep (tabs ++ pre) → AllBare s.gens → A.depth + dN ≤ 600 → A.units + uN ≤ 9000 →
    (∀ c1 P1 oc ps s' t, CodeO oc P1 qualI → TriplesOk ps.toList → (∀ d1 Q1 od qs, tabs = t1L d1 Q1 od qs → c1 = d1 ∧ P1 = Q1 ∧ oc = od) → Fr h₀ L s'.heap m → News h₀ L s'.heap (t1L c1 P1 oc ps ++ pre) → Sep (t1L c1 P1 oc ps ++ pre) → AllBare s'.gens → s'.os = s.os → R (.ok (.ret (.str x t))) s') →
    codeAny (model PG w) A (.call (.ref fn) ⟨args, kw⟩) R s
/-- what the picture asks of the nodes -/
def PFok (tx : Str) (pre : List (Addr × Obj)) : PF → Prop
  | .nil => True
  | .cons e nm st en ch rest => (∃ (k : EK) (d mt : Addr) (o od : Obj), k.Is d mt nm o ∧ (e, o) ∈ pre ∧ (d, od) ∈ pre) ∧ nm.length ≤ 100 ∧ JoinOk (Str.ofString "\n") (headS nm (Txt.slice tx (some (st : Int)) (some (en : Int))) :: (ch.pret tx).map indentS) = true ∧
      (∀ p ∈ ch.pret tx, p.length ≤ 8000000 ∧ (∀ b ∈ Txt.lines p, b.length ≤ 8000000) ∧ JoinOk (Str.ofString "\n") ((Txt.lines p).map fun l => Str.ofString "    " ++ l) = true) ∧ PFok tx pre ch ∧ PFok tx pre rest
theorem PFok.mono {tx : Str} {pre pre' : List (Addr × Obj)} (hs : ∀ p ∈ pre, p ∈ pre') : ∀ F : PF, PFok tx pre F → PFok tx pre' F
  | .nil, _ => trivial
  | .cons _ _ _ _ ch rest, ⟨⟨k, d, mt, o, od, a, b, c⟩, h2, h3, h4, h5, h6⟩ => ⟨⟨k, d, mt, o, od, a, hs _ b, hs _ c⟩, h2, h3, h4, PFok.mono hs ch h5, PFok.mono hs rest h6⟩
/-- node.prettily's method -/
theorem n_pretty {w : World} {A : Around} {E : Value → Shared → Prop} {s : Shared} {a d L : Addr} {c1 c2 c3 c4 c5 : Value} {h₀ : Heap} {m : Str → Option Value} {news : List (Addr × Obj)} {pl : Sem Bool} {Q : Value × List Value → Shared → Prop} (F : Fr h₀ L s.heap m) (X₀ : (Mine.hd.heap_39 w.params).In h₀) (N : News h₀ L s.heap news) (hx : (a, nodeO d c1 c2 c3 c4 c5) ∈ news) (hd : (d, dictOf [] 0) ∈ news)
    (h : Q (.ref 68, [.ref a]) s) : wpAny (model PG w) A (getMethod (.ref a) "prettily" pl) Q E s :=
  method_inst F X₀ (InstAt.of_news N hx hd) (n_get99 _) (by kernel_rfl) (by kernel_rfl) (by rfl) h
theorem Roots.atP {tx : Str} {P : Value → PF → Prop} {vs : List Value} {F : PF} (h : Roots P vs F) : ∀ {i : Nat} {v : Value}, vs[i]? = some v → ∃ t : PF, P v t ∧ t.ht ≤ F.ht ∧ (F.pret tx)[i]? = some ((t.pret tx).headD (Str.ofString "")) := by
  induction h with
  | nil => intro i v h; simp at h
  | cons hP _ ih =>
    intro i v h
    cases i with
    | zero => simp at h; subst h; exact ⟨_, hP, by simp [PF.ht]; omega, by simp [PF.pret]⟩
    | succ i =>
      obtain ⟨t, a, b, c⟩ := ih (by simpa using h)
      exact ⟨t, a, by simp [PF.ht]; omega, by simpa [PF.pret] using c⟩
theorem nodes_at {tx : Str} {ctx : List (Addr × Obj)} {vs : List Value} {F : PF} (h : NodesIn tx ctx vs F) : ∀ {i : Nat} {v : Value}, vs[i]? = some v → ∃ a d cl e t1 t2 t3, ∃ st en : Nat, v = .ref a ∧ (a, nodeO d (.ref cl) (.int en t1) (.ref e) (.str tx t2) (.int st t3)) ∈ ctx ∧ (d, dictOf [] 0) ∈ ctx := by
  induction h with
  | nil => intro i v h; simp at h
  | cons h1 h2 _ _ _ _ ih =>
    intro i v h
    cases i with
    | zero => simp at h; subst h; exact ⟨_, _, _, _, _, _, _, _, _, rfl, h1, h2⟩
    | succ i => exact ih (by simpa using h)
theorem pret_len {tx : Str} : ∀ F : PF, (F.pret tx).length = F.len
  | .nil => rfl
  | .cons _ _ _ _ _ rest => by simp [PF.pret, PF.len, pret_len rest]; omega
theorem pretty_ok {w : World} {tx : Str} (hz : tx.length ≤ 5) (F : PF) : ∀ {pre : List (Addr × Obj)} {vs : List Value}, NodesIn tx pre vs F → PFok tx pre F → F.small →
    Roots (fun v t => ∀ kw, (kw = [] ∨ kw = [(Str.ofString "error", .none)]) → RunP w 68 [v] kw (40 * t.ht) (400 * t.ht) pre ((t.pret tx).headD (Str.ofString ""))) vs F := by
  induction F with
  | nil => intro pre vs h _ _; cases h; exact .nil
  | cons e nm st en ch rest ih1 ih2 =>
  intro pre vs h hok hsmall
  cases h with
  | @cons a d cl _ t1 t2 t3 _ _ n _ chs vs _ _ hm hd hcl hc hr =>
  obtain ⟨⟨k, de, mt, o, od, hk, he, hde⟩, hnm, hjo, hps1, hokc, hokr⟩ := hok
  refine .cons ?_ (ih2 hr hokr hsmall.2.2)
  clear ih2 hr hokr
  intro kw hkw
  show RunP w 68 [.ref a] kw (40 * (max (ch.ht + 1) 0)) (400 * (max (ch.ht + 1) 0)) pre (Txt.join (Str.ofString "\n") (headS nm (Txt.slice tx (some (st : Int)) (some (en : Int))) :: (ch.pret tx).map indentS))
  w_on
  intro A h₀ L m s R tabs hAmb hhd hT F N hSp hgs hdep hun hret
  simp only [Nat.max_zero] at hdep hun
  obtain ⟨A₀, base, outer, env, p, loose, mean, mg, mb, B, X, T, hA, hf, hke, hrw⟩ := hAmb
  obtain ⟨hdl, dp, fr, gd, un⟩ := A
  dsimp only at hA hhd hdep hun
  subst hA hhd
  revert X hrw
  k_fill
  intro X hrw
  clear hrw
  (k_dflt (refine' code_def (binds := [(Str.ofString "self", .ref a), (Str.ofString "error", .none)]) ?k1 ?k2 ?k3 ?k4 ?k5 ?kA ?kF ?kK ?k6 ?k7 ?k8 ?k9 ?kB ?_ ?c2 ?c3 ?c4 ?c5; (case kA => exact rfl); (case kF => first | exact rfl | assumption); (case kK => first | exact rfl | assumption); (case k1 => k_asm); (case k2 => k_asm); (case k3 => k_asm); (case k4 => k_asm); (case k5 => k_asm); (case k6 => k_is); (case k7 => k_is); (case k8 => k_room); (case k9 => rcases hkw with rfl | rfl <;> first | exact BindsTo.of_eq rfl | exact binds_K (by k_in) rfl (by k_is) rfl rfl rfl); (case c5 => decide); (case kB => exact locs rfl); (case c2 => exact rfl); (case c3 => exact rfl); (case c4 => exact rfl); k_whole))
  intro g' L' h' FG' F' N' B' X' T'
  (try dsimp only [List.reverse, List.reverseAux] at F')
  repeat' (first | ((fail_if_success (with_reducible show wpAny _ _ (exec (PySem.Stmt.FunctionDef _ _ _ _ _ _ _ _ _ _ _) _) _ _ _)); (first | (k_unfold; (try dsimp only)) | (k_end; wrow_close) | walk1 | (dsimp only; walk1) | (leave1; walk_say "STEP leave1"; try dsimp only) | fail "no step")))
  refine nestDef_K rfl rfl rfl ?_
  have C : CodeHd g' 67 63 := codeHd_of_K X' (by kernel_rfl)
  refine nest_T F' N' hSp hT T' C rfl rfl rfl rfl rfl fun f c1 P1 oc ps doc pm ctv h2 tk2 F2 hO hps hrel N2 S2 => ?_
  have hpk := pack_indent (w := w) ?isp N2 S2
  case isp =>
    clear N2 S2 F2
    intro A h₀ L m s R rest f c1 P1 oc ps doc pm ctv x tk hAmb hhd F N hfm hc1 hO hps off hgs hx hlen hdep hun hjo hret
    obtain ⟨A₀, base, outer, env, p, loose, mean, mg, mb, B, X, T, hA, hf, hke, hrw⟩ := hAmb
    obtain ⟨hd, dp, fr, gd, un⟩ := A
    dsimp only at hA hhd hdep hun
    subst hA hhd
    clear hrw
    have hfo := (N _ (.tail _ hfm)).1
    have hco := (N _ (.tail _ hc1)).1
    have hPo := (N _ (.head _)).1
    refine codeAny_call_def (binds := [(Str.ofString "text", .str x tk)]) (by show dp < _; simp only [recursionLimit]; omega) hfo rfl (T.nolimit.keeps F.keep) (hO.rec hco) rfl (BindsTo.of_eq rfl) (by intro y hy; rcases List.mem_singleton.mp hy with rfl; exact fun z => nomatch z) (by intro y hy; rcases List.mem_singleton.mp hy with rfl; rfl) (fun h1 hns hk1 => ?_) rfl rfl rfl
    have F1 : Fr s.heap s.heap.objs.size h1 (fun y => List.lookup y [(Str.ofString "text", Value.str x tk)]) := ⟨hns, hk1, Nat.le_refl _⟩
    have N1 : News s.heap s.heap.objs.size h1 [] := News.nil
    have X1 := X.keeps F.keep
    have T1 := T.keeps F.keep
    clear hns
    have hL1 : s.heap.objs.size < h1.objs.size := F1.ns.lt
    repeat' (first | ((fail_if_success (with_reducible show wpAny _ _ (eval (PySem.Expr.GeneratorExp _ _ _ _) _) _ _ _)); (first | (k_unfold; (try dsimp only)) | (k_end; wrow_close) | walk1 | (dsimp only; walk1) | (leave1; walk_say "STEP leave1"; try dsimp only) | fail "no step")))
    refine wpAny_GeneratorExp_walksQ (cl := []) rfl rfl (closureFor_none (by decide)) (by decide) rfl rfl rfl ?room ?main ?hs
    case room => show dp + 1 < _; simp only [recursionLimit]; omega
    case hs => intro x; rfl
    case main =>
    repeat' (first | ((fail_if_success (with_reducible show wpAny _ _ (pyIter _) _ _ _)); (first | (k_unfold; (try dsimp only)) | (k_end; wrow_close) | walk1 | (dsimp only; walk1) | (leave1; walk_say "STEP leave1"; try dsimp only) | fail "no step")))
    rename_i l h2 k e1 e2 e3 e4 F2 N2
    dsimp only at e4 F2 N2 ⊢
    generalize hD : h1.objs.size = D at e4 N2 ⊢
    clear e2 e3
    refine wpAny_pyIter_list e4 ?_
    dsimp only
    have hDl : D < h2.objs.size := by obtain ⟨_, e, _⟩ := e4; exact Heap.lt_size e
    generalize hI : h2.objs.size = I at hDl ⊢
    have hIo : (h2.push ({ cls := .type "list_iterator", data := .fields #[.ref D, .int 0 0] } : Obj)).get? I = some ({ cls := .type "list_iterator", data := .fields #[.ref D, .int 0 0] } : Obj) := by rw [← hI]; exact Heap.get?_push_size _ rfl
    have F3 := F2.push ({ cls := .type "list_iterator", data := .fields #[.ref D, .int 0 0] } : Obj)
    have e5 := e4.push ({ cls := .type "list_iterator", data := .fields #[.ref D, .int 0 0] } : Obj)
    have sz3 : (h2.push ({ cls := .type "list_iterator", data := .fields #[.ref D, .int 0 0] } : Obj)).objs.size = I + 1 := by rw [Heap.size_push, hI]
    generalize h2.push ({ cls := .type "list_iterator", data := .fields #[.ref D, .int 0 0] } : Obj) = h3 at hIo F3 e5 sz3 ⊢
    have hne : c1 ≠ P1 := off _ hc1
    have nl3 := T1.nolimit.keeps F3.keep
    refine ⟨nl3, gencode_T rfl hO (F3.keep _ _ hco) (F3.keep _ _ hPo) hps hne fun code h4 tk4 ps4 hx4 hsz4 hP4 ht4 => ?_⟩
    obtain ⟨bm, ob, b1, b2, b3, b4, b5, b6⟩ := T1.bmain
    have hPP := hPo
    dsimp only at hPP
    have hgP : mainGlobals ≠ P1 := fun z => by
      obtain ⟨o, es, ep, e, hd, _⟩ := T1.g
      rw [z, hPP] at e; cases e; cases hd
    have hbP : bm ≠ P1 := fun z => by rw [z, hPP] at b3; cases b3; cases b4
    have hcP : cStatics ≠ P1 := fun z => by
      obtain ⟨_, hns, _⟩ := T1.nolimit
      obtain ⟨o, es, ep, ho, hd, _⟩ := hns
      rw [z, hPP] at ho; cases ho; cases hd
    have nl4 := nl3.extBut hx4 hcP
    refine wpAny_builtinsFor ((T1.g.keeps F3.keep).extBut hx4 hgP) b1 b2 (hx4 _ _ hbP (F3.keep _ _ b3)) b4 b5 b6 ?_
    have hIP : I ≠ P1 := fun z => by rw [z, F3.keep _ _ hPP] at hIo; cases hIo
    have hDP : D ≠ P1 := fun z => by
      obtain ⟨o, e, hc, _⟩ := e5
      rw [z, F3.keep _ _ hPP] at e; cases e; cases hc
    have hsI : cStatics < s.heap.objs.size := let ⟨_, hn, _⟩ := T1.nolimit; hn.lt
    have hLD : s.heap.objs.size ≤ D := by rw [← hD]; exact Nat.le_of_lt hL1
    refine ⟨I, [I, D], [I], (strValues l).toArray.size, _, _, (fun _ => true), (fun i y => ∃ b u, (l.map (·.1))[i]? = some b ∧ y = .str (Str.ofString "    " ++ b) u), rfl, (fun A' hA => Walks.list hA _ _ (Nat.ne_of_lt hDl) (strValues l).toArray), ⟨⟨_, hx4 _ _ hIP hIo, rfl, rfl⟩, e5.extBut hx4 hDP⟩, (fun b hb => ?fp), nl4, (fun hm => ?st), (fun href hhref => ?qg), fun a h5 tk5 gs hgb hag hsz5 hk5 W hat => ?fin⟩
    case fp =>
      rcases List.mem_cons.mp hb with rfl | hb
      · exact Nat.lt_of_lt_of_le (by rw [sz3]; exact Nat.lt_succ_self _) hsz4
      · rw [List.mem_singleton.mp hb]; exact Nat.lt_of_lt_of_le (by rw [sz3]; exact Nat.lt_succ_of_lt hDl) hsz4
    case st =>
      have := List.mem_singleton.mp hm
      rw [this] at hsI
      exact absurd (Nat.lt_of_lt_of_le hsI hLD) (Nat.not_lt.mpr (Nat.le_of_lt hDl))
    case qg =>
      refine ⟨fun A' E' i v s2 m2 hA hP hn hm _ => ?_, fun A' E' i v s2 m2 hA hP hp hn hm _ => ?_⟩
      · exact wpAny_pure ⟨rfl, s2.heap, s2.toks, rfl, fun _ _ e => e⟩
      · obtain ⟨b, u, hb, rfl⟩ : ∃ b u, (l.map (·.1))[i]? = some b ∧ v = Value.str b u := by
          have hP2 : (strValues l)[i]? = some v := by simpa using hP
          unfold strValues at hP2
          rw [List.getElem?_map] at hP2
          cases hq : l[i]? with
          | none => rw [hq] at hP2; cases hP2
          | some q => rw [hq] at hP2; cases hP2; exact ⟨q.1, q.2, by rw [List.getElem?_map, hq]; rfl, rfl⟩
        have hbl : b.length ≤ 8000000 := hlen b (by rw [← e1]; exact List.mem_of_getElem? hb)
        refine wpAny_BinOp ?_
        rw [eval_Constant]
        refine wpAny_mkText (ldG hn hm (SB.add (fun t' k => ⟨⟨b, t', hb, rfl⟩, s2.heap, k, rfl, fun _ _ e => e⟩) ?_))
        have e4' : (Str.ofString "    ").length = 4 := by decide
        rw [e4', sizeLine_eq]; omega
    case fin =>
    repeat' (first | ((fail_if_success (with_reducible show wpAny _ _ (call (Value.builtin "str.join") _ _) _ _ _)); (first | (k_unfold; (try dsimp only)) | (k_end; wrow_close) | walk1 | (dsimp only; walk1) | (leave1; walk_say "STEP leave1"; try dsimp only) | fail "no step")))
    have hPs : P1 < s.heap.objs.size := Heap.lt_size hPo
    have hLP : L ≠ P1 := fun z => (N _ (.head _)).2.1 z.symm
    have keepB : ∀ b o, (hideAll s.heap [P1]).get? b = some o → h5.get? b = some o := fun b o e => by
      have hb : b ≠ P1 := fun z => by rw [z, hideAll_none _ (.head _)] at e; cases e
      exact hk5 _ _ (hx4 _ _ hb (F3.keep _ _ (of_hideAll _ e)))
    have Fh : Fr (hideAll s.heap [P1]) s.heap.objs.size h5 (fun y => List.lookup y [(Str.ofString "text", Value.str x tk)]) := ⟨(F3.ns.extBut hx4 (Nat.ne_of_gt hPs)).keeps hk5, keepB, Nat.le_of_eq (hideAll_size _ _)⟩
    rw [passing_all] at W
    have e9 : (List.range (List.range (strValues l).toArray.size).length).map (fun j => Str.ofString "    " ++ (l.map (fun q : Str × Tok => q.1)).getD j (Str.ofString "")) = (Txt.lines x).map fun b => Str.ofString "    " ++ b := by
      rw [← e1]
      have el : (List.range (strValues l).toArray.size).length = (l.map (fun q : Str × Tok => q.1)).length := by simp [strValues]
      rw [el]
      have := congrArg (List.map fun b => Str.ofString "    " ++ b) (range_getD (l.map (fun q : Str × Tok => q.1)) (Str.ofString ""))
      rw [List.map_map] at this
      exact this
    refine join_rowsK (K := D) (n := (List.range (strValues l).toArray.size).length) Fh (hgs.push hgb) ⟨_, _, _, _, W, hat, (fun i s' st => st.1.typeIs), List.mem_cons_self, ?_, ?_⟩ hLD (fun j => Str.ofString "    " ++ (l.map (fun q : Str × Tok => q.1)).getD j (Str.ofString "")) ?_ ?_ ?_ ?_
    · intro b hb
      show b < h5.objs.size
      rw [hsz5]
      rcases List.mem_cons.mp hb with rfl | hb
      · exact Nat.lt_succ_self _
      · rcases List.mem_cons.mp hb with rfl | hb
        · exact Nat.lt_succ_of_lt hag
        · exact Nat.lt_succ_of_lt (Nat.lt_trans (List.mem_range.mp hb) hag)
    · intro b hb
      rcases List.mem_cons.mp hb with rfl | hb
      · exact Nat.lt_of_lt_of_le (Nat.lt_of_lt_of_le hDl (by rw [sz3]; exact Nat.le_succ _)) hsz4
      · rw [List.mem_singleton.mp hb]; exact hDl
    · intro j v ⟨i, hi, b, u, hb, hv⟩
      have hij : i = j := by
        have := List.getElem?_eq_some_iff.mp hi
        obtain ⟨_, e⟩ := this
        simpa using e.symm
      subst hij
      exact ⟨u, by rw [hv, List.getD_eq_getElem?_getD, hb]; rfl⟩
    · rw [e9]; exact hjo
    · intro s6 t6 F6 G6 os6 k6
      have old : ∀ b o, b ≠ P1 → s.heap.get? b = some o → s6.heap.get? b = some o := fun b o hb e => F6.keep b o (hideAll_get _ e (by simpa using hb))
      have hP6 : s6.heap.get? P1 = some (tabObj ps4) := k6 P1 _ (Nat.le_trans (Nat.le_of_lt hPs) hLD) (hk5 _ _ hP4)
      rw [e9]
      refine hret ps4 s6 t6 ⟨F.ns.extBut (fun b o hb e => old b o hb e) hLP, fun b o e => old b o (fun z => by have := (N _ (.head _)).2.2; rw [← z, e] at this; cases this) (F.keep b o e), F.above⟩ (fun q hq => ?_) ht4 G6 os6
      rcases List.mem_cons.mp hq with rfl | hq
      · exact ⟨hP6, (N _ (.head _)).2⟩
      · exact ⟨old _ _ (off q hq) (N q (.tail _ hq)).1, (N q (.tail _ hq)).2⟩
    · have h9 := joinOk_count hjo (by decide)
      rw [← e1] at h9
      simpa [strValues] using h9
  clear N2 S2
  obtain ⟨fo, hfo, N2, S2⟩ := hpk
  obtain ⟨ip, ib, isc, idoc, ipm, ictv, hfo, ispec⟩ := hfo
  repeat' (first | ((fail_if_success (with_reducible show wpAny _ _ (getAttr (Value.ref _) _ _) _ _ _)); (first | (k_unfold; (try dsimp only)) | (k_end; wrow_close) | walk1 | (dsimp only; walk1) | (leave1; walk_say "STEP leave1"; try dsimp only) | fail "no step")))
  rename_i h3 F3 N3
  refine n_class F3 X' N3 (by (repeat (first | exact hm | refine List.Mem.tail _ ?_))) (by (repeat (first | exact hd | refine List.Mem.tail _ ?_))) ?_
  repeat' (first | ((fail_if_success (with_reducible show wpAny _ _ (getAttr (Value.ref 99) _ _) _ _ _)); (first | (k_unfold; (try dsimp only)) | (k_end; wrow_close) | walk1 | (dsimp only; walk1) | (leave1; walk_say "STEP leave1"; try dsimp only) | fail "no step")))
  refine n_name99 F3 X' ?_
  repeat' (first | ((fail_if_success (with_reducible show wpAny _ _ (getAttr (Value.ref a) _ _) _ _ _)); (first | (k_unfold; (try dsimp only)) | (k_end; wrow_close) | walk1 | (dsimp only; walk1) | (leave1; walk_say "STEP leave1"; try dsimp only) | fail "no step")))
  refine n_ename F3 X' N3 (by (repeat (first | exact hm | refine List.Mem.tail _ ?_))) (by (repeat (first | exact hd | refine List.Mem.tail _ ?_))) ?_
  refine ename_ok (.tail _ (.tail _ (.tail _ (.tail _ hm)))) (.tail _ (.tail _ (.tail _ (.tail _ hd)))) hk (.tail _ (.tail _ (.tail _ (.tail _ he)))) (.tail _ (.tail _ (.tail _ (.tail _ hde)))) _ _ _ _ _ _ ⟨_, _, _, _, _, _, _, _, _, by k_asm, by k_asm, by k_asm, rfl, rfl, rfl, rfl⟩ rfl (by k_asm) (by k_asm) (by (try simp only [depth_mark, depth_under_make, depth_under_kw, depth_in1, depth_deeper, depth_caller]); omega) (by (try simp only [units_in1, units_deeper, Around.mark_units, units_caller]); omega) fun v tl h5 tk5 F5 N5 dc5 lt5 hp5 => ?_
  obtain ⟨rfl, tk6, rfl⟩ := hp5
  rw [List.nil_append] at N5
  refine handed_on rfl ?_
  try dsimp only
  refine P.truthy_str (by omega) ?_
  refine if_str (P := AtS g' L' (fun y => if y = Str.ofString "indent" then some (Value.ref f) else List.lookup y [(Str.ofString "error", Value.none), (Str.ofString "self", Value.ref a)]) ((f, fo) :: (63, tabObj #[rawInt 28, rawInt 8, .ref c1]) :: (c1, oc) :: (P1, tabObj ps) :: pre) s (callS nm)) ?yes ?no ?rest
  case yes =>
    intro hn0
    repeat' (first | ((fail_if_success (with_reducible show wpAny _ _ (getAttr (Value.ref a) _ _) _ _ _)); (first | (k_unfold; (try dsimp only)) | (k_end; wrow_close) | walk1 | (dsimp only; walk1) | (leave1; walk_say "STEP leave1"; try dsimp only) | fail "no step")))
    refine n_ename F5 X' N5 (.tail _ (.tail _ (.tail _ (.tail _ hm)))) (.tail _ (.tail _ (.tail _ (.tail _ hd)))) ?_
    refine ename_ok (.tail _ (.tail _ (.tail _ (.tail _ hm)))) (.tail _ (.tail _ (.tail _ (.tail _ hd)))) hk (.tail _ (.tail _ (.tail _ (.tail _ he)))) (.tail _ (.tail _ (.tail _ (.tail _ hde)))) _ _ _ _ _ _ ⟨_, _, _, _, _, _, _, _, _, by k_asm, by k_asm, by k_asm, rfl, rfl, rfl, rfl⟩ rfl (by k_asm) (by k_asm) (by (try simp only [depth_mark, depth_under_make, depth_under_kw, depth_in1, depth_deeper, depth_caller]); omega) (by (try simp only [units_in1, units_deeper, Around.mark_units, units_caller]); omega) fun v tl h7 tk7 F7 N7 dc7 lt7 hp7 => ?_
    obtain ⟨rfl, tk8, rfl⟩ := hp7
    rw [List.nil_append] at N7
    refine handed_on rfl ?_
    try dsimp only
    have e0 : callS nm = Str.ofString " called \"" ++ nm ++ Str.ofString "\"" := if_neg (fun z => by rw [z] at hn0; exact absurd hn0 (by decide))
    rw [e0]
    repeat' (first | ((fail_if_success (with_reducible show wpAny _ _ (AtS _ _ _ _ _ _ _ _) _ _ _)); (first | (k_unfold; (try dsimp only)) | (k_end; wrow_close) | walk1 | (dsimp only; walk1) | (leave1; walk_say "STEP leave1"; try dsimp only) | fail "no step")))
    exact ⟨_, _, _, rfl, rfl, F7, N7⟩
  case no =>
    intro hn0
    have e0 : callS nm = Str.ofString "" := if_pos (by simpa using hn0)
    rw [e0]
    repeat' (first | ((fail_if_success (with_reducible show wpAny _ _ (AtS _ _ _ _ _ _ _ _) _ _ _)); (first | (k_unfold; (try dsimp only)) | (k_end; wrow_close) | walk1 | (dsimp only; walk1) | (leave1; walk_say "STEP leave1"; try dsimp only) | fail "no step")))
    exact ⟨_, _, _, rfl, rfl, F5, N5⟩
  case rest =>
    intro v s' hv
    obtain ⟨h9, tk9, t9, rfl, rfl, F9, N9⟩ := hv
    try dsimp only
    have hcs := callS_len hnm
    repeat' (first | ((fail_if_success (with_reducible show wpAny _ _ (getAttr (Value.ref a) _ _) _ _ _)); (first | (k_unfold; (try dsimp only)) | (k_end; wrow_close) | walk1 | (dsimp only; walk1) | (leave1; walk_say "STEP leave1"; try dsimp only) | fail "no step")))
    refine n_text F9 X' N9 (.tail _ (.tail _ (.tail _ (.tail _ hm)))) (.tail _ (.tail _ (.tail _ (.tail _ hd)))) ?_
    refine text_ok (.tail _ (.tail _ (.tail _ (.tail _ hm)))) (.tail _ (.tail _ (.tail _ (.tail _ hd)))) hz _ _ _ _ _ _ ⟨_, _, _, _, _, _, _, _, _, by k_asm, by k_asm, by k_asm, rfl, rfl, rfl, rfl⟩ rfl (by k_asm) (by k_asm) (by (try simp only [depth_mark, depth_under_make, depth_under_kw, depth_in1, depth_deeper, depth_caller]); omega) (by (try simp only [units_in1, units_deeper, Around.mark_units, units_caller]); omega) fun v tl h10 tk10 F10 N10 dc10 lt10 hp10 => ?_
    obtain ⟨rfl, hts, tk11, rfl⟩ := hp10
    rw [List.nil_append] at N10
    refine handed_on rfl ?_
    try dsimp only
    repeat' (first | ((fail_if_success (with_reducible show wpAny _ _ (newList _) _ _ _)); (first | (k_unfold; (try dsimp only)) | (k_end; wrow_close) | walk1 | (dsimp only; walk1) | (leave1; walk_say "STEP leave1"; try dsimp only) | fail "no step")))
    try dsimp only
    repeat' (first | ((fail_if_success (with_reducible show wpAny _ _ (storeName _ _ _) _ _ _)); (first | (k_unfold; (try dsimp only)) | (k_end; wrow_close) | walk1 | (dsimp only; walk1) | (leave1; walk_say "STEP leave1"; try dsimp only) | fail "no step")))
    try dsimp only
    rename_i lr h11 F11 N11 lt11
    have eapp : ∀ y : Str, y ++ Str.ofString "" = y := fun y => Str.append_empty y
    simp only [eapp] at N11
    obtain ⟨tkh, N12⟩ : ∃ tkh, News g' L' h11 ((lr, lstO [.str (headS nm (Txt.slice tx (some (st : Int)) (some (en : Int)))) tkh] 0) :: (f, fo) :: (63, tabObj #[rawInt 28, rawInt 8, .ref c1]) :: (c1, oc) :: (P1, tabObj ps) :: pre) := ⟨_, N11⟩
    clear N11
    have S12 : Sep ((lr, lstO [.str (headS nm (Txt.slice tx (some (st : Int)) (some (en : Int)))) tkh] 0) :: (f, fo) :: (63, tabObj #[rawInt 28, rawInt 8, .ref c1]) :: (c1, oc) :: (P1, tabObj ps) :: pre) := sep_push S2 (ktn_ltOf lt11)
    repeat' (first | ((fail_if_success (with_reducible show wpAny _ _ (exec (PySem.Stmt.For _ _ _ _ _) _) _ _ _)); (first | (k_unfold; (try dsimp only)) | (k_end; wrow_close) | walk1 | (dsimp only; walk1) | (leave1; walk_say "STEP leave1"; try dsimp only) | fail "no step")))
    try dsimp only
    refine wpAny_For ?_
    repeat' (first | ((fail_if_success (with_reducible show wpAny _ _ (pyIter _) _ _ _)); (first | (k_unfold; (try dsimp only)) | (k_end; wrow_close) | walk1 | (dsimp only; walk1) | (leave1; walk_say "STEP leave1"; try dsimp only) | fail "no step")))
    rename_i h13 F13 N13
    refine owit_iter (f := 52) F13 X' (InstAt.of_news N13 (by (repeat (first | exact hm | refine List.Mem.tail _ ?_))) (by (repeat (first | exact hd | refine List.Mem.tail _ ?_)))) (by kernel_rfl) (by kernel_rfl) ?_
    refine wpAny_call ?_
    have ch4 : ∀ q ∈ pre, q ∈ (lr, lstO [.str (headS nm (Txt.slice tx (some (st : Int)) (some (en : Int)))) tkh] 0) :: (f, fo) :: (63, tabObj #[rawInt 28, rawInt 8, .ref c1]) :: (c1, oc) :: (P1, tabObj ps) :: pre := fun q hq => .tail _ (.tail _ (.tail _ (.tail _ (.tail _ hq))))
    refine iter_ok (ch4 _ hm) (ch4 _ hd) (ch4 _ hcl) _ _ _ _ _ _ ⟨_, _, _, _, _, _, _, _, _, by k_asm, by k_asm, by k_asm, rfl, rfl, rfl, rfl⟩ rfl (by k_asm) (by k_asm) (by (try simp only [depth_mark, depth_under_make, depth_under_kw, depth_in1, depth_deeper, depth_caller]); omega) (by (try simp only [units_in1, units_deeper, Around.mark_units, units_caller]); omega) fun v tl h14 tk14 F14 N14 dc14 lt14 hp14 => ?_
    obtain ⟨I, rfl, rfl⟩ := hp14
    have S14 := sep_tl S12 dc14 lt14
    simp only [List.cons_append, List.nil_append] at N14 S14
    try dsimp only
    refine m_owitIt N14 (.head _) ⟨rfl, rfl⟩ ?_
    obtain ⟨i, ts, nl, oI, ps', vn, s1, hs1, hi, hts, hI, F15, N15, S15, hps', hg15, hos15⟩ : ∃ (i : Nat) (ts : List (Str × Tok)) (nl : Nat) (oI : Obj) (ps' : Array Value) (vn : Option Value) (s1 : Shared), s1 = { s with heap := h14, toks := tk14 } ∧
        i ≤ chs.length ∧ ts.map (fun q : Str × Tok => q.1) = headS nm (Txt.slice tx (some (st : Int)) (some (en : Int))) :: ((ch.pret tx).take i).map indentS ∧ IsIt oI cl i ∧
        Fr g' L' s1.heap (fun y => if y = Str.ofString "n" then vn else if y = Str.ofString "ret" then some (Value.ref lr) else if y = Str.ofString "indent" then some (Value.ref f) else List.lookup y [(Str.ofString "error", Value.none), (Str.ofString "self", Value.ref a)]) ∧
        News g' L' s1.heap ((I, oI) :: (lr, lstO (strValues ts) nl) :: (f, fo) :: (63, tabObj #[rawInt 28, rawInt 8, .ref c1]) :: (c1, oc) :: (P1, tabObj ps') :: pre) ∧ Sep ((I, oI) :: (lr, lstO (strValues ts) nl) :: (f, fo) :: (63, tabObj #[rawInt 28, rawInt 8, .ref c1]) :: (c1, oc) :: (P1, tabObj ps') :: pre) ∧
        TriplesOk ps'.toList ∧ AllBare s1.gens ∧ s1.os = s.os := by
      refine ⟨0, [(_, tkh)], 0, _, ps, none, _, rfl, Nat.zero_le _, rfl, ⟨rfl, rfl⟩, fr_map F14 fun y => ?_, N14, S14, hps, hgs, rfl⟩
      by_cases e3 : y = Str.ofString "n"
      · subst e3; rfl
      rw [if_neg e3]
    have hs1' : ({ heap := h14, gens := s.gens, drawn := s.drawn, toks := tk14, os := s.os } : Shared) = s1 := hs1.symm
    rw [hs1']
    (try clear hs1); (try clear hs1'); (try clear F14); (try clear N14); (try clear S14); (try clear dc14); (try clear lt14); (try clear F13); (try clear N13); (try clear N12); (try clear S12); (try clear F9); (try clear N9); (try clear F5); (try clear N5); (try clear N2); (try clear S2); (try clear F2); (try clear F10); (try clear N10); (try clear h14); (try clear h13); (try clear ch4)
    have hlen := nodes_len hc
    obtain ⟨r, hr⟩ : ∃ r, r = chs.length - i := ⟨_, rfl⟩
    induction r generalizing i ts nl oI ps' vn s1 with
    | zero =>
      refine for_turn (m_next_end (l := cl) (its := chs) (n := n) (rest := (lr, lstO (strValues ts) nl) :: (f, fo) :: (63, tabObj #[rawInt 28, rawInt 8, .ref c1]) :: (c1, oc) :: (P1, tabObj ps') :: pre) rfl F15 N15 (by (repeat (first | exact hcl | refine List.Mem.tail _ ?_))) (by omega) hI (.head _) (fun q hq => .tail _ hq) (fun q hq => (sep_off (pre := []) S15).2 q hq) fun h16 F16 N16 => ?_)
      have S16 : Sep ((lr, lstO (strValues ts) nl) :: (f, fo) :: (63, tabObj #[rawInt 28, rawInt 8, .ref c1]) :: (c1, oc) :: (P1, tabObj ps') :: pre) := sep_sub S15 (.cons _ (.refl _))
      try dsimp only
      repeat' (first | ((fail_if_success (with_reducible show wpAny _ _ (call (Value.builtin "str.join") _ _) _ _ _)); (first | (k_unfold; (try dsimp only)) | (k_end; wrow_close) | walk1 | (dsimp only; walk1) | (leave1; walk_say "STEP leave1"; try dsimp only) | fail "no step")))
      have htake : (ch.pret tx).take i = ch.pret tx := List.take_of_length_le (by rw [pret_len]; omega)
      rw [htake] at hts
      refine SC.join (l := ts) ⟨_, (N16 _ (.head _)).1, rfl, _, rfl⟩ hts hjo fun t' k' => ?_
      repeat' (first | ((first | (k_unfold; (try dsimp only)) | (k_end; wrow_close) | walk1 | (dsimp only; walk1) | (leave1; walk_say "STEP leave1"; try dsimp only) | fail "no step")))
      refine hret c1 P1 oc ps' _ t' hO hps' hrel (by assumption) (newsSub (by assumption) fun q hq => .tail _ (.tail _ hq)) (sep_sub S16 (.cons _ (.cons _ (.refl _)))) hg15 hos15
    | succ r ih =>
      obtain ⟨v, hv⟩ : ∃ v, chs[i]? = some v := ⟨chs[i]'(by omega), List.getElem?_eq_getElem (by omega)⟩
      obtain ⟨a1, d1, cl1, e1, u1, u2, u3, st1, en1, rfl, hm1, hd1⟩ := nodes_at hc hv
      refine for_turn (m_next_item F15 N15 (l := cl) (its := chs) (by (repeat (first | exact hcl | refine List.Mem.tail _ ?_))) hv hI (updF_sep (pre := []) S15) fun h16 oI16 F16 N16 hI16 => ?_)
      have S16 := sep_set (pre := []) (o' := oI16) S15
      simp only [List.nil_append] at N16 S16
      dsimp only
      refine wpAny_pure ?_
      repeat' (first | ((fail_if_success (with_reducible show wpAny _ _ (getMethod (Value.ref a1) _ _) _ _ _)); (first | (k_unfold; (try dsimp only)) | (k_end; wrow_close) | walk1 | (dsimp only; walk1) | (leave1; walk_say "STEP leave1"; try dsimp only) | fail "no step")))
      rename_i h17 F17 N17
      refine callWith_F (FnAt.of N17 (.tail _ (.tail _ (by rw [hfo]; exact .head _)))) ?_
      repeat' (first | ((fail_if_success (with_reducible show wpAny _ _ (getMethod (Value.ref a1) _ _) _ _ _)); (first | (k_unfold; (try dsimp only)) | (k_end; wrow_close) | walk1 | (dsimp only; walk1) | (leave1; walk_say "STEP leave1"; try dsimp only) | fail "no step")))
      refine n_pretty F17 X' N17 (by (repeat (first | exact hm1 | refine List.Mem.tail _ ?_))) (by (repeat (first | exact hd1 | refine List.Mem.tail _ ?_))) ?_
      repeat' (first | ((fail_if_success (with_reducible show wpAny _ _ (call (Value.ref 68) _ _) _ _ _)); (first | (k_unfold; (try dsimp only)) | (k_end; wrow_close) | walk1 | (dsimp only; walk1) | (leave1; walk_say "STEP leave1"; try dsimp only) | fail "no step")))
      refine wpAny_call ?_
      have up : ∀ q ∈ pre, q ∈ (I, oI16) :: (lr, lstO (strValues ts) nl) :: (f, fo) :: pre := fun q hq => .tail _ (.tail _ (.tail _ hq))
      obtain ⟨t, hrun, hht, hpt⟩ := (ih1 (hc.mono up) (PFok.mono up _ hokc) hsmall.1).atP (tx := tx) hv
      obtain ⟨x, hx⟩ : ∃ x, x = (t.pret tx).headD (Str.ofString "") := ⟨_, rfl⟩
      replace hrun := hrun _ (.inr rfl)
      rw [← hx] at hrun hpt
      obtain ⟨hx1, hx2, hx3⟩ := hps1 x (List.mem_of_getElem? hpt)
      have pm1 : ((I, oI16) :: (lr, lstO (strValues ts) nl) :: (f, fo) :: (63, tabObj #[rawInt 28, rawInt 8, .ref c1]) :: (c1, oc) :: (P1, tabObj ps') :: pre).Perm (t1L c1 P1 oc ps' ++ ((I, oI16) :: (lr, lstO (strValues ts) nl) :: (f, fo) :: pre)) := by
        classical
        refine List.perm_iff_count.mpr fun q => ?_
        simp only [List.count_append, List.count_cons, List.count_nil]
        omega
      refine hrun _ _ _ _ _ _ (t1L c1 P1 oc ps') ⟨_, _, _, _, _, _, _, _, _, by k_asm, by k_asm, by k_asm, rfl, rfl, rfl, rfl⟩ rfl (.t1 hO hps') F17 (newsSub N17 fun q hq => pm1.mem_iff.mpr hq) (sep_perm S16 pm1) hg15 ?hdp ?hun fun c2 P2 oc2 ps2 s2 t4 hO2 hps2 hrel2 F18 N18 S18 hg18 hos18 => ?_
      case hdp => (try simp only [depth_mark, depth_under_make, depth_under_kw, depth_in1, depth_deeper, depth_caller]); omega
      case hun => (try simp only [units_in1, units_deeper, Around.mark_units, units_caller]); omega
      obtain ⟨rfl, rfl, rfl⟩ := hrel2 _ _ _ _ rfl
      try dsimp only
      clear F17 N17
      have pm2 : (t1L c2 P2 oc2 ps2 ++ ((I, oI16) :: (lr, lstO (strValues ts) nl) :: (f, fo) :: pre)).Perm ((P2, tabObj ps2) :: (63, tabObj #[rawInt 28, rawInt 8, .ref c2]) :: (c2, oc2) :: (I, oI16) :: (lr, lstO (strValues ts) nl) :: (f, fo) :: pre) := by
        classical
        refine List.perm_iff_count.mpr fun q => ?_
        simp only [List.count_append, List.count_cons, List.count_nil]
        omega
      have N19 := newsSub N18 fun q hq => pm2.mem_iff.mpr hq
      have S19 := sep_perm S18 pm2
      repeat' (first | ((fail_if_success (with_reducible show wpAny _ _ (And _ _) _ _ _)); (fail_if_success (with_reducible show wpAny _ _ (codeAny _ _ (Code.call _ _) _ _) _ _ _)); (first | (k_unfold; (try dsimp only)) | (k_end; wrow_close) | walk1 | (dsimp only; walk1) | (leave1; walk_say "STEP leave1"; try dsimp only) | fail "no step")))
      · exact FnAt.of N19 (.tail _ (.tail _ (.tail _ (.tail _ (.tail _ (by rw [hfo]; exact .head _))))))
      refine ispec _ _ _ _ _ _ _ f c2 P2 oc2 ps2 idoc ipm ictv x t4 ⟨_, _, _, _, _, _, _, _, _, by k_asm, by k_asm, by k_asm, rfl, rfl, rfl, rfl⟩ rfl F18 N19 (.tail _ (.tail _ (.tail _ (.tail _ (by rw [hfo]; exact .head _))))) (.tail _ (.head _)) hO hps2 ((sep_off (pre := []) S19).2) hg18 hx1 hx2 ?hdp2 ?hun2 hx3 fun ps3 s3 t5 F20 N20 hps3 hg20 hos20 => ?_
      case hdp2 => (try simp only [depth_mark, depth_under_make, depth_under_kw, depth_in1, depth_deeper, depth_caller]); omega
      case hun2 => (try simp only [units_in1, units_deeper, Around.mark_units, units_caller]); omega
      try dsimp only
      repeat' (first | ((fail_if_success (with_reducible show wpAny _ _ (call (Value.builtin "list.append") _ _) _ _ _)); (first | (k_unfold; (try dsimp only)) | (k_end; wrow_close) | walk1 | (dsimp only; walk1) | (leave1; walk_say "STEP leave1"; try dsimp only) | fail "no step")))
      have pm3 : ((P2, tabObj ps3) :: (63, tabObj #[rawInt 28, rawInt 8, .ref c2]) :: (c2, oc2) :: (I, oI16) :: (lr, lstO (strValues ts) nl) :: (f, fo) :: pre).Perm ((I, oI16) :: (lr, lstO (strValues ts) nl) :: (f, fo) :: (63, tabObj #[rawInt 28, rawInt 8, .ref c2]) :: (c2, oc2) :: (P2, tabObj ps3) :: pre) := by
        classical
        refine List.perm_iff_count.mpr fun q => ?_
        simp only [List.count_append, List.count_cons, List.count_nil]
        omega
      have N21 := newsSub N20 fun q hq => pm3.mem_iff.mpr hq
      have S21 : Sep ((I, oI16) :: (lr, lstO (strValues ts) nl) :: (f, fo) :: (63, tabObj #[rawInt 28, rawInt 8, .ref c2]) :: (c2, oc2) :: (P2, tabObj ps3) :: pre) := sep_set (pre := [(I, oI16), (lr, _), (f, fo), (63, _), (c2, oc2)]) (o' := tabObj ps3) S16
      have htl : ts.length = i + 1 := by
        have e9 := congrArg List.length hts
        simp only [List.length_map, List.length_cons, List.length_take, pret_len] at e9
        omega
      clear N18 N19 N20 S18 S19 F18
      refine m_append F20 N21 (updF_sep (pre := [(I, oI16)]) S21) (by simp only [strValues, List.length_map, htl]; rw [sizeLine_eq]; have := hsmall.2.1; omega) fun h22 F22 N22 => ?_
      have S22 := sep_set (pre := [(I, oI16)]) (o' := lstO (strValues ts ++ [Value.str (indentS x) t5]) (nl + 1)) S21
      simp only [List.cons_append, List.nil_append] at N22 S22
      have esv : strValues ts ++ [Value.str (indentS x) t5] = strValues (ts ++ [(indentS x, t5)]) := by simp [strValues]
      rw [esv] at N22 S22
      clear N21 S21 F20
      repeat' (first | ((fail_if_success (with_reducible show wpAny _ _ (codeAny _ _ (Code.forLoop _ _ _ _ _) _ _) _ _ _)); (first | (k_unfold; (try dsimp only)) | (k_end; wrow_close) | walk1 | (dsimp only; walk1) | (leave1; walk_say "STEP leave1"; try dsimp only) | fail "no step")))
      try dsimp only
      refine ih (i + 1) (ts ++ [(indentS x, t5)]) (nl + 1) oI16 ps3 (some (Value.ref a1)) _ (by omega) ?_ hI16 (fr_map F22 fun y => ?_) N22 S22 hps3 hg20 ((hos20.trans hos18).trans hos15) (by omega)
      · rw [List.map_append, hts, List.take_succ, hpt]
        simp
      · by_cases e3 : y = Str.ofString "n"
        · subst e3; rfl
        simp only [if_neg e3]
/-- __str__ of a node -/
theorem str_ok {w : World} {tx : Str} (hz : tx.length ≤ 5) {pre : List (Addr × Obj)} {a d cl e : Addr} {t1 t2 t3 : Tok} {nm : Str} {st en n : Nat} {chs : List Value} {ch : PF} (hn : NodesIn tx pre [.ref a] (.cons e nm st en ch .nil)) (hok : PFok tx pre (.cons e nm st en ch .nil)) (hsm : (PF.cons e nm st en ch .nil).small) :
    RunP w 75 [.ref a] [] (40 * (ch.ht + 1) + 10) (400 * (ch.ht + 1) + 60) pre (((PF.cons e nm st en ch .nil).pret tx).headD (Str.ofString "")) := by
  have hp := pretty_ok (w := w) hz _ hn hok hsm
  cases hp with
  | cons hp _ =>
  replace hp := hp [] (.inl rfl)
  obtain ⟨a', d', cl', e', u1, u2, u3, st1, en1, hv, hm, hd⟩ := nodes_at hn (i := 0) rfl
  cases hv
  w_on
  intro A h₀ L m s R tabs hAmb hhd hT F N hSp hgs hdep hun hret
  obtain ⟨A₀, base, outer, env, p, loose, mean, mg, mb, B, X, T, hA, hf, hke, hrw⟩ := hAmb
  obtain ⟨hdl, dp, fr, gd, un⟩ := A
  dsimp only at hA hhd hdep hun
  subst hA hhd
  revert X hrw
  k_fill
  intro X hrw
  clear hrw
  (k_dflt (refine' code_def (binds := [(Str.ofString "self", .ref a)]) ?k1 ?k2 ?k3 ?k4 ?k5 ?kA ?kF ?kK ?k6 ?k7 ?k8 ?k9 ?kB ?_ ?c2 ?c3 ?c4 ?c5; (case kA => exact rfl); (case kF => first | exact rfl | assumption); (case kK => first | exact rfl | assumption); (case k1 => k_asm); (case k2 => k_asm); (case k3 => k_asm); (case k4 => k_asm); (case k5 => k_asm); (case k6 => k_is); (case k7 => k_is); (case k8 => k_room); (case k9 => first | exact BindsTo.of_eq rfl | exact binds_K (by k_in) rfl (by k_is) rfl rfl rfl); (case c5 => decide); (case kB => exact locs rfl); (case c2 => exact rfl); (case c3 => exact rfl); (case c4 => exact rfl); k_whole))
  intro g' L' h' FG' F' N' B' X' T'
  (try dsimp only [List.reverse, List.reverseAux] at F')
  repeat' (first | ((fail_if_success (with_reducible show wpAny _ _ (getMethod _ _ _) _ _ _)); (first | (k_unfold; (try dsimp only)) | (k_end; wrow_close) | walk1 | (dsimp only; walk1) | (leave1; walk_say "STEP leave1"; try dsimp only) | fail "no step")))
  refine n_pretty F' X' N' (List.mem_append_right _ hm) (List.mem_append_right _ hd) ?_
  repeat' (first | ((fail_if_success (with_reducible show wpAny _ _ (call (Value.ref 68) _ _) _ _ _)); (first | (k_unfold; (try dsimp only)) | (k_end; wrow_close) | walk1 | (dsimp only; walk1) | (leave1; walk_say "STEP leave1"; try dsimp only) | fail "no step")))
  refine wpAny_call ?_
  refine hp _ _ _ _ _ _ tabs ⟨_, _, _, _, _, _, _, _, _, by k_asm, by k_asm, by k_asm, rfl, rfl, rfl, rfl⟩ rfl hT F' N' hSp hgs ?_ ?_ fun c1 P1 oc ps s' t hc htr hsame F1 N1 S1 hg1 ho1 => ?_
  · show _ + 40 * (max (ch.ht + 1) 0) ≤ 600
    have e : PF.nil.ht = 0 := rfl
    (try simp only [depth_mark, depth_under_make, depth_under_kw, depth_in1, depth_deeper, depth_caller, Nat.max_zero]); omega
  · show _ + 400 * (max (ch.ht + 1) 0) ≤ 9000
    (try simp only [units_in1, units_deeper, Around.mark_units, units_caller, Nat.max_zero]); omega
  try dsimp only
  clear F' N'
  repeat' (first | ((fail_if_success (with_reducible show wpAny _ _ (exec (PySem.Stmt.Pass _) _) _ _ _)); (first | (k_unfold; (try dsimp only)) | (k_end; wrow_close) | walk1 | (dsimp only; walk1) | (leave1; walk_say "STEP leave1"; try dsimp only) | fail "no step")))
  exact hret c1 P1 oc ps s' t hc htr hsame (by assumption) (by assumption) S1 hg1 ho1
-- ListN
/-- a list of the ledger's head is turned -/
theorem upd_list {h₀ h : Heap} {L S : Addr} {m : Str → Option Value} {xs : List Value} {k : Nat} {news : List (Addr × Obj)} (F : Fr h₀ L h m) (N : News h₀ L h ((S, lstO xs k) :: news)) (lS : ∀ p ∈ news, p.1 ≠ S) (f : Array Value → Array Value) :
    Fr h₀ L (h.update S (Obj.mapSeq f)) m ∧ ∃ k', News h₀ L (h.update S (Obj.mapSeq f)) ((S, lstO (f xs.toArray).toList k') :: news) := by
  have z := N _ (.head _)
  refine ⟨F.change (Heap.SameBut.update ..) z.2.1 z.2.2, if (f xs.toArray).size == xs.toArray.size then k else k + 1, fun p hp => ?_⟩
  rcases List.mem_cons.mp hp with rfl | hp
  · refine ⟨(Heap.get?_update_self (Obj.mapSeq f) z.1 rfl).trans ?_, z.2⟩
    simp only [Array.toArray_toList]
    rfl
  · have y := N _ (.tail _ hp)
    exact ⟨(Heap.get?_update_other _ _ (Ne.symm (lS p hp))).trans y.1, y.2⟩
/-- a list's hint: an own object that tells nothing -/
theorem hint_none {M : Model} {K : Frag} {A : Around} {E : Value → Shared → Prop} {s : Shared} {x C L : Addr} {ox od : Obj} {h₀ : Heap} {m : Str → Option Value} {Q : Bool → Shared → Prop} (F : Fr h₀ L s.heap m) (X₀ : K.In h₀) (I : InstAt s.heap x ox C od)
    (h1 : findIn K (.ref C) "__len__" = some none) (h2 : findIn K (.ref C) "__length_hint__" = some none) (h : Q true s) : wpAny M A (Builtin.List.listLengthHint (.ref x)) Q E s := by
  have X := X₀.keeps F.keep
  unfold Builtin.List.listLengthHint
  refine wpAny_bind (wpAny_bind (I.type.here ((looks_findIn X h1).here ?_)))
  refine wpAny_ite_split (fun hab => absurd hab (by decide)) (fun _ => ?_)
  refine wpAny_ite_split (fun hab => absurd hab (by decide)) (fun _ => ?_)
  refine wpAny_bind (wpAny_bind (I.type.here ((looks_findIn X h2).here ?_)))
  exact wpAny_pure h
/-- list(x) of an own object whose __iter__ gives an iterator of a list -/
theorem m_listN {prog : Program} {w : World} {K : Frag} {A : Around} {E : Value → Shared → Prop} {s : Shared} {x C L l : Addr} {ox od : Obj} {h₀ : Heap} {m : Str → Option Value} {news : List (Addr × Obj)} {its : List Value} {n : Nat} {Q : Value → Shared → Prop} (hh : A.handled = none) (F : Fr h₀ L s.heap m) (X₀ : K.In h₀) (N : News h₀ L s.heap news)
    (I : ∀ h', Fr h₀ L h' m → News h₀ L h' news → InstAt h' x ox C od) (h1 : findIn K (.ref C) "__len__" = some none) (h2 : findIn K (.ref C) "__length_hint__" = some none) (hx : @LT.lt Nat _ x s.heap.objs.size) (hl : (l, lstO its n) ∈ news) (hz : its.length ≤ 16777216)
    (hit : ∀ (S : Addr) (oS : Obj) (h' : Heap) (tk : Nat) (Q' : Value → Shared → Prop) (E' : Value → Shared → Prop), Fr h₀ L h' m → News h₀ L h' ((S, oS) :: news) → (∀ p ∈ news, p.1 < S) →
      (∀ I h2 tk2, Fr h₀ L h2 m → News h₀ L h2 ((I, itO l 0) :: (S, oS) :: news) → (∀ p ∈ (S, oS) :: news, p.1 < I) → Q' (.ref I) { s with heap := h2, toks := tk2 }) → wpAny (model prog w) A.in1.in1 (pyIter (.ref x)) Q' E' { s with heap := h', toks := tk })
    (h : ∀ D h' tk' k, Fr h₀ L h' m → News h₀ L h' ((D, lstO its k) :: news) → (∀ p ∈ news, p.1 < D) → Q (.ref D) { s with heap := h', toks := tk' }) : wpAny (model prog w) A (call (.type "list") [.ref x]) Q E s := by
  refine callType_codes (Q₁ := fun obj s₁ => obj = .ref s.heap.objs.size ∧ s₁ = { s with heap := s.heap.push { cls := .type "list", data := .seq #[] } }) PySem.F.called_list (PySem.F.typeCall_list_1 _) PySem.F.entry_list_init
    (code_list_new _ ⟨rfl, rfl⟩) fun obj s₁ h₁ => ?_
  obtain ⟨rfl, rfl⟩ := h₁
  have hS : (s.heap.push { cls := .type "list", data := .seq #[] }).get? s.heap.objs.size = some { cls := .type "list", data := .seq #[] } := Heap.get?_push_size _ rfl
  have F1 := F.push (lstO [] 0)
  have N1 := News.push F N (lstO [] 0) rfl
  have lS : ∀ p ∈ news, p.1 < s.heap.objs.size := fun q hq => Heap.lt_size (N q hq).1
  refine ⟨⟨_, hS, rfl⟩, PySem.F.args_list_init_2 _ _, ?_⟩
  show wpAny _ _ (do let old ← Builtin.List.listItems (.ref s.heap.objs.size); Builtin.List.listUpdate (.ref s.heap.objs.size) (fun _ => #[]); letGo old.toList.reverse; Builtin.List.listExtendWith (.ref s.heap.objs.size) (.ref x) .none) _ _ _
  refine wpAny_bind ?_
  unfold Builtin.List.listItems
  refine wpAny_bind (wpAny_seqItems hS rfl (wpAny_pure ?_))
  generalize hSa : s.heap.objs.size = S at *
  show wpAny _ _ (updateSeq S (fun _ => #[]) >>= fun _ => letGo (#[] : Array Value).toList.reverse >>= fun _ => Builtin.List.listExtendWith (.ref S) (.ref x) .none) _ _ _
  refine wpAny_bind (wpAny_updateSeq hS rfl ?_)
  refine wpAny_bind (wpAny_letGo ?_)
  have S0 : ∀ p ∈ news, p.1 ≠ S := fun p hp => Nat.ne_of_lt (lS p hp)
  obtain ⟨F2, k2, N2⟩ := upd_list F1 N1 S0 fun _ => #[]
  dsimp only at F2 N2 ⊢
  generalize hH2 : (s.heap.push { cls := Value.type "list", data := Data.seq #[] }).update S (Obj.mapSeq fun _ => #[]) = H2
  replace hH2 : (s.heap.push (lstO [] 0)).update S (Obj.mapSeq fun _ => #[]) = H2 := hH2
  rw [hH2] at F2 N2
  clear hH2 hS F1 N1
  unfold Builtin.List.listExtendWith
  have I2 := I H2 F2 (newsSub N2 fun p hp => .tail _ hp)
  refine wpAny_bind (I2.type.here ?_)
  have hxS : S ≠ x := Nat.ne_of_gt hx
  have h3 : Builtin.List.listSameRef (.ref S) (.ref x) = false := by simp [Builtin.List.listSameRef, hxS]
  have h4 : (Value.ref C == Value.type "list") = false := rfl
  have h5 : (Value.ref C == Value.type "tuple") = false := rfl
  simp only [h3, h4, h5, Bool.or_false, Bool.false_eq_true, if_false]
  refine wpAny_bind (hit S _ H2 s.toks _ _ F2 N2 lS fun I' h2' tk2 F3 N3 lI => ?_)
  have I3 := I h2' F3 (newsSub N3 fun p hp => .tail _ (.tail _ hp))
  refine wpAny_bind (wpAny_holding (hint_none F3 X₀ I3 h1 h2 ?_))
  refine wpAny_ite_split (fun _ => ?_) (fun hab => absurd (by rfl) hab)
  refine wpAny_bind (wpAny_rule ?_)
  refine wpAny_bind ?_
  have hSI : S ≠ I' := Nat.ne_of_lt (lI _ (.head _))
  have hSl : S ≠ l := Nat.ne_of_gt (lS _ hl)
  show wpAny _ _ (updateSeq S (·.push .none) >>= fun _ => updateSeq S (·.pop)) _ _ _
  have N3' : News h₀ L h2' ((S, lstO [] k2) :: (I', itO l 0) :: news) := newsSub N3 fun p hp => by
    rcases List.mem_cons.mp hp with h | hp
    · exact .tail _ (List.mem_cons.mpr (.inl h))
    · rcases List.mem_cons.mp hp with h | hp
      · exact List.mem_cons.mpr (.inl h)
      · exact .tail _ (.tail _ hp)
  have S1 : ∀ p ∈ (I', itO l 0) :: news, p.1 ≠ S := fun p hp => by
    rcases List.mem_cons.mp hp with rfl | hp
    · exact Ne.symm hSI
    · exact S0 p hp
  obtain ⟨F4, k4, N4⟩ := upd_list F3 N3' S1 (·.push .none)
  obtain ⟨F5, k5, N5⟩ := upd_list F4 N4 S1 (·.pop)
  refine wpAny_bind (wpAny_updateSeq (xs := #[]) (N3' _ (.head _)).1 rfl ?_)
  refine wpAny_updateSeq (hz := by seq_fits) (N4 _ (.head _)).1 rfl ?_
  generalize hH5 : (h2'.update S (Obj.mapSeq (·.push Value.none))).update S (Obj.mapSeq (·.pop)) = H5 at F5 N5
  dsimp only
  refine wpAny_pure ⟨plainId_quiet PySem.F.plain_extend_loop _, ?_⟩
  have g5 : H5.get? S = some { cls := .type "list", dict := none, data := .seq #[] k5, slots := #[] } := (N5 _ (.head _)).1
  have lI5 : l ≠ I' := Nat.ne_of_lt (lI _ (.tail _ hl))
  refine codeAny_extend_loopS (Walks.list (prog := prog) (w := w) (A := A.in1.in1) hh I' l lI5 its.toArray).toS (by rw [sizeLine_eq, List.size_toArray]; exact hz) S (by simp [hSI, hSl]) .none _ 0 _ #[] k5 rfl (Nat.zero_le _) ?_ g5 (ItemsOf.nil _) fun s' acc' c' hm hS' hacc => ?_
  · exact ⟨⟨_, (N5 _ (.tail _ (.head _))).1, rfl, rfl⟩, ⟨_, (N5 _ (.tail _ (.tail _ hl))).1, rfl, _, rfl⟩⟩
  have eacc : acc' = its.toArray := by
    apply Array.ext'
    refine List.ext_getElem? fun j => ?_
    rw [Array.getElem?_toList]
    cases hj : acc'[j]? with
    | none =>
      have := Array.getElem?_eq_none_iff.mp hj
      rw [hacc.1] at this
      exact (List.getElem?_eq_none (by simpa using this)).symm
    | some v => exact (by simpa using hacc.2 j v hj : its[j]? = some v).symm
  subst eacc
  rw [Moved.eq_with hm]
  refine ⟨rfl, h S s'.heap s'.toks c' ?_ ?_ lS⟩
  · refine ⟨F5.ns.at fun o e => hm.heap L o ?_ e, fun b o e => hm.heap b o ?_ (F5.keep b o e), F5.above⟩
    · simp only [List.mem_cons, List.not_mem_nil, or_false, not_or]
      exact ⟨Ne.symm (N5 _ (.head _)).2.1, Ne.symm (N5 _ (.tail _ (.head _))).2.1⟩
    · simp only [List.mem_cons, List.not_mem_nil, or_false, not_or]
      refine ⟨fun q => ?_, fun q => ?_⟩
      · have := (N5 _ (.head _)).2.2; rw [← q, e] at this; cases this
      · have := (N5 _ (.tail _ (.head _))).2.2; rw [← q, e] at this; cases this
  · intro p hp
    rcases List.mem_cons.mp hp with rfl | hp
    · exact ⟨hS', (N5 _ (.head _)).2⟩
    · refine ⟨hm.heap _ _ ?_ (N5 _ (.tail _ (.tail _ hp))).1, (N5 _ (.tail _ (.tail _ hp))).2⟩
      simp only [List.mem_cons, List.not_mem_nil, or_false, not_or]
      exact ⟨S0 p hp, Nat.ne_of_lt (lI p (.tail _ hp))⟩
-- IsIn
theorem isin_yes {w : World} {C : Addr} (hC : C = 336 ∨ C = 394 ∨ C = 420 ∨ C = 504) : isIn (Mine.hd.heap_39 w.params) (.ref C) C = true := by
  rcases hC with rfl | rfl | rfl | rfl <;> kernel_rfl
theorem isin_not {w : World} {k : EK} {C : Addr} (hC : C = 336 ∨ C = 394 ∨ C = 420 ∨ C = 504) (hn : k.cls.1 ≠ C) : kin_not (Mine.hd.heap_39 w.params) k.cls.1 C = true := by
  rcases hC with rfl | rfl | rfl | rfl <;> cases k <;> first | exact absurd rfl hn | kernel_rfl
theorem isin_find {w : World} (k : EK) : findIn (Mine.hd.heap_39 w.params) (.ref k.cls.1) "__class__" = some (some (.builtin "object.__class__")) := by cases k <;> kernel_rfl
theorem isin_mro {w : World} (k : EK) : mroIn (Mine.hd.heap_39 w.params) k.cls.1 (.type "object") = some true := by cases k <;> kernel_rfl
/-- isinstance of an expression -/
theorem e_is {w : World} {A : Around} {E : Value → Shared → Prop} {s : Shared} {x d mt L C : Addr} {k : EK} {nm : Str} {o : Obj} {h₀ : Heap} {m : Str → Option Value} {news : List (Addr × Obj)} {Q : Value → Shared → Prop} {od : Obj} (F : Fr h₀ L s.heap m) (X₀ : (Mine.hd.heap_39 w.params).In h₀) (N : News h₀ L s.heap news) (e : k.Is d mt nm o) (hx : (x, o) ∈ news) (hd : (d, od) ∈ news)
    (hC : C = 336 ∨ C = 394 ∨ C = 420 ∨ C = 504) (b : Bool) (hb : b = decide (k.cls.1 = C)) (h : ∀ tk, Q (.bool b) { s with toks := tk }) : wpAny (model PG w) A (call (.builtin "isinstance") [.ref x, .ref C]) Q E s := by
  have X := X₀.keeps F.keep
  subst hb
  by_cases hq : k.cls.1 = C
  · have I := e.inst N hx hd
    rw [decide_eq_true hq] at h
    subst hq
    exact isi_call X (fun M => I.type) (isin_yes hC) (by intro e; cases e) (h _)
  · rw [decide_eq_false hq] at h
    exact kin_callC X (e.inst N hx hd) (isin_not hC hq) ((ecls_of k).get _) (ecls_of k).dict (isin_find k) (by kernel_rfl) (by kernel_rfl) (isin_mro k) (h _)
-- CompIf
section
variable {prog : Program} {w : World} {A : Around} {E : Value → Shared → Prop} {s : Shared} {L l : Addr} {h₀ : Heap} {m : Str → Option Value} {ctx : List (Addr × Obj)} {its : List Value} {n : Nat} {env : Env}

/-- a comprehension with a test over a list of the ledger; the element leaves nothing behind -/
theorem m_compB {elt iter test : Expr} {x : Str} {px pos : Pos} {scope : Scope} {cl : List (Str × Addr)} {Q : Value → Shared → Prop} {T : Nat → Prop} {H : A.handled = none}
    (hclos : closureFor scope env = pure cl) (hcell : ∀ y ∈ scope.names, y.2 ≠ .cell) (hkind : scope.kind = .function)
    (hnames : ∀ y ∈ scope.names, y.2 = .local → scope.names.lookup y.1 = some .local) (hx : scope.names.lookup x = some .local) (hz : its.length ≤ sizeLine)
    (hit : wpAny (model prog w) A (eval iter env) (fun xv s₁ => wpAny (model prog w) A (pyIter xv) (fun it s₂ => ∃ I oI, it = .ref I ∧ IsIt oI l 0 ∧ Fr h₀ L s₂.heap m ∧ News h₀ L s₂.heap ((I, oI) :: ctx) ∧ (∀ p ∈ ctx, p.1 < I) ∧ (l, lstO its n) ∈ ctx ∧
      ∀ D h' tk' ys k, Fr h₀ L h' m → News h₀ L h' ((D, lstO ys k) :: ctx) → (∀ p ∈ ctx, p.1 < D) → (ys = [] ↔ ∀ i, i < its.length → ¬ T i) → Q (.ref D) { s₂ with heap := h', toks := tk' }) E s₁) E s)
    (step : ∀ (s' : Shared) i v C oC D oD I oI m1 (E' : Value → Shared → Prop), its[i]? = some v → Fr h₀ L s'.heap m → News h₀ L s'.heap ((C, oC) :: (D, oD) :: (I, oI) :: ctx) → LCg.NsObj oC m1 → m1 x = some v → (∀ p ∈ ctx, p.1 < I) → I < D → D < C →
      wpAny (model prog w) A (isTrue test (compEnvC scope cl C env) (eval test (compEnvC scope cl C env))) (fun ok s'' => ∃ h' tk', s'' = { s' with heap := h', toks := tk' } ∧ Fr h₀ L h' m ∧ News h₀ L h' ((C, oC) :: (D, oD) :: (I, oI) :: ctx) ∧ (ok = true ↔ T i) ∧
        (ok = true → wpAny (model prog w) A (eval elt (compEnvC scope cl C env)) (fun _ s3 => ∃ h3 tk3, s3 = { s' with heap := h3, toks := tk3 } ∧ Fr h₀ L h3 m ∧ News h₀ L h3 ((C, oC) :: (D, oD) :: (I, oI) :: ctx)) E' s'')) E' s')
    (hs : ∀ x, foldedSetIterable iter env x = pure x := by intro _; rfl) :
    wpAny (model prog w) A (eval (.ListComp elt [⟨.Name x px, iter, [test], 0⟩] scope pos) env) Q E s := by
  have hh := H
  refine m_comp (h₀ := h₀) (L := L) hclos hcell hkind hnames (wpAny_mono hit (fun xv s₁ h₁ => wpAny_mono h₁ (fun it s₂ h₂ => ?_) fun _ _ e => e) fun _ _ e => e) hs
  obtain ⟨I, oI, rfl, hI, F, N, hlt, hl, fin⟩ := h₂
  refine ⟨I, oI, l, 0, m, (I, oI) :: ctx, rfl, Or.inl hI, F, N, .head _, fun C oC D h' tk' F1 N1 rC hD hC => ?_⟩
  have hID : I < D := hD _ (.head _)
  have loop : ∀ (k i : Nat) (oC oI : Obj) (ys : List Value) (q : Nat) (m1 : Str → Option Value) (h' : Heap) (tk' : Nat), k + i = its.length → Fr h₀ L h' m → News h₀ L h' ((C, oC) :: (D, lstO ys q) :: (I, oI) :: ctx) → LCg.NsObj oC m1 → IsIt oI l i → ys.length ≤ i → (ys = [] ↔ ∀ j, j < i → ¬ T j) →
      codeAny (model prog w) A (.compLoop (.ListComp elt [⟨.Name x px, iter, [test], 0⟩] scope pos) 0 (.ref I) (.ref D) (compEnvC scope cl C env)) (compPost (model prog w) A E none Q (.ref D) C) { s₂ with heap := h', toks := tk' } := by
    intro k
    induction k with
    | zero =>
      intro i oC oI ys q m1 h' tk' hk F N rC hI hy hP
      refine comp_turn ?_
      refine m_next_end (l := l) (i := i) (its := its) (n := n) (rest := (C, oC) :: (D, lstO ys q) :: ctx) hh F N (by simp [hl]) (by omega) hI (by simp) ?sub ?off fun h2 F2 N2 => ?_
      case sub =>
        intro p hp
        rcases List.mem_cons.mp hp with rfl | hp
        · exact .head _
        · rcases List.mem_cons.mp hp with rfl | hp
          · exact .tail _ (.head _)
          · exact .tail _ (.tail _ (.tail _ hp))
      case off =>
        intro p hp
        simp only [List.mem_cons] at hp
        rcases hp with rfl | rfl | hp
        · exact Nat.ne_of_gt (Nat.lt_trans hID hC)
        · exact Nat.ne_of_gt hID
        · exact Nat.ne_of_lt (hlt p hp)
      · have hii : i = its.length := by omega
        subst hii
        refine comp_end (rest := (D, lstO ys q) :: ctx) F2 N2 (.head _) rC (fun p hp => .tail _ hp) ?_ fun h3 F3 N3 => fin _ _ _ _ _ F3 N3 (fun p hp => Nat.lt_trans (hlt p hp) hID) hP
        intro p hp
        rcases List.mem_cons.mp hp with rfl | hp
        · exact Nat.ne_of_lt hC
        · exact Nat.ne_of_lt (Nat.lt_trans (hlt p hp) (Nat.lt_trans hID hC))
    | succ k ih =>
      intro i oC oI ys q m1 h' tk' hk F N rC hI hy hP
      obtain ⟨v, hv⟩ : ∃ v, its[i]? = some v := ⟨its[i]'(by omega), List.getElem?_eq_getElem (by omega)⟩
      refine comp_turn ?_
      have nCD : (D, lstO ys q).1 ≠ C := Nat.ne_of_lt hC
      refine m_next_item (l := l) (i := i) (its := its) (n := n) F N (by simp [hl]) hv hI (.tail (Nat.ne_of_gt (Nat.lt_trans hID hC)) (.tail (Nat.ne_of_gt hID) (.head fun p hp => Nat.ne_of_lt (hlt p hp)))) fun h2 oI2 F2 N2 hI2 => ?_
      refine wpAny_of_eq (a := ()) (by rfl) ?_
      refine comp_store (C := C) F2 N2 (.head ?_) rC hx hkind fun h3 oC3 F3 N3 rC3 => ?_
      · intro p hp
        simp only [List.mem_cons] at hp
        rcases hp with rfl | rfl | hp
        · exact Nat.ne_of_lt hC
        · exact Nat.ne_of_lt (Nat.lt_trans hID hC)
        · exact Nat.ne_of_lt (Nat.lt_trans (hlt p hp) (Nat.lt_trans hID hC))
      refine wpAny_tests_one ?_
      refine wpAny_mono (step _ i v C oC3 D (lstO ys q) I oI2 _ _ hv F3 N3 rC3 (by simp) hlt hID hC) (fun ok s4 h4 => ?_) fun _ _ e => e
      obtain ⟨h4, tk4, rfl, F4, N4, hT4, hel⟩ := h4
      cases ok with
      | false =>
        refine ih (i + 1) _ _ _ _ _ h4 tk4 (by omega) F4 N4 rC3 hI2 (by omega) (hP.trans ⟨fun z j hj => ?_, fun z j hj => z j (by omega)⟩)
        rcases Nat.lt_or_ge j i with hj' | hj'
        · exact z j hj'
        · have : j = i := by omega
          subst this
          exact fun y => Bool.false_ne_true (hT4.mpr y)
      | true =>
        rw [if_pos rfl]
        refine wpAny_mono (hel rfl) (fun y s5 h5 => ?_) fun _ _ e => e
        obtain ⟨h5, tk5, rfl, F5, N5⟩ := h5
        refine m_append F5 N5 (.tail (Nat.ne_of_gt hC) (.head ?_)) (by omega) fun h6 F6 N6 => ?_
        · intro p hp
          rcases List.mem_cons.mp hp with rfl | hp
          · exact Nat.ne_of_lt hID
          · exact Nat.ne_of_lt (Nat.lt_trans (hlt p hp) hID)
        refine ih (i + 1) _ _ _ _ _ h6 tk5 (by omega) F6 N6 rC3 hI2 (by simp; omega) ⟨fun z => absurd z (by simp), fun z => absurd (hT4.mp rfl) (z i (by omega))⟩
  exact loop its.length 0 oC oI [] 0 _ h' tk' rfl F1 N1 rC hI (by simp) ⟨fun _ j hj => absurd hj (Nat.not_lt_zero _), fun _ => rfl⟩
/-- a comprehension with a test over a new list of the ledger; the element leaves nothing behind -/
theorem m_compBX {elt iter test : Expr} {x : Str} {px pos : Pos} {scope : Scope} {cl : List (Str × Addr)} {Q : Value → Shared → Prop} {T : Nat → Prop} {H : A.handled = none}
    (hclos : closureFor scope env = pure cl) (hcell : ∀ y ∈ scope.names, y.2 ≠ .cell) (hkind : scope.kind = .function)
    (hnames : ∀ y ∈ scope.names, y.2 = .local → scope.names.lookup y.1 = some .local) (hx : scope.names.lookup x = some .local) (hz : its.length ≤ sizeLine)
    (hit : wpAny (model prog w) A (eval iter env) (fun xv s₁ => wpAny (model prog w) A (pyIter xv) (fun it s₂ => ∃ l n ctx I oI, it = .ref I ∧ IsIt oI l 0 ∧ Fr h₀ L s₂.heap m ∧ News h₀ L s₂.heap ((I, oI) :: ctx) ∧ (∀ p ∈ ctx, p.1 < I) ∧ (l, lstO its n) ∈ ctx ∧
      (∀ (s' : Shared) i v C oC D oD I oI m1 (E' : Value → Shared → Prop), its[i]? = some v → Fr h₀ L s'.heap m → News h₀ L s'.heap ((C, oC) :: (D, oD) :: (I, oI) :: ctx) → LCg.NsObj oC m1 → m1 x = some v → (∀ p ∈ ctx, p.1 < I) → I < D → D < C →
      wpAny (model prog w) A (isTrue test (compEnvC scope cl C env) (eval test (compEnvC scope cl C env))) (fun ok s'' => ∃ h' tk', s'' = { s' with heap := h', toks := tk' } ∧ Fr h₀ L h' m ∧ News h₀ L h' ((C, oC) :: (D, oD) :: (I, oI) :: ctx) ∧ (ok = true ↔ T i) ∧
        (ok = true → wpAny (model prog w) A (eval elt (compEnvC scope cl C env)) (fun _ s3 => ∃ h3 tk3, s3 = { s' with heap := h3, toks := tk3 } ∧ Fr h₀ L h3 m ∧ News h₀ L h3 ((C, oC) :: (D, oD) :: (I, oI) :: ctx)) E' s'')) E' s') ∧
      ∀ D h' tk' ys k, Fr h₀ L h' m → News h₀ L h' ((D, lstO ys k) :: ctx) → (∀ p ∈ ctx, p.1 < D) → (ys = [] ↔ ∀ i, i < its.length → ¬ T i) → Q (.ref D) { s₂ with heap := h', toks := tk' }) E s₁) E s)
    (hs : ∀ x, foldedSetIterable iter env x = pure x := by intro _; rfl) :
    wpAny (model prog w) A (eval (.ListComp elt [⟨.Name x px, iter, [test], 0⟩] scope pos) env) Q E s := by
  have hh := H
  refine m_comp (h₀ := h₀) (L := L) hclos hcell hkind hnames (wpAny_mono hit (fun xv s₁ h₁ => wpAny_mono h₁ (fun it s₂ h₂ => ?_) fun _ _ e => e) fun _ _ e => e) hs
  obtain ⟨l, n, ctx, I, oI, rfl, hI, F, N, hlt, hl, step, fin⟩ := h₂
  refine ⟨I, oI, l, 0, m, (I, oI) :: ctx, rfl, Or.inl hI, F, N, .head _, fun C oC D h' tk' F1 N1 rC hD hC => ?_⟩
  have hID : I < D := hD _ (.head _)
  have loop : ∀ (k i : Nat) (oC oI : Obj) (ys : List Value) (q : Nat) (m1 : Str → Option Value) (h' : Heap) (tk' : Nat), k + i = its.length → Fr h₀ L h' m → News h₀ L h' ((C, oC) :: (D, lstO ys q) :: (I, oI) :: ctx) → LCg.NsObj oC m1 → IsIt oI l i → ys.length ≤ i → (ys = [] ↔ ∀ j, j < i → ¬ T j) →
      codeAny (model prog w) A (.compLoop (.ListComp elt [⟨.Name x px, iter, [test], 0⟩] scope pos) 0 (.ref I) (.ref D) (compEnvC scope cl C env)) (compPost (model prog w) A E none Q (.ref D) C) { s₂ with heap := h', toks := tk' } := by
    intro k
    induction k with
    | zero =>
      intro i oC oI ys q m1 h' tk' hk F N rC hI hy hP
      refine comp_turn ?_
      refine m_next_end (l := l) (i := i) (its := its) (n := n) (rest := (C, oC) :: (D, lstO ys q) :: ctx) hh F N (by simp [hl]) (by omega) hI (by simp) ?sub ?off fun h2 F2 N2 => ?_
      case sub =>
        intro p hp
        rcases List.mem_cons.mp hp with rfl | hp
        · exact .head _
        · rcases List.mem_cons.mp hp with rfl | hp
          · exact .tail _ (.head _)
          · exact .tail _ (.tail _ (.tail _ hp))
      case off =>
        intro p hp
        simp only [List.mem_cons] at hp
        rcases hp with rfl | rfl | hp
        · exact Nat.ne_of_gt (Nat.lt_trans hID hC)
        · exact Nat.ne_of_gt hID
        · exact Nat.ne_of_lt (hlt p hp)
      · have hii : i = its.length := by omega
        subst hii
        refine comp_end (rest := (D, lstO ys q) :: ctx) F2 N2 (.head _) rC (fun p hp => .tail _ hp) ?_ fun h3 F3 N3 => fin _ _ _ _ _ F3 N3 (fun p hp => Nat.lt_trans (hlt p hp) hID) hP
        intro p hp
        rcases List.mem_cons.mp hp with rfl | hp
        · exact Nat.ne_of_lt hC
        · exact Nat.ne_of_lt (Nat.lt_trans (hlt p hp) (Nat.lt_trans hID hC))
    | succ k ih =>
      intro i oC oI ys q m1 h' tk' hk F N rC hI hy hP
      obtain ⟨v, hv⟩ : ∃ v, its[i]? = some v := ⟨its[i]'(by omega), List.getElem?_eq_getElem (by omega)⟩
      refine comp_turn ?_
      have nCD : (D, lstO ys q).1 ≠ C := Nat.ne_of_lt hC
      refine m_next_item (l := l) (i := i) (its := its) (n := n) F N (by simp [hl]) hv hI (.tail (Nat.ne_of_gt (Nat.lt_trans hID hC)) (.tail (Nat.ne_of_gt hID) (.head fun p hp => Nat.ne_of_lt (hlt p hp)))) fun h2 oI2 F2 N2 hI2 => ?_
      refine wpAny_of_eq (a := ()) (by rfl) ?_
      refine comp_store (C := C) F2 N2 (.head ?_) rC hx hkind fun h3 oC3 F3 N3 rC3 => ?_
      · intro p hp
        simp only [List.mem_cons] at hp
        rcases hp with rfl | rfl | hp
        · exact Nat.ne_of_lt hC
        · exact Nat.ne_of_lt (Nat.lt_trans hID hC)
        · exact Nat.ne_of_lt (Nat.lt_trans (hlt p hp) (Nat.lt_trans hID hC))
      refine wpAny_tests_one ?_
      refine wpAny_mono (step _ i v C oC3 D (lstO ys q) I oI2 _ _ hv F3 N3 rC3 (by simp) hlt hID hC) (fun ok s4 h4 => ?_) fun _ _ e => e
      obtain ⟨h4, tk4, rfl, F4, N4, hT4, hel⟩ := h4
      cases ok with
      | false =>
        refine ih (i + 1) _ _ _ _ _ h4 tk4 (by omega) F4 N4 rC3 hI2 (by omega) (hP.trans ⟨fun z j hj => ?_, fun z j hj => z j (by omega)⟩)
        rcases Nat.lt_or_ge j i with hj' | hj'
        · exact z j hj'
        · have : j = i := by omega
          subst this
          exact fun y => Bool.false_ne_true (hT4.mpr y)
      | true =>
        rw [if_pos rfl]
        refine wpAny_mono (hel rfl) (fun y s5 h5 => ?_) fun _ _ e => e
        obtain ⟨h5, tk5, rfl, F5, N5⟩ := h5
        refine m_append F5 N5 (.tail (Nat.ne_of_gt hC) (.head ?_)) (by omega) fun h6 F6 N6 => ?_
        · intro p hp
          rcases List.mem_cons.mp hp with rfl | hp
          · exact Nat.ne_of_lt hID
          · exact Nat.ne_of_lt (Nat.lt_trans (hlt p hp) hID)
        refine ih (i + 1) _ _ _ _ _ h6 tk5 (by omega) F6 N6 rC3 hI2 (by simp; omega) ⟨fun z => absurd z (by simp), fun z => absurd (hT4.mp rfl) (z i (by omega))⟩
  exact loop its.length 0 oC oI [] 0 _ h' tk' rfl F1 N1 rC hI (by simp) ⟨fun _ j hj => absurd hj (Nat.not_lt_zero _), fun _ => rfl⟩
/-- a comprehension with a test over a tuple of the ledger; the element leaves nothing behind -/
theorem m_compBT {elt iter test : Expr} {x : Str} {px pos : Pos} {scope : Scope} {cl : List (Str × Addr)} {Q : Value → Shared → Prop} {T : Nat → Prop} {H : A.handled = none}
    (hclos : closureFor scope env = pure cl) (hcell : ∀ y ∈ scope.names, y.2 ≠ .cell) (hkind : scope.kind = .function)
    (hnames : ∀ y ∈ scope.names, y.2 = .local → scope.names.lookup y.1 = some .local) (hx : scope.names.lookup x = some .local) (hz : its.length ≤ sizeLine)
    (hit : wpAny (model prog w) A (eval iter env) (fun xv s₁ => wpAny (model prog w) A (pyIter xv) (fun it s₂ => ∃ I oI, it = .ref I ∧ IsTit oI l 0 ∧ Fr h₀ L s₂.heap m ∧ News h₀ L s₂.heap ((I, oI) :: ctx) ∧ (∀ p ∈ ctx, p.1 < I) ∧ (l, tupO its n) ∈ ctx ∧
      ∀ D h' tk' ys k, Fr h₀ L h' m → News h₀ L h' ((D, lstO ys k) :: ctx) → (∀ p ∈ ctx, p.1 < D) → (ys = [] ↔ ∀ i, i < its.length → ¬ T i) → Q (.ref D) { s₂ with heap := h', toks := tk' }) E s₁) E s)
    (step : ∀ (s' : Shared) i v C oC D oD I oI m1 (E' : Value → Shared → Prop), its[i]? = some v → Fr h₀ L s'.heap m → News h₀ L s'.heap ((C, oC) :: (D, oD) :: (I, oI) :: ctx) → LCg.NsObj oC m1 → m1 x = some v → (∀ p ∈ ctx, p.1 < I) → I < D → D < C →
      wpAny (model prog w) A (isTrue test (compEnvC scope cl C env) (eval test (compEnvC scope cl C env))) (fun ok s'' => ∃ h' tk', s'' = { s' with heap := h', toks := tk' } ∧ Fr h₀ L h' m ∧ News h₀ L h' ((C, oC) :: (D, oD) :: (I, oI) :: ctx) ∧ (ok = true ↔ T i) ∧
        (ok = true → wpAny (model prog w) A (eval elt (compEnvC scope cl C env)) (fun _ s3 => ∃ h3 tk3, s3 = { s' with heap := h3, toks := tk3 } ∧ Fr h₀ L h3 m ∧ News h₀ L h3 ((C, oC) :: (D, oD) :: (I, oI) :: ctx)) E' s'')) E' s')
    (hs : ∀ x, foldedSetIterable iter env x = pure x := by intro _; rfl) :
    wpAny (model prog w) A (eval (.ListComp elt [⟨.Name x px, iter, [test], 0⟩] scope pos) env) Q E s := by
  have hh := H
  refine m_comp (h₀ := h₀) (L := L) hclos hcell hkind hnames (wpAny_mono hit (fun xv s₁ h₁ => wpAny_mono h₁ (fun it s₂ h₂ => ?_) fun _ _ e => e) fun _ _ e => e) hs
  obtain ⟨I, oI, rfl, hI, F, N, hlt, hl, fin⟩ := h₂
  refine ⟨I, oI, l, 0, m, (I, oI) :: ctx, rfl, Or.inr hI, F, N, .head _, fun C oC D h' tk' F1 N1 rC hD hC => ?_⟩
  have hID : I < D := hD _ (.head _)
  have loop : ∀ (k i : Nat) (oC oI : Obj) (ys : List Value) (q : Nat) (m1 : Str → Option Value) (h' : Heap) (tk' : Nat), k + i = its.length → Fr h₀ L h' m → News h₀ L h' ((C, oC) :: (D, lstO ys q) :: (I, oI) :: ctx) → LCg.NsObj oC m1 → IsTit oI l i → ys.length ≤ i → (ys = [] ↔ ∀ j, j < i → ¬ T j) →
      codeAny (model prog w) A (.compLoop (.ListComp elt [⟨.Name x px, iter, [test], 0⟩] scope pos) 0 (.ref I) (.ref D) (compEnvC scope cl C env)) (compPost (model prog w) A E none Q (.ref D) C) { s₂ with heap := h', toks := tk' } := by
    intro k
    induction k with
    | zero =>
      intro i oC oI ys q m1 h' tk' hk F N rC hI hy hP
      refine comp_turn ?_
      refine m_tnext_end (l := l) (i := i) (its := its) (n := n) (rest := (C, oC) :: (D, lstO ys q) :: ctx) (.inl hh) (fun a ha => by rw [hh] at ha; cases ha) F N (by simp [hl]) (by omega) hI (by simp) ?sub ?off fun h2 F2 N2 => ?_
      case sub =>
        intro p hp
        rcases List.mem_cons.mp hp with rfl | hp
        · exact .head _
        · rcases List.mem_cons.mp hp with rfl | hp
          · exact .tail _ (.head _)
          · exact .tail _ (.tail _ (.tail _ hp))
      case off =>
        intro p hp
        simp only [List.mem_cons] at hp
        rcases hp with rfl | rfl | hp
        · exact Nat.ne_of_gt (Nat.lt_trans hID hC)
        · exact Nat.ne_of_gt hID
        · exact Nat.ne_of_lt (hlt p hp)
      · have hii : i = its.length := by omega
        subst hii
        refine comp_end (rest := (D, lstO ys q) :: ctx) F2 N2 (.head _) rC (fun p hp => .tail _ hp) ?_ fun h3 F3 N3 => fin _ _ _ _ _ F3 N3 (fun p hp => Nat.lt_trans (hlt p hp) hID) hP
        intro p hp
        rcases List.mem_cons.mp hp with rfl | hp
        · exact Nat.ne_of_lt hC
        · exact Nat.ne_of_lt (Nat.lt_trans (hlt p hp) (Nat.lt_trans hID hC))
    | succ k ih =>
      intro i oC oI ys q m1 h' tk' hk F N rC hI hy hP
      obtain ⟨v, hv⟩ : ∃ v, its[i]? = some v := ⟨its[i]'(by omega), List.getElem?_eq_getElem (by omega)⟩
      refine comp_turn ?_
      have nCD : (D, lstO ys q).1 ≠ C := Nat.ne_of_lt hC
      refine m_tnext_item (l := l) (i := i) (its := its) (n := n) F N (by simp [hl]) hv hI (.tail (Nat.ne_of_gt (Nat.lt_trans hID hC)) (.tail (Nat.ne_of_gt hID) (.head fun p hp => Nat.ne_of_lt (hlt p hp)))) fun h2 oI2 F2 N2 hI2 => ?_
      refine wpAny_of_eq (a := ()) (by rfl) ?_
      refine comp_store (C := C) F2 N2 (.head ?_) rC hx hkind fun h3 oC3 F3 N3 rC3 => ?_
      · intro p hp
        simp only [List.mem_cons] at hp
        rcases hp with rfl | rfl | hp
        · exact Nat.ne_of_lt hC
        · exact Nat.ne_of_lt (Nat.lt_trans hID hC)
        · exact Nat.ne_of_lt (Nat.lt_trans (hlt p hp) (Nat.lt_trans hID hC))
      refine wpAny_tests_one ?_
      refine wpAny_mono (step _ i v C oC3 D (lstO ys q) I oI2 _ _ hv F3 N3 rC3 (by simp) hlt hID hC) (fun ok s4 h4 => ?_) fun _ _ e => e
      obtain ⟨h4, tk4, rfl, F4, N4, hT4, hel⟩ := h4
      cases ok with
      | false =>
        refine ih (i + 1) _ _ _ _ _ h4 tk4 (by omega) F4 N4 rC3 hI2 (by omega) (hP.trans ⟨fun z j hj => ?_, fun z j hj => z j (by omega)⟩)
        rcases Nat.lt_or_ge j i with hj' | hj'
        · exact z j hj'
        · have : j = i := by omega
          subst this
          exact fun y => Bool.false_ne_true (hT4.mpr y)
      | true =>
        rw [if_pos rfl]
        refine wpAny_mono (hel rfl) (fun y s5 h5 => ?_) fun _ _ e => e
        obtain ⟨h5, tk5, rfl, F5, N5⟩ := h5
        refine m_append F5 N5 (.tail (Nat.ne_of_gt hC) (.head ?_)) (by omega) fun h6 F6 N6 => ?_
        · intro p hp
          rcases List.mem_cons.mp hp with rfl | hp
          · exact Nat.ne_of_lt hID
          · exact Nat.ne_of_lt (Nat.lt_trans (hlt p hp) hID)
        refine ih (i + 1) _ _ _ _ _ h6 tk5 (by omega) F6 N6 rC3 hI2 (by simp; omega) ⟨fun z => absurd z (by simp), fun z => absurd (hT4.mp rfl) (z i (by omega))⟩
  exact loop its.length 0 oC oI [] 0 _ h' tk' rfl F1 N1 rC hI (by simp) ⟨fun _ j hj => absurd hj (Nat.not_lt_zero _), fun _ => rfl⟩
end
-- Zip
abbrev zipO (f : Value) (TI TO : Addr) : Obj := { cls := .type "zip", dict := none, data := .fields #[f, .bool false, .bool false, .ref TI, .ref TO], slots := #[] }
section
variable {prog : Program} {w : World} {A : Around} {E : Value → Shared → Prop} {s : Shared}
/-- one step of a tuple's iterator, drawn by another iterator -/
theorem z_nextT {it t : Addr} {i : Nat} {items : Array Value} {x : Value} {Q : Value → Shared → Prop} (hit : s.heap.IsTupleIter it t i) (ht : s.heap.IsTuple t items) (hx : items[i]? = some x)
    (hQ : ∀ h', h'.IsTupleIter it t (i + 1) → Heap.SameBut it s.heap h' → Q x { s with heap := h' }) : wpAny (model prog w) A (Builtin.SmallTypes.nextOf (.ref it)) Q E s := by
  obtain ⟨o, ho, hc, hd⟩ := id hit
  obtain ⟨ol, hol, _, nl, hdl⟩ := ht
  unfold Builtin.SmallTypes.nextOf
  refine wpAny_bind (wpAny_callSpecial?_slot (name := Str.ofString "__next__") hit.typeIs PySem.F.slot_tuple_iterator_next
    (wpAny_call_entry PySem.F.slot_tuple_iterator_next hit.typeIs PySem.F.entry_tuple_iterator_next ?_ (PySem.F.args_tuple_iterator_next_1 _)))
  show wpAny _ _ (field (.ref it) 0 >>= _) _ _ s
  refine wpAny_bind (wpAny_field ho hd (x := .ref t) rfl ?_)
  show wpAny _ _ (if (Value.ref t == Value.none) = true then _ else _) _ _ s
  rw [if_neg (show ¬ ((Value.ref t == Value.none) = true) from Bool.false_ne_true)]
  show wpAny _ _ (field (.ref it) 1 >>= _) _ _ s
  refine wpAny_bind (wpAny_field ho hd (x := .int i 0) rfl ?_)
  show wpAny _ _ (seqItems? (.ref t) >>= _) _ _ s
  refine wpAny_bind (wpAny_seqItems hol hdl ?_)
  simp only [Int.toNat_natCast, hx]
  refine wpAny_bind (wpAny_setField ho hd (by simp) (wpAny_pure ⟨x, rfl, wpAny_pure (hQ _ ?_ (Heap.SameBut.update ..))⟩))
  exact ⟨_, Heap.get?_update_self _ ho (Obj.isFreed_of_fields (Obj.data_mapFields hd _)), (Obj.cls_mapFields ..).trans hc, by
    rw [Obj.data_mapFields hd]; simp [rawInt]⟩
theorem code_zip_new {a b : Value} {Q₁ : Value → Shared → Prop} (h : wpAny (model prog w) A.in1 (Builtin.«zip.__new__» ⟨[.type "zip", a, b], []⟩) (fun fin s' => match fin with | .done f => wants Q₁ E (.ok f) s' | .again c' => c'.quiet = true ∧ codeAny (model prog w) A c' (wants Q₁ E) s') (fun e s' => wants Q₁ E (.error e) s') s) :
    codeAny (model prog w) A (.call (.builtin "zip.__new__") ⟨[.type "zip", a, b], []⟩) (wants Q₁ E) s := by
  refine codeAny_of_tree ?_
  show wpAny _ A.in1 (do checkBuiltinCall "zip.__new__" ⟨[.type "zip", a, b], []⟩; again (.builtin "zip.__new__" ⟨[.type "zip", a, b], []⟩)) _ _ s
  have hp : plainId "zip.__new__" = true := by decide +kernel
  refine wpAny_bind (wpAny_of_eq (PySem.F.newCall_zip_2 a b) (wpAny_pure ⟨plainId_quiet hp _, codeAny_builtin PySem.F.entry_zip_new ?_⟩))
  rw [Around.under_plainId hp _]
  exact h
end
/-- zip(node, members): an own object whose __iter__ gives a list's iterator, and a tuple -/
theorem m_zip {prog : Program} {w : World} {A : Around} {E : Value → Shared → Prop} {s : Shared} {x L l mt : Addr} {h₀ : Heap} {m : Str → Option Value} {news : List (Addr × Obj)} {ms : List Value} {k : Nat} {Q : Value → Shared → Prop} (N : News h₀ L s.heap news) (ht : (mt, tupO ms k) ∈ news)
    (hit : ∀ (Q' : Value → Shared → Prop) (E' : Value → Shared → Prop),
      (∀ I h2 tk2, Fr h₀ L h2 m → News h₀ L h2 ((I, itO l 0) :: news) → (∀ p ∈ news, p.1 < I) → Q' (.ref I) { s with heap := h2, toks := tk2 }) → wpAny (model prog w) A.in1.in1 (pyIter (.ref x)) Q' E' s)
    (h : ∀ z TO TI i2 i1 h' tk', Fr h₀ L h' m → News h₀ L h' ((z, zipO .none TI TO) :: (TO, tupO [.none, .none] 0) :: (TI, tupO [.ref i1, .ref i2] 0) :: (i2, { cls := .type "tuple_iterator", data := .fields #[.ref mt, .int 0 0] }) :: (i1, itO l 0) :: news) →
      (@LT.lt Nat _ TO z) → @LT.lt Nat _ TI TO → @LT.lt Nat _ i2 TI → @LT.lt Nat _ i1 i2 → (∀ p ∈ news, p.1 < i1) → Q (.ref z) { s with heap := h', toks := tk' }) : wpAny (model prog w) A (call (.type "zip") [.ref x, .ref mt]) Q E s := by
  refine callType_codes (Q₁ := fun obj s₁ => s₁.TypeIs obj "zip" ∧ Q obj s₁) PySem.F.called_zip (PySem.F.typeCall_zip_2 _ _) PySem.F.entry_object_init (code_zip_new ?_) fun obj s₁ h₁ => ?_
  · obtain ⟨hp, g, d, tk, os⟩ := s
    have hsub := sub_zip
    wp_walk using hit _ _
    intro I h2 tk2 F2 N2 lI
    have hT : Heap.IsTuple (Shared.heap ⟨h2, g, d, tk2, os⟩) mt ms.toArray := ⟨_, (N2 _ (.tail _ ht)).1, rfl, _, rfl⟩
    wp_walk using wpAny_pyIter_tuple hT
    have F3 := F2.push { cls := .type "tuple_iterator", data := .fields #[.ref mt, .int 0 0] }
    have N3 := News.push F2 N2 { cls := .type "tuple_iterator", data := .fields #[.ref mt, .int 0 0] } rfl
    have s3 := Heap.size_push h2 { cls := Value.type "tuple_iterator", data := .fields #[.ref mt, .int 0 0] }
    dsimp only
    generalize hH3 : h2.push { cls := .type "tuple_iterator", data := .fields #[.ref mt, .int 0 0] } = H3 at F3 N3 s3 ⊢
    have F4 := F3.push (tupO [.ref I, .ref h2.objs.size] 0)
    have N4 := News.push F3 N3 (tupO [.ref I, .ref h2.objs.size] 0) rfl
    have s4 := Heap.size_push H3 (tupO [.ref I, .ref h2.objs.size] 0)
    show wants _ _ _ _
    have e4 : H3.push { cls := Value.type "tuple", data := Data.seq ((#[].push (Value.ref I)).push (Value.ref h2.objs.size)).toList.toArray } = H3.push (tupO [.ref I, .ref h2.objs.size] 0) := rfl
    rw [e4]
    generalize hH4 : H3.push (tupO [.ref I, .ref h2.objs.size] 0) = H4 at F4 N4 s4 ⊢
    have F5 := F4.push (tupO [.none, .none] 0)
    have N5 := News.push F4 N4 (tupO [.none, .none] 0) rfl
    have s5 := Heap.size_push H4 (tupO [.none, .none] 0)
    have e5 : H4.push { cls := Value.type "tuple", data := Data.seq (List.map (fun x => Value.none) ((#[].push (Value.ref I)).push (Value.ref h2.objs.size)).toList).toArray } = H4.push (tupO [.none, .none] 0) := rfl
    rw [e5]
    generalize hH5 : H4.push (tupO [.none, .none] 0) = H5 at F5 N5 s5 ⊢
    have F6 := F5.push (zipO .none H3.objs.size H4.objs.size)
    have N6 := News.push F5 N5 (zipO .none H3.objs.size H4.objs.size) rfl
    refine ⟨⟨_, Heap.get?_push_size _ rfl, rfl⟩, h H5.objs.size H4.objs.size H3.objs.size h2.objs.size I _ tk2 F6 N6 ?_ ?_ ?_ ?_ lI⟩
    · show H4.objs.size < H5.objs.size; omega
    · show H3.objs.size < H4.objs.size; omega
    · show h2.objs.size < H3.objs.size; omega
    · exact Heap.lt_size (N2 _ (.head _)).1
  · refine ⟨h₁.1, PySem.F.args_object_init_3 _ _ _, ?_⟩
    exact object_init_meets PySem.F.called_zip.init.lookup PySem.F.called_zip.made (by decide) prog w _ _ s₁ ⟨h₁.1, rfl, h₁.2⟩
-- ZipN
section
variable {prog : Program} {w : World} {A : Around} {E : Value → Shared → Prop} {s : Shared} {z TI TO i1 i2 l1 l2 : Addr} {k : Nat} {xs ys : Array Value} {x y a b : Value}
/-- the members of a zip keep apart -/
theorem z_setF {f f' : Value} {Q : Unit → Shared → Prop} (hz : IsZip s.heap z TI TO f) (h : ∀ h', IsZip h' z TI TO f' → Heap.SameBut z s.heap h' → Q () { s with heap := h' }) : wpAny (model prog w) A (setField (.ref z) 0 f') Q E s :=
  wpAny_setField_rec hz (by simp) fun h' hz' hs => h h' hz' hs
theorem z_item {Q : Option Value → Shared → Prop} (D : ZipApart z TI TO i1 i2 l1 l2) (hz : IsZip s.heap z TI TO .none) (hTI : IsPair s.heap TI (.ref i1) (.ref i2)) (hTO : IsPair s.heap TO a b)
    (h1 : s.heap.IsListIter i1 l1 k) (h2 : s.heap.IsTupleIter i2 l2 k) (hl1 : s.heap.IsList l1 xs) (hl2 : s.heap.IsTuple l2 ys) (hx : xs[k]? = some x) (hy : ys[k]? = some y)
    (hQ : ∀ h', IsZip h' z TI TO (rawInt s.heap.objs.size) → IsPair h' TO x y → h'.IsListIter i1 l1 (k + 1) → h'.IsTupleIter i2 l2 (k + 1) → IsPair h' s.heap.objs.size x y → h'.objs.size = s.heap.objs.size + 1 →
      (∀ c o, c ≠ z → c ≠ TO → c ≠ i1 → c ≠ i2 → s.heap.get? c = some o → h'.get? c = some o) → Q (some (.ref s.heap.objs.size)) { s with heap := h' }) :
    wpAny (model prog w) A (pyNext (.ref z)) Q E s := by
  have hT : s.TypeIs (.ref z) "zip" := ⟨_, hz, rfl⟩
  unfold pyNext
  refine wpAny_bind (wpAny_attempt (wpAny_callSpecial?_slot (name := Str.ofString "__next__") hT PySem.F.slot_zip_next
    (wpAny_call_entry PySem.F.slot_zip_next hT PySem.F.entry_zip_next ?_ (PySem.F.args_zip_next_1 _))))
  show wpAny _ _ (field (.ref z) 2 >>= _) _ _ _
  refine wpAny_bind (wpAny_field hz rfl (x := .bool false) rfl ?_)
  show wpAny _ _ (field (.ref z) 3 >>= _) _ _ _
  refine wpAny_bind (wpAny_field hz rfl (x := .ref TI) rfl ?_)
  refine wpAny_bind (wpAny_seqItems hTI rfl ?_)
  show wpAny _ _ (Builtin.SmallTypes.ownedTupleIsFree (.ref z) >>= _) _ _ _
  refine wpAny_bind ?_
  unfold Builtin.SmallTypes.ownedTupleIsFree
  refine wpAny_bind (wpAny_field hz rfl (x := .none) rfl (wpAny_pure ?_))
  simp only [if_true]
  refine wpAny_bind (wpAny_rule ?_)
  refine wpAny_bind (wpAny_field hz rfl (x := .ref TO) rfl ?_)
  refine wpAny_bind (z_setF (f' := .ellipsis) hz fun g1 z1 e1 => ?_)
  refine wpAny_bind ?_
  simp only [List.zipIdx_cons, List.zipIdx_nil, List.forIn_cons, List.forIn_nil]
  refine wpAny_bind (wpAny_bind (wpAny_onRaise ?_))
  show wpAny _ _ (Builtin.SmallTypes.nextOf (.ref i1) >>= _) _ _ _
  refine wpAny_bind (wpAny_nextOf_list_item (h1.extBut e1.extBut D.i1z) (hl1.extBut e1.extBut D.l1z) hx fun g2 n2 e2 => wpAny_pure ?_)
  have t2 : IsPair g2 TO a b := e2.extBut _ _ D.TOi1 (e1.extBut _ _ D.TOz hTO)
  refine wpAny_bind (wpAny_seqItems t2 rfl ?_)
  refine wpAny_bind (wpAny_updateSeq_pair t2 fun g3 t3 e3 => ?_)
  replace t3 : IsPair g3 TO x b := t3
  refine wpAny_bind (wpAny_letGo (wpAny_pure ?_))
  refine wpAny_bind (wpAny_bind (wpAny_onRaise ?_))
  show wpAny _ _ (Builtin.SmallTypes.nextOf (.ref i2) >>= _) _ _ _
  have h23 : g3.IsTupleIter i2 l2 k := h2.at fun o e => e3.extBut _ _ D.TOi2.symm (e2.extBut _ _ D.i12.symm (e1.extBut _ _ D.i2z e))
  have hl23 : g3.IsTuple l2 ys := hl2.at fun o e => e3.extBut _ _ D.l2TO (e2.extBut _ _ D.l2i1 (e1.extBut _ _ D.l2z e))
  refine wpAny_bind (z_nextT h23 hl23 hy fun g4 n4 e4 => wpAny_pure ?_)
  have t4 : IsPair g4 TO x b := e4.extBut _ _ D.TOi2 t3
  refine wpAny_bind (wpAny_seqItems t4 rfl ?_)
  refine wpAny_bind (wpAny_updateSeq_pair t4 fun g5 t5 e5 => ?_)
  replace t5 : IsPair g5 TO x y := t5
  refine wpAny_bind (wpAny_letGo (wpAny_pure (wpAny_pure ?_)))
  refine wpAny_bind (wpAny_seqItems t5 rfl ?_)
  refine wpAny_bind (wpAny_newTuple ?_)
  have hsz : g5.objs.size = s.heap.objs.size := by rw [e5.1, e4.1, e3.1, e2.1, e1.1]
  have z5 : IsZip g5 z TI TO .ellipsis := e5.extBut _ _ D.TOz.symm (e4.extBut _ _ D.i2z.symm (e3.extBut _ _ D.TOz.symm (e2.extBut _ _ D.i1z.symm z1)))
  have kp : ∀ c o, c ≠ z → c ≠ TO → c ≠ i1 → c ≠ i2 → s.heap.get? c = some o → g5.get? c = some o := fun c o c1 c2 c3 c4 e =>
    e5.extBut _ _ c2 (e4.extBut _ _ c4 (e3.extBut _ _ c2 (e2.extBut _ _ c3 (e1.extBut _ _ c1 e))))
  have n15 : g5.IsListIter i1 l1 (k + 1) := ((n2.extBut e3.extBut D.TOi1.symm).extBut e4.extBut D.i12).extBut e5.extBut D.TOi1.symm
  have n25 : g5.IsTupleIter i2 l2 (k + 1) := n4.at fun o e => e5.extBut _ _ D.TOi2.symm e
  have zlt : z < g5.objs.size := Heap.lt_size z5
  show wpAny _ _ (Builtin.SmallTypes.ownedTupleHandOut (.ref z) (.ref g5.objs.size) >>= _) _ _ _
  refine wpAny_bind ?_
  unfold Builtin.SmallTypes.ownedTupleHandOut
  have z6 : IsZip (g5.push { cls := .type "tuple", data := .seq #[x, y] }) z TI TO .ellipsis := Heap.get?_push_of_some _ z5
  refine wpAny_bind (wpAny_setField_rec z6 (by simp) fun g7 z7 e7 => ?_)
  replace z7 : IsZip g7 z TI TO (rawInt g5.objs.size) := z7
  refine wpAny_setField_rec z7 (by simp) fun g8 z8 e8 => ?_
  replace z8 : IsZip g8 z TI TO (rawInt g5.objs.size) := z8
  have up : ∀ c o, c ≠ z → g5.get? c = some o → g8.get? c = some o := fun c o c1 e => e8.extBut _ _ c1 (e7.extBut _ _ c1 (Heap.get?_push_of_some _ e))
  have T8 : IsPair g8 g5.objs.size x y := e8.extBut _ _ (Nat.ne_of_gt zlt) (e7.extBut _ _ (Nat.ne_of_gt zlt) (Heap.get?_push_size _ rfl))
  have s8 : g8.objs.size = g5.objs.size + 1 := by rw [e8.1, e7.1, Heap.size_push]
  rw [hsz] at z8 T8 s8
  have fin := hQ g8 z8 (up _ _ D.TOz t5) (n15.at fun o e => up _ o D.i1z e) (n25.at fun o e => up _ o D.i2z e) T8 s8 fun c o c1 c2 c3 c4 e => up c o c1 (kp c o c1 c2 c3 c4 e)
  rw [← hsz] at fin
  exact wpAny_pure ⟨_, rfl, wpAny_pure fin⟩
theorem z_end {Q : Option Value → Shared → Prop} (hh : A.handled = none) (D : ZipApart z TI TO i1 i2 l1 l2) (hz : IsZip s.heap z TI TO .none) (hTI : IsPair s.heap TI (.ref i1) (.ref i2))
    (hTO : IsPair s.heap TO a b) (h1 : s.heap.IsListIter i1 l1 k) (hl1 : s.heap.IsList l1 xs) (hx : xs[k]? = none)
    (hQ : ∀ h', (∀ c o, c ≠ z → c ≠ TO → c ≠ i1 → c ≠ i2 → s.heap.get? c = some o → h'.get? c = some o) → Q none { s with heap := h' }) : wpAny (model prog w) A (pyNext (.ref z)) Q E s := by
  have hT : s.TypeIs (.ref z) "zip" := ⟨_, hz, rfl⟩
  unfold pyNext
  refine wpAny_bind (wpAny_attempt (wpAny_callSpecial?_slot (name := Str.ofString "__next__") hT PySem.F.slot_zip_next
    (wpAny_call_entry PySem.F.slot_zip_next hT PySem.F.entry_zip_next ?_ (PySem.F.args_zip_next_1 _))))
  show wpAny _ _ (field (.ref z) 2 >>= _) _ _ _
  refine wpAny_bind (wpAny_field hz rfl (x := .bool false) rfl ?_)
  show wpAny _ _ (field (.ref z) 3 >>= _) _ _ _
  refine wpAny_bind (wpAny_field hz rfl (x := .ref TI) rfl ?_)
  refine wpAny_bind (wpAny_seqItems hTI rfl ?_)
  show wpAny _ _ (Builtin.SmallTypes.ownedTupleIsFree (.ref z) >>= _) _ _ _
  refine wpAny_bind ?_
  unfold Builtin.SmallTypes.ownedTupleIsFree
  refine wpAny_bind (wpAny_field hz rfl (x := .none) rfl (wpAny_pure ?_))
  simp only [if_true]
  refine wpAny_bind (wpAny_rule ?_)
  refine wpAny_bind (wpAny_field hz rfl (x := .ref TO) rfl ?_)
  refine wpAny_bind (z_setF (f' := .ellipsis) hz fun g1 z1 e1 => ?_)
  refine wpAny_bind ?_
  simp only [List.zipIdx_cons, List.zipIdx_nil, List.forIn_cons, List.forIn_nil]
  refine wpAny_bind (wpAny_bind (wpAny_onRaise ?_))
  show wpAny _ _ (Builtin.SmallTypes.nextOf (.ref i1) >>= _) _ _ _
  refine wpAny_bind (wpAny_nextOf_list_end hh (h1.extBut e1.extBut D.i1z) (hl1.extBut e1.extBut D.l1z) hx fun g2 e e2 he => ?_)
  obtain ⟨oe, hoe, hce⟩ := he
  have z2 : IsZip g2 z TI TO .ellipsis := e2 _ _ D.i1z.symm z1
  have hez : e ≠ z := fun x => by subst x; rw [z2] at hoe; cases hoe; simp at hce
  refine z_setF (f' := .none) z2 fun g3 _ e3 => ?_
  refine wpAny_bind (wpAny_isInstance (T := "StopIteration") (b := true) ⟨oe, e3.extBut _ _ hez hoe, hce⟩ isSubtype_stop ?_)
  exact wpAny_pure (hQ _ fun c o c1 _ c3 _ x => e3.extBut _ _ c1 (e2 _ _ c3 (e1.extBut _ _ c1 x)))
end
-- ZipC
section
variable {prog : Program} {w : World} {A : Around} {E : Value → Shared → Prop} {s : Shared} {L l1 l2 : Addr} {h₀ : Heap} {m : Str → Option Value} {ctx : List (Addr × Obj)} {xs ys : List Value} {n1 n2 : Nat} {env : Env}
/-- the pieces of a zip in the ledger -/
abbrev ZL (z TO TI i2 i1 : Addr) (oz oTO oTI o2 o1 : Obj) (ctx : List (Addr × Obj)) : List (Addr × Obj) := (z, oz) :: (TO, oTO) :: (TI, oTI) :: (i2, o2) :: (i1, o1) :: ctx
/-- a comprehension over zip whose test fails everywhere -/
theorem m_compZ {elt iter test : Expr} {xc xm : Str} {pc pm pt pos : Pos} {cx : Nat} {scope : Scope} {cl : List (Str × Addr)} {Q : Value → Shared → Prop} (hh : A.handled = none)
    (hclos : closureFor scope env = pure cl) (hcell : ∀ y ∈ scope.names, y.2 ≠ .cell) (hkind : scope.kind = .function)
    (hnames : ∀ y ∈ scope.names, y.2 = .local → scope.names.lookup y.1 = some .local) (hxc : scope.names.lookup xc = some .local) (hxm : scope.names.lookup xm = some .local) (hne : xc ≠ xm) (hle : xs.length ≤ ys.length)
    (hit : wpAny (model prog w) A (eval iter env) (fun xv s₁ => ∃ z TO TI i2 i1, xv = .ref z ∧ Fr h₀ L s₁.heap m ∧ News h₀ L s₁.heap (ZL z TO TI i2 i1 (zipO .none TI TO) (tupO [.none, .none] 0) (tupO [.ref i1, .ref i2] 0) { cls := .type "tuple_iterator", data := .fields #[.ref l2, .int 0 0] } (itO l1 0) ctx) ∧
      (@LT.lt Nat _ TO z) ∧ (@LT.lt Nat _ TI TO) ∧ (@LT.lt Nat _ i2 TI) ∧ (@LT.lt Nat _ i1 i2) ∧ (∀ p ∈ ctx, p.1 < i1) ∧ (l1, lstO xs n1) ∈ ctx ∧ (l2, tupO ys n2) ∈ ctx ∧
      ∀ D h' tk', Fr h₀ L h' m → News h₀ L h' ((D, lstO [] 0) :: ctx) → (∀ p ∈ ctx, p.1 < D) → Q (.ref D) { s₁ with heap := h', toks := tk' }) E s)
    (step : ∀ (s' : Shared) (i : Nat) x y C oC D oD z TO TI i2 i1 oz oTO oTI o2 o1 m1 (E' : Value → Shared → Prop), xs[i]? = some x → ys[i]? = some y → Fr h₀ L s'.heap m → News h₀ L s'.heap ((C, oC) :: (D, oD) :: ZL z TO TI i2 i1 oz oTO oTI o2 o1 ctx) → LCg.NsObj oC m1 → m1 xc = some x → m1 xm = some y →
      wpAny (model prog w) A (isTrue test (compEnvC scope cl C env) (eval test (compEnvC scope cl C env))) (fun ok s'' => ok = false ∧ ∃ h' tk', s'' = { s' with heap := h', toks := tk' } ∧ Fr h₀ L h' m ∧ News h₀ L h' ((C, oC) :: (D, oD) :: ZL z TO TI i2 i1 oz oTO oTI o2 o1 ctx)) E' s')
    (hs : ∀ x, foldedSetIterable iter env x = pure x := by intro _; rfl) :
    wpAny (model prog w) A (eval (.ListComp elt [⟨.Tuple [.Name xc pc, .Name xm pm] cx pt, iter, [test], 0⟩] scope pos) env) Q E s := by
  rw [eval_ListComp]
  refine wpAny_comprehension_free (use := none) rfl hs hclos hkind hnames (wpAny_mono hit (fun xv s₁ h₁ => ?_) fun _ _ e => e)
  obtain ⟨z, TO, TI, i2, i1, rfl, F, N, a1, a2, a3, a4, lt, hl1, hl2, fin⟩ := h₁
  refine wpAny_pyIter_zip (N _ (.head _)).1 ?_
  refine wpAny_newObj_type (wpAny_newFunctionEnv hcell (by intro y hy; simp at hy) (fun h₁ hns₁ hsb₁ => ?_) hkind)
  dsimp only at hns₁ hsb₁ ⊢
  have F1 := F.push (lstO [] 0)
  have N1 := News.push F N (lstO [] 0) rfl
  have lD : ∀ p ∈ ZL z TO TI i2 i1 (zipO .none TI TO) (tupO [.none, .none] 0) (tupO [.ref i1, .ref i2] 0) { cls := .type "tuple_iterator", data := .fields #[.ref l2, .int 0 0] } (itO l1 0) ctx, p.1 < s₁.heap.objs.size := fun p hp => Heap.lt_size (N p hp).1
  generalize hDs : s₁.heap.objs.size = D at hns₁ hsb₁ N1 lD ⊢
  generalize hH2 : s₁.heap.push { cls := .type "list", dict := none, data := .seq ([] : List Value).toArray } = H2 at hns₁ hsb₁ ⊢
  have e1 : s₁.heap.push (lstO [] 0) = H2 := hH2
  rw [e1] at F1 N1
  obtain ⟨oC, eC, rC⟩ := LCg.ns_obj hns₁
  have k1 : ∀ b o, H2.get? b = some o → h₁.get? b = some o := fun b o e => hsb₁.extBut b o (Nat.ne_of_lt (Heap.lt_size e)) (Heap.get?_push_of_some _ e)
  have F2 : Fr h₀ L h₁ m := F1.keeps k1
  have N2 : News h₀ L h₁ ((H2.objs.size, oC) :: (D, lstO [] 0) :: ZL z TO TI i2 i1 (zipO .none TI TO) (tupO [.none, .none] 0) (tupO [.ref i1, .ref i2] 0) { cls := .type "tuple_iterator", data := .fields #[.ref l2, .int 0 0] } (itO l1 0) ctx) := by
    intro p hp
    rcases List.mem_cons.mp hp with rfl | hp
    · refine ⟨eC, Nat.ne_of_gt F1.ns.lt, next_is_new F1⟩
    · exact ⟨k1 _ _ (N1 p hp).1, (N1 p hp).2⟩
  have hDC : @LT.lt Nat _ D H2.objs.size := Heap.lt_size (N1 _ (.head _)).1
  generalize H2.objs.size = C at eC N2 hDC hns₁ ⊢
  have hzD : @LT.lt Nat _ z D := lD _ (.head _)
  clear N1 F1 hns₁ hsb₁ k1 e1 hH2 hDs lD F N
  have DZ : ZipApart z TI TO i1 i2 l1 l2 := by
    have q1 : @LT.lt Nat _ l1 i1 := lt _ hl1
    have q2 : @LT.lt Nat _ l2 i1 := lt _ hl2
    constructor <;> first | exact Nat.ne_of_lt (by omega) | exact Nat.ne_of_gt (by omega)
  have loop : ∀ (k i : Nat) (oC oTO o2 o1 : Obj) (a b : Value) (m1 : Str → Option Value) (h' : Heap) (tk' : Nat), k + i = xs.length → Fr h₀ L h' m → News h₀ L h' ((C, oC) :: (D, lstO [] 0) :: ZL z TO TI i2 i1 (zipO .none TI TO) (tupO [a, b] 0) (tupO [.ref i1, .ref i2] 0) o2 o1 ctx) → LCg.NsObj oC m1 → IsIt o1 l1 i → IsTit o2 l2 i →
      codeAny (model prog w) A (.compLoop (.ListComp elt [⟨.Tuple [.Name xc pc, .Name xm pm] cx pt, iter, [test], 0⟩] scope pos) 0 (.ref z) (.ref D) (compEnvC scope cl C env)) (compPost (model prog w) A E none Q (.ref D) C) { s₁ with heap := h', toks := tk' } := by
    intro k
    induction k with
    | zero =>
      intro i oC oTO o2 o1 a b m1 h' tk' hk F N rC I1 I2
      have gz := (N _ (.tail _ (.tail _ (.head _)))).1
      have gTO := (N _ (.tail _ (.tail _ (.tail _ (.head _))))).1
      have gTI := (N _ (.tail _ (.tail _ (.tail _ (.tail _ (.head _)))))).1
      have g1 := (N _ (.tail _ (.tail _ (.tail _ (.tail _ (.tail _ (.tail _ (.head _)))))))).1
      have cx : ∀ p ∈ ctx, p ∈ (C, oC) :: (D, lstO [] 0) :: ZL z TO TI i2 i1 (zipO .none TI TO) (tupO [a, b] 0) (tupO [.ref i1, .ref i2] 0) o2 o1 ctx := fun p hp => .tail _ (.tail _ (.tail _ (.tail _ (.tail _ (.tail _ (.tail _ hp))))))
      refine comp_turn ?_
      refine z_end (k := i) (xs := xs.toArray) hh DZ gz gTI gTO ⟨_, g1, I1⟩ ⟨_, (N _ (cx _ hl1)).1, rfl, _, rfl⟩ (by simp; omega) fun h2 kp => ?_
      have off : ∀ p ∈ (C, oC) :: (D, lstO [] 0) :: ctx, p.1 ≠ z ∧ p.1 ≠ TO ∧ p.1 ≠ i1 ∧ p.1 ≠ i2 := by
        intro p hp
        have hDC' : @LT.lt Nat _ D C := hDC
        rcases List.mem_cons.mp hp with rfl | hp
        · refine ⟨?_, ?_, ?_, ?_⟩ <;> exact Nat.ne_of_gt (by show @LT.lt Nat _ _ C; omega)
        rcases List.mem_cons.mp hp with rfl | hp
        · refine ⟨?_, ?_, ?_, ?_⟩ <;> exact Nat.ne_of_gt (by show @LT.lt Nat _ _ D; omega)
        · have q : @LT.lt Nat _ p.1 i1 := lt p hp
          refine ⟨?_, ?_, ?_, ?_⟩ <;> exact Nat.ne_of_lt (by omega)
      have sub : ∀ p ∈ (C, oC) :: (D, lstO [] 0) :: ctx, p ∈ (C, oC) :: (D, lstO [] 0) :: ZL z TO TI i2 i1 (zipO .none TI TO) (tupO [a, b] 0) (tupO [.ref i1, .ref i2] 0) o2 o1 ctx := fun p hp => by
        rcases List.mem_cons.mp hp with h | hp
        · exact List.mem_cons.mpr (.inl h)
        rcases List.mem_cons.mp hp with h | hp
        · exact .tail _ (List.mem_cons.mpr (.inl h))
        · exact cx p hp
      have N2 : News h₀ L h2 ((C, oC) :: (D, lstO [] 0) :: ctx) := fun p hp => ⟨kp _ _ (off p hp).1 (off p hp).2.1 (off p hp).2.2.1 (off p hp).2.2.2 (N _ (sub p hp)).1, (N _ (sub p hp)).2⟩
      have F2 : Fr h₀ L h2 m := ⟨F.ns.at fun o e => kp L o (Ne.symm (N _ (.tail _ (.tail _ (.head _)))).2.1) (Ne.symm (N _ (.tail _ (.tail _ (.tail _ (.head _))))).2.1) (Ne.symm (N _ (.tail _ (.tail _ (.tail _ (.tail _ (.tail _ (.tail _ (.head _)))))))).2.1) (Ne.symm (N _ (.tail _ (.tail _ (.tail _ (.tail _ (.tail _ (.head _))))))).2.1) e,
        fun c x e => kp c x (fun q => by have := (N _ (.tail _ (.tail _ (.head _)))).2.2; rw [← q, e] at this; cases this) (fun q => by have := (N _ (.tail _ (.tail _ (.tail _ (.head _))))).2.2; rw [← q, e] at this; cases this) (fun q => by have := (N _ (.tail _ (.tail _ (.tail _ (.tail _ (.tail _ (.tail _ (.head _)))))))).2.2; rw [← q, e] at this; cases this) (fun q => by have := (N _ (.tail _ (.tail _ (.tail _ (.tail _ (.tail _ (.head _))))))).2.2; rw [← q, e] at this; cases this) (F.keep c x e), F.above⟩
      refine comp_end (rest := (D, lstO [] 0) :: ctx) F2 N2 (.head _) rC (fun p hp => .tail _ hp) ?_ fun h3 F3 N3 => fin _ _ _ F3 N3 (fun p hp => Nat.lt_trans (lt p hp) (by show @LT.lt Nat _ i1 D; omega))
      intro p hp
      rcases List.mem_cons.mp hp with rfl | hp
      · exact Nat.ne_of_lt hDC
      · have q : @LT.lt Nat _ p.1 i1 := lt p hp
        have hDC' : @LT.lt Nat _ D C := hDC
        exact Nat.ne_of_lt (by show @LT.lt Nat _ p.1 C; omega)
    | succ k ih =>
      intro i oC oTO o2 o1 a b m1 h' tk' hk F N rC I1 I2
      obtain ⟨x, hx⟩ : ∃ v, xs[i]? = some v := ⟨xs[i]'(by omega), List.getElem?_eq_getElem (by omega)⟩
      obtain ⟨y, hy⟩ : ∃ v, ys[i]? = some v := ⟨ys[i]'(by omega), List.getElem?_eq_getElem (by omega)⟩
      have nz := N _ (.tail _ (.tail _ (.head _)))
      have nTO := N _ (.tail _ (.tail _ (.tail _ (.head _))))
      have nTI := N _ (.tail _ (.tail _ (.tail _ (.tail _ (.head _)))))
      have n2 := N _ (.tail _ (.tail _ (.tail _ (.tail _ (.tail _ (.head _))))))
      have n1 := N _ (.tail _ (.tail _ (.tail _ (.tail _ (.tail _ (.tail _ (.head _)))))))
      have cx : ∀ p ∈ ctx, p ∈ (C, oC) :: (D, lstO [] 0) :: ZL z TO TI i2 i1 (zipO .none TI TO) (tupO [a, b] 0) (tupO [.ref i1, .ref i2] 0) o2 o1 ctx := fun p hp => .tail _ (.tail _ (.tail _ (.tail _ (.tail _ (.tail _ (.tail _ hp))))))
      refine comp_turn ?_
      refine z_item (k := i) (xs := xs.toArray) (ys := ys.toArray) (x := x) (y := y) DZ nz.1 nTI.1 nTO.1 ⟨_, n1.1, I1⟩ ⟨_, n2.1, I2⟩ ⟨_, (N _ (cx _ hl1)).1, rfl, _, rfl⟩ ⟨_, (N _ (cx _ hl2)).1, rfl, _, rfl⟩ (by simpa using hx) (by simpa using hy) fun h2 b1 b2 b3 b4 b5 b6 kp => ?_
      dsimp only
      generalize hTq : h'.objs.size = Tq at b1 b5 b6 ⊢
      have lTq : ∀ p ∈ (C, oC) :: (D, lstO [] 0) :: ZL z TO TI i2 i1 (zipO .none TI TO) (tupO [a, b] 0) (tupO [.ref i1, .ref i2] 0) o2 o1 ctx, p.1 < Tq := fun p hp => hTq ▸ Heap.lt_size (N p hp).1
      have hTz : Tq ≠ z := Nat.ne_of_gt (lTq _ (.tail _ (.tail _ (.head _))))
      refine wpAny_letOwnedTupleGo_zip b1 fun h3 c1 c2 => ?_
      obtain ⟨o1', e1', I1'⟩ := b3.extBut c2.extBut DZ.i1z
      obtain ⟨o2', e2', I2'⟩ := (b4.at fun o e => c2.extBut _ o DZ.i2z e : h3.IsTupleIter i2 l2 (i + 1))
      have kp3 : ∀ c o, c ≠ z → c ≠ TO → c ≠ i1 → c ≠ i2 → h'.get? c = some o → h3.get? c = some o := fun c o q1 q2 q3 q4 e => c2.extBut _ _ q1 (kp c o q1 q2 q3 q4 e)
      have off : ∀ p ∈ (C, oC) :: (D, lstO [] 0) :: (TI, tupO [.ref i1, .ref i2] 0) :: ctx, p.1 ≠ z ∧ p.1 ≠ TO ∧ p.1 ≠ i1 ∧ p.1 ≠ i2 := by
        intro p hp
        have hDC' : @LT.lt Nat _ D C := hDC
        rcases List.mem_cons.mp hp with rfl | hp
        · refine ⟨?_, ?_, ?_, ?_⟩ <;> exact Nat.ne_of_gt (by show @LT.lt Nat _ _ C; omega)
        rcases List.mem_cons.mp hp with rfl | hp
        · refine ⟨?_, ?_, ?_, ?_⟩ <;> exact Nat.ne_of_gt (by show @LT.lt Nat _ _ D; omega)
        rcases List.mem_cons.mp hp with rfl | hp
        · exact ⟨Nat.ne_of_lt (by show @LT.lt Nat _ TI z; omega), Nat.ne_of_lt a2, Nat.ne_of_gt (by show @LT.lt Nat _ i1 TI; omega), Nat.ne_of_gt a3⟩
        · have q : @LT.lt Nat _ p.1 i1 := lt p hp
          refine ⟨?_, ?_, ?_, ?_⟩ <;> exact Nat.ne_of_lt (by omega)
      have old : ∀ p ∈ (C, oC) :: (D, lstO [] 0) :: (TI, tupO [.ref i1, .ref i2] 0) :: ctx, p ∈ (C, oC) :: (D, lstO [] 0) :: ZL z TO TI i2 i1 (zipO .none TI TO) (tupO [a, b] 0) (tupO [.ref i1, .ref i2] 0) o2 o1 ctx := fun p hp => by
        rcases List.mem_cons.mp hp with h | hp
        · exact List.mem_cons.mpr (.inl h)
        rcases List.mem_cons.mp hp with h | hp
        · exact .tail _ (List.mem_cons.mpr (.inl h))
        rcases List.mem_cons.mp hp with h | hp
        · exact .tail _ (.tail _ (.tail _ (.tail _ (List.mem_cons.mpr (.inl h)))))
        · exact cx p hp
      have got : ∀ p ∈ (C, oC) :: (D, lstO [] 0) :: (TI, tupO [.ref i1, .ref i2] 0) :: ctx, h3.get? p.1 = some p.2 := fun p hp => kp3 _ _ (off p hp).1 (off p hp).2.1 (off p hp).2.2.1 (off p hp).2.2.2 (N _ (old p hp)).1
      have gTO3 : h3.get? TO = some (tupO [x, y] 0) := c2.extBut _ _ DZ.TOz b2
      have gT3 : h3.get? Tq = some (tupO [x, y] 0) := c2.extBut _ _ hTz b5
      have F3 : Fr h₀ L h3 m := ⟨F.ns.at fun o e => kp3 L o (Ne.symm nz.2.1) (Ne.symm nTO.2.1) (Ne.symm n1.2.1) (Ne.symm n2.2.1) e,
        fun c x e => kp3 c x (fun q => by have := nz.2.2; rw [← q, e] at this; cases this) (fun q => by have := nTO.2.2; rw [← q, e] at this; cases this) (fun q => by have := n1.2.2; rw [← q, e] at this; cases this) (fun q => by have := n2.2.2; rw [← q, e] at this; cases this) (F.keep c x e), F.above⟩
      have N3 : News h₀ L h3 ((C, oC) :: (D, lstO [] 0) :: ZL z TO TI i2 i1 (zipO .none TI TO) (tupO [x, y] 0) (tupO [.ref i1, .ref i2] 0) o2' o1' ctx) := by
        intro p hp
        rcases List.mem_cons.mp hp with rfl | hp
        · exact ⟨got _ (.head _), (N _ (.head _)).2⟩
        rcases List.mem_cons.mp hp with rfl | hp
        · exact ⟨got _ (.tail _ (.head _)), (N _ (.tail _ (.head _))).2⟩
        rcases List.mem_cons.mp hp with rfl | hp
        · exact ⟨c1, nz.2⟩
        rcases List.mem_cons.mp hp with rfl | hp
        · exact ⟨gTO3, nTO.2⟩
        rcases List.mem_cons.mp hp with rfl | hp
        · exact ⟨got _ (.tail _ (.tail _ (.head _))), nTI.2⟩
        rcases List.mem_cons.mp hp with rfl | hp
        · exact ⟨e2', n2.2⟩
        rcases List.mem_cons.mp hp with rfl | hp
        · exact ⟨e1', n1.2⟩
        · exact ⟨got _ (.tail _ (.tail _ (.tail _ hp))), (N _ (cx p hp)).2⟩
      refine m_unpackT (items := #[x, y]) (.inl hh) (fun a ha => by rw [hh] at ha; cases ha) F3 N3 ⟨_, gT3, rfl, _, rfl⟩ rfl rfl fun h4 F4 N4 => ?_
      have offC : ∀ oo, ∀ p ∈ (D, lstO [] 0) :: ZL z TO TI i2 i1 (zipO .none TI TO) (tupO [x, y] 0) (tupO [.ref i1, .ref i2] 0) o2' oo ctx, p.1 ≠ C := by
        intro oo p hp
        have hDC' : @LT.lt Nat _ D C := hDC
        simp only [List.mem_cons] at hp
        rcases hp with rfl | rfl | rfl | rfl | rfl | rfl | hp
        · exact Nat.ne_of_lt hDC
        · exact Nat.ne_of_lt (by show @LT.lt Nat _ z C; omega)
        · exact Nat.ne_of_lt (by show @LT.lt Nat _ TO C; omega)
        · exact Nat.ne_of_lt (by show @LT.lt Nat _ TI C; omega)
        · exact Nat.ne_of_lt (by show @LT.lt Nat _ i2 C; omega)
        · exact Nat.ne_of_lt (by show @LT.lt Nat _ i1 C; omega)
        · have q : @LT.lt Nat _ p.1 i1 := lt p hp
          exact Nat.ne_of_lt (by omega)
      refine assignInOrder_cons ?_
      refine comp_store (C := C) F4 N4 (.head (offC _)) rC hxc hkind fun h5 oC5 F5 N5 rC5 => ?_
      refine assignInOrder_cons ?_
      refine comp_store (C := C) F5 N5 (.head (offC _)) rC5 hxm hkind fun h6 oC6 F6 N6 rC6 => ?_
      refine assignInOrder_nil ?_
      refine wpAny_tests_one ?_
      refine wpAny_mono (step _ i x y C oC6 D (lstO [] 0) z TO TI i2 i1 _ _ _ _ _ _ _ hx hy F6 N6 rC6 ?_ ?_) (fun ok s4 h4 => ?_) fun _ _ e => e
      · simp [hne]
      · simp
      · obtain ⟨rfl, h7, tk7, rfl, F7, N7⟩ := h4
        exact ih (i + 1) oC6 (tupO [x, y] 0) o2' o1' x y _ h7 tk7 (by omega) F7 N7 rC6 I1' I2'
  have g := loop xs.length 0 oC (tupO [.none, .none] 0) _ _ .none .none _ h₁ (s₁.toks + ([] : List (Str × Value)).length) rfl F2 N2 rC ⟨rfl, rfl⟩ ⟨rfl, rfl⟩
  refine codeAny_compStart_list g ?_
  exact wpAny_pyIter_zip (f0 := .none) (N2 _ (.tail _ (.tail _ (.head _)))).1 g
end
-- Sound0
/-- the children one behind the other -/
def Chain : Nat → PF → Nat → Prop
  | p, .nil, q => p = q
  | p, .cons _ _ st en _ rest, q => st = p ∧ Chain en rest q
def PF.es : PF → List Addr
  | .nil => []
  | .cons e _ _ _ _ rest => e :: rest.es
/-- none is empty but perhaps the last -/
def PF.full : PF → Prop
  | .nil => True
  | .cons _ _ _ _ _ .nil => True
  | .cons _ _ st en _ rest => st ≠ en ∧ rest.full
/-- what a node's kind asks -/
def NodeOK (k : EK) (tx : Str) (roots : List Value) (st en : Nat) (ch : PF) : Prop := match k with
  | .lit s => Txt.slice tx (some (st : Int)) (some (en : Int)) = s ∧ ch = .nil
  | .seq => Chain st ch en ∧ ch.es.map Value.ref = roots
  | .alt => Chain st ch en ∧ (∃ x, ch.es = [x] ∧ Value.ref x ∈ roots) ∧ roots.length ≤ 16
  | .nota => st = en ∧ ch = .nil
  | _ => Chain st ch en ∧ ch.full
/-- a sound forest, with its expressions in the ledger -/
inductive Snd (tx : Str) (pre : List (Addr × Obj)) : PF → Prop
  | nil : Snd tx pre .nil
  | cons {k : EK} {e d mt : Addr} {o od : Obj} {nm : Str} {roots : List Value} {st en : Nat} {ch rest : PF} : k.Is d mt nm o → (e, o) ∈ pre → (d, od) ∈ pre → ((∀ s, k ≠ .lit s) → (mt, tupO roots 0) ∈ pre) → (∀ v ∈ roots, ∃ r o, v = .ref r ∧ (r, o) ∈ pre) → st ≤ en → en ≤ tx.length → NodeOK k tx roots st en ch → (∃ q, Chain st ch q) → Snd tx pre ch → Snd tx pre rest → Snd tx pre (.cons e nm st en ch rest)
theorem Snd.mono {tx : Str} {pre pre' : List (Addr × Obj)} (hs : ∀ p ∈ pre, p ∈ pre') {F : PF} (h : Snd tx pre F) : Snd tx pre' F := by
  induction h with
  | nil => exact .nil
  | cons a b c d r e f g h _ _ ih1 ih2 =>
    refine .cons a (hs _ b) (hs _ c) (fun z => hs _ (d z)) (fun v hv => ?_) e f g h ih1 ih2
    obtain ⟨x, o, y, z⟩ := r v hv
    exact ⟨x, o, y, hs _ z⟩
theorem snd_es {tx : Str} {pre : List (Addr × Obj)} {F : PF} (h : Snd tx pre F) : ∀ x ∈ F.es, ∃ o C, (x, o) ∈ pre ∧ o.cls = .ref C := by
  induction h with
  | nil => intro x hx; cases hx
  | cons a b _ _ _ _ _ _ _ _ _ _ ih2 =>
    intro x hx
    rcases List.mem_cons.mp hx with rfl | hx
    · exact ⟨_, _, b, a.obj.1⟩
    · exact ih2 x hx
/-- where the i-th child starts -/
def PF.place : Nat → PF → Nat → Nat
  | p, _, 0 => p
  | p, .nil, _ => p
  | _, .cons _ _ _ en _ rest, i + 1 => rest.place en i
theorem place_end : ∀ (F : PF) {p q : Nat}, Chain p F q → F.place p F.len = q
  | .nil, p, q, h => h
  | .cons _ _ _ en _ rest, p, q, h => by
    show PF.place p _ (1 + rest.len) = q
    rw [Nat.add_comm]
    exact place_end rest h.2
theorem nodes_atC {tx : Str} {ctx : List (Addr × Obj)} {vs : List Value} {F : PF} (h : NodesIn tx ctx vs F) : ∀ {p q i : Nat} {v : Value}, Chain p F q → vs[i]? = some v → ∃ a d cl e t1 t2 t3, v = .ref a ∧ (a, nodeO d (.ref cl) (.int (F.place p (i + 1) : Nat) t1) (.ref e) (.str tx t2) (.int (F.place p i : Nat) t3)) ∈ ctx ∧ (d, dictOf [] 0) ∈ ctx := by
  induction h with
  | nil => intro p q i v _ h; simp at h
  | @cons _ _ _ _ _ _ _ _ _ _ _ _ _ _ rest h1 h2 _ _ _ _ ih =>
    intro p q i v hc h
    cases i with
    | zero =>
      simp at h; subst h
      have e := hc.1
      subst e
      exact ⟨_, _, _, _, _, _, _, rfl, by cases rest <;> exact h1, h2⟩
    | succ i => exact ih hc.2 (by simpa using h)
theorem Roots.atS {P : Value → PF → Prop} {vs : List Value} {F : PF} (h : Roots P vs F) : ∀ {i : Nat} {v : Value}, vs[i]? = some v → ∃ t : PF, P v t ∧ t.ht ≤ F.ht := by
  intro i v e
  obtain ⟨t, a, _, b⟩ := h.at e
  exact ⟨t, a, b⟩
/-- the names that _law_sound holds -/
abbrev sndM (vc : Option Value) (p : Int) (tp : Tok) (tx : Str) (tkx : Tok) : Str → Option Value := fun y => if y = Str.ofString "place" then some (.int p tp) else if y = Str.ofString "child" then vc else if y = Str.ofString "text" then some (.str tx tkx) else none
section
variable {prog : Program} {w : World} {A : Around} {E : Value → Shared → Prop} {s : Shared} {Q : Value → Shared → Prop} {h₀ : Heap} {L l b : Addr} {news : List (Addr × Obj)} {xs ys : List Value} {n k : Nat}
theorem int_ne_same {a b : Int} {t u : Tok} (e : a = b) (h : Q (.bool false) s) : wpAny (model prog w) A (compareOp .NotEq (.int a t) (.int b u)) Q E s := by
  subst e; refine PyProof.Rows.ne_int ?_; rw [bne_self_eq_false]; exact h
theorem int_eq_same {a b : Int} {t u : Tok} (e : a = b) (h : Q (.bool true) s) : wpAny (model prog w) A (compareOp .Eq (.int a t) (.int b u)) Q E s := by
  subst e; refine PyProof.Rows.eq_int ?_; rw [beq_self_eq_true]; exact h
theorem str_ne_same {a b : Str} {t u : Tok} (e : a = b) (h : Q (.bool false) s) : wpAny (model prog w) A (compareOp .NotEq (.str a t) (.str b u)) Q E s := by
  subst e; refine PySem.P.ne_str ?_; rw [bne_self_eq_false]; exact h
theorem str_eq_same {a b : Str} {t u : Tok} (e : a = b) (h : Q (.bool true) s) : wpAny (model prog w) A (compareOp .Eq (.str a t) (.str b u)) Q E s := by
  subst e; refine PySem.P.eq_str ?_; rw [beq_self_eq_true]; exact h
theorem lists_ne_same (N : News h₀ L s.heap news) (hl : (l, lstO xs n) ∈ news) (hb : (b, lstO xs k) ∈ news) (hu : A.units < cLine) (h : Q (.bool false) s) : wpAny (model prog w) A (compareOp .NotEq (.ref l) (.ref b)) Q E s := by
  refine cmp_ofNotEq (SeqAt.RcNeAt.lists (e := fun _ => true) ⟨_, (N _ hl).1, rfl, _, rfl⟩ ⟨_, (N _ hb).1, rfl, _, rfl⟩ rfl hu (fun j h1 h2 => SeqAt.EqAt.same _) prog w E Q ?_)
  rw [show (List.range xs.toArray.size).all (fun _ => true) = true by simp]; exact h
theorem lists_eq_nil (N : News h₀ L s.heap news) (hl : (l, lstO xs n) ∈ news) (hb : (b, lstO [] k) ∈ news) (hu : A.units < cLine) (h : Q (.bool xs.isEmpty) s) : wpAny (model prog w) A (compareOp .Eq (.ref l) (.ref b)) Q E s := by
  refine cmp_ofEq ?_
  cases xs with
  | nil => exact SeqAt.RcAt.lists (e := fun _ => true) ⟨_, (N _ hl).1, rfl, _, rfl⟩ ⟨_, (N _ hb).1, rfl, _, rfl⟩ rfl hu (fun j h1 h2 => SeqAt.EqAt.same _) prog w E Q h
  | cons x xs => exact SeqAt.RcAt.lists_lengths ⟨_, (N _ hl).1, rfl, _, rfl⟩ ⟨_, (N _ hb).1, rfl, _, rfl⟩ (by simp) hu prog w E Q h
theorem lists_ne_nil (N : News h₀ L s.heap news) (hl : (l, lstO xs n) ∈ news) (hb : (b, lstO [] k) ∈ news) (hu : A.units < cLine) (h : Q (.bool !xs.isEmpty) s) : wpAny (model prog w) A (compareOp .NotEq (.ref l) (.ref b)) Q E s := by
  refine cmp_ofNotEq ?_
  cases xs with
  | nil => exact SeqAt.RcNeAt.lists (e := fun _ => true) ⟨_, (N _ hl).1, rfl, _, rfl⟩ ⟨_, (N _ hb).1, rfl, _, rfl⟩ rfl hu (fun j h1 h2 => SeqAt.EqAt.same _) prog w E Q h
  | cons x xs => exact SeqAt.RcNeAt.lists_lengths ⟨_, (N _ hl).1, rfl, _, rfl⟩ ⟨_, (N _ hb).1, rfl, _, rfl⟩ (by simp) hu prog w E Q h
end
section
variable {prog : Program} {w : World} {A : Around} {E : Value → Shared → Prop} {s : Shared} {Q : Value → Shared → Prop} {h₀ : Heap} {L l b : Addr} {m : Str → Option Value} {news : List (Addr × Obj)} {xs ys : List Value} {n k : Nat}
theorem int_eq_not {a b : Int} {t u : Tok} (e : a ≠ b) (h : Q (.bool false) s) : wpAny (model prog w) A (compareOp .Eq (.int a t) (.int b u)) Q E s := by
  refine PyProof.Rows.eq_int ?_; rw [beq_eq_false_iff_ne.mpr e]; exact h
theorem m_lenL (N : News h₀ L s.heap news) (hl : (l, lstO xs n) ∈ news) (hz : xs.length ≤ 16777216) (h : ∀ t t', Q (.int xs.length t) { s with toks := t' }) : wpAny (model prog w) A (call (.builtin "len") [.ref l]) Q E s :=
  len_list (items := xs.toArray) ⟨_, (N _ hl).1, rfl, _, rfl⟩ (by simp; omega) (by simpa using h _ _)
theorem m_lenT (N : News h₀ L s.heap news) (hl : (l, tupO xs n) ∈ news) (hz : xs.length ≤ 16777216) (h : ∀ t t', Q (.int xs.length t) { s with toks := t' }) : wpAny (model prog w) A (call (.builtin "len") [.ref l]) Q E s :=
  PySem.P.len_tuple (items := xs.toArray) (n := n) (N _ hl).1 (by simp; omega) (by simpa using h _ _)
theorem m_upto1 {h : Heap} {g : Array GenState} {d : Drawn} {t : Nat} {os : OsState} {value slice : PySem.Expr} {tk : Tok} {its : List Value} (F : Fr h₀ L h m) (N : News h₀ L h news) (hl : (l, lstO its n) ∈ news) (hz : its.length ≤ 16777216)
    (kk : ∀ D h', Fr h₀ L h' m → News h₀ L h' ((D, lstO its.dropLast 0) :: news) → (∀ p ∈ news, p.1 < D) → Q (.ref D) ⟨h', g, d, t, os⟩)
    (hs : subscripted slice false (.ref l) (.ref h.objs.size) = operate [.ref h.objs.size, .ref l] (getItem (.ref l) (.ref h.objs.size))) :
    wpAny (model prog w) A (subscriptTail value slice (.ref l) (.ref h.objs.size)) Q E ⟨h.push { cls := .type "slice", data := .fields #[.none, .int (-1) tk, .none] }, g, d, t, os⟩ := by
  have hl' : h.IsList l its.toArray := ⟨_, (N _ hl).1, rfl, _, rfl⟩
  have h9 := hl'.push { cls := .type "slice", data := .fields #[.none, .int (-1) tk, .none] }
  have e0 : (slicePick its.toArray none (some (-1)) none).toList = its.dropLast := ?_
  · refine tail_any (T := "list") (Heap.IsList.typeIs (s := ⟨h.push { cls := .type "slice", data := .fields #[.none, .int (-1) tk, .none] }, g, d, t, os⟩) h9) list_getitem_lookup
      (wpAny_getItem_list_slice h9 (Heap.IsSliceOf.new ..) .none (.int _ _) .none (by simp) ?_ (by rw [sizeLine_eq, List.size_toArray]; exact hz)) hs
    have F1 := F.push { cls := .type "slice", data := .fields #[.none, .int (-1) tk, .none] }
    have N1 := newsSub (News.push F N { cls := .type "slice", data := .fields #[.none, .int (-1) tk, .none] } rfl) fun p hp => List.mem_cons_of_mem _ hp
    have lt : ∀ p ∈ news, p.1 < (h.push { cls := .type "slice", data := .fields #[.none, .int (-1) tk, .none] }).objs.size := fun p hp => Heap.lt_size (N1 _ hp).1
    have fin := kk _ _ (F1.push (lstO its.dropLast 0)) (News.push F1 N1 (lstO its.dropLast 0) rfl) lt
    have e1 : (lstO its.dropLast 0) = { cls := .type "list", data := .seq (slicePick its.toArray none (some (-1)) none) } := by rw [← e0]
    rw [e1] at fin
    exact fin
  have e : sliceBounds none (some (-1)) none its.toArray.size = (((0 : Nat) : Int), ((its.length - 1 : Nat) : Int), 1) := by
    simp only [sliceBounds, Option.getD_none, show (1 : Int) > 0 by decide, if_true, List.size_toArray, show ((-1 : Int) < 0) by decide]
    congr 1
    congr 1
    omega
  rw [kmk_pick_nat _ e]
  simp [List.dropLast_eq_take]
theorem full_at : ∀ (F : PF) {p q i : Nat}, F.full → Chain p F q → i + 1 < F.len → F.place p i ≠ F.place p (i + 1)
  | .nil, _, _, _, _, _, h => absurd h (Nat.not_lt_zero _)
  | .cons _ _ _ _ _ .nil, _, _, _, _, _, h => by simp [PF.len] at h
  | .cons _ _ st en _ (.cons e' n' s' en' c' r'), p, q, i, hf, hc, h => by
    cases i with
    | zero =>
      have e1 := hc.1
      subst e1
      exact hf.1
    | succ i => exact full_at (.cons e' n' s' en' c' r') hf.2 hc.2 (by simp only [PF.len] at h ⊢; omega)
end
theorem nodes_atE {tx : Str} {ctx : List (Addr × Obj)} {vs : List Value} {F : PF} (h : NodesIn tx ctx vs F) : ∀ {i : Nat} {v : Value}, vs[i]? = some v → ∃ a d cl e t1 t2 t3, ∃ st en : Nat, v = .ref a ∧ F.es[i]? = some e ∧ (a, nodeO d (.ref cl) (.int en t1) (.ref e) (.str tx t2) (.int st t3)) ∈ ctx ∧ (d, dictOf [] 0) ∈ ctx := by
  induction h with
  | nil => intro i v h; simp at h
  | cons h1 h2 _ _ _ _ ih =>
    intro i v h
    cases i with
    | zero => simp at h; subst h; exact ⟨_, _, _, _, _, _, _, _, _, rfl, rfl, h1, h2⟩
    | succ i => exact ih (by simpa using h)
theorem es_len : ∀ F : PF, F.es.length = F.len
  | .nil => rfl
  | .cons _ _ _ _ _ rest => by simp [PF.es, PF.len, es_len rest]; omega
/-- a cell's name, read in a comprehension -/
theorem m_nameF {M : Model} {A : Around} {E : Value → Shared → Prop} {s : Shared} {h₀ : Heap} {L C c : Addr} {scope : Scope} {cl : List (Str × Addr)} {env : Env} {news : List (Addr × Obj)} {o : Obj} {x : Str} {v : Value} {pos : Pos} {Q : Value → Shared → Prop} (N : News h₀ L s.heap news) (hm : (c, o) ∈ news) (hd : o.data = .cell (some v))
    (hc : (compEnvC scope cl C env).cells.lookup x = some c) (hk : (compEnvC scope cl C env).scope.kind = .function) (hx : (compEnvC scope cl C env).kindOf x = some .cell) (h : Q v s) (hb : (x == ("__debug__" : Str)) = false := by decide) :
    wpAny M A (eval (.Name x pos) (compEnvC scope cl C env)) Q E s := wpAny_Name (wpAny_loadName_cell hk hx hc ⟨o, N.get hm, hd⟩ h) hb
/-- an item of a list of the ledger -/
theorem m_itemL {prog : Program} {w : World} {A : Around} {E : Value → Shared → Prop} {s : Shared} {h₀ : Heap} {L l : Addr} {news : List (Addr × Obj)} {xs : List Value} {n i : Nat} {u : Tok} {v : Value} {value slice : PySem.Expr} {Q : Value → Shared → Prop} (N : News h₀ L s.heap news) (hl : (l, lstO xs n) ∈ news) (hz : i < 16777217) (hx : xs[i]? = some v) (h : Q v s)
    (hs : subscripted slice false (.ref l) (.int i u) = operate [.ref l, .int i u] (getItem (.ref l) (.int i u))) : wpAny (model prog w) A (subscriptTail value slice (.ref l) (.int i u)) Q E s :=
  have hl' : s.heap.IsList l xs.toArray := ⟨_, (N _ hl).1, rfl, _, rfl⟩
  tail_any hl'.typeIs slot_list_getitem.lookup (wpAny_getItem_list hl' (by omega) (by omega) (by simpa using hx) h) hs
-- Sound
theorem sound_ok {w : World} {tx : Str} {tkx : Tok} (hz : tx.length ≤ 5) (F : PF) : ∀ {pre : List (Addr × Obj)} {vs : List Value}, NodesIn tx pre vs F → Snd tx pre F → F.small →
    Roots (fun v t => Run w 536 [v, .str tx tkx] [] (40 * t.ht) (400 * t.ht) pre (fun r tl => tl = [] ∧ r = .bool true)) vs F := by
  induction F with
  | nil => intro pre vs h _ _; cases h; exact .nil
  | cons e nm st en ch rest ih1 ih2 =>
  intro pre vs h hsnd hsmall
  cases h with
  | @cons a d cl _ t1 t2 t3 _ _ n _ chs vs _ _ hm hd hcl hc hr =>
  cases hsnd with
  | @cons k _ de mt o od _ roots _ _ _ _ hk he hde hmt hrt hle hen hnode hchain hsc hsr =>
  refine .cons ?_ (ih2 hr hsr hsmall.2.2)
  clear ih2 hr hsr
  obtain ⟨pe, hchain⟩ := hchain
  w_on
  intro A h₀ L m s R hAmb hhd F N hdep hun hret
  obtain ⟨A₀, base, outer, env, p, loose, mean, mg, mb, B, X, T, hA, hf, hke, hrw⟩ := hAmb
  obtain ⟨hd, dp, fr, gd, un⟩ := A
  dsimp only at hA hhd hdep hun
  subst hA hhd
  revert X hrw
  k_fill
  intro X hrw
  clear hrw
  (k_dflt (refine' code_defC (binds := [(Str.ofString "node", .ref a), (Str.ofString "text", .str tx tkx)]) ?k1 ?k2 ?k3 ?k4 ?k5 ?kA ?kF ?kK ?k6 ?k7 ?k8 ?k9 ?kB ?kD ?_ ?c2 ?c3 ?c4; (case kA => exact rfl); (case kF => first | exact rfl | assumption); (case kK => first | exact rfl | assumption); (case k1 => k_asm); (case k2 => k_asm); (case k3 => k_asm); (case k4 => k_asm); (case k5 => k_asm); (case k6 => k_is); (case k7 => k_is); (case k8 => k_room); (case k9 => first | exact BindsTo.of_eq rfl | exact binds_K (by k_in) rfl (by k_is) rfl rfl rfl); (case kB => exact rfl); (case kD => decide +kernel); (case c2 => exact rfl); (case c3 => exact rfl); (case c4 => exact rfl); k_whole))
  intro g' L' h' tk' cells' FG' F' N' Y' B' X' T' lc
  k_cells Y'
  (try simp only [List.cons_append, List.nil_append] at N')
  try dsimp only
  rename_i oc dc
  repeat' (first | ((fail_if_success (with_reducible show wpAny _ _ (getAttr (Value.ref _) _ _) _ _ _)); (first | (k_unfold; (try dsimp only)) | (k_end; wrow_close) | walk1 | (dsimp only; walk1) | (leave1; walk_say "STEP leave1"; try dsimp only) | fail "no step")))
  refine n_slot F' X' N' (by (repeat (first | exact hm | refine List.Mem.tail _ ?_))) (by (repeat (first | exact hd | refine List.Mem.tail _ ?_))) so_nst rfl rfl ?_
  repeat' (first | ((fail_if_success (with_reducible show wpAny _ _ (exec (PySem.Stmt.For _ _ _ _ _) _) _ _ _)); (first | (k_unfold; (try dsimp only)) | (k_end; wrow_close) | walk1 | (dsimp only; walk1) | (leave1; walk_say "STEP leave1"; try dsimp only) | fail "no step")))
  rename_i h1 F1 N1
  replace F1 := fr_map (m' := sndM none st t3 tx tkx) F1 fun y => by
    simp only [sndM]
    by_cases e1 : y = Str.ofString "place"
    · subst e1; rfl
    by_cases e2 : y = Str.ofString "child"
    · subst e2; rfl
    by_cases e3 : y = Str.ofString "text"
    · subst e3; rfl
    simp only [if_neg e1, if_neg e2, if_neg e3]
    show (if y = Str.ofString "text" then _ else none) = none
    rw [if_neg e3]
  replace dc : oc.data = .cell (some (.ref a)) := dc
  refine wpAny_For ?_
  repeat' (first | ((fail_if_success (with_reducible show wpAny _ _ (pyIter _) _ _ _)); (first | (k_unfold; (try dsimp only)) | (k_end; wrow_close) | walk1 | (dsimp only; walk1) | (leave1; walk_say "STEP leave1"; try dsimp only) | fail "no step")))
  refine owit_iter (f := 52) F1 X' (InstAt.of_news N1 (.tail _ hm) (.tail _ hd)) (by kernel_rfl) (by kernel_rfl) ?_
  refine wpAny_call ?_
  simp only [PF.ht] at hdep hun
  have ch1 : ∀ q ∈ pre, q ∈ (L' + 1, oc) :: pre := fun q hq => .tail _ hq
  refine iter_ok (ch1 _ hm) (ch1 _ hd) (ch1 _ hcl) _ _ _ _ _ _ ⟨_, _, _, _, _, _, _, _, _, by k_asm, by k_asm, by k_asm, rfl, rfl, rfl, rfl⟩ rfl (by k_asm) (by k_asm) (by (try simp only [depth_mark, depth_under_make, depth_under_kw, depth_in1, depth_deeper, depth_caller]); omega) (by (try simp only [units_in1, units_deeper, Around.mark_units, units_caller]); omega) fun v tl h2 tk2 F2 N2 dc2 lt2 hp => ?_
  obtain ⟨I, rfl, rfl⟩ := hp
  try dsimp only
  simp only [List.cons_append, List.nil_append] at N2
  refine m_owitIt N2 (.head _) ⟨rfl, rfl⟩ ?_
  have hlen := nodes_len hc
  have lI : ∀ p ∈ (L' + 1, oc) :: pre, p.1 < I := fun p hp => lt2 _ (.head _) p hp
  obtain ⟨i, vc, tp, oI, s1, hs1, hi, hI, F3, N3⟩ : ∃ (i : Nat) (vc : Option Value) (tp : Tok) (oI : Obj) (s1 : Shared), s1 = { s with heap := h2, toks := tk2 } ∧ i ≤ chs.length ∧ IsIt oI cl i ∧
      Fr g' L' s1.heap (sndM vc (ch.place st i : Nat) tp tx tkx) ∧ News g' L' s1.heap ((I, oI) :: (L' + 1, oc) :: pre) := by
    refine ⟨0, none, t3, _, _, rfl, Nat.zero_le _, ⟨rfl, rfl⟩, ?_, N2⟩
    rw [show ch.place st 0 = st by cases ch <;> rfl]
    exact F2
  have hs1' : ({ heap := h2, gens := s.gens, drawn := s.drawn, toks := tk2, os := s.os } : Shared) = s1 := hs1.symm
  rw [hs1']
  have hg1 : s1.gens = s.gens := by rw [hs1]
  have hr1 : s1.drawn = s.drawn := by rw [hs1]
  have ho1 : s1.os = s.os := by rw [hs1]
  clear hs1 hs1' F2 N2 F1 N1 dc2 lt2
  obtain ⟨r, hr⟩ : ∃ r, r = chs.length - i := ⟨_, rfl⟩
  induction r generalizing i vc tp oI s1 with
  | zero =>
    refine for_turn (m_next_end (l := cl) (its := chs) (n := n) (rest := (L' + 1, oc) :: pre) rfl F3 N3 (.tail _ (.tail _ hcl)) (by omega) hI (.head _) (fun q hq => .tail _ hq) (fun q hq => Nat.ne_of_lt (lI q hq)) fun h4 F4 N4 => ?_)
    try dsimp only
    (try clear F3); (try clear N3)
    repeat' (first | ((fail_if_success (with_reducible show wpAny _ _ (getAttr (Value.ref _) _ _) _ _ _)); (first | (k_unfold; (try dsimp only)) | (k_end; wrow_close) | walk1 | (dsimp only; walk1) | (leave1; walk_say "STEP leave1"; try dsimp only) | fail "no step")))
    refine n_slot F4 X' N4 (ch1 _ hm) (ch1 _ hd) so_nft rfl rfl ?_
    repeat' (first | ((fail_if_success (with_reducible show wpAny _ _ (compareOp _ _ _) _ _ _)); (first | (k_unfold; (try dsimp only)) | (k_end; wrow_close) | walk1 | (dsimp only; walk1) | (leave1; walk_say "STEP leave1"; try dsimp only) | fail "no step")))
    refine str_ne_same rfl ?_
    repeat' (first | ((fail_if_success (with_reducible show wpAny _ _ (getAttr (Value.ref _) _ _) _ _ _)); (first | (k_unfold; (try dsimp only)) | (k_end; wrow_close) | walk1 | (dsimp only; walk1) | (leave1; walk_say "STEP leave1"; try dsimp only) | fail "no step")))
    refine n_text F4 X' N4 (ch1 _ hm) (ch1 _ hd) ?_
    refine text_ok (ch1 _ hm) (ch1 _ hd) hz _ _ _ _ _ _ ⟨_, _, _, _, _, _, _, _, _, by k_asm, by k_asm, by k_asm, rfl, rfl, rfl, rfl⟩ rfl (by k_asm) (by k_asm) (by (try simp only [depth_mark, depth_under_make, depth_under_kw, depth_in1, depth_deeper, depth_caller]); omega) (by (try simp only [units_in1, units_deeper, Around.mark_units, units_caller]); omega) fun v tl h5 tk5 F5 N5 dc5 lt5 hp5 => ?_
    obtain ⟨rfl, hts, tk6, rfl⟩ := hp5
    rw [List.nil_append] at N5
    refine handed_on rfl ?_
    try dsimp only
    clear F4 N4
    repeat' (first | ((fail_if_success (with_reducible show wpAny _ _ (getAttr (Value.ref _) _ _) _ _ _)); (first | (k_unfold; (try dsimp only)) | (k_end; wrow_close) | walk1 | (dsimp only; walk1) | (leave1; walk_say "STEP leave1"; try dsimp only) | fail "no step")))
    refine n_slot F5 X' N5 (ch1 _ hm) (ch1 _ hd) so_nst rfl rfl ?_
    repeat' (first | ((fail_if_success (with_reducible show wpAny _ _ (getAttr (Value.ref _) _ _) _ _ _)); (first | (k_unfold; (try dsimp only)) | (k_end; wrow_close) | walk1 | (dsimp only; walk1) | (leave1; walk_say "STEP leave1"; try dsimp only) | fail "no step")))
    refine n_slot F5 X' N5 (ch1 _ hm) (ch1 _ hd) so_nen rfl rfl ?_
    repeat' (first | ((fail_if_success (with_reducible show wpAny _ _ (compareOp _ _ _) _ _ _)); (first | (k_unfold; (try dsimp only)) | (k_end; wrow_close) | walk1 | (dsimp only; walk1) | (leave1; walk_say "STEP leave1"; try dsimp only) | fail "no step")))
    refine str_ne_same rfl ?_
    repeat' (first | ((fail_if_success (with_reducible show wpAny _ _ (call (Value.type _) _ _) _ _ _)); (fail_if_success (with_reducible show wpAny _ _ (call (Value.builtin _) _ _) _ _ _)); (fail_if_success (with_reducible show wpAny _ _ (pyIter _) _ _ _)); (first | (k_unfold; (try dsimp only)) | (k_end; wrow_close) | walk1 | (dsimp only; walk1) | (leave1; walk_say "STEP leave1"; try dsimp only) | fail "no step")))
    try dsimp only
    rename_i F5 N5 hl5
    refine m_listN (K := Mine.hd.heap_39 w.params) (l := cl) (its := chs) (n := n) rfl F5 X' N5 (fun h' F N => InstAt.of_news N (ch1 _ hm) (ch1 _ hd)) (by kernel_rfl) (by kernel_rfl) (Heap.lt_size (N5 _ (ch1 _ hm)).1) (ch1 _ hcl) (by rw [hlen]; exact hsmall.2.1) ?hit ?_
    case hit =>
      intro S oS h6 tk Q6 E6 F6 N6 lS k6
      refine owit_iter (f := 52) F6 X' (InstAt.of_news N6 (.tail _ (ch1 _ hm)) (.tail _ (ch1 _ hd))) (by kernel_rfl) (by kernel_rfl) ?_
      refine wpAny_call ?_
      refine iter_ok (.tail _ (ch1 _ hm)) (.tail _ (ch1 _ hd)) (.tail _ (ch1 _ hcl)) _ _ _ _ _ _ ⟨_, _, _, _, _, _, _, _, _, by k_asm, by k_asm, by k_asm, rfl, rfl, rfl, rfl⟩ rfl (by k_asm) (by k_asm) (by (try simp only [depth_mark, depth_under_make, depth_under_kw, depth_in1, depth_deeper, depth_caller]); omega) (by (try simp only [units_in1, units_deeper, Around.mark_units, units_caller]); omega) fun v tl h7 tk7 F7 N7 dc7 lt7 hp7 => ?_
      obtain ⟨I7, rfl, rfl⟩ := hp7
      try dsimp only
      refine m_owitIt N7 (.head _) ⟨rfl, rfl⟩ ?_
      exact k6 I7 h7 tk7 F7 N7 (fun p hp => lt7 _ (.head _) p hp)
    intro D h6 tk7 kD F6 N6 lD
    clear F5 N5
    try dsimp only
    repeat' (first | ((fail_if_success (with_reducible show wpAny _ _ (getAttr (Value.ref _) _ _) _ _ _)); (first | (k_unfold; (try dsimp only)) | (k_end; wrow_close) | walk1 | (dsimp only; walk1) | (leave1; walk_say "STEP leave1"; try dsimp only) | fail "no step")))
    refine n_slot F6 X' N6 (.tail _ (ch1 _ hm)) (.tail _ (ch1 _ hd)) so_nch rfl rfl ?_
    repeat' (first | ((fail_if_success (with_reducible show wpAny _ _ (compareOp _ _ _) _ _ _)); (first | (k_unfold; (try dsimp only)) | (k_end; wrow_close) | walk1 | (dsimp only; walk1) | (leave1; walk_say "STEP leave1"; try dsimp only) | fail "no step")))
    refine lists_ne_same N6 (.head _) (.tail _ (ch1 _ hcl)) (by have hcL9 := cLine_is; ((try simp only [units_in1, units_deeper, Around.mark_units, units_caller] at *); omega)) ?_
    repeat' (first | ((fail_if_success (with_reducible show wpAny _ _ (getAttr (Value.ref _) _ _) _ _ _)); (first | (k_unfold; (try dsimp only)) | (k_end; wrow_close) | walk1 | (dsimp only; walk1) | (leave1; walk_say "STEP leave1"; try dsimp only) | fail "no step")))
    refine n_slot F6 X' N6 (.tail _ (ch1 _ hm)) (.tail _ (ch1 _ hd)) so_nex rfl rfl ?_
    repeat' (first | ((fail_if_success (with_reducible show wpAny _ _ (call (Value.builtin "isinstance") _ _) _ _ _)); (first | (k_unfold; (try dsimp only)) | (k_end; wrow_close) | walk1 | (dsimp only; walk1) | (leave1; walk_say "STEP leave1"; try dsimp only) | fail "no step")))
    rename_i h8 F8 N8
    replace F8 := fr_map (m' := fun y => if y = Str.ofString "expr" then some (.ref e) else sndM vc (pe : Int) tp tx tkx y) F8 fun y => by
      have hin : i = ch.len := by omega
      rw [hin, place_end ch hchain]
    have ch8 : ∀ q ∈ pre, q ∈ (D, lstO chs kD) :: (L' + 1, oc) :: pre := fun q hq => .tail _ (.tail _ hq)
    cases k with
    | lit s0 =>
      obtain ⟨hs0, rfl⟩ := hnode
      refine e_is F8 X' N8 hk (ch8 _ he) (ch8 _ hde) (.inl rfl) true rfl fun tk8 => ?_
      try dsimp only
      repeat' (first | ((fail_if_success (with_reducible show wpAny _ _ (getAttr (Value.ref _) _ _) _ _ _)); (first | (k_unfold; (try dsimp only)) | (k_end; wrow_close) | walk1 | (dsimp only; walk1) | (leave1; walk_say "STEP leave1"; try dsimp only) | fail "no step")))
      refine n_text F8 X' N8 (ch8 _ hm) (ch8 _ hd) ?_
      refine text_ok (ch8 _ hm) (ch8 _ hd) hz _ _ _ _ _ _ ⟨_, _, _, _, _, _, _, _, _, by k_asm, by k_asm, by k_asm, rfl, rfl, rfl, rfl⟩ rfl (by k_asm) (by k_asm) (by (try simp only [depth_mark, depth_under_make, depth_under_kw, depth_in1, depth_deeper, depth_caller]); omega) (by (try simp only [units_in1, units_deeper, Around.mark_units, units_caller]); omega) fun v tl h9 tk9 F9 N9 dc9 lt9 hp9 => ?_
      obtain ⟨rfl, hts9, tk10, rfl⟩ := hp9
      rw [List.nil_append] at N9
      refine handed_on rfl ?_
      try dsimp only
      clear F8 N8
      repeat' (first | ((fail_if_success (with_reducible show wpAny _ _ (getAttr (Value.ref _) _ _) _ _ _)); (first | (k_unfold; (try dsimp only)) | (k_end; wrow_close) | walk1 | (dsimp only; walk1) | (leave1; walk_say "STEP leave1"; try dsimp only) | fail "no step")))
      obtain ⟨it0, tl1, tl2, rfl⟩ := hk
      refine e_slot (mt := mt) (k := .lit s0) F9 X' N9 ⟨it0, tl1, tl2, rfl⟩ (ch8 _ he) (ch8 _ hde) so_lit rfl rfl ?_
      repeat' (first | ((fail_if_success (with_reducible show wpAny _ _ (compareOp _ _ _) _ _ _)); (first | (k_unfold; (try dsimp only)) | (k_end; wrow_close) | walk1 | (dsimp only; walk1) | (leave1; walk_say "STEP leave1"; try dsimp only) | fail "no step")))
      refine str_eq_same hs0 ?_
      repeat' (first | ((fail_if_success (with_reducible show wpAny _ _ (getAttr (Value.ref _) _ _) _ _ _)); (first | (k_unfold; (try dsimp only)) | (k_end; wrow_close) | walk1 | (dsimp only; walk1) | (leave1; walk_say "STEP leave1"; try dsimp only) | fail "no step")))
      refine n_slot F9 X' N9 (ch8 _ hm) (ch8 _ hd) so_nch rfl rfl ?_
      repeat' (first | ((fail_if_success (with_reducible show wpAny _ _ (compareOp _ _ _) _ _ _)); (first | (k_unfold; (try dsimp only)) | (k_end; wrow_close) | walk1 | (dsimp only; walk1) | (leave1; walk_say "STEP leave1"; try dsimp only) | fail "no step")))
      try dsimp only
      have hnil : chs = [] := List.eq_nil_of_length_eq_zero hlen
      subst hnil
      refine lists_eq_nil (by assumption) (.tail _ (ch8 _ hcl)) (.head _) (by have hcL9 := cLine_is; ((try simp only [units_in1, units_deeper, Around.mark_units, units_caller] at *); omega)) ?_
      try dsimp only
      repeat' (first | ((first | (k_unfold; (try dsimp only)) | (k_end; wrow_close) | walk1 | (dsimp only; walk1) | (leave1; walk_say "STEP leave1"; try dsimp only) | fail "no step")))
      rw [hg1, hr1, ho1]
      refine hret _ [] _ _ (by assumption) (newsSub (by assumption) (by walk_at "m sub")) (by walk_at "m desc") (by walk_at "m ord") (⟨rfl, rfl⟩)
    | seq =>
      obtain ⟨hch, hes⟩ := hnode
      have hpe : pe = en := (place_end ch hchain).symm.trans (place_end ch hch)

      refine e_is F8 X' N8 hk (ch8 _ he) (ch8 _ hde) (.inl rfl) false rfl fun tk8 => ?_
      try dsimp only
      repeat' (first | ((fail_if_success (with_reducible show wpAny _ _ (call (Value.builtin "isinstance") _ _) _ _ _)); (first | (k_unfold; (try dsimp only)) | (k_end; wrow_close) | walk1 | (dsimp only; walk1) | (leave1; walk_say "STEP leave1"; try dsimp only) | fail "no step")))
      refine e_is F8 X' N8 hk (ch8 _ he) (ch8 _ hde) (.inr (.inl rfl)) true rfl fun tk8 => ?_
      try dsimp only
      repeat' (first | ((fail_if_success (with_reducible show wpAny _ _ (getAttr (Value.ref _) _ _) _ _ _)); (first | (k_unfold; (try dsimp only)) | (k_end; wrow_close) | walk1 | (dsimp only; walk1) | (leave1; walk_say "STEP leave1"; try dsimp only) | fail "no step")))
      refine n_slot F8 X' N8 (ch8 _ hm) (ch8 _ hd) so_nen rfl rfl ?_
      repeat' (first | ((fail_if_success (with_reducible show wpAny _ _ (compareOp _ _ _) _ _ _)); (first | (k_unfold; (try dsimp only)) | (k_end; wrow_close) | walk1 | (dsimp only; walk1) | (leave1; walk_say "STEP leave1"; try dsimp only) | fail "no step")))
      refine int_eq_same (by rw [hpe]) ?_
      repeat' (first | ((fail_if_success (with_reducible show wpAny _ _ (getAttr (Value.ref _) _ _) _ _ _)); (first | (k_unfold; (try dsimp only)) | (k_end; wrow_close) | walk1 | (dsimp only; walk1) | (leave1; walk_say "STEP leave1"; try dsimp only) | fail "no step")))
      refine n_slot F8 X' N8 (ch8 _ hm) (ch8 _ hd) so_nch rfl rfl ?_
      repeat' (first | ((fail_if_success (with_reducible show wpAny _ _ (call (Value.builtin "len") _ _) _ _ _)); (first | (k_unfold; (try dsimp only)) | (k_end; wrow_close) | walk1 | (dsimp only; walk1) | (leave1; walk_say "STEP leave1"; try dsimp only) | fail "no step")))
      refine m_lenL N8 (ch8 _ hcl) (by rw [hlen]; exact hsmall.2.1) fun t13 t14 => ?_
      try dsimp only
      have hmt' := ch8 _ (hmt (by intro s0 z; cases z))
      have hrl : roots.length = chs.length := by rw [← hes, List.length_map, es_len, hlen]
      repeat' (first | ((fail_if_success (with_reducible show wpAny _ _ (getAttr (Value.ref _) _ _) _ _ _)); (first | (k_unfold; (try dsimp only)) | (k_end; wrow_close) | walk1 | (dsimp only; walk1) | (leave1; walk_say "STEP leave1"; try dsimp only) | fail "no step")))
      refine e_members F8 X' N8 hk (ch8 _ he) (ch8 _ hde) (by intro s0 z; cases z) ?_
      repeat' (first | ((fail_if_success (with_reducible show wpAny _ _ (call (Value.builtin "len") _ _) _ _ _)); (first | (k_unfold; (try dsimp only)) | (k_end; wrow_close) | walk1 | (dsimp only; walk1) | (leave1; walk_say "STEP leave1"; try dsimp only) | fail "no step")))
      refine m_lenT N8 hmt' (by rw [hrl, hlen]; exact hsmall.2.1) fun t15 t16 => ?_
      try dsimp only
      repeat' (first | ((fail_if_success (with_reducible show wpAny _ _ (compareOp _ _ _) _ _ _)); (first | (k_unfold; (try dsimp only)) | (k_end; wrow_close) | walk1 | (dsimp only; walk1) | (leave1; walk_say "STEP leave1"; try dsimp only) | fail "no step")))
      refine int_eq_same (by rw [hrl]) ?_
      repeat' (first | ((fail_if_success (with_reducible show wpAny _ _ (eval (PySem.Expr.ListComp _ _ _ _) _) _ _ _)); (first | (k_unfold; (try dsimp only)) | (k_end; wrow_close) | walk1 | (dsimp only; walk1) | (leave1; walk_say "STEP leave1"; try dsimp only) | fail "no step")))
      refine m_compZ (h₀ := g') (L := L') (m := fun y => if y = Str.ofString "expr" then some (Value.ref e) else sndM vc (pe : Int) tp tx tkx y) (xs := chs) (ys := roots) (l1 := cl) (l2 := mt) (n1 := n) (n2 := 0) (ctx := (D, lstO chs kD) :: (L' + 1, oc) :: pre) (cl := []) rfl (closureFor_none (by decide)) (by decide) rfl (by decide) rfl rfl (by decide) (Nat.le_of_eq hrl.symm) ?hit ?step
      case hit =>
        repeat' (first | ((fail_if_success (with_reducible show wpAny _ _ (getAttr (Value.ref _) _ _) _ _ _)); (first | (k_unfold; (try dsimp only)) | (k_end; wrow_close) | walk1 | (dsimp only; walk1) | (leave1; walk_say "STEP leave1"; try dsimp only) | fail "no step")))
        refine e_members F8 X' N8 hk (ch8 _ he) (ch8 _ hde) (by intro s0 z; cases z) ?_
        repeat' (first | ((fail_if_success (with_reducible show wpAny _ _ (call (Value.type "zip") _ _) _ _ _)); (first | (k_unfold; (try dsimp only)) | (k_end; wrow_close) | walk1 | (dsimp only; walk1) | (leave1; walk_say "STEP leave1"; try dsimp only) | fail "no step")))
        try dsimp only
        refine m_zip (h₀ := g') (L := L') (m := fun y => if y = Str.ofString "expr" then some (Value.ref e) else sndM vc (pe : Int) tp tx tkx y) (l := cl) N8 hmt' ?hit2 fun z TO TI i2 i1 h10 tk10 F10 N10 b1 b2 b3 b4 lt10 => ?_
        case hit2 =>
          intro Q6 E6 k6
          refine owit_iter (f := 52) F8 X' (InstAt.of_news N8 (ch8 _ hm) (ch8 _ hd)) (by kernel_rfl) (by kernel_rfl) ?_
          refine wpAny_call ?_
          refine iter_ok (ch8 _ hm) (ch8 _ hd) (ch8 _ hcl) _ _ _ _ _ _ ⟨_, _, _, _, _, _, _, _, _, by k_asm, by k_asm, by k_asm, rfl, rfl, rfl, rfl⟩ rfl (by k_asm) (by k_asm) (by (try simp only [depth_mark, depth_under_make, depth_under_kw, depth_in1, depth_deeper, depth_caller]); omega) (by (try simp only [units_in1, units_deeper, Around.mark_units, units_caller]); omega) fun v tl h7 tk7 F7 N7 dc7 lt7 hp7 => ?_
          obtain ⟨I7, rfl, rfl⟩ := hp7
          try dsimp only
          refine m_owitIt N7 (.head _) ⟨rfl, rfl⟩ ?_
          exact k6 I7 h7 tk7 F7 N7 (fun p hp => lt7 _ (.head _) p hp)
        try dsimp only
        refine ⟨z, TO, TI, i2, i1, rfl, F10, N10, b1, b2, b3, b4, lt10, ch8 _ hcl, hmt', fun D1 h11 tk11 F11 N11 l11 => ?_⟩
        clear F10 N10 F8 N8
        try dsimp only
        repeat' (first | ((fail_if_success (with_reducible show wpAny _ _ (compareOp _ _ _) _ _ _)); (first | (k_unfold; (try dsimp only)) | (k_end; wrow_close) | walk1 | (dsimp only; walk1) | (leave1; walk_say "STEP leave1"; try dsimp only) | fail "no step")))
        refine lists_eq_nil (by assumption) (.tail _ (.head _)) (.head _) (by have hcL9 := cLine_is; ((try simp only [units_in1, units_deeper, Around.mark_units, units_caller] at *); omega)) ?_
        try dsimp only
        repeat' (first | ((first | (k_unfold; (try dsimp only)) | (k_end; wrow_close) | walk1 | (dsimp only; walk1) | (leave1; walk_say "STEP leave1"; try dsimp only) | fail "no step")))
        rw [hg1, hr1, ho1]
        refine hret _ [] _ _ (by assumption) (newsSub (by assumption) (by walk_at "m sub")) (by walk_at "m desc") (by walk_at "m ord") (⟨rfl, rfl⟩)
      case step =>
        intro s' j x y C oC D2 oD z TO TI i2 i1 oz oTO oTI o2 o1 m1 E' hx hy Fs Ns rC hmc hmm
        obtain ⟨a1, d1, cl1, e1, u1, u2, u3, st1, en1, rfl, he1, hm1, hd1⟩ := nodes_atE hc hx
        have hy' : roots[j]? = some (.ref e1) := by rw [← hes, List.getElem?_map, he1]; rfl
        rw [hy'] at hy
        injection hy with hy
        subst hy
        have ch9 : ∀ q ∈ pre, q ∈ (C, oC) :: (D2, oD) :: ZL z TO TI i2 i1 oz oTO oTI o2 o1 ((D, lstO chs kD) :: (L' + 1, oc) :: pre) := fun q hq => .tail _ (.tail _ (.tail _ (.tail _ (.tail _ (.tail _ (.tail _ (.tail _ (.tail _ hq))))))))
        repeat' (first | ((fail_if_success (with_reducible show wpAny _ _ (getAttr (Value.ref _) _ _) _ _ _)); (first | (k_unfold; (try dsimp only)) | (k_end; wrow_close) | walk1 | (dsimp only; walk1) | (leave1; walk_say "STEP leave1"; try dsimp only) | fail "no step")))
        refine n_slot Fs X' Ns (ch9 _ hm1) (ch9 _ hd1) so_nex rfl rfl ?_
        repeat' (first | ((fail_if_success (with_reducible show wpAny _ _ (compareOp _ _ _) _ _ _)); (first | (k_unfold; (try dsimp only)) | (k_end; wrow_close) | walk1 | (dsimp only; walk1) | (leave1; walk_say "STEP leave1"; try dsimp only) | fail "no step")))
        refine wpAny_isNot_ref_self ?_
        refine wpAny_truthy_bool ?_
        exact ⟨rfl, _, _, rfl, Fs, Ns⟩
    | alt =>
      obtain ⟨hch, ⟨xm, hes, hxm⟩, hrl⟩ := hnode
      have hpe : pe = en := (place_end ch hchain).symm.trans (place_end ch hch)
      refine e_is F8 X' N8 hk (ch8 _ he) (ch8 _ hde) (.inl rfl) false rfl fun tk8 => ?_
      try dsimp only
      repeat' (first | ((fail_if_success (with_reducible show wpAny _ _ (call (Value.builtin "isinstance") _ _) _ _ _)); (first | (k_unfold; (try dsimp only)) | (k_end; wrow_close) | walk1 | (dsimp only; walk1) | (leave1; walk_say "STEP leave1"; try dsimp only) | fail "no step")))
      refine e_is F8 X' N8 hk (ch8 _ he) (ch8 _ hde) (.inr (.inl rfl)) false rfl fun tk8 => ?_
      try dsimp only
      repeat' (first | ((fail_if_success (with_reducible show wpAny _ _ (call (Value.builtin "isinstance") _ _) _ _ _)); (first | (k_unfold; (try dsimp only)) | (k_end; wrow_close) | walk1 | (dsimp only; walk1) | (leave1; walk_say "STEP leave1"; try dsimp only) | fail "no step")))
      refine e_is F8 X' N8 hk (ch8 _ he) (ch8 _ hde) (.inr (.inr (.inl rfl))) true rfl fun tk8 => ?_
      try dsimp only
      repeat' (first | ((fail_if_success (with_reducible show wpAny _ _ (getAttr (Value.ref _) _ _) _ _ _)); (first | (k_unfold; (try dsimp only)) | (k_end; wrow_close) | walk1 | (dsimp only; walk1) | (leave1; walk_say "STEP leave1"; try dsimp only) | fail "no step")))
      refine n_slot F8 X' N8 (ch8 _ hm) (ch8 _ hd) so_nen rfl rfl ?_
      repeat' (first | ((fail_if_success (with_reducible show wpAny _ _ (compareOp _ _ _) _ _ _)); (first | (k_unfold; (try dsimp only)) | (k_end; wrow_close) | walk1 | (dsimp only; walk1) | (leave1; walk_say "STEP leave1"; try dsimp only) | fail "no step")))
      refine int_eq_same (by rw [hpe]) ?_
      repeat' (first | ((fail_if_success (with_reducible show wpAny _ _ (getAttr (Value.ref _) _ _) _ _ _)); (first | (k_unfold; (try dsimp only)) | (k_end; wrow_close) | walk1 | (dsimp only; walk1) | (leave1; walk_say "STEP leave1"; try dsimp only) | fail "no step")))
      refine n_slot F8 X' N8 (ch8 _ hm) (ch8 _ hd) so_nch rfl rfl ?_
      repeat' (first | ((fail_if_success (with_reducible show wpAny _ _ (call (Value.builtin "len") _ _) _ _ _)); (first | (k_unfold; (try dsimp only)) | (k_end; wrow_close) | walk1 | (dsimp only; walk1) | (leave1; walk_say "STEP leave1"; try dsimp only) | fail "no step")))
      refine m_lenL N8 (ch8 _ hcl) (by rw [hlen]; exact hsmall.2.1) fun t13 t14 => ?_
      try dsimp only
      repeat' (first | ((fail_if_success (with_reducible show wpAny _ _ (compareOp _ _ _) _ _ _)); (first | (k_unfold; (try dsimp only)) | (k_end; wrow_close) | walk1 | (dsimp only; walk1) | (leave1; walk_say "STEP leave1"; try dsimp only) | fail "no step")))
      have hl1 : chs.length = 1 := by rw [hlen, ← es_len, hes]; rfl
      refine int_eq_same (by rw [hl1]; rfl) ?_
      repeat' (first | ((fail_if_success (with_reducible show wpAny _ _ (eval (PySem.Expr.ListComp _ _ _ _) _) _ _ _)); (first | (k_unfold; (try dsimp only)) | (k_end; wrow_close) | walk1 | (dsimp only; walk1) | (leave1; walk_say "STEP leave1"; try dsimp only) | fail "no step")))
      refine m_compBT (H := rfl) (h₀ := g') (L := L') (m := fun y => if y = Str.ofString "expr" then some (Value.ref e) else sndM vc (pe : Int) tp tx tkx y) (its := roots) (l := mt) (n := 0) (ctx := (D, lstO chs kD) :: (L' + 1, oc) :: pre) (cl := [(Str.ofString "node", L' + 1)]) (T := fun j => roots[j]? = some (.ref xm)) (by rfl) (by decide) rfl (by decide) rfl (by rw [sizeLine_eq]; omega) ?hit ?step
      case hit =>
        repeat' (first | ((fail_if_success (with_reducible show wpAny _ _ (getAttr (Value.ref _) _ _) _ _ _)); (first | (k_unfold; (try dsimp only)) | (k_end; wrow_close) | walk1 | (dsimp only; walk1) | (leave1; walk_say "STEP leave1"; try dsimp only) | fail "no step")))
        refine e_members F8 X' N8 hk (ch8 _ he) (ch8 _ hde) (by intro s0 z; cases z) ?_
        repeat' (first | ((fail_if_success (with_reducible show wpAny _ _ (pyIter _) _ _ _)); (first | (k_unfold; (try dsimp only)) | (k_end; wrow_close) | walk1 | (dsimp only; walk1) | (leave1; walk_say "STEP leave1"; try dsimp only) | fail "no step")))
        try dsimp only
        refine m_tpyIter F8 N8 (ch8 _ (hmt (by intro s0 z; cases z))) fun I0 h10 oI0 F10 N10 hI10 lI10 => ?_
        try dsimp only
        refine ⟨I0, oI0, rfl, hI10, F10, N10, lI10, ch8 _ (hmt (by intro s0 z; cases z)), fun D1 h11 tk11 ys q11 F11 N11 l11 hys => ?_⟩
        try dsimp only
        repeat' (first | ((fail_if_success (with_reducible show wpAny _ _ (compareOp _ _ _) _ _ _)); (first | (k_unfold; (try dsimp only)) | (k_end; wrow_close) | walk1 | (dsimp only; walk1) | (leave1; walk_say "STEP leave1"; try dsimp only) | fail "no step")))
        try dsimp only
        obtain ⟨j, hj⟩ := List.mem_iff_getElem?.mp hxm
        have hne : ys ≠ [] := fun z => hys.mp z j (List.getElem?_eq_some_iff.mp hj).1 hj
        refine lists_ne_nil (by assumption) (.tail _ (.head _)) (.head _) (by have hcL9 := cLine_is; ((try simp only [units_in1, units_deeper, Around.mark_units, units_caller] at *); omega)) ?_
        try dsimp only
        repeat' (first | ((first | (k_unfold; (try dsimp only)) | (k_end; wrow_close) | walk1 | (dsimp only; walk1) | (leave1; walk_say "STEP leave1"; try dsimp only) | fail "no step")))
        rw [hg1, hr1, ho1]
        refine hret _ [] _ _ (by assumption) (newsSub (by assumption) (by walk_at "m sub")) (by walk_at "m desc") (by walk_at "m ord") (⟨rfl, by cases ys with | nil => exact absurd rfl hne | cons _ _ => rfl⟩)
      case step =>
        intro s' j v C oC D2 oD I2 oI2 m1 E' hv Fs Ns rC hx _ _ _
        obtain ⟨r, orr, rfl, hr1'⟩ := hrt v (List.mem_of_getElem? hv)
        obtain ⟨c0, hc0⟩ : ∃ c0, chs[0]? = some c0 := ⟨chs[0]'(by omega), List.getElem?_eq_getElem (by omega)⟩
        obtain ⟨a1, d1, cl1, e1, u1, u2, u3, st1, en1, rfl, he1, hm1, hd1⟩ := nodes_atE hc hc0
        rw [hes] at he1
        simp only [List.getElem?_cons_zero, Option.some.injEq] at he1
        subst he1
        have ch9 : ∀ q ∈ pre, q ∈ (C, oC) :: (D2, oD) :: (I2, oI2) :: (D, lstO chs kD) :: (L' + 1, oc) :: pre := fun q hq => .tail _ (.tail _ (.tail _ (.tail _ (.tail _ hq))))
        repeat' (first | ((fail_if_success (with_reducible show wpAny _ _ (eval (PySem.Expr.Name (Str.ofString "node") _) _) _ _ _)); (first | (k_unfold; (try dsimp only)) | (k_end; wrow_close) | walk1 | (dsimp only; walk1) | (leave1; walk_say "STEP leave1"; try dsimp only) | fail "no step")))
        refine m_nameF (v := .ref a) Ns (.tail _ (.tail _ (.tail _ (.tail _ (.head _))))) dc rfl rfl rfl ?_
        repeat' (first | ((fail_if_success (with_reducible show wpAny _ _ (getAttr (Value.ref _) _ _) _ _ _)); (first | (k_unfold; (try dsimp only)) | (k_end; wrow_close) | walk1 | (dsimp only; walk1) | (leave1; walk_say "STEP leave1"; try dsimp only) | fail "no step")))
        refine n_slot Fs X' Ns (ch9 _ hm) (ch9 _ hd) so_nch rfl rfl ?_
        repeat' (first | ((fail_if_success (with_reducible show wpAny _ _ (subscriptTail _ _ _ _) _ _ _)); (first | (k_unfold; (try dsimp only)) | (k_end; wrow_close) | walk1 | (dsimp only; walk1) | (leave1; walk_say "STEP leave1"; try dsimp only) | fail "no step")))
        try dsimp only
        refine m_itemL (i := 0) Ns (ch9 _ hcl) (by decide) hc0 ?_ (by with_unfolding_all rfl)
        repeat' (first | ((fail_if_success (with_reducible show wpAny _ _ (getAttr (Value.ref _) _ _) _ _ _)); (first | (k_unfold; (try dsimp only)) | (k_end; wrow_close) | walk1 | (dsimp only; walk1) | (leave1; walk_say "STEP leave1"; try dsimp only) | fail "no step")))
        refine n_slot Fs X' Ns (ch9 _ hm1) (ch9 _ hd1) so_nex rfl rfl ?_
        repeat' (first | ((fail_if_success (with_reducible show wpAny _ _ (compareOp _ _ _) _ _ _)); (first | (k_unfold; (try dsimp only)) | (k_end; wrow_close) | walk1 | (dsimp only; walk1) | (leave1; walk_say "STEP leave1"; try dsimp only) | fail "no step")))
        by_cases hq : xm = r
        · subst hq
          refine wpAny_is_ref_self ?_
          refine wpAny_truthy_bool ?_
          refine ⟨_, _, rfl, Fs, Ns, ⟨fun _ => hv, fun _ => rfl⟩, fun _ => ?_⟩
          refine wpAny_mono (Q := fun _ s3 => ∃ tk3, s3 = { s' with toks := tk3 }) ?_ (fun _ s3 h3 => ?_) fun _ _ z => z
          · repeat' (first | ((first | (k_unfold; (try dsimp only)) | (k_end; wrow_close) | walk1 | (dsimp only; walk1) | (leave1; walk_say "STEP leave1"; try dsimp only) | fail "no step")))
          · obtain ⟨tk3, rfl⟩ := h3
            exact ⟨_, _, rfl, Fs, Ns⟩
        · obtain ⟨ox, Cx, hox, hcx⟩ := snd_es hsc xm (by rw [hes]; exact .head _)
          refine kto_is (Ns _ (ch9 _ hox)).1 (Ns _ (ch9 _ hr1')).1 hq (by rw [hcx]; intro z; cases z) ?_
          refine wpAny_truthy_bool ?_
          refine ⟨_, _, rfl, Fs, Ns, ⟨fun z => absurd z Bool.false_ne_true, fun z => ?_⟩, fun z => absurd z Bool.false_ne_true⟩
          rw [hv] at z
          injection z with z
          injection z with z
          exact absurd z.symm hq
    | nota =>
      refine e_is F8 X' N8 hk (ch8 _ he) (ch8 _ hde) (.inl rfl) false rfl fun tk8 => ?_
      try dsimp only
      repeat' (first | ((fail_if_success (with_reducible show wpAny _ _ (call (Value.builtin "isinstance") _ _) _ _ _)); (first | (k_unfold; (try dsimp only)) | (k_end; wrow_close) | walk1 | (dsimp only; walk1) | (leave1; walk_say "STEP leave1"; try dsimp only) | fail "no step")))
      refine e_is F8 X' N8 hk (ch8 _ he) (ch8 _ hde) (.inr (.inl rfl)) false rfl fun tk8 => ?_
      try dsimp only
      repeat' (first | ((fail_if_success (with_reducible show wpAny _ _ (call (Value.builtin "isinstance") _ _) _ _ _)); (first | (k_unfold; (try dsimp only)) | (k_end; wrow_close) | walk1 | (dsimp only; walk1) | (leave1; walk_say "STEP leave1"; try dsimp only) | fail "no step")))
      refine e_is F8 X' N8 hk (ch8 _ he) (ch8 _ hde) (.inr (.inr (.inl rfl))) false rfl fun tk8 => ?_
      try dsimp only
      repeat' (first | ((fail_if_success (with_reducible show wpAny _ _ (call (Value.builtin "isinstance") _ _) _ _ _)); (first | (k_unfold; (try dsimp only)) | (k_end; wrow_close) | walk1 | (dsimp only; walk1) | (leave1; walk_say "STEP leave1"; try dsimp only) | fail "no step")))
      refine e_is F8 X' N8 hk (ch8 _ he) (ch8 _ hde) (.inr (.inr (.inr rfl))) false rfl fun tk8 => ?_
      try dsimp only
      repeat' (first | ((fail_if_success (with_reducible show wpAny _ _ (getAttr (Value.ref _) _ _) _ _ _)); (first | (k_unfold; (try dsimp only)) | (k_end; wrow_close) | walk1 | (dsimp only; walk1) | (leave1; walk_say "STEP leave1"; try dsimp only) | fail "no step")))
      obtain ⟨hse, rfl⟩ := hnode
      refine n_slot F8 X' N8 (ch8 _ hm) (ch8 _ hd) so_nst rfl rfl ?_
      repeat' (first | ((fail_if_success (with_reducible show wpAny _ _ (getAttr (Value.ref _) _ _) _ _ _)); (first | (k_unfold; (try dsimp only)) | (k_end; wrow_close) | walk1 | (dsimp only; walk1) | (leave1; walk_say "STEP leave1"; try dsimp only) | fail "no step")))
      refine n_slot F8 X' N8 (ch8 _ hm) (ch8 _ hd) so_nen rfl rfl ?_
      repeat' (first | ((fail_if_success (with_reducible show wpAny _ _ (compareOp _ _ _) _ _ _)); (first | (k_unfold; (try dsimp only)) | (k_end; wrow_close) | walk1 | (dsimp only; walk1) | (leave1; walk_say "STEP leave1"; try dsimp only) | fail "no step")))
      refine int_eq_same (by rw [hse]) ?_
      repeat' (first | ((fail_if_success (with_reducible show wpAny _ _ (getAttr (Value.ref _) _ _) _ _ _)); (first | (k_unfold; (try dsimp only)) | (k_end; wrow_close) | walk1 | (dsimp only; walk1) | (leave1; walk_say "STEP leave1"; try dsimp only) | fail "no step")))
      refine n_slot F8 X' N8 (ch8 _ hm) (ch8 _ hd) so_nch rfl rfl ?_
      repeat' (first | ((fail_if_success (with_reducible show wpAny _ _ (compareOp _ _ _) _ _ _)); (first | (k_unfold; (try dsimp only)) | (k_end; wrow_close) | walk1 | (dsimp only; walk1) | (leave1; walk_say "STEP leave1"; try dsimp only) | fail "no step")))
      try dsimp only
      have hnil : chs = [] := List.eq_nil_of_length_eq_zero hlen
      subst hnil
      refine lists_eq_nil (by assumption) (.tail _ (ch8 _ hcl)) (.head _) (by have hcL9 := cLine_is; ((try simp only [units_in1, units_deeper, Around.mark_units, units_caller] at *); omega)) ?_
      try dsimp only
      repeat' (first | ((first | (k_unfold; (try dsimp only)) | (k_end; wrow_close) | walk1 | (dsimp only; walk1) | (leave1; walk_say "STEP leave1"; try dsimp only) | fail "no step")))
      rw [hg1, hr1, ho1]
      refine hret _ [] _ _ (by assumption) (newsSub (by assumption) (by walk_at "m sub")) (by walk_at "m desc") (by walk_at "m ord") (⟨rfl, rfl⟩)
    | star =>
      obtain ⟨hch, hfull⟩ := hnode
      have hpe : pe = en := (place_end ch hchain).symm.trans (place_end ch hch)
      refine e_is F8 X' N8 hk (ch8 _ he) (ch8 _ hde) (.inl rfl) false rfl fun tk8 => ?_
      try dsimp only
      repeat' (first | ((fail_if_success (with_reducible show wpAny _ _ (call (Value.builtin "isinstance") _ _) _ _ _)); (first | (k_unfold; (try dsimp only)) | (k_end; wrow_close) | walk1 | (dsimp only; walk1) | (leave1; walk_say "STEP leave1"; try dsimp only) | fail "no step")))
      refine e_is F8 X' N8 hk (ch8 _ he) (ch8 _ hde) (.inr (.inl rfl)) false rfl fun tk8 => ?_
      try dsimp only
      repeat' (first | ((fail_if_success (with_reducible show wpAny _ _ (call (Value.builtin "isinstance") _ _) _ _ _)); (first | (k_unfold; (try dsimp only)) | (k_end; wrow_close) | walk1 | (dsimp only; walk1) | (leave1; walk_say "STEP leave1"; try dsimp only) | fail "no step")))
      refine e_is F8 X' N8 hk (ch8 _ he) (ch8 _ hde) (.inr (.inr (.inl rfl))) false rfl fun tk8 => ?_
      try dsimp only
      repeat' (first | ((fail_if_success (with_reducible show wpAny _ _ (call (Value.builtin "isinstance") _ _) _ _ _)); (first | (k_unfold; (try dsimp only)) | (k_end; wrow_close) | walk1 | (dsimp only; walk1) | (leave1; walk_say "STEP leave1"; try dsimp only) | fail "no step")))
      refine e_is F8 X' N8 hk (ch8 _ he) (ch8 _ hde) (.inr (.inr (.inr rfl))) true rfl fun tk8 => ?_
      try dsimp only
      repeat' (first | ((fail_if_success (with_reducible show wpAny _ _ (getAttr (Value.ref _) _ _) _ _ _)); (first | (k_unfold; (try dsimp only)) | (k_end; wrow_close) | walk1 | (dsimp only; walk1) | (leave1; walk_say "STEP leave1"; try dsimp only) | fail "no step")))
      refine n_slot F8 X' N8 (ch8 _ hm) (ch8 _ hd) so_nen rfl rfl ?_
      repeat' (first | ((fail_if_success (with_reducible show wpAny _ _ (compareOp _ _ _) _ _ _)); (first | (k_unfold; (try dsimp only)) | (k_end; wrow_close) | walk1 | (dsimp only; walk1) | (leave1; walk_say "STEP leave1"; try dsimp only) | fail "no step")))
      refine int_eq_same (by rw [hpe]) ?_
      repeat' (first | ((fail_if_success (with_reducible show wpAny _ _ (eval (PySem.Expr.ListComp _ _ _ _) _) _ _ _)); (first | (k_unfold; (try dsimp only)) | (k_end; wrow_close) | walk1 | (dsimp only; walk1) | (leave1; walk_say "STEP leave1"; try dsimp only) | fail "no step")))
      refine m_compBX (H := rfl) (h₀ := g') (L := L') (m := fun y => if y = Str.ofString "expr" then some (Value.ref e) else sndM vc (pe : Int) tp tx tkx y) (its := chs.dropLast) (cl := []) (T := fun _ => False) (closureFor_none (by decide)) (by decide) rfl (by decide) rfl (by rw [sizeLine_eq, List.length_dropLast]; have := hsmall.2.1; omega) ?hit
      case hit =>
        repeat' (first | ((fail_if_success (with_reducible show wpAny _ _ (getAttr (Value.ref _) _ _) _ _ _)); (first | (k_unfold; (try dsimp only)) | (k_end; wrow_close) | walk1 | (dsimp only; walk1) | (leave1; walk_say "STEP leave1"; try dsimp only) | fail "no step")))
        refine n_slot F8 X' N8 (ch8 _ hm) (ch8 _ hd) so_nch rfl rfl ?_
        repeat' (first | ((fail_if_success (with_reducible show wpAny _ _ (subscriptTail _ _ _ _) _ _ _)); (first | (k_unfold; (try dsimp only)) | (k_end; wrow_close) | walk1 | (dsimp only; walk1) | (leave1; walk_say "STEP leave1"; try dsimp only) | fail "no step")))
        try dsimp only
        refine m_upto1 F8 N8 (ch8 _ hcl) (by rw [hlen]; exact hsmall.2.1) (fun D0 h9 F9 N9 l9 => ?_) (by with_unfolding_all rfl)
        repeat' (first | ((fail_if_success (with_reducible show wpAny _ _ (pyIter _) _ _ _)); (first | (k_unfold; (try dsimp only)) | (k_end; wrow_close) | walk1 | (dsimp only; walk1) | (leave1; walk_say "STEP leave1"; try dsimp only) | fail "no step")))
        refine m_pyIter F9 N9 (.head _) fun I0 h10 F10 N10 lI10 => ?_
        try dsimp only
        refine ⟨D0, 0, (D0, lstO chs.dropLast 0) :: (D, lstO chs kD) :: (L' + 1, oc) :: pre, I0, itO D0 0, rfl, ⟨rfl, rfl⟩, F10, N10, lI10, .head _, ?step, fun D1 h11 tk11 ys q11 F11 N11 l11 hys => ?_⟩
        case step =>
          intro s' j v C oC D2 oD I2 oI2 m1 E' hv Fs Ns rC hx _ _ _
          obtain ⟨hj, hv'⟩ : j + 1 < chs.length ∧ chs[j]? = some v := by
            rw [List.getElem?_dropLast] at hv
            split at hv
            · exact ⟨by omega, hv⟩
            · cases hv
          obtain ⟨a1, d1, cl1, e1, u1, u2, u3, rfl, hm1, hd1⟩ := nodes_atC hc hchain hv'
          have ch9 : ∀ q ∈ pre, q ∈ (C, oC) :: (D2, oD) :: (I2, oI2) :: (D0, lstO chs.dropLast 0) :: (D, lstO chs kD) :: (L' + 1, oc) :: pre := fun q hq => .tail _ (.tail _ (.tail _ (.tail _ (.tail _ (.tail _ hq)))))
          repeat' (first | ((fail_if_success (with_reducible show wpAny _ _ (getAttr (Value.ref _) _ _) _ _ _)); (first | (k_unfold; (try dsimp only)) | (k_end; wrow_close) | walk1 | (dsimp only; walk1) | (leave1; walk_say "STEP leave1"; try dsimp only) | fail "no step")))
          refine n_slot Fs X' Ns (ch9 _ hm1) (ch9 _ hd1) so_nst rfl rfl ?_
          repeat' (first | ((fail_if_success (with_reducible show wpAny _ _ (getAttr (Value.ref _) _ _) _ _ _)); (first | (k_unfold; (try dsimp only)) | (k_end; wrow_close) | walk1 | (dsimp only; walk1) | (leave1; walk_say "STEP leave1"; try dsimp only) | fail "no step")))
          refine n_slot Fs X' Ns (ch9 _ hm1) (ch9 _ hd1) so_nen rfl rfl ?_
          repeat' (first | ((fail_if_success (with_reducible show wpAny _ _ (compareOp _ _ _) _ _ _)); (first | (k_unfold; (try dsimp only)) | (k_end; wrow_close) | walk1 | (dsimp only; walk1) | (leave1; walk_say "STEP leave1"; try dsimp only) | fail "no step")))
          refine int_eq_not (fun z => full_at ch hfull hchain (by omega) (Int.ofNat.inj z)) ?_
          refine wpAny_truthy_bool ?_
          exact ⟨s'.heap, _, rfl, Fs, Ns, ⟨fun z => absurd z Bool.false_ne_true, fun z => z.elim⟩, fun z => absurd z Bool.false_ne_true⟩
        have hy : ys = [] := hys.mpr fun _ _ z => z
        subst hy
        clear F8 N8 F9 N9 F10 N10
        try dsimp only
        repeat' (first | ((fail_if_success (with_reducible show wpAny _ _ (compareOp _ _ _) _ _ _)); (first | (k_unfold; (try dsimp only)) | (k_end; wrow_close) | walk1 | (dsimp only; walk1) | (leave1; walk_say "STEP leave1"; try dsimp only) | fail "no step")))
        refine lists_eq_nil (by assumption) (.tail _ (.head _)) (.head _) (by have hcL9 := cLine_is; ((try simp only [units_in1, units_deeper, Around.mark_units, units_caller] at *); omega)) ?_
        repeat' (first | ((fail_if_success (with_reducible show wpAny _ _ (getAttr (Value.ref _) _ _) _ _ _)); (first | (k_unfold; (try dsimp only)) | (k_end; wrow_close) | walk1 | (dsimp only; walk1) | (leave1; walk_say "STEP leave1"; try dsimp only) | fail "no step")))
        rename_i l12 h12 F12 N12 o12
        have ch12 : ∀ q ∈ pre, q ∈ (l12, listOf #[] 0) :: (D1, lstO [] q11) :: (D0, lstO chs.dropLast 0) :: (D, lstO chs kD) :: (L' + 1, oc) :: pre := fun q hq => .tail _ (.tail _ (.tail _ (.tail _ (.tail _ hq))))
        refine n_slot F12 X' N12 (ch12 _ hm) (ch12 _ hd) so_nch rfl rfl ?_
        repeat' (first | ((fail_if_success (with_reducible show wpAny _ _ (call (Value.builtin "len") _ _) _ _ _)); (first | (k_unfold; (try dsimp only)) | (k_end; wrow_close) | walk1 | (dsimp only; walk1) | (leave1; walk_say "STEP leave1"; try dsimp only) | fail "no step")))
        refine m_lenL N12 (ch12 _ hcl) (by rw [hlen]; exact hsmall.2.1) fun t13 t14 => ?_
        try dsimp only
        repeat' (first | ((fail_if_success (with_reducible show wpAny _ _ (getAttr (Value.ref _) _ _) _ _ _)); (first | (k_unfold; (try dsimp only)) | (k_end; wrow_close) | walk1 | (dsimp only; walk1) | (leave1; walk_say "STEP leave1"; try dsimp only) | fail "no step")))
        have hk' := hk
        obtain ⟨it0, tq1, tq2, tq3, ho⟩ := hk'
        refine e_slot (k := .star) F12 X' N12 hk (ch12 _ he) (ch12 _ hde) so_min (by rw [ho]; rfl) rfl ?_
        repeat' (first | ((first | (k_unfold; (try dsimp only)) | (k_end; wrow_close) | walk1 | (dsimp only; walk1) | (leave1; walk_say "STEP leave1"; try dsimp only) | fail "no step")))
        rw [hg1, hr1, ho1]
        refine hret _ [] _ _ (by assumption) (newsSub (by assumption) (by walk_at "m sub")) (by walk_at "m desc") (by walk_at "m ord") (⟨rfl, congrArg Value.bool (decide_eq_true (by omega))⟩)
    | opt =>
      obtain ⟨hch, hfull⟩ := hnode
      have hpe : pe = en := (place_end ch hchain).symm.trans (place_end ch hch)
      refine e_is F8 X' N8 hk (ch8 _ he) (ch8 _ hde) (.inl rfl) false rfl fun tk8 => ?_
      try dsimp only
      repeat' (first | ((fail_if_success (with_reducible show wpAny _ _ (call (Value.builtin "isinstance") _ _) _ _ _)); (first | (k_unfold; (try dsimp only)) | (k_end; wrow_close) | walk1 | (dsimp only; walk1) | (leave1; walk_say "STEP leave1"; try dsimp only) | fail "no step")))
      refine e_is F8 X' N8 hk (ch8 _ he) (ch8 _ hde) (.inr (.inl rfl)) false rfl fun tk8 => ?_
      try dsimp only
      repeat' (first | ((fail_if_success (with_reducible show wpAny _ _ (call (Value.builtin "isinstance") _ _) _ _ _)); (first | (k_unfold; (try dsimp only)) | (k_end; wrow_close) | walk1 | (dsimp only; walk1) | (leave1; walk_say "STEP leave1"; try dsimp only) | fail "no step")))
      refine e_is F8 X' N8 hk (ch8 _ he) (ch8 _ hde) (.inr (.inr (.inl rfl))) false rfl fun tk8 => ?_
      try dsimp only
      repeat' (first | ((fail_if_success (with_reducible show wpAny _ _ (call (Value.builtin "isinstance") _ _) _ _ _)); (first | (k_unfold; (try dsimp only)) | (k_end; wrow_close) | walk1 | (dsimp only; walk1) | (leave1; walk_say "STEP leave1"; try dsimp only) | fail "no step")))
      refine e_is F8 X' N8 hk (ch8 _ he) (ch8 _ hde) (.inr (.inr (.inr rfl))) true rfl fun tk8 => ?_
      try dsimp only
      repeat' (first | ((fail_if_success (with_reducible show wpAny _ _ (getAttr (Value.ref _) _ _) _ _ _)); (first | (k_unfold; (try dsimp only)) | (k_end; wrow_close) | walk1 | (dsimp only; walk1) | (leave1; walk_say "STEP leave1"; try dsimp only) | fail "no step")))
      refine n_slot F8 X' N8 (ch8 _ hm) (ch8 _ hd) so_nen rfl rfl ?_
      repeat' (first | ((fail_if_success (with_reducible show wpAny _ _ (compareOp _ _ _) _ _ _)); (first | (k_unfold; (try dsimp only)) | (k_end; wrow_close) | walk1 | (dsimp only; walk1) | (leave1; walk_say "STEP leave1"; try dsimp only) | fail "no step")))
      refine int_eq_same (by rw [hpe]) ?_
      repeat' (first | ((fail_if_success (with_reducible show wpAny _ _ (eval (PySem.Expr.ListComp _ _ _ _) _) _ _ _)); (first | (k_unfold; (try dsimp only)) | (k_end; wrow_close) | walk1 | (dsimp only; walk1) | (leave1; walk_say "STEP leave1"; try dsimp only) | fail "no step")))
      refine m_compBX (H := rfl) (h₀ := g') (L := L') (m := fun y => if y = Str.ofString "expr" then some (Value.ref e) else sndM vc (pe : Int) tp tx tkx y) (its := chs.dropLast) (cl := []) (T := fun _ => False) (closureFor_none (by decide)) (by decide) rfl (by decide) rfl (by rw [sizeLine_eq, List.length_dropLast]; have := hsmall.2.1; omega) ?hit
      case hit =>
        repeat' (first | ((fail_if_success (with_reducible show wpAny _ _ (getAttr (Value.ref _) _ _) _ _ _)); (first | (k_unfold; (try dsimp only)) | (k_end; wrow_close) | walk1 | (dsimp only; walk1) | (leave1; walk_say "STEP leave1"; try dsimp only) | fail "no step")))
        refine n_slot F8 X' N8 (ch8 _ hm) (ch8 _ hd) so_nch rfl rfl ?_
        repeat' (first | ((fail_if_success (with_reducible show wpAny _ _ (subscriptTail _ _ _ _) _ _ _)); (first | (k_unfold; (try dsimp only)) | (k_end; wrow_close) | walk1 | (dsimp only; walk1) | (leave1; walk_say "STEP leave1"; try dsimp only) | fail "no step")))
        try dsimp only
        refine m_upto1 F8 N8 (ch8 _ hcl) (by rw [hlen]; exact hsmall.2.1) (fun D0 h9 F9 N9 l9 => ?_) (by with_unfolding_all rfl)
        repeat' (first | ((fail_if_success (with_reducible show wpAny _ _ (pyIter _) _ _ _)); (first | (k_unfold; (try dsimp only)) | (k_end; wrow_close) | walk1 | (dsimp only; walk1) | (leave1; walk_say "STEP leave1"; try dsimp only) | fail "no step")))
        refine m_pyIter F9 N9 (.head _) fun I0 h10 F10 N10 lI10 => ?_
        try dsimp only
        refine ⟨D0, 0, (D0, lstO chs.dropLast 0) :: (D, lstO chs kD) :: (L' + 1, oc) :: pre, I0, itO D0 0, rfl, ⟨rfl, rfl⟩, F10, N10, lI10, .head _, ?step, fun D1 h11 tk11 ys q11 F11 N11 l11 hys => ?_⟩
        case step =>
          intro s' j v C oC D2 oD I2 oI2 m1 E' hv Fs Ns rC hx _ _ _
          obtain ⟨hj, hv'⟩ : j + 1 < chs.length ∧ chs[j]? = some v := by
            rw [List.getElem?_dropLast] at hv
            split at hv
            · exact ⟨by omega, hv⟩
            · cases hv
          obtain ⟨a1, d1, cl1, e1, u1, u2, u3, rfl, hm1, hd1⟩ := nodes_atC hc hchain hv'
          have ch9 : ∀ q ∈ pre, q ∈ (C, oC) :: (D2, oD) :: (I2, oI2) :: (D0, lstO chs.dropLast 0) :: (D, lstO chs kD) :: (L' + 1, oc) :: pre := fun q hq => .tail _ (.tail _ (.tail _ (.tail _ (.tail _ (.tail _ hq)))))
          repeat' (first | ((fail_if_success (with_reducible show wpAny _ _ (getAttr (Value.ref _) _ _) _ _ _)); (first | (k_unfold; (try dsimp only)) | (k_end; wrow_close) | walk1 | (dsimp only; walk1) | (leave1; walk_say "STEP leave1"; try dsimp only) | fail "no step")))
          refine n_slot Fs X' Ns (ch9 _ hm1) (ch9 _ hd1) so_nst rfl rfl ?_
          repeat' (first | ((fail_if_success (with_reducible show wpAny _ _ (getAttr (Value.ref _) _ _) _ _ _)); (first | (k_unfold; (try dsimp only)) | (k_end; wrow_close) | walk1 | (dsimp only; walk1) | (leave1; walk_say "STEP leave1"; try dsimp only) | fail "no step")))
          refine n_slot Fs X' Ns (ch9 _ hm1) (ch9 _ hd1) so_nen rfl rfl ?_
          repeat' (first | ((fail_if_success (with_reducible show wpAny _ _ (compareOp _ _ _) _ _ _)); (first | (k_unfold; (try dsimp only)) | (k_end; wrow_close) | walk1 | (dsimp only; walk1) | (leave1; walk_say "STEP leave1"; try dsimp only) | fail "no step")))
          refine int_eq_not (fun z => full_at ch hfull hchain (by omega) (Int.ofNat.inj z)) ?_
          refine wpAny_truthy_bool ?_
          exact ⟨s'.heap, _, rfl, Fs, Ns, ⟨fun z => absurd z Bool.false_ne_true, fun z => z.elim⟩, fun z => absurd z Bool.false_ne_true⟩
        have hy : ys = [] := hys.mpr fun _ _ z => z
        subst hy
        clear F8 N8 F9 N9 F10 N10
        try dsimp only
        repeat' (first | ((fail_if_success (with_reducible show wpAny _ _ (compareOp _ _ _) _ _ _)); (first | (k_unfold; (try dsimp only)) | (k_end; wrow_close) | walk1 | (dsimp only; walk1) | (leave1; walk_say "STEP leave1"; try dsimp only) | fail "no step")))
        refine lists_eq_nil (by assumption) (.tail _ (.head _)) (.head _) (by have hcL9 := cLine_is; ((try simp only [units_in1, units_deeper, Around.mark_units, units_caller] at *); omega)) ?_
        repeat' (first | ((fail_if_success (with_reducible show wpAny _ _ (getAttr (Value.ref _) _ _) _ _ _)); (first | (k_unfold; (try dsimp only)) | (k_end; wrow_close) | walk1 | (dsimp only; walk1) | (leave1; walk_say "STEP leave1"; try dsimp only) | fail "no step")))
        rename_i l12 h12 F12 N12 o12
        have ch12 : ∀ q ∈ pre, q ∈ (l12, listOf #[] 0) :: (D1, lstO [] q11) :: (D0, lstO chs.dropLast 0) :: (D, lstO chs kD) :: (L' + 1, oc) :: pre := fun q hq => .tail _ (.tail _ (.tail _ (.tail _ (.tail _ hq))))
        refine n_slot F12 X' N12 (ch12 _ hm) (ch12 _ hd) so_nch rfl rfl ?_
        repeat' (first | ((fail_if_success (with_reducible show wpAny _ _ (call (Value.builtin "len") _ _) _ _ _)); (first | (k_unfold; (try dsimp only)) | (k_end; wrow_close) | walk1 | (dsimp only; walk1) | (leave1; walk_say "STEP leave1"; try dsimp only) | fail "no step")))
        refine m_lenL N12 (ch12 _ hcl) (by rw [hlen]; exact hsmall.2.1) fun t13 t14 => ?_
        try dsimp only
        repeat' (first | ((fail_if_success (with_reducible show wpAny _ _ (getAttr (Value.ref _) _ _) _ _ _)); (first | (k_unfold; (try dsimp only)) | (k_end; wrow_close) | walk1 | (dsimp only; walk1) | (leave1; walk_say "STEP leave1"; try dsimp only) | fail "no step")))
        have hk' := hk
        obtain ⟨it0, tq1, tq2, tq3, ho⟩ := hk'
        refine e_slot (k := .opt) F12 X' N12 hk (ch12 _ he) (ch12 _ hde) so_min (by rw [ho]; rfl) rfl ?_
        repeat' (first | ((first | (k_unfold; (try dsimp only)) | (k_end; wrow_close) | walk1 | (dsimp only; walk1) | (leave1; walk_say "STEP leave1"; try dsimp only) | fail "no step")))
        rw [hg1, hr1, ho1]
        refine hret _ [] _ _ (by assumption) (newsSub (by assumption) (by walk_at "m sub")) (by walk_at "m desc") (by walk_at "m ord") (⟨rfl, congrArg Value.bool (decide_eq_true (by omega))⟩)
  | succ r ih =>
    obtain ⟨v, hv⟩ : ∃ v, chs[i]? = some v := ⟨chs[i]'(by omega), List.getElem?_eq_getElem (by omega)⟩
    obtain ⟨a1, d1, cl1, e1, u1, u2, u3, rfl, hm1, hd1⟩ := nodes_atC hc hchain hv
    refine for_turn (m_next_item F3 N3 (l := cl) (its := chs) (.tail _ (.tail _ hcl)) hv hI (.head fun p hp => Nat.ne_of_lt (lI p hp)) fun h4 oI4 F4 N4 hI4 => ?_)
    try dsimp only
    refine wpAny_pure ?_
    repeat' (first | ((fail_if_success (with_reducible show wpAny _ _ (getAttr (Value.ref _) _ _) _ _ _)); (first | (k_unfold; (try dsimp only)) | (k_end; wrow_close) | walk1 | (dsimp only; walk1) | (leave1; walk_say "STEP leave1"; try dsimp only) | fail "no step")))
    rename_i h5 F5 N5
    have ch5 : ∀ q ∈ pre, q ∈ (I, oI4) :: (L' + 1, oc) :: pre := fun q hq => .tail _ (.tail _ hq)
    refine n_slot F5 X' N5 (ch5 _ hm1) (ch5 _ hd1) so_nst rfl rfl ?_
    repeat' (first | ((fail_if_success (with_reducible show wpAny _ _ (compareOp _ _ _) _ _ _)); (first | (k_unfold; (try dsimp only)) | (k_end; wrow_close) | walk1 | (dsimp only; walk1) | (leave1; walk_say "STEP leave1"; try dsimp only) | fail "no step")))
    refine int_ne_same rfl ?_
    repeat' (first | ((fail_if_success (with_reducible show wpAny _ _ (call (Value.ref 536) _ _) _ _ _)); (first | (k_unfold; (try dsimp only)) | (k_end; wrow_close) | walk1 | (dsimp only; walk1) | (leave1; walk_say "STEP leave1"; try dsimp only) | fail "no step")))
    obtain ⟨t, hrun, hht⟩ := (ih1 (hc.mono ch5) (hsc.mono ch5) hsmall.1).atS hv
    refine wpAny_call ?_
    refine hrun _ _ _ _ _ _ ⟨_, _, _, _, _, _, _, _, _, by k_asm, by k_asm, by k_asm, rfl, rfl, rfl, rfl⟩ rfl (by k_asm) (by k_asm) (by (try simp only [depth_mark, depth_under_make, depth_under_kw, depth_in1, depth_deeper, depth_caller]); omega) (by (try simp only [units_in1, units_deeper, Around.mark_units, units_caller]); omega) fun v tl h6 tk6 F6 N6 dc6 lt6 hp => ?_
    obtain ⟨rfl, rfl⟩ := hp
    try dsimp only
    (try clear F5); (try clear N5); (try clear F4); (try clear N4); (try clear F3); (try clear N3)
    simp only [List.nil_append] at N6
    repeat' (first | ((fail_if_success (with_reducible show wpAny _ _ (getAttr (Value.ref _) _ _) _ _ _)); (first | (k_unfold; (try dsimp only)) | (k_end; wrow_close) | walk1 | (dsimp only; walk1) | (leave1; walk_say "STEP leave1"; try dsimp only) | fail "no step")))
    refine n_slot F6 X' N6 (ch5 _ hm1) (ch5 _ hd1) so_nen rfl rfl ?_
    repeat' (first | ((fail_if_success (with_reducible show wpAny _ _ (codeAny _ _ (Code.forLoop _ _ _ _ _) _ _) _ _ _)); (first | (k_unfold; (try dsimp only)) | (k_end; wrow_close) | walk1 | (dsimp only; walk1) | (leave1; walk_say "STEP leave1"; try dsimp only) | fail "no step")))
    try dsimp only
    rename_i h7 F7 N7
    refine ih (i + 1) (some (Value.ref a1)) u1 oI4 _ (by omega) hI4 (fr_map F7 fun y => ?_) N7 hg1 hr1 ho1 (by omega)
    simp only [sndM]
    by_cases e1 : y = Str.ofString "place"
    · subst e1; rfl
    by_cases e2 : y = Str.ofString "child"
    · subst e2; rfl
    simp only [if_neg e1, if_neg e2]
-- CompX
section
variable {prog : Program} {w : World} {A : Around} {E : Value → Shared → Prop} {s : Shared} {L l : Addr} {h₀ : Heap} {m : Str → Option Value} {ctx : List (Addr × Obj)} {its : List Value} {n : Nat} {env : Env}

/-- a list comprehension over a new list whose element leaves nothing behind -/
theorem m_compLX {elt iter : Expr} {x : Str} {px pos : Pos} {scope : Scope} {cl : List (Str × Addr)} {Q : Value → Shared → Prop} {P : Nat → Value → Prop}
    (hh : A.handled = none) (hclos : closureFor scope env = pure cl) (hcell : ∀ y ∈ scope.names, y.2 ≠ .cell) (hkind : scope.kind = .function)
    (hnames : ∀ y ∈ scope.names, y.2 = .local → scope.names.lookup y.1 = some .local) (hx : scope.names.lookup x = some .local)
    (hit : wpAny (model prog w) A (eval iter env) (fun xv s₁ => wpAny (model prog w) A (pyIter xv) (fun it s₂ => ∃ l n its ctx I oI, its.length ≤ sizeLine ∧ it = .ref I ∧ IsIt oI l 0 ∧ Fr h₀ L s₂.heap m ∧ News h₀ L s₂.heap ((I, oI) :: ctx) ∧ (∀ p ∈ ctx, p.1 < I) ∧ (l, lstO its n) ∈ ctx ∧
      (∀ (s' : Shared) i v C oC D oD I oI m1 (E' : Value → Shared → Prop), its[i]? = some v → Fr h₀ L s'.heap m → News h₀ L s'.heap ((C, oC) :: (D, oD) :: (I, oI) :: ctx) → LCg.NsObj oC m1 → m1 x = some v → (∀ p ∈ ctx, p.1 < I) → I < D → D < C →
      wpAny (model prog w) A (eval elt (compEnvC scope cl C env)) (fun y s'' => ∃ h' tk', s'' = { s' with heap := h', toks := tk' } ∧ Fr h₀ L h' m ∧ News h₀ L h' ((C, oC) :: (D, oD) :: (I, oI) :: ctx) ∧ P i y) E' s') ∧
      ∀ D h' tk' ys k, Fr h₀ L h' m → News h₀ L h' ((D, lstO ys k) :: ctx) → (∀ p ∈ ctx, p.1 < D) → ys.length = its.length → (∀ i y, ys[i]? = some y → P i y) → Q (.ref D) { s₂ with heap := h', toks := tk' }) E s₁) E s)
    (hs : ∀ x, foldedSetIterable iter env x = pure x := by intro _; rfl) :
    wpAny (model prog w) A (eval (.ListComp elt [⟨.Name x px, iter, [], 0⟩] scope pos) env) Q E s := by
  refine m_comp (h₀ := h₀) (L := L) hclos hcell hkind hnames (wpAny_mono hit (fun xv s₁ h₁ => wpAny_mono h₁ (fun it s₂ h₂ => ?_) fun _ _ e => e) fun _ _ e => e) hs
  obtain ⟨l, n, its, ctx, I, oI, hz, rfl, hI, F, N, hlt, hl, step, fin⟩ := h₂
  refine ⟨I, oI, l, 0, m, (I, oI) :: ctx, rfl, .inl hI, F, N, .head _, fun C oC D h' tk' F1 N1 rC hD hC => ?_⟩
  have hID : I < D := hD _ (.head _)
  have loop : ∀ (k i : Nat) (oC oI : Obj) (ys : List Value) (q : Nat) (m1 : Str → Option Value) (h' : Heap) (tk' : Nat), k + i = its.length → Fr h₀ L h' m → News h₀ L h' ((C, oC) :: (D, lstO ys q) :: (I, oI) :: ctx) → LCg.NsObj oC m1 → IsIt oI l i → ys.length = i → (∀ i y, ys[i]? = some y → P i y) →
      codeAny (model prog w) A (.compLoop (.ListComp elt [⟨.Name x px, iter, [], 0⟩] scope pos) 0 (.ref I) (.ref D) (compEnvC scope cl C env)) (compPost (model prog w) A E none Q (.ref D) C) { s₂ with heap := h', toks := tk' } := by
    intro k
    induction k with
    | zero =>
      intro i oC oI ys q m1 h' tk' hk F N rC hI hy hP
      refine comp_turn ?_
      refine m_next_end (l := l) (i := i) (its := its) (n := n) (rest := (C, oC) :: (D, lstO ys q) :: ctx) hh F N (by simp [hl]) (by omega) hI (by simp) ?sub ?off fun h2 F2 N2 => ?_
      case sub =>
        intro p hp
        rcases List.mem_cons.mp hp with rfl | hp
        · exact .head _
        · rcases List.mem_cons.mp hp with rfl | hp
          · exact .tail _ (.head _)
          · exact .tail _ (.tail _ (.tail _ hp))
      case off =>
        intro p hp
        simp only [List.mem_cons] at hp
        rcases hp with rfl | rfl | hp
        · exact Nat.ne_of_gt (Nat.lt_trans hID hC)
        · exact Nat.ne_of_gt hID
        · exact Nat.ne_of_lt (hlt p hp)
      · refine comp_end (rest := (D, lstO ys q) :: ctx) F2 N2 (.head _) rC (fun p hp => .tail _ hp) ?_ fun h3 F3 N3 => fin _ _ _ _ _ F3 N3 (fun p hp => Nat.lt_trans (hlt p hp) hID) (by omega) hP
        intro p hp
        rcases List.mem_cons.mp hp with rfl | hp
        · exact Nat.ne_of_lt hC
        · exact Nat.ne_of_lt (Nat.lt_trans (hlt p hp) (Nat.lt_trans hID hC))
    | succ k ih =>
      intro i oC oI ys q m1 h' tk' hk F N rC hI hy hP
      obtain ⟨v, hv⟩ : ∃ v, its[i]? = some v := ⟨its[i]'(by omega), List.getElem?_eq_getElem (by omega)⟩
      refine comp_turn ?_
      have nCD : (D, lstO ys q).1 ≠ C := Nat.ne_of_lt hC
      refine m_next_item (l := l) (i := i) (its := its) (n := n) F N (by simp [hl]) hv hI (.tail (Nat.ne_of_gt (Nat.lt_trans hID hC)) (.tail (Nat.ne_of_gt hID) (.head fun p hp => Nat.ne_of_lt (hlt p hp)))) fun h2 oI2 F2 N2 hI2 => ?_
      refine wpAny_of_eq (a := ()) (by rfl) ?_
      refine comp_store (C := C) F2 N2 (.head ?_) rC hx hkind fun h3 oC3 F3 N3 rC3 => ?_
      · intro p hp
        simp only [List.mem_cons] at hp
        rcases hp with rfl | rfl | hp
        · exact Nat.ne_of_lt hC
        · exact Nat.ne_of_lt (Nat.lt_trans hID hC)
        · exact Nat.ne_of_lt (Nat.lt_trans (hlt p hp) (Nat.lt_trans hID hC))
      refine wpAny_tests_nil ?_
      rw [if_pos rfl]
      refine wpAny_mono (step _ i v C oC3 D (lstO ys q) I oI2 _ _ hv F3 N3 rC3 (by simp) hlt hID hC) (fun y s4 h4 => ?_) fun _ _ e => e
      obtain ⟨h4, tk4, rfl, F4, N4, hy4⟩ := h4
      refine m_append F4 N4 (.tail (Nat.ne_of_gt hC) (.head ?_)) (by omega) fun h5 F5 N5 => ?_
      · intro p hp
        rcases List.mem_cons.mp hp with rfl | hp
        · exact Nat.ne_of_lt hID
        · exact Nat.ne_of_lt (Nat.lt_trans (hlt p hp) hID)
      refine ih (i + 1) _ _ _ _ _ h5 tk4 (by omega) F5 N5 rC3 hI2 (by simp [hy]) ?_
      intro j z hz
      rw [List.getElem?_append] at hz
      split at hz
      · exact hP j z hz
      · rename_i hj
        have : j = i := by
          cases hq : j - ys.length with
          | zero => omega
          | succ t => rw [hq] at hz; simp at hz
        subst this
        rw [hy, Nat.sub_self] at hz
        simp at hz
        exact hz ▸ hy4
  exact loop its.length 0 oC oI [] 0 _ h' tk' rfl F1 N1 rC hI rfl (by intro i y h; simp at h)
end
-- Law0
/-- the dicts of the expressions, as they were made -/
def EF.dicts : EF → List (Addr × Obj)
  | .nil => []
  | .cons _ _ d _ _ _ kids rest => (d, dictOf [] 0) :: (kids.dicts ++ rest.dicts)
def EF.size : EF → Nat
  | .nil => 0
  | .cons _ _ _ _ _ _ kids rest => 1 + kids.size + rest.size
theorem led_perm : ∀ F : EF, F.led.Perm (F.dicts ++ F.stat)
  | .nil => .refl _
  | .cons k x d o mt nm kids rest => by
    have h1 := led_perm kids
    have h2 := led_perm rest
    classical
    refine List.perm_iff_count.mpr fun q => ?_
    have c1 := List.perm_iff_count.mp h1 q
    have c2 := List.perm_iff_count.mp h2 q
    cases k <;> simp only [EF.led, EF.dicts, EF.stat, EK.own, List.count_append, List.count_cons, List.count_nil, List.cons_append, List.nil_append] at c1 c2 ⊢ <;> omega
theorem muts_fresh {w : World} {b : Nat} {tx : Str} {c : Addr} : ∀ F : EF, Muts w b tx c [] [] F F.size F.dicts
  | .nil => .nil
  | .cons _ _ _ _ _ _ kids rest => .cons (n1 := 1) (M1 := [(_, dictOf [] 0)]) .fresh0 (muts_fresh kids) (muts_fresh rest)
theorem size_le : ∀ (n : Nat) (F : EF), F.wf → F.ht ≤ n → F.size ≤ F.len * 3 ^ n
  | _, .nil, _, _ => Nat.zero_le _
  | n, .cons k x d o mt nm kids rest, h, hn => by
    obtain ⟨_, ha, hk, hr⟩ := h
    have i1 := size_le n rest hr (by simp only [EF.ht] at hn; omega)
    cases n with
    | zero => simp only [EF.ht] at hn; omega
    | succ n =>
      have i2 := size_le n kids hk (by simp only [EF.ht] at hn; omega)
      have hl : kids.len ≤ 2 := by cases k <;> simp only [EK.arity] at ha <;> omega
      have i3 : kids.len * 3 ^ n ≤ 2 * 3 ^ n := Nat.mul_le_mul_right _ hl
      have p : 1 ≤ 3 ^ n := Nat.pos_of_ne_zero (by simp)
      simp only [EF.size, EF.len, Nat.pow_succ, Nat.add_mul, Nat.one_mul] at i1 ⊢
      omega
/-- a ledger told anew -/
theorem led_cut {src tgt extra : List (Addr × Obj)} (S : Sep src) (p : src.Perm (tgt ++ extra)) : (∀ q ∈ tgt, q ∈ src) ∧ Sep tgt :=
  ⟨fun q hq => p.mem_iff.mpr (List.mem_append_left _ hq), sep_sub (sep_perm S p) (List.sublist_append_left _ _)⟩
theorem str_vals : ∀ (ys : List Value), (∀ (i : Nat) (y : Value), ys[i]? = some y → ∃ (c : Str) (tk : Tok), (c = Str.ofString "a" ∨ c = Str.ofString "b") ∧ y = Value.str c tk) → ∃ ts : List (Str × Tok), ys = strValues ts ∧ ∀ q ∈ ts, q.1 = Str.ofString "a" ∨ q.1 = Str.ofString "b"
  | [], _ => ⟨[], rfl, by simp⟩
  | y :: ys, h => by
    obtain ⟨c, tk, hc, rfl⟩ := h 0 y rfl
    obtain ⟨ts, rfl, ht⟩ := str_vals ys fun i z hz => h (i + 1) z (by simpa using hz)
    refine ⟨(c, tk) :: ts, rfl, fun q hq => ?_⟩
    rcases List.mem_cons.mp hq with rfl | hq
    · exact hc
    · exact ht q hq
/-- letters of the text -/
def AB (x : Str) : Prop := ∀ c ∈ x.cps.toList, c = 97 ∨ c = 98
theorem join_ab : ∀ ls : List Str, (∀ q ∈ ls, q = Str.ofString "a" ∨ q = Str.ofString "b") → AB (Str.join (Str.ofString "") ls) ∧ (Str.join (Str.ofString "") ls).length = ls.length
  | [], _ => ⟨by intro c hc; simp [Str.join, Str.empty] at hc, rfl⟩
  | [x], h => by
    have hx := h x (.head _)
    rcases hx with rfl | rfl
    · exact ⟨by unfold AB; decide, by decide⟩
    · exact ⟨by unfold AB; decide, by decide⟩
  | x :: y :: r, h => by
    have ih := join_ab (y :: r) fun q hq => h q (.tail _ hq)
    have e : Str.join (Str.ofString "") (x :: y :: r) = x ++ Str.ofString "" ++ Str.join (Str.ofString "") (y :: r) := rfl
    rw [e]
    have hx : AB x ∧ x.length = 1 := by
      rcases h x (.head _) with rfl | rfl
      · exact ⟨by unfold AB; decide, by decide⟩
      · exact ⟨by unfold AB; decide, by decide⟩
    have e2 : (Str.ofString "").length = 0 := by decide
    refine ⟨fun c hc => ?_, ?_⟩
    · have hc' : c ∈ x.cps.toList ++ (Str.ofString "").cps.toList ++ (Str.join (Str.ofString "") (y :: r)).cps.toList := by
        have : (x ++ Str.ofString "" ++ Str.join (Str.ofString "") (y :: r)).cps = x.cps ++ (Str.ofString "").cps ++ (Str.join (Str.ofString "") (y :: r)).cps := rfl
        rw [this] at hc
        simpa using hc
      rcases List.mem_append.mp hc' with h1 | h1
      · rcases List.mem_append.mp h1 with h2 | h2
        · exact hx.1 c h2
        · have e0 : (Str.ofString "").cps.toList = [] := by decide
          rw [e0] at h2; cases h2
      · exact ih.1 c h1
    · rw [Str.length_append, Str.length_append, ih.2, hx.2, e2]
      simp; omega
section
variable {prog : Program} {w : World} {A : Around} {E : Value → Shared → Prop} {s : Shared} {Q : Value → Shared → Prop} {l b : Addr} {xs : List Value}
theorem isl_ne_nil (hl : s.heap.IsList l xs.toArray) (hb : s.heap.IsList b #[]) (hu : A.units < cLine) (h : Q (.bool !xs.isEmpty) s) : wpAny (model prog w) A (compareOp .NotEq (.ref l) (.ref b)) Q E s := by
  refine cmp_ofNotEq ?_
  cases xs with
  | nil => exact SeqAt.RcNeAt.lists (e := fun _ => true) hl hb rfl hu (fun j h1 h2 => SeqAt.EqAt.same _) prog w E Q h
  | cons x xs => exact SeqAt.RcNeAt.lists_lengths hl hb (by simp) hu prog w E Q h
theorem isl_item {i : Nat} {u : Tok} {v : Value} {value slice : PySem.Expr} (hl : s.heap.IsList l xs.toArray) (hz : i < 16777217) (hx : xs[i]? = some v) (h : Q v s)
    (hs : subscripted slice false (.ref l) (.int i u) = operate [.ref l, .int i u] (getItem (.ref l) (.int i u))) : wpAny (model prog w) A (subscriptTail value slice (.ref l) (.int i u)) Q E s :=
  tail_any hl.typeIs slot_list_getitem.lookup (wpAny_getItem_list hl (by omega) (by omega) (by simpa using hx) h) hs
end
theorem ints_val {vs : List Value} {ns : List Int} (h : IntsAre vs ns) : ∀ {i : Nat} {v : Value}, vs[i]? = some v → ∃ c t, v = .int c t := by
  induction h with
  | nil => intro i v h; simp at h
  | cons c t _ ih =>
    intro i v h
    cases i with
    | zero => simp at h; exact ⟨c, t, h.symm⟩
    | succ i => exact ih (by simpa using h)
theorem join_fold (k : Nat) : ∀ (ls : List Str) (a : Nat), ls.foldl (fun n x => n + x.length + k) a = a + (ls.map (·.length)).sum + ls.length * k
  | [], a => by simp
  | x :: r, a => by
    rw [List.foldl_cons, join_fold k r]
    simp only [List.map_cons, List.sum_cons, List.length_cons, Nat.add_mul, Nat.one_mul]
    omega
theorem joinOk_of {sep : Str} {ls : List Str} (h : (ls.map (·.length)).sum + ls.length * sep.length ≤ 16777216) : JoinOk sep ls = true := by
  unfold JoinOk
  rw [List.foldl_toArray, join_fold, Bool.not_eq_true']
  have e : sizeLine = 16777216 := sizeLine_eq
  show decide (_ > sizeLine) = false
  rw [e, decide_eq_false_iff_not]
  omega
theorem sum_ab : ∀ ls : List Str, (∀ q ∈ ls, q = Str.ofString "a" ∨ q = Str.ofString "b") → (ls.map (·.length)).sum = ls.length
  | [], _ => rfl
  | x :: r, h => by
    have ih := sum_ab r fun q hq => h q (.tail _ hq)
    have hx : x.length = 1 := by rcases h x (.head _) with rfl | rfl <;> decide
    simp only [List.map_cons, List.sum_cons, List.length_cons, ih, hx]
    omega
-- Snd1
theorem run_shape {k : EK} {tx : Str} {x : Addr} {nm : Str} {fs : List PegF} {p : Nat} {G : PF} (h : k.run tx x nm fs p = some G) : ∃ en ch, G = .cons x nm p en ch .nil := by
  cases k with
  | lit s =>
    simp only [EK.run] at h
    split at h
    · cases h; exact ⟨_, _, rfl⟩
    · cases h
  | seq =>
    simp only [EK.run] at h
    cases hr : seqRun fs p with
    | none => rw [hr] at h; cases h
    | some r => rw [hr] at h; cases h; exact ⟨_, _, rfl⟩
  | alt =>
    simp only [EK.run] at h
    cases hr : altRun fs p with
    | none => rw [hr] at h; cases h
    | some r => rw [hr] at h; cases h; exact ⟨_, _, rfl⟩
  | nota =>
    simp only [EK.run] at h
    cases hh : fs.head? with
    | none => rw [hh] at h; cases h
    | some f =>
      rw [hh] at h
      dsimp only at h
      split at h
      · cases h; exact ⟨_, _, rfl⟩
      · cases h
  | star =>
    simp only [EK.run] at h
    cases hh : fs.head? with
    | none => rw [hh] at h; cases h
    | some f => rw [hh] at h; cases h; exact ⟨_, _, rfl⟩
  | opt =>
    simp only [EK.run] at h
    cases hh : fs.head? with
    | none => rw [hh] at h; cases h
    | some f => rw [hh] at h; cases h; exact ⟨_, _, rfl⟩
/-- what the reading asks of a tree besides -/
def PF.okk : PF → Prop
  | .nil => True
  | .cons _ nm _ _ ch rest => (nm = Str.ofString "" ∨ nm = Str.ofString "whole") ∧ ch.len ≤ 6 ∧ ch.okk ∧ rest.okk
def Sn (tx : Str) (pre : List (Addr × Obj)) (n : Nat) (F : PF) : Prop := Snd tx pre F ∧ F.okk ∧ F.ht ≤ n
theorem Sn.nil {tx : Str} {pre : List (Addr × Obj)} {n : Nat} : Sn tx pre n .nil := ⟨.nil, trivial, Nat.zero_le _⟩
theorem Sn.glue {tx : Str} {pre : List (Addr × Obj)} {n : Nat} {e : Addr} {nm : Str} {st en : Nat} {ch F : PF} (h : Sn tx pre n (.cons e nm st en ch .nil)) (h' : Sn tx pre n F) : Sn tx pre n (.cons e nm st en ch F) := by
  obtain ⟨h1, h2, h3⟩ := h
  obtain ⟨g1, g2, g3⟩ := h'
  refine ⟨?_, ⟨h2.1, h2.2.1, h2.2.2.1, g2⟩, by simp only [PF.ht] at h3 ⊢; omega⟩
  cases h1 with
  | cons a b c d r e f g i j _ => exact .cons a b c d r e f g i j g1
/-- what a peg answers is sound, and bears the root's expression -/
def PegOK (tx : Str) (pre : List (Addr × Obj)) (n : Nat) (f : PegF) (v : Value) : Prop := ∀ p G, p ≤ tx.length → f p = some G → ∃ e nm en ch, G = .cons e nm p en ch .nil ∧ v = .ref e ∧ p ≤ en ∧ en ≤ tx.length ∧ Sn tx pre n G
inductive PegsOK (tx : Str) (pre : List (Addr × Obj)) (n : Nat) : List PegF → List Value → Prop
  | nil : PegsOK tx pre n [] []
  | cons {f : PegF} {v : Value} {fs : List PegF} {vs : List Value} : PegOK tx pre n f v → PegsOK tx pre n fs vs → PegsOK tx pre n (f :: fs) (v :: vs)
theorem seq_snd {tx : Str} {pre : List (Addr × Obj)} {n : Nat} {fs : List PegF} {vs : List Value} (h : PegsOK tx pre n fs vs) : ∀ (p : Nat) (F : PF) (q : Nat), p ≤ tx.length → seqRun fs p = some (F, q) → Sn tx pre n F ∧ Chain p F q ∧ F.es.map Value.ref = vs ∧ q ≤ tx.length := by
  induction h with
  | nil =>
    intro p F q hp h
    simp only [seqRun, Option.some.injEq, Prod.mk.injEq] at h
    obtain ⟨rfl, rfl⟩ := h
    exact ⟨Sn.nil, rfl, rfl, hp⟩
  | @cons f v fs vs hf _ ih =>
    intro p F q hp h
    unfold seqRun at h
    cases hfp : f p with
    | none => rw [hfp] at h; cases h
    | some G =>
      obtain ⟨e, nm, en, ch, rfl, rfl, h1, h2, hs⟩ := hf p G hp hfp
      rw [hfp] at h
      dsimp only at h
      cases hr : seqRun fs (p + (en - p)) with
      | none => rw [hr] at h; cases h
      | some r =>
        obtain ⟨F', q'⟩ := r
        rw [hr] at h
        simp only [Option.some.injEq, Prod.mk.injEq] at h
        obtain ⟨rfl, rfl⟩ := h
        have e1 : p + (en - p) = en := by omega
        rw [e1] at hr
        obtain ⟨a, b, c, d⟩ := ih en F' q' h2 hr
        exact ⟨hs.glue a, ⟨rfl, b⟩, by simp [PF.es, c], d⟩
theorem alt_snd {tx : Str} {pre : List (Addr × Obj)} {n : Nat} {fs : List PegF} {vs : List Value} (h : PegsOK tx pre n fs vs) : ∀ (p : Nat) (G : PF), p ≤ tx.length → altRun fs p = some G → ∃ e nm en ch, G = .cons e nm p en ch .nil ∧ Value.ref e ∈ vs ∧ p ≤ en ∧ en ≤ tx.length ∧ Sn tx pre n G := by
  induction h with
  | nil => intro p G hp h; cases h
  | @cons f v fs vs hf _ ih =>
    intro p G hp h
    unfold altRun at h
    cases hfp : f p with
    | none =>
      rw [hfp] at h
      obtain ⟨e, nm, en, ch, a, b, c, d, g⟩ := ih p G hp h
      exact ⟨e, nm, en, ch, a, .tail _ b, c, d, g⟩
    | some G' =>
      rw [hfp] at h
      cases h
      obtain ⟨e, nm, en, ch, a, b, c, d, g⟩ := hf p G hp hfp
      exact ⟨e, nm, en, ch, a, b ▸ .head _, c, d, g⟩
theorem star_snd {tx : Str} {pre : List (Addr × Obj)} {n : Nat} {f : PegF} {v : Value} (hf : PegOK tx pre n f v) {mx : Option Nat} : ∀ (fuel cnt p : Nat), p ≤ tx.length →
    Sn tx pre n (starRun f tx.length mx fuel cnt p).1 ∧ Chain p (starRun f tx.length mx fuel cnt p).1 (starRun f tx.length mx fuel cnt p).2 ∧ (starRun f tx.length mx fuel cnt p).1.full ∧ (starRun f tx.length mx fuel cnt p).1.len + p ≤ tx.length + 1
  | 0, _, p, hp => ⟨Sn.nil, rfl, trivial, by show 0 + p ≤ _; omega⟩
  | fuel + 1, cnt, p, hp => by
    unfold starRun
    split
    · rename_i hc
      cases hfp : f p with
      | none => exact ⟨Sn.nil, rfl, trivial, by show 0 + p ≤ _; omega⟩
      | some G =>
        obtain ⟨e, nm, en, ch, rfl, rfl, h1, h2, hs⟩ := hf p G hp hfp
        dsimp only
        split
        · rename_i hz
          exact ⟨hs, ⟨rfl, by show en = p; omega⟩, trivial, by show 1 + 0 + p ≤ _; omega⟩
        · rename_i hz
          have e1 : p + (en - p) = en := by omega
          rw [e1]
          obtain ⟨a, b, c, d⟩ := star_snd hf (mx := mx) fuel (cnt + 1) en h2
          dsimp only
          refine ⟨hs.glue a, ⟨rfl, b⟩, ?_, by show 1 + _ + p ≤ _; omega⟩
          revert a b c d
          generalize (starRun f tx.length mx fuel (cnt + 1) en).1 = F
          intro _ _ c _
          cases F with
          | nil => trivial
          | cons => exact ⟨by omega, c⟩
    · exact ⟨Sn.nil, rfl, trivial, by show 0 + p ≤ _; omega⟩
/-- the names of the expressions -/
def EF.nams : EF → Prop
  | .nil => True
  | .cons _ _ _ _ _ nm kids rest => (nm = Str.ofString "" ∨ nm = Str.ofString "whole") ∧ kids.nams ∧ rest.nams
theorem nams_of_bare : ∀ F : EF, F.bare → F.nams
  | .nil, _ => trivial
  | .cons _ _ _ _ _ _ kids rest, ⟨h, h1, h2⟩ => ⟨.inl h, nams_of_bare kids h1, nams_of_bare rest h2⟩
theorem roots_at : ∀ (F : EF) {tx : Str} {pre : List (Addr × Obj)}, (∀ p ∈ F.stat, p ∈ pre) → ∀ v ∈ F.roots, ∃ r o, v = .ref r ∧ (r, o) ∈ pre
  | .nil, _, _, _ => fun v hv => by cases hv
  | .cons k x d o mt nm kids rest, tx, pre, h => fun v hv => by
    rcases List.mem_cons.mp hv with rfl | hv
    · exact ⟨x, o, rfl, h _ stat_self⟩
    · exact roots_at rest (tx := tx) (fun p hp => h p (List.mem_append_right _ (List.mem_append_right _ hp))) v hv
theorem roots_len : ∀ F : EF, F.roots.length = F.len
  | .nil => rfl
  | .cons _ _ _ _ _ _ _ rest => by simp [EF.roots, EF.len, roots_len rest]
theorem slice_nat {x : Str} {a b : Nat} (hab : a ≤ b) (hb : b ≤ x.length) : Txt.slice x (some (a : Int)) (some (b : Int)) = ⟨((x.cps.toList.drop a).take (b - a)).toArray⟩ := StrLaws.sliceText_nat x hab hb
/-- the dicts of the expressions stand in the ledger -/
def EF.dat (pre : List (Addr × Obj)) : EF → Prop
  | .nil => True
  | .cons _ _ d _ _ _ kids rest => (∃ od, (d, od) ∈ pre) ∧ kids.dat pre ∧ rest.dat pre
theorem es_of_len (F : PF) : F.es.length = F.len := es_len F
theorem pegs_ok {tx : Str} (hz : tx.length ≤ 5) {pre : List (Addr × Obj)} : ∀ (n : Nat) (F : EF), F.wf → F.nams → F.ht ≤ n → (∀ p ∈ F.stat, p ∈ pre) → F.dat pre → PegsOK tx pre n (F.pegs tx) F.roots
  | _, .nil, _, _, _, _, _ => .nil
  | n, .cons k x d o mt nm kids rest, hwf, hnm, hht, hst, hda => by
    obtain ⟨hk, har, hwk, hwr⟩ := hwf
    obtain ⟨hn1, hnk, hnr⟩ := hnm
    obtain ⟨⟨od, hod⟩, hdk, hdr⟩ := hda
    have hsk : ∀ p ∈ kids.stat, p ∈ pre := fun p hp => hst p (List.mem_append_right _ (List.mem_append_left _ hp))
    have hsr : ∀ p ∈ rest.stat, p ∈ pre := fun p hp => hst p (List.mem_append_right _ (List.mem_append_right _ hp))
    refine .cons ?_ (pegs_ok hz n rest hwr hnr (by simp only [EF.ht] at hht; omega) hsr hdr)
    obtain ⟨n, rfl⟩ : ∃ m, n = m + 1 := ⟨n - 1, by simp only [EF.ht] at hht; omega⟩
    have ih := pegs_ok hz n kids hwk hnk (by simp only [EF.ht] at hht; omega) hsk hdk
    have hx : (x, o) ∈ pre := hst _ stat_self
    have hkl : kids.len ≤ 2 := by cases k <;> simp only [EK.arity] at har <;> omega
    have rl : kids.roots.length ≤ 2 := by rw [roots_len]; exact hkl
    have rt := roots_at kids (tx := tx) hsk
    intro p G hp h
    obtain ⟨en, ch, rfl⟩ := run_shape h
    have good := run_good (k := k) (x := x) (nm := nm) (tx := tx) (pegs_good kids) p _ hp h
    obtain ⟨_, _, en', _, eq, g1, g2⟩ := good
    injection eq with _ _ _ e2 _ _
    subst e2
    refine ⟨x, nm, en, ch, rfl, rfl, g1, g2, ?_⟩
    have key : NodeOK k tx kids.roots p en ch ∧ (∃ q, Chain p ch q) ∧ Sn tx pre n ch ∧ ch.len ≤ 6 ∧ ((∀ s, k ≠ .lit s) → (mt, tupO kids.roots 0) ∈ pre) := by
      cases k with
      | lit s =>
        simp only [EK.run] at h
        split at h
        · rename_i hs
          cases h
          unfold startsAt at hs
          rw [fromIndex_nat hp, Bool.and_eq_true, decide_eq_true_eq] at hs
          refine ⟨⟨?_, rfl⟩, ⟨p, rfl⟩, .nil, Nat.zero_le _, fun z => absurd rfl (z s)⟩
          rw [slice_nat (Nat.le_add_right _ _) hs.1]
          have := hs.2
          rw [StrLaws.subAt_eq, beq_iff_eq] at this
          rw [Nat.add_sub_cancel_left, this]
        · cases h
      | seq =>
        have hmt : (mt, tupO kids.roots 0) ∈ pre := hst _ (.tail _ (.head _))
        simp only [EK.run] at h
        cases hr : seqRun (kids.pegs tx) p with
        | none => rw [hr] at h; cases h
        | some r =>
          obtain ⟨F', q⟩ := r
          rw [hr] at h; cases h
          obtain ⟨a, b, c, _⟩ := seq_snd ih p F' q hp hr
          refine ⟨⟨b, c⟩, ⟨_, b⟩, a, ?_, fun _ => hmt⟩
          rw [← es_len, ← List.length_map (f := Value.ref), c]; omega
      | alt =>
        have hmt : (mt, tupO kids.roots 0) ∈ pre := hst _ (.tail _ (.head _))
        simp only [EK.run] at h
        cases hr : altRun (kids.pegs tx) p with
        | none => rw [hr] at h; cases h
        | some r =>
          rw [hr] at h; cases h
          obtain ⟨e, nm', en', ch', rfl, b, c, d', g⟩ := alt_snd ih p _ hp hr
          exact ⟨⟨⟨rfl, rfl⟩, ⟨e, rfl, b⟩, by omega⟩, ⟨_, rfl, rfl⟩, g, by show 1 + 0 ≤ 6; omega, fun _ => hmt⟩
      | nota =>
        have hmt : (mt, tupO kids.roots 0) ∈ pre := hst _ (.tail _ (.head _))
        simp only [EK.run] at h
        cases hh : (kids.pegs tx).head? with
        | none => rw [hh] at h; cases h
        | some f =>
          rw [hh] at h
          dsimp only at h
          split at h
          · cases h; exact ⟨⟨rfl, rfl⟩, ⟨p, rfl⟩, .nil, Nat.zero_le _, fun _ => hmt⟩
          · cases h
      | star =>
        have hmt : (mt, tupO kids.roots 0) ∈ pre := hst _ (.tail _ (.head _))
        simp only [EK.run] at h
        generalize hfs : kids.pegs tx = fs at ih h
        generalize kids.roots = rs at ih hmt rl rt
        cases ih with
        | nil => cases h
        | cons hf _ =>
          cases h
          obtain ⟨a, b, c, d'⟩ := star_snd hf (mx := none) (tx.length + 1) 0 p hp
          exact ⟨⟨b, c⟩, ⟨_, b⟩, a, by omega, fun _ => hmt⟩
      | opt =>
        have hmt : (mt, tupO kids.roots 0) ∈ pre := hst _ (.tail _ (.head _))
        simp only [EK.run] at h
        generalize hfs : kids.pegs tx = fs at ih h
        generalize kids.roots = rs at ih hmt rl rt
        cases ih with
        | nil => cases h
        | cons hf _ =>
          cases h
          obtain ⟨a, b, c, d'⟩ := star_snd hf (mx := some 1) (tx.length + 1) 0 p hp
          exact ⟨⟨b, c⟩, ⟨_, b⟩, a, by omega, fun _ => hmt⟩
    obtain ⟨k1, k2, k3, k4, k5⟩ := key
    exact ⟨.cons hk hx hod k5 rt g1 g2 k1 k2 k3.1 .nil, ⟨hn1, k4, k3.2.1, trivial⟩, by have := k3.2.2; simp only [PF.ht]; omega⟩
-- Law1
def EF.xs : EF → List Addr
  | .nil => []
  | .cons _ x _ _ _ _ kids rest => x :: (kids.xs ++ rest.xs)
theorem all_xs {Y : Addr → Prop} : ∀ F : EF, F.nams → (∀ y ∈ F.xs, Y y) → F.all Y
  | .nil, _, _ => trivial
  | .cons _ x _ _ _ nm kids rest, ⟨h, h1, h2⟩, hy => ⟨⟨hy x (.head _), by rcases h with rfl | rfl <;> decide⟩, all_xs kids h1 fun y m => hy y (.tail _ (List.mem_append_left _ m)), all_xs rest h2 fun y m => hy y (.tail _ (List.mem_append_right _ m))⟩
theorem xs_is : ∀ F : EF, F.wf → ∀ y ∈ F.xs, ∃ k d mt nm o, EK.Is k d mt nm o ∧ (y, o) ∈ F.stat ∧ (d, dictOf [] 0) ∈ F.dicts
  | .nil, _, _, h => by cases h
  | .cons k x d o mt nm kids rest, ⟨h, _, h1, h2⟩, y, hy => by
    rcases List.mem_cons.mp hy with rfl | hy
    · exact ⟨k, d, mt, nm, o, h, stat_self, .head _⟩
    rcases List.mem_append.mp hy with hy | hy
    · obtain ⟨k', d', mt', nm', o', a, b, c⟩ := xs_is kids h1 y hy
      exact ⟨k', d', mt', nm', o', a, List.mem_append_right _ (List.mem_append_left _ b), .tail _ (List.mem_append_left _ c)⟩
    · obtain ⟨k', d', mt', nm', o', a, b, c⟩ := xs_is rest h2 y hy
      exact ⟨k', d', mt', nm', o', a, List.mem_append_right _ (List.mem_append_right _ b), .tail _ (List.mem_append_right _ c)⟩
theorem muts_dat {w : World} {b : Nat} {tx : Str} {c : Addr} {C : List (Int × Value)} {S : List (Addr × Obj)} {F : EF} {n : Nat} {M : List (Addr × Obj)} (h : Muts w b tx c C S F n M) {pre : List (Addr × Obj)} (hs : ∀ p ∈ M, p ∈ pre) : F.dat pre := by
  induction h with
  | nil => trivial
  | cons h1 _ _ ih2 ih3 =>
    refine ⟨?_, ih2 fun p hp => hs p (List.mem_append_right _ (List.mem_append_left _ hp)), ih3 fun p hp => hs p (List.mem_append_right _ (List.mem_append_right _ hp))⟩
    cases h1 with
    | fresh0 => exact ⟨_, hs _ (List.mem_append_left _ (.head _))⟩
    | fresh1 _ _ _ => exact ⟨_, hs _ (List.mem_append_left _ (.head _))⟩
    | live _ _ _ _ _ => exact ⟨_, hs _ (List.mem_append_left _ (.head _))⟩
theorem muts_stale {w : World} {tx : Str} {c c2 : Addr} {C : List (Int × Value)} {S : List (Addr × Obj)} {F : EF} {n : Nat} {M : List (Addr × Obj)} (h : Muts w 0 tx c C S F n M) (hs : ∀ p ∈ M, @LT.lt Nat _ p.1 c2) : Muts w 1 tx c2 [] [] F F.size M := by
  induction h with
  | nil => exact .nil
  | @cons k x d o mt nm kids rest n1 n2 n3 M1 M2 M3 h1 _ _ ih2 ih3 =>
    have i2 := ih2 fun p hp => hs p (List.mem_append_right _ (List.mem_append_left _ hp))
    have i3 := ih3 fun p hp => hs p (List.mem_append_right _ (List.mem_append_right _ hp))
    refine .cons (n1 := 1) ?_ i2 i3
    cases h1 with
    | fresh0 => exact .fresh0
    | fresh1 hb _ _ => exact absurd hb (by omega)
    | @live T P i ti t r orow olds memo a1 a2 a3 a4 a5 =>
      have : olds = [] := List.eq_nil_of_length_eq_zero (by omega)
      subst this
      exact .fresh1 (Nat.le_refl _) (hs (r, orow) (List.mem_append_left _ (.tail _ (.tail _ (.tail _ (.head _)))))) (isDict_cls a2)
-- Str1
open PySem.Builtin PySem.Builtin.Str in
theorem str_ext {x y : Str} (h : x.cps.toList = y.cps.toList) : x = y := Str.ext' (Array.toList_inj.mp h)
theorem tl_app (x y : Str) : (x ++ y).cps.toList = x.cps.toList ++ y.cps.toList := by
  have : (x ++ y).cps = x.cps ++ y.cps := rfl
  rw [this]; simp
theorem len_tl (x : Str) : x.length = x.cps.toList.length := by simp [Str.length]
open StrLaws Builtin.Str in
/-- a text that bears the separator just once -/
theorem split_once {x y : Str} {A B : List Nat} {c : Nat} {yt : List Nat} (hy : y.cps.toList = c :: yt) (hx : x.cps.toList = A ++ y.cps.toList ++ B) (hA : c ∉ A) (hB : c ∉ yt ++ B) (hk : Builtin.Str.strKind y = 1) : Txt.split x y = [⟨A.toArray⟩, ⟨B.toArray⟩] := by
  have hyl : y.length = yt.length + 1 := by rw [len_tl, hy]; rfl
  have hxl : x.length = A.length + y.length + B.length := by rw [len_tl, hx, List.length_append, List.length_append, ← len_tl y]
  have here : ∀ i, At x y x.length i → i = A.length := by
    intro i h
    have h2 := h.2
    rw [subAt_eq, beq_iff_eq] at h2
    have e1 : ((x.cps.toList.drop i).take y.length)[0]? = some c := by rw [h2, hy]; rfl
    rw [List.getElem?_take_of_lt (by omega), List.getElem?_drop, Nat.add_zero] at e1
    rw [hx, hy, List.append_assoc, List.cons_append, List.getElem?_append] at e1
    split at e1
    · exact absurd (List.mem_of_getElem? e1) hA
    · cases hq : i - A.length with
      | zero => omega
      | succ q =>
        rw [hq, List.getElem?_cons_succ] at e1
        exact absurd (List.mem_of_getElem? e1) hB
  have atA : At x y x.length A.length := by
    refine ⟨by omega, ?_⟩
    rw [subAt_eq, beq_iff_eq, hx, List.append_assoc, List.drop_left, len_tl y, List.take_left]
  obtain ⟨f, hG, hn⟩ := occ_tight x y (by omega)
  have cuts : occurrences x y 0 x.length (x.length + 1) = [A.length] := by
    revert hG
    generalize occurrences x y 0 x.length (x.length + 1) = L
    intro hG
    cases L with
    | nil =>
      have : f = 0 := hG
      exact absurd atA (hn _ (by omega))
    | cons a r =>
      obtain ⟨_, h1, _, h3⟩ := hG
      have ea := here a h1
      subst ea
      cases r with
      | nil => rfl
      | cons b r' =>
        obtain ⟨g1, g2, _, _⟩ := h3
        have eb := here b g2
        omega
  unfold Txt.split
  have hk1 : ¬ Builtin.Str.strKind x < Builtin.Str.strKind y := by
    rw [hk]; unfold Builtin.Str.strKind; split <;> (try split) <;> omega
  rw [if_neg (by simp only [Bool.or_eq_true, decide_eq_true_eq]; omega), cuts, if_neg (by simp), partsBetween_eq]
  show [strSub x 0 A.length, strSub x (A.length + y.length) x.length] = _
  congr 1
  · apply str_ext
    rw [strSub_toList, hx]
    simp
  · congr 1
    apply str_ext
    rw [strSub_toList, hx, List.append_assoc, ← List.append_assoc, List.drop_append_of_le_length (by rw [List.length_append, ← len_tl]; omega)]
    rw [show A.length + y.length = (A ++ y.cps.toList).length by rw [List.length_append, ← len_tl], List.drop_length, List.nil_append]
    simp only [List.toList_toArray]
    exact List.take_of_length_le (by rw [List.length_append, ← len_tl]; omega)
open StrLaws in
theorem strip_line {x : Str} {n : Nat} {B : List Nat} (hx : x.cps.toList = List.replicate n 32 ++ B) (h0 : ∀ c, B.head? = some c → Unicode.isSpace c = false) (h1 : ∀ c, B.getLast? = some c → Unicode.isSpace c = false) (hB : B ≠ []) : Txt.strip x = ⟨B.toArray⟩ := by
  have hs : Unicode.isSpace 32 = true := by decide +kernel
  have lo : stripLo Unicode.isSpace true x = n := by
    unfold stripLo
    rw [if_pos rfl, hx]
    cases B with
    | nil => exact absurd rfl hB
    | cons b r =>
      have hb := h0 b rfl
      have : ∀ k, (List.replicate k 32 ++ b :: r).takeWhile Unicode.isSpace = List.replicate k 32 := by
        intro k
        induction k with
        | zero => simp [hb]
        | succ k ih => rw [List.replicate_succ, List.cons_append, List.takeWhile_cons, if_pos hs, ih]
      rw [this, List.length_replicate]
  have dr : x.cps.toList.drop n = B := by rw [hx]; simp
  have hi : stripHi Unicode.isSpace true x n = x.length := by
    unfold stripHi
    rw [if_pos rfl, dr]
    have : B.reverse.takeWhile Unicode.isSpace = [] := by
      cases hr : B.reverse with
      | nil => rfl
      | cons b r =>
        have hl : B.getLast? = some b := by rw [← List.head?_reverse, hr]; rfl
        rw [List.takeWhile_cons, h1 b hl]; rfl
    rw [this]; rfl
  unfold Txt.strip Txt.stripBy
  have hx' : Builtin.Str.strSub x n x.length = ⟨B.toArray⟩ := by
    apply str_ext
    rw [strSub_toList, dr]
    exact List.take_of_length_le (by rw [len_tl, hx]; simp)
  split
  · rename_i h
    unfold stripSame at h
    rw [Bool.and_eq_true, beq_iff_eq, lo] at h
    obtain ⟨rfl, _⟩ := h
    rw [← hx']
    exact (sub_whole x).symm
  · unfold PySem.stripped
    rw [lo, hi, hx']
/-- texts told one behind the other with a break between -/
def flatN : List (List Nat) → List Nat
  | [] => []
  | [p] => p
  | p :: q :: r => p ++ 10 :: flatN (q :: r)
theorem join_tl : ∀ ls : List Str, (Str.join (Str.ofString "\n") ls).cps.toList = flatN (ls.map (·.cps.toList))
  | [] => rfl
  | [x] => rfl
  | x :: y :: r => by
    have e : Str.join (Str.ofString "\n") (x :: y :: r) = x ++ Str.ofString "\n" ++ Str.join (Str.ofString "\n") (y :: r) := rfl
    have e2 : (Str.ofString "\n").cps.toList = [10] := by decide
    rw [e, tl_app, tl_app, join_tl (y :: r), e2]
    simp [flatN]
theorem flat_inj : ∀ (ps qs : List (List Nat)), ps ≠ [] → qs ≠ [] → (∀ p ∈ ps, 10 ∉ p) → (∀ q ∈ qs, 10 ∉ q) → flatN ps = flatN qs → ps = qs
  | [], _, h, _, _, _, _ => absurd rfl h
  | _, [], _, h, _, _, _ => absurd rfl h
  | [p], [q], _, _, _, _, h => by rw [show p = q from h]
  | [p], q :: q' :: r, _, _, hp, _, h => by
    exfalso
    have h' : p = q ++ 10 :: flatN (q' :: r) := h
    exact hp p (.head _) (by rw [h']; simp)
  | p :: p' :: r, [q], _, _, _, hq, h => by
    exfalso
    have h' : p ++ 10 :: flatN (p' :: r) = q := h
    exact hq q (.head _) (by rw [← h']; simp)
  | p :: p' :: r, q :: q' :: r', _, _, hp, hq, h => by
    have h' : p ++ 10 :: flatN (p' :: r) = q ++ 10 :: flatN (q' :: r') := h
    have tw : ∀ (a b : List Nat), 10 ∉ a → (a ++ 10 :: b).takeWhile (· != 10) = a := by
      intro a b ha
      induction a with
      | nil => simp
      | cons c a ih =>
        have hc : c ≠ 10 := fun z => ha (z ▸ .head _)
        rw [List.cons_append, List.takeWhile_cons, if_pos (by simpa using hc), ih fun z => ha (.tail _ z)]
    have e1 : p = q := by
      have a := tw p (flatN (p' :: r)) (hp p (.head _))
      rw [h', tw q _ (hq q (.head _))] at a
      exact a.symm
    subst e1
    have e2 := List.append_cancel_left h'
    injection e2 with _ e2
    rw [flat_inj (p' :: r) (q' :: r') (by simp) (by simp) (fun z hz => hp z (.tail _ hz)) (fun z hz => hq z (.tail _ hz)) e2]
open StrLaws in
theorem split_ne (x y : Str) : Txt.split x y ≠ [] := by
  unfold Txt.split
  split
  · simp
  · split
    · simp
    · rw [partsBetween_eq]
      obtain ⟨p, q, e⟩ := partsFrom_ne x y.length 0 (Builtin.Str.occurrences x y 0 x.length (x.length + 1))
      rw [e]; simp
open StrLaws in
/-- the lines of a text come back when it is split -/
theorem split_join {ls : List Str} (hn : ls ≠ []) (hf : ∀ l ∈ ls, 10 ∉ l.cps.toList) : Txt.split (Str.join (Str.ofString "\n") ls) (Str.ofString "\n") = ls := by
  have e1 := join_split (Str.join (Str.ofString "\n") ls) (Str.ofString "\n")
  have e2 : (Str.ofString "\n") = ⟨#[10]⟩ := by decide
  have e3 := split_free (Str.join (Str.ofString "\n") ls) 10
  rw [← e2] at e3
  have e4 : (Txt.split (Str.join (Str.ofString "\n") ls) (Str.ofString "\n")).map (·.cps.toList) = ls.map (·.cps.toList) := by
    refine flat_inj _ _ (by simpa using split_ne _ _) (by simpa using hn) (fun p hp => ?_) (fun p hp => ?_) ?_
    · obtain ⟨q, hq, rfl⟩ := List.mem_map.mp hp; exact e3 q hq
    · obtain ⟨q, hq, rfl⟩ := List.mem_map.mp hp; exact hf q hq
    · rw [← join_tl, ← join_tl, e1]
  revert e4
  generalize Txt.split (Str.join (Str.ofString "\n") ls) (Str.ofString "\n") = as
  clear hn hf e1 e2 e3
  induction as generalizing ls with
  | nil => intro h; cases ls with
    | nil => rfl
    | cons => simp at h
  | cons a as ih =>
    intro h
    cases ls with
    | nil => simp at h
    | cons l ls =>
      simp only [List.map_cons, List.cons.injEq] at h
      rw [str_ext h.1, ih h.2]
-- Str2
open StrLaws Builtin.Str in
theorem ls_free (x : Str) : ∀ (m cur : Nat) (lines : Array (Nat × Nat × Nat)) (start : Nat), (∀ j, cur ≤ j → j < cur + m → Unicode.isLineBreak (x.cps.getD j 0) = false) →
    Id.run (forIn (m := Id) (List.range' cur m) ((lines, start) : LsSt) (lsBody x)) = (lines, start)
  | 0, _, _, _, _ => rfl
  | m + 1, cur, lines, start, h => by
    rw [List.range'_succ, List.forIn_cons]
    unfold lsBody
    have h0 := h cur (Nat.le_refl _) (by omega)
    simp only [h0, Bool.and_false, Bool.false_eq_true, if_false]
    exact ls_free x m (cur + 1) lines start fun j h1 h2 => h j (by omega) (by omega)
open StrLaws Builtin.Str in
theorem ls_split (x : Str) : ∀ (m k cur : Nat) (st : LsSt), Id.run (forIn (m := Id) (List.range' cur (m + k)) st (lsBody x)) = Id.run (forIn (m := Id) (List.range' (cur + m) k) (Id.run (forIn (m := Id) (List.range' cur m) st (lsBody x))) (lsBody x))
  | 0, k, cur, st => by simp
  | m + 1, k, cur, (lines, start) => by
    rw [show m + 1 + k = (m + k) + 1 by omega, List.range'_succ, List.forIn_cons, List.range'_succ, List.forIn_cons]
    unfold lsBody
    rw [show cur + (m + 1) = cur + 1 + m by omega]
    by_cases hc : (decide (start ≤ cur) && Unicode.isLineBreak (x.cps.getD cur 0)) = true
    · simp only [hc, if_true]
      exact ls_split x m k (cur + 1) _
    · simp only [hc, if_false, Bool.false_eq_true]
      exact ls_split x m k (cur + 1) _
theorem getD_tl (x : Str) (j : Nat) : x.cps.getD j 0 = x.cps.toList.getD j 0 := by
  simp
open StrLaws Builtin.Str in
theorem ls_main (x : Str) : ∀ (ps : List (List Nat)) (cur : Nat) (lines : Array (Nat × Nat × Nat)), ps ≠ [] → (∀ p ∈ ps, p ≠ []) → (∀ p ∈ ps, ∀ c ∈ p, Unicode.isLineBreak c = false) → x.cps.toList.drop cur = flatN ps →
    (lsEnd x (Id.run (forIn (m := Id) (List.range' cur (flatN ps).length) ((lines, cur) : LsSt) (lsBody x)))).map (fun (p : Nat × Nat × Nat) => (strSub x p.1 p.2.1).cps.toList) = lines.toList.map (fun (p : Nat × Nat × Nat) => (strSub x p.1 p.2.1).cps.toList) ++ ps
  | [], _, _, h, _, _, _ => absurd rfl h
  | [p], cur, lines, _, hne, hfr, hx => by
    have hx' : x.cps.toList.drop cur = p := hx
    have hpl : p.length = x.length - cur := by rw [← hx', List.length_drop, ← len_tl]
    have hp0 : p.length ≠ 0 := fun z => hne p (.head _) (List.eq_nil_of_length_eq_zero z)
    show (lsEnd x (Id.run (forIn (m := Id) (List.range' cur p.length) ((lines, cur) : LsSt) (lsBody x)))).map _ = _
    rw [ls_free x p.length cur lines cur fun j h1 h2 => by
      rw [getD_tl]
      have e : x.cps.toList[j]? = p[j - cur]? := by rw [← hx', List.getElem?_drop]; congr 1; omega
      have : (j - cur) < p.length := by omega
      rw [List.getD_eq_getElem?_getD, e, List.getElem?_eq_getElem this]
      exact hfr p (.head _) _ (List.getElem_mem this)]
    unfold lsEnd
    have hlt : cur < x.length := by omega
    simp only [hlt, if_true, Array.toList_push, List.map_append, List.map_cons, List.map_nil]
    congr 1
    rw [strSub_toList, hx']
    congr 1
    exact List.take_of_length_le (by omega)
  | p :: q :: r, cur, lines, _, hne, hfr, hx => by
    have hx' : x.cps.toList.drop cur = p ++ 10 :: flatN (q :: r) := hx
    have hL : (flatN (p :: q :: r)).length = p.length + (1 + (flatN (q :: r)).length) := by
      show (p ++ 10 :: flatN (q :: r)).length = _
      simp; omega
    have at10 : x.cps.getD (cur + p.length) 0 = 10 := by
      rw [getD_tl, List.getD_eq_getElem?_getD]
      have : x.cps.toList[cur + p.length]? = (p ++ 10 :: flatN (q :: r))[p.length]? := by rw [← hx', List.getElem?_drop]
      rw [this]; simp
    rw [hL, ls_split, ls_free x p.length cur lines cur fun j h1 h2 => by
      rw [getD_tl]
      have e : x.cps.toList[j]? = p[j - cur]? := by
        have e0 : x.cps.toList[j]? = (x.cps.toList.drop cur)[j - cur]? := by rw [List.getElem?_drop]; congr 1; omega
        rw [e0, hx', List.getElem?_append_left (by omega)]
      have : (j - cur) < p.length := by omega
      rw [List.getD_eq_getElem?_getD, e, List.getElem?_eq_getElem this]
      exact hfr p (.head _) _ (List.getElem_mem this)]
    rw [Nat.add_comm 1, List.range'_succ, List.forIn_cons]
    have hb : Unicode.isLineBreak 10 = true := by decide +kernel
    have step : lsBody x (cur + p.length) ((lines, cur) : LsSt) = pure (ForInStep.yield (lines.push (cur, cur + p.length, cur + p.length + 1), cur + p.length + 1)) := by
      unfold lsBody lsNext
      rw [at10, hb]
      simp
    rw [step]
    have ih := ls_main x (q :: r) (cur + p.length + 1) (lines.push (cur, cur + p.length, cur + p.length + 1)) (by simp) (fun z hz => hne z (.tail _ hz)) (fun z hz => hfr z (.tail _ hz)) (by
      have : x.cps.toList.drop (cur + p.length + 1) = (x.cps.toList.drop cur).drop (p.length + 1) := by rw [List.drop_drop]; congr 1
      rw [this, hx', show p.length + 1 = (p ++ [10]).length by simp, show p ++ 10 :: flatN (q :: r) = (p ++ [10]) ++ flatN (q :: r) by simp, List.drop_left])
    refine ih.trans ?_
    rw [Array.toList_push, List.map_append, List.append_assoc]
    congr 1
    simp only [List.map_cons, List.map_nil, List.cons_append, List.nil_append]
    congr 1
    rw [strSub_toList, hx']
    simp
open StrLaws Builtin.Str in
theorem lines_of (x : Str) : Txt.lines x = linesOf x := by
  unfold Txt.lines
  split
  · rename_i h
    rw [beq_iff_eq] at h
    unfold linesOf
    rw [h]
    show [x] = [strSub x 0 x.length]
    rw [sub_whole]
  · rfl
theorem strs_ext : ∀ {as bs : List Str}, as.map (·.cps.toList) = bs.map (·.cps.toList) → as = bs
  | [], [], _ => rfl
  | [], _ :: _, h => by simp at h
  | _ :: _, [], h => by simp at h
  | a :: as, b :: bs, h => by
    simp only [List.map_cons, List.cons.injEq] at h
    rw [str_ext h.1, strs_ext h.2]
/-- a line: no break in it, and not empty -/
def LineOK (l : Str) : Prop := l.cps.toList ≠ [] ∧ ∀ c ∈ l.cps.toList, Unicode.isLineBreak c = false
open StrLaws Builtin.Str in
theorem lines_join {ls : List Str} (hn : ls ≠ []) (hf : ∀ l ∈ ls, LineOK l) : Txt.lines (Str.join (Str.ofString "\n") ls) = ls := by
  rw [lines_of]
  apply strs_ext
  have h := ls_main (Str.join (Str.ofString "\n") ls) (ls.map (·.cps.toList)) 0 #[] (by simpa using hn) (fun p hp => by obtain ⟨q, hq, rfl⟩ := List.mem_map.mp hp; exact (hf q hq).1) (fun p hp => by obtain ⟨q, hq, rfl⟩ := List.mem_map.mp hp; exact (hf q hq).2) (by rw [List.drop_zero, join_tl])
  rw [← join_tl, ← len_tl, ← ls_eq] at h
  unfold linesOf lineCuts
  rw [List.map_map, List.map_map]
  refine Eq.trans ?_ h
  apply List.map_congr_left
  intro ⟨i, j, k⟩ _
  rfl
-- Str3
/-- d steps to the right -/
def inS : Nat → Str
  | 0 => Str.ofString ""
  | d + 1 => Str.ofString "    " ++ inS d
/-- a row of the picture: the depth, the name, the piece -/
abbrev Row := Nat × Str × Str
def lineS (r : Row) : Str := inS r.1 ++ headS r.2.1 r.2.2
def up (r : Row) : Row := (r.1 + 1, r.2)
def PF.rowss (tx : Str) : PF → List (List Row)
  | .nil => []
  | .cons _ nm st en ch rest => ((0, nm, Txt.slice tx (some (st : Int)) (some (en : Int))) :: ((ch.rowss tx).flatten.map up)) :: rest.rowss tx
def PF.texts (tx : Str) : PF → List Str
  | .nil => []
  | .cons _ _ st en ch rest => Txt.slice tx (some (st : Int)) (some (en : Int)) :: (ch.texts tx ++ rest.texts tx)
def RowOK (r : Row) : Prop := (r.2.1 = Str.ofString "" ∨ r.2.1 = Str.ofString "whole") ∧ AB r.2.2 ∧ r.2.2.length ≤ 5
theorem inS_tl : ∀ d, (inS d).cps.toList = List.replicate (4 * d) 32
  | 0 => by decide
  | d + 1 => by
    show (Str.ofString "    " ++ inS d).cps.toList = _
    have e : (Str.ofString "    ").cps.toList = List.replicate 4 32 := by decide
    rw [tl_app, inS_tl d, e, List.replicate_append_replicate]
    congr 1; omega
/-- the head's letters -/
def preN (nm : Str) : List Nat := (Str.ofString "<Node" ++ callS nm ++ Str.ofString " ").cps.toList
theorem head_tl (nm t : Str) : (headS nm t).cps.toList = preN nm ++ (Str.ofString "matching ").cps.toList ++ (34 :: (t.cps.toList ++ [34, 62])) := by
  have e1 : (Str.ofString " matching \"").cps.toList = (Str.ofString " ").cps.toList ++ ((Str.ofString "matching ").cps.toList ++ [34]) := by decide
  have e2 : (Str.ofString "\">").cps.toList = [34, 62] := by decide
  unfold headS preN
  rw [tl_app, tl_app, tl_app, tl_app, e1, e2, tl_app, tl_app]
  simp
theorem preN_two {nm : Str} (h : nm = Str.ofString "" ∨ nm = Str.ofString "whole") : 109 ∉ preN nm ∧ (∀ c ∈ preN nm, Unicode.isLineBreak c = false) ∧ (preN nm).head? = some 60 ∧ (preN nm).length ≤ 30 := by
  rcases h with rfl | rfl
  · refine ⟨by decide +kernel, by decide +kernel, by decide +kernel, by decide +kernel⟩
  · refine ⟨by decide +kernel, by decide +kernel, by decide +kernel, by decide +kernel⟩
theorem line_ok {r : Row} (h : RowOK r) : LineOK (lineS r) := by
  obtain ⟨h1, h2, _⟩ := h
  obtain ⟨_, p2, p3, _⟩ := preN_two h1
  have e : (lineS r).cps.toList = List.replicate (4 * r.1) 32 ++ (preN r.2.1 ++ (Str.ofString "matching ").cps.toList ++ (34 :: (r.2.2.cps.toList ++ [34, 62]))) := by
    unfold lineS; rw [tl_app, inS_tl, head_tl]
  have hm : ∀ c ∈ (Str.ofString "matching ").cps.toList, Unicode.isLineBreak c = false := by decide +kernel
  have b32 : Unicode.isLineBreak 32 = false := by decide +kernel
  have b34 : Unicode.isLineBreak 34 = false := by decide +kernel
  have b62 : Unicode.isLineBreak 62 = false := by decide +kernel
  have b97 : Unicode.isLineBreak 97 = false := by decide +kernel
  have b98 : Unicode.isLineBreak 98 = false := by decide +kernel
  refine ⟨by rw [e]; simp, fun c hc => ?_⟩
  rw [e] at hc
  simp only [List.mem_append, List.mem_cons, List.not_mem_nil, or_false, List.mem_replicate] at hc
  rcases hc with ⟨_, rfl⟩ | ((hc | hc) | (rfl | (hc | rfl | rfl)))
  · exact b32
  · exact p2 c hc
  · exact hm c hc
  · exact b34
  · rcases h2 c hc with rfl | rfl
    · exact b97
    · exact b98
  · exact b34
  · exact b62
theorem line_len {r : Row} (h : RowOK r) (hd : r.1 ≤ 9) : (lineS r).length ≤ 100 := by
  obtain ⟨h1, _, h3⟩ := h
  obtain ⟨_, _, _, p4⟩ := preN_two h1
  have e0 : (Str.ofString "matching ").cps.toList.length = 9 := by decide
  unfold lineS
  rw [len_tl, tl_app, inS_tl, head_tl]
  rw [len_tl] at h3
  simp only [List.length_append, List.length_replicate, List.length_cons, List.length_nil, e0]
  omega
theorem line_up (r : Row) : Str.ofString "    " ++ lineS r = lineS (up r) := by
  apply str_ext
  show (Str.ofString "    " ++ (inS r.1 ++ headS r.2.1 r.2.2)).cps.toList = ((Str.ofString "    " ++ inS r.1) ++ headS r.2.1 r.2.2).cps.toList
  simp only [tl_app, List.append_assoc]
/-- the piece is read off a line -/
theorem line_read {r : Row} (h : RowOK r) : (Txt.split (Txt.strip (lineS r)) (Str.ofString "matching "))[1]? = some (Str.ofString "\"" ++ r.2.2 ++ Str.ofString "\">") := by
  obtain ⟨h1, h2, _⟩ := h
  obtain ⟨p1, _, p3, _⟩ := preN_two h1
  have s60 : Unicode.isSpace 60 = false := by decide +kernel
  have s62 : Unicode.isSpace 62 = false := by decide +kernel
  have e : (lineS r).cps.toList = List.replicate (4 * r.1) 32 ++ (headS r.2.1 r.2.2).cps.toList := by
    unfold lineS; rw [tl_app, inS_tl]
  have eh := head_tl r.2.1 r.2.2
  have es := strip_line e (fun c hc => by
      rw [eh, List.append_assoc, List.head?_append, p3] at hc
      injection hc with hc; rw [← hc]; exact s60)
    (fun c hc => by
      rw [eh, List.getLast?_append, List.getLast?_cons, List.getLast?_append] at hc
      simp at hc
      rw [← hc]; exact s62) (by rw [eh]; simp)
  rw [es]
  rw [split_once (A := preN r.2.1) (B := 34 :: (r.2.2.cps.toList ++ [34, 62])) (c := 109) (yt := [97, 116, 99, 104, 105, 110, 103, 32]) (by decide) (by simpa using eh) p1 ?_ (by decide +kernel)]
  · refine congrArg some (str_ext ?_)
    have a1 : (Str.ofString "\"").cps.toList = [34] := by decide
    have a2 : (Str.ofString "\">").cps.toList = [34, 62] := by decide
    rw [tl_app, tl_app, a1, a2]
    simp
  · intro hc
    simp only [List.mem_append, List.mem_cons, List.not_mem_nil, or_false] at hc
    rcases hc with hc | hc | hc | hc
    · omega
    · omega
    · rcases h2 _ hc with h | h <;> omega
    · omega
theorem flat_app : ∀ (P R : List (List Nat)), P ≠ [] → flatN (flatN P :: R) = flatN (P ++ R)
  | P, [], _ => by simp [flatN]
  | [], _, h => absurd rfl h
  | [p], q :: r, _ => rfl
  | p :: p' :: P, q :: r, _ => by
    have ih := flat_app (p' :: P) (q :: r) (by simp)
    have e : flatN (flatN (p' :: P) :: q :: r) = flatN (p' :: P) ++ 10 :: flatN (q :: r) := rfl
    rw [e] at ih
    show (p ++ 10 :: flatN (p' :: P)) ++ 10 :: flatN (q :: r) = p ++ 10 :: flatN (p' :: P ++ (q :: r))
    rw [← ih]; simp
theorem flat_flat : ∀ (PP : List (List (List Nat))) (p : List Nat), (∀ P ∈ PP, P ≠ []) → flatN (p :: PP.map flatN) = flatN (p :: PP.flatten)
  | [], _, _ => rfl
  | P :: PP, p, h => by
    have hP := h P (.head _)
    have ih := flat_flat PP (flatN P) fun Q hQ => h Q (.tail _ hQ)
    show p ++ 10 :: flatN (flatN P :: PP.map flatN) = _
    rw [ih, flat_app _ _ hP]
    cases P with
    | nil => exact absurd rfl hP
    | cons q P => rfl
theorem join_join (x : Str) (LL : List (List Str)) (h : ∀ L ∈ LL, L ≠ []) : Str.join (Str.ofString "\n") (x :: LL.map (Str.join (Str.ofString "\n"))) = Str.join (Str.ofString "\n") (x :: LL.flatten) := by
  apply str_ext
  rw [join_tl, join_tl, List.map_cons, List.map_cons, List.map_map, List.map_flatten]
  have e : LL.map ((fun x : Str => x.cps.toList) ∘ Str.join (Str.ofString "\n")) = (LL.map (List.map fun x : Str => x.cps.toList)).map flatN := by
    rw [List.map_map]
    apply List.map_congr_left
    intro L _
    exact join_tl L
  rw [e]
  exact flat_flat _ _ fun P hP => by
    obtain ⟨L, hL, rfl⟩ := List.mem_map.mp hP
    simpa using h L hL
/-- every node lies in the text -/
def PF.spans (tx : Str) : PF → Prop
  | .nil => True
  | .cons _ _ st en ch rest => (st ≤ en ∧ en ≤ tx.length) ∧ ch.spans tx ∧ rest.spans tx
theorem spans_of {tx : Str} {pre : List (Addr × Obj)} {F : PF} (h : Snd tx pre F) : F.spans tx := by
  induction h with
  | nil => trivial
  | cons _ _ _ _ _ a b _ _ _ _ ih1 ih2 => exact ⟨⟨a, b⟩, ih1, ih2⟩
theorem piece_ab {tx : Str} (h : AB tx) (hz : tx.length ≤ 5) {a b : Nat} (hab : a ≤ b) (hb : b ≤ tx.length) : AB (Txt.slice tx (some (a : Int)) (some (b : Int))) ∧ (Txt.slice tx (some (a : Int)) (some (b : Int))).length ≤ 5 := by
  refine ⟨fun c hc => ?_, Nat.le_trans (Txt.slice_le _ _ _) hz⟩
  rw [slice_nat hab hb] at hc
  exact h c (List.mem_of_mem_drop (List.mem_of_mem_take (by simpa using hc)))
theorem sum_lens : ∀ (L : List (List Row)) (B : Nat), (∀ l ∈ L, l.length ≤ B) → L.flatten.length ≤ L.length * B
  | [], _, _ => by simp
  | l :: L, B, h => by
    have ih := sum_lens L B fun x hx => h x (.tail _ hx)
    have := h l (.head _)
    simp only [List.flatten_cons, List.length_append, List.length_cons, Nat.add_mul, Nat.one_mul]
    omega
theorem rowss_len {tx : Str} : ∀ F : PF, (F.rowss tx).length = F.len
  | .nil => rfl
  | .cons _ _ _ _ _ rest => by simp [PF.rowss, PF.len, rowss_len rest]; omega
theorem rows_ok {tx : Str} (hab : AB tx) (hz : tx.length ≤ 5) : ∀ F : PF, F.okk → F.spans tx → ∀ rs ∈ F.rowss tx, rs ≠ [] ∧ rs.length ≤ 7 ^ F.ht ∧ ∀ r ∈ rs, RowOK r ∧ r.1 + 1 ≤ F.ht
  | .nil, _, _ => fun rs h => by cases h
  | .cons e nm st en ch rest, ⟨o1, o2, o3, o4⟩, ⟨s1, s2, s3⟩ => fun rs h => by
    rcases List.mem_cons.mp h with rfl | h
    · have ih := rows_ok hab hz ch o3 s2
      have hl : (ch.rowss tx).flatten.length ≤ 6 * 7 ^ ch.ht := by
        refine Nat.le_trans (sum_lens _ _ fun l hl => (ih l hl).2.1) (Nat.mul_le_mul_right _ ?_)
        rw [rowss_len]; exact o2
      have p : 1 ≤ 7 ^ ch.ht := Nat.pos_of_ne_zero (by simp)
      have q : 7 ^ (ch.ht + 1) ≤ 7 ^ (PF.cons e nm st en ch rest).ht := Nat.pow_le_pow_right (by omega) (by simp only [PF.ht]; omega)
      rw [Nat.pow_succ] at q
      refine ⟨by simp, by simp only [List.length_cons, List.length_map]; omega, fun r hr => ?_⟩
      have hp := piece_ab hab hz s1.1 s1.2
      rcases List.mem_cons.mp hr with rfl | hr
      · exact ⟨⟨o1, hp.1, hp.2⟩, by simp only [PF.ht]; omega⟩
      · obtain ⟨r0, hr0, rfl⟩ := List.mem_map.mp hr
        obtain ⟨l, hl1, hl2⟩ := List.mem_flatten.mp hr0
        obtain ⟨x1, x2⟩ := (ih l hl1).2.2 r0 hl2
        exact ⟨x1, by simp only [PF.ht, up]; omega⟩
    · obtain ⟨a, b, c⟩ := rows_ok hab hz rest o4 s3 rs h
      have q : 7 ^ rest.ht ≤ 7 ^ (PF.cons e nm st en ch rest).ht := Nat.pow_le_pow_right (by omega) (by simp only [PF.ht]; omega)
      refine ⟨a, by omega, fun r hr => ⟨(c r hr).1, ?_⟩⟩
      have := (c r hr).2
      simp only [PF.ht]; omega
theorem indent_join {rs : List Row} (hn : rs ≠ []) (h : ∀ r ∈ rs, RowOK r) : indentS (Str.join (Str.ofString "\n") (rs.map lineS)) = Str.join (Str.ofString "\n") ((rs.map up).map lineS) ∧ Txt.lines (Str.join (Str.ofString "\n") (rs.map lineS)) = rs.map lineS := by
  have hl := lines_join (ls := rs.map lineS) (by simpa using hn) fun l hl => by
    obtain ⟨r, hr, rfl⟩ := List.mem_map.mp hl; exact line_ok (h r hr)
  refine ⟨?_, hl⟩
  unfold indentS
  rw [hl, show ∀ ls : List Str, Txt.join (Str.ofString "\n") ls = Str.join (Str.ofString "\n") ls from fun ls => StrLaws.glued_eq_join _ _, List.map_map, List.map_map]
  congr 1
  apply List.map_congr_left
  intro r _
  exact line_up r
theorem pret_rows {tx : Str} (hab : AB tx) (hz : tx.length ≤ 5) : ∀ F : PF, F.okk → F.spans tx → F.pret tx = (F.rowss tx).map fun rs => Str.join (Str.ofString "\n") (rs.map lineS)
  | .nil, _, _ => rfl
  | .cons e nm st en ch rest, ⟨o1, o2, o3, o4⟩, ⟨s1, s2, s3⟩ => by
    have ih1 := pret_rows hab hz ch o3 s2
    have ih2 := pret_rows hab hz rest o4 s3
    have ro := rows_ok hab hz ch o3 s2
    show Txt.join _ _ :: _ = _ :: _
    rw [ih2]
    refine congrArg (fun z => z :: _) ?_
    rw [show ∀ ls : List Str, Txt.join (Str.ofString "\n") ls = Str.join (Str.ofString "\n") ls from fun ls => StrLaws.glued_eq_join _ _, ih1, List.map_map]
    have e1 : (ch.rowss tx).map (indentS ∘ fun rs => Str.join (Str.ofString "\n") (rs.map lineS)) = ((ch.rowss tx).map fun rs => (rs.map up).map lineS).map (Str.join (Str.ofString "\n")) := by
      rw [List.map_map]
      apply List.map_congr_left
      intro rs hrs
      exact (indent_join (ro rs hrs).1 fun r hr => ((ro rs hrs).2.2 r hr).1).1
    rw [e1, join_join _ _ fun L hL => by
      obtain ⟨rs, hrs, rfl⟩ := List.mem_map.mp hL
      simpa using (ro rs hrs).1]
    have e2 : headS nm (Txt.slice tx (some (st : Int)) (some (en : Int))) = lineS (0, nm, Txt.slice tx (some (st : Int)) (some (en : Int))) := by
      apply str_ext
      show _ = (inS 0 ++ headS _ _).cps.toList
      rw [tl_app, inS_tl]; rfl
    rw [e2]
    dsimp only
    rw [List.map_cons]
    refine congrArg (fun z => Str.join (Str.ofString "\n") (lineS _ :: z)) ?_
    rw [List.map_flatten, List.map_flatten, List.map_map]
    rfl
theorem join_len (ls : List Str) (B : Nat) (h : ∀ l ∈ ls, l.length ≤ B) : (Str.join (Str.ofString "\n") ls).length ≤ ls.length * (B + 1) := by
  have e : (Str.ofString "\n").length = 1 := by decide
  have h1 := StrLaws.join_length_le (Str.ofString "\n") ls
  rw [e] at h1
  have h2 : (ls.map (·.length)).sum ≤ ls.length * B := by
    clear h1
    induction ls with
    | nil => simp
    | cons l ls ih =>
      have := ih fun x hx => h x (.tail _ hx)
      have := h l (.head _)
      simp only [List.map_cons, List.sum_cons, List.length_cons, Nat.add_mul, Nat.one_mul]
      omega
  rw [Nat.mul_add]
  omega
theorem cnt_rows {tx : Str} : ∀ F : PF, (F.rowss tx).flatten.length = F.cnt
  | .nil => rfl
  | .cons _ _ _ _ ch rest => by
    have h1 := cnt_rows (tx := tx) ch
    have h2 := cnt_rows (tx := tx) rest
    simp only [PF.rowss, PF.cnt, List.flatten_cons, List.length_append, List.length_cons, List.length_map, h1, h2]
    omega
theorem texts_rows {tx : Str} : ∀ F : PF, (F.rowss tx).flatten.map (fun r : Row => r.2.2) = F.texts tx
  | .nil => rfl
  | .cons _ nm st en ch rest => by
    have h1 := texts_rows (tx := tx) ch
    have h2 := texts_rows (tx := tx) rest
    simp only [PF.rowss, PF.texts, List.flatten_cons, List.map_append, List.map_cons, List.map_map, h2]
    show _ :: (List.map ((fun r : Row => r.2.2) ∘ up) _ ++ _) = _
    rw [show ((fun r : Row => r.2.2) ∘ up) = (fun r : Row => r.2.2) from rfl, h1]
theorem sum_le (ls : List Str) (B : Nat) (h : ∀ l ∈ ls, l.length ≤ B) : (ls.map (·.length)).sum ≤ ls.length * B := by
  induction ls with
  | nil => simp
  | cons l ls ih =>
    have := ih fun x hx => h x (.tail _ hx)
    have := h l (.head _)
    simp only [List.map_cons, List.sum_cons, List.length_cons, Nat.add_mul, Nat.one_mul]
    omega
theorem pow_bound {n : Nat} (h : n ≤ 5) : 7 ^ n ≤ 16807 := Nat.le_trans (Nat.pow_le_pow_right (by omega) h) (by decide)
theorem pfok_of {tx : Str} (hab : AB tx) (hz : tx.length ≤ 5) {pre : List (Addr × Obj)} {F : PF} (h : Snd tx pre F) : F.okk → F.ht ≤ 5 → PFok tx pre F := by
  induction h with
  | nil => intro _ _; trivial
  | @cons k e d mt o od nm roots st en ch rest a b c _ _ s1 s2 _ _ hch hrest ih1 ih2 =>
    intro ⟨o1, o2, o3, o4⟩ hh
    have hht : ch.ht + 1 ≤ 5 := by simp only [PF.ht] at hh; omega
    have hrt : rest.ht ≤ 5 := by simp only [PF.ht] at hh; omega
    have ro := rows_ok hab hz ch o3 (spans_of hch)
    have pr := pret_rows hab hz ch o3 (spans_of hch)
    have en1 : (Str.ofString "\n").length = 1 := by decide
    have e4 : (Str.ofString "    ").length = 4 := by decide
    have p7 := pow_bound (n := ch.ht) (by omega)
    have lens : ∀ rs ∈ ch.rowss tx, (∀ r ∈ rs, (lineS r).length ≤ 100) ∧ rs.length ≤ 16807 := fun rs hrs =>
      ⟨fun r hr => line_len ((ro rs hrs).2.2 r hr).1 (by have := ((ro rs hrs).2.2 r hr).2; omega), Nat.le_trans (ro rs hrs).2.1 p7⟩
    have lens2 : ∀ rs ∈ ch.rowss tx, ∀ r ∈ rs, (lineS (up r)).length ≤ 104 := fun rs hrs r hr => by
      rw [← line_up, Str.length_append, e4]
      have := (lens rs hrs).1 r hr
      omega
    refine ⟨⟨k, d, mt, o, od, a, b, c⟩, by rcases o1 with rfl | rfl <;> decide, joinOk_of ?_, fun p hp => ?_, ih1 o3 (by omega), ih2 o4 hrt⟩
    · have hl : ∀ l ∈ (ch.pret tx).map indentS, l.length ≤ 16807 * 105 := fun l hl => by
        obtain ⟨p, hp, rfl⟩ := List.mem_map.mp hl
        rw [pr] at hp
        obtain ⟨rs, hrs, rfl⟩ := List.mem_map.mp hp
        rw [(indent_join (ro rs hrs).1 fun r hr => ((ro rs hrs).2.2 r hr).1).1]
        refine Nat.le_trans (join_len _ 104 fun l hl => ?_) ?_
        · obtain ⟨r, hr, rfl⟩ := List.mem_map.mp hl
          obtain ⟨r0, hr0, rfl⟩ := List.mem_map.mp hr
          exact lens2 rs hrs r0 hr0
        · rw [List.length_map, List.length_map]
          exact Nat.mul_le_mul_right _ (lens rs hrs).2
      have h0 : (headS nm (Txt.slice tx (some (st : Int)) (some (en : Int)))).length ≤ 100 := by
        have hp := piece_ab hab hz s1 s2
        have := line_len (r := (0, nm, Txt.slice tx (some (st : Int)) (some (en : Int)))) ⟨o1, hp.1, hp.2⟩ (Nat.zero_le _)
        unfold lineS at this
        rw [Str.length_append] at this
        dsimp only at this
        omega
      have hs := sum_le _ _ hl
      have hln : ((ch.pret tx).map indentS).length ≤ 6 := by rw [List.length_map, pret_len]; exact o2
      have hm : ((ch.pret tx).map indentS).length * (16807 * 105) ≤ 6 * (16807 * 105) := Nat.mul_le_mul_right _ hln
      simp only [List.map_cons, List.sum_cons, List.length_cons, en1]
      omega
    · rw [pr] at hp
      obtain ⟨rs, hrs, rfl⟩ := List.mem_map.mp hp
      have hij := indent_join (ro rs hrs).1 fun r hr => ((ro rs hrs).2.2 r hr).1
      have hb : ∀ l ∈ rs.map lineS, l.length ≤ 100 := fun l hl => by
        obtain ⟨r, hr, rfl⟩ := List.mem_map.mp hl
        exact (lens rs hrs).1 r hr
      have hn := (lens rs hrs).2
      refine ⟨?_, ?_, joinOk_of ?_⟩
      · refine Nat.le_trans (join_len _ 100 hb) ?_
        rw [List.length_map]; omega
      · rw [hij.2]
        intro l hl
        have := hb l hl
        omega
      · rw [hij.2]
        have hs := sum_le ((rs.map lineS).map fun l => Str.ofString "    " ++ l) 104 fun l hl => by
          obtain ⟨l0, hl0, rfl⟩ := List.mem_map.mp hl
          obtain ⟨r, hr, rfl⟩ := List.mem_map.mp hl0
          rw [line_up]; exact lens2 rs hrs r hr
        rw [List.length_map, List.length_map] at hs
        rw [List.length_map, List.length_map, en1]
        omega
theorem small_of : ∀ F : PF, F.okk → F.small
  | .nil, _ => trivial
  | .cons _ _ _ _ ch rest, ⟨_, h, h1, h2⟩ => ⟨small_of ch h1, by omega, small_of rest h2⟩
/-- what the law reads of the picture -/
theorem picture {tx : Str} (hab : AB tx) (hz : tx.length ≤ 5) {pre : List (Addr × Obj)} {e : Addr} {nm : Str} {st en : Nat} {ch : PF} (h : Sn tx pre 5 (.cons e nm st en ch .nil)) :
    ∃ rows : List Row, ((PF.cons e nm st en ch .nil).pret tx).headD (Str.ofString "") = Str.join (Str.ofString "\n") (rows.map lineS) ∧ Txt.split (Str.join (Str.ofString "\n") (rows.map lineS)) (Str.ofString "\n") = rows.map lineS ∧
      rows.length = (PF.cons e nm st en ch .nil).cnt ∧ (rows.map lineS)[0]? = some (headS nm (Txt.slice tx (some (st : Int)) (some (en : Int)))) ∧ (∀ r ∈ rows, RowOK r ∧ (lineS r).length ≤ 100) ∧ rows.map (fun r : Row => r.2.2) = (PF.cons e nm st en ch .nil).texts tx ∧
      (Str.join (Str.ofString "\n") (rows.map lineS)).length ≤ 2000000 ∧ rows.length ≤ 16807 := by
  obtain ⟨h1, h2, h3⟩ := h
  have sp := spans_of h1
  have ro := rows_ok hab hz _ h2 sp
  have pr := pret_rows hab hz _ h2 sp
  have c := cnt_rows (tx := tx) (.cons e nm st en ch .nil)
  have t := texts_rows (tx := tx) (.cons e nm st en ch .nil)
  simp only [PF.rowss, List.flatten_cons, List.flatten_nil, List.append_nil] at c t
  have ro0 := ro ((0, nm, Txt.slice tx (some (st : Int)) (some (en : Int))) :: ((ch.rowss tx).flatten.map up)) (.head _)
  refine ⟨(0, nm, Txt.slice tx (some (st : Int)) (some (en : Int))) :: ((ch.rowss tx).flatten.map up), by rw [pr]; rfl, ?_, c, ?_, fun r hr => ⟨(ro0.2.2 r hr).1, line_len (ro0.2.2 r hr).1 (by have := (ro0.2.2 r hr).2; omega)⟩, t, ?_, Nat.le_trans ro0.2.1 (pow_bound h3)⟩
  · refine split_join (by simp) fun l hl => ?_
    obtain ⟨r, hr, rfl⟩ := List.mem_map.mp hl
    intro z
    have b10 : Unicode.isLineBreak 10 = true := by decide +kernel
    have := (line_ok (ro0.2.2 r hr).1).2 10 z
    rw [b10] at this; cases this
  · rw [List.map_cons]
    refine congrArg some (str_ext ?_)
    show (inS 0 ++ headS _ _).cps.toList = _
    rw [tl_app, inS_tl]; rfl
  · refine Nat.le_trans (join_len _ 100 fun l hl => ?_) ?_
    · obtain ⟨r, hr, rfl⟩ := List.mem_map.mp hl
      exact line_len (ro0.2.2 r hr).1 (by have := (ro0.2.2 r hr).2; omega)
    · have := Nat.le_trans ro0.2.1 (pow_bound h3)
      rw [List.length_map]; omega
-- Law2
section
variable {prog : Program} {w : World} {A : Around} {E : Value → Shared → Prop} {s : Shared} {Q : Value → Shared → Prop} {x y : Str} {t u : Tok}
theorem m_addS (h : x.length + y.length ≤ 16777216) (k : ∀ t' k', Q (.str (x ++ y) t') { s with toks := k' }) : wpAny (model prog w) A (binaryOp .Add (.str x t) (.str y u)) Q E s := by
  refine PySem.P.add_str ?_
  split
  · rename_i hx
    rw [beq_iff_eq, len_tl] at hx
    have e : x ++ y = y := str_ext (by rw [tl_app, List.eq_nil_of_length_eq_zero hx]; rfl)
    have := k u s.toks
    rw [e] at this
    exact this
  · split
    · rename_i hy
      rw [beq_iff_eq, len_tl] at hy
      have e : x ++ y = x := str_ext (by rw [tl_app, List.eq_nil_of_length_eq_zero hy]; simp)
      have := k t s.toks
      rw [e] at this
      exact this
    · exact ⟨by rw [Str.length_append, sizeLine_eq]; exact h, k _ _⟩
end
/-- a text is at hand, the ledger stands -/
def StrP (g : Heap) (L : Addr) (m : Str → Option Value) (led : List (Addr × Obj)) (s : Shared) (x : Str) (v : Value) (s' : Shared) : Prop :=
  ∃ t h' tk', v = .str x t ∧ s' = { s with heap := h', toks := tk' } ∧ Fr g L h' m ∧ News g L h' led
-- Law3
theorem texts_app {tx : Str} : ∀ F G : PF, (F.app G).texts tx = F.texts tx ++ G.texts tx
  | .nil, _ => rfl
  | .cons _ _ _ _ ch rest, G => by
    show _ :: (ch.texts tx ++ (rest.app G).texts tx) = (_ :: (ch.texts tx ++ rest.texts tx)) ++ G.texts tx
    rw [texts_app rest G]; simp
theorem cnt_app : ∀ F G : PF, (F.app G).cnt = F.cnt + G.cnt
  | .nil, _ => by simp [PF.app, PF.cnt]
  | .cons _ _ _ _ ch rest, G => by
    show 1 + ch.cnt + (rest.app G).cnt = 1 + ch.cnt + rest.cnt + G.cnt
    rw [cnt_app rest G]; omega
theorem len_cnt : ∀ F : PF, F.len ≤ F.cnt
  | .nil => Nat.le_refl _
  | .cons _ _ _ _ ch rest => by
    have := len_cnt rest
    simp only [PF.len, PF.cnt]; omega
section
variable {prog : Program} {w : World} {A : Around} {E : Value → Shared → Prop} {s : Shared} {Q : Value → Shared → Prop} {h₀ : Heap} {L l b : Addr} {m : Str → Option Value} {news : List (Addr × Obj)} {xs ys : List Value} {n k : Nat}
/-- all but the first item -/
theorem m_from1 {h : Heap} {g : Array GenState} {d : Drawn} {t : Nat} {os : OsState} {value slice : PySem.Expr} {tk : Tok} {x : Value} {its : List Value} (F : Fr h₀ L h m) (N : News h₀ L h news) (hl : (l, lstO (x :: its) n) ∈ news) (hz : its.length + 1 ≤ 16777216)
    (kk : ∀ D h', Fr h₀ L h' m → News h₀ L h' ((D, lstO its 0) :: news) → (∀ p ∈ news, p.1 < D) → Q (.ref D) ⟨h', g, d, t, os⟩)
    (hs : subscripted slice false (.ref l) (.ref h.objs.size) = operate [.ref h.objs.size, .ref l] (getItem (.ref l) (.ref h.objs.size))) :
    wpAny (model prog w) A (subscriptTail value slice (.ref l) (.ref h.objs.size)) Q E ⟨h.push { cls := .type "slice", data := .fields #[.int 1 tk, .none, .none] }, g, d, t, os⟩ := by
  have hl' : h.IsList l (x :: its).toArray := ⟨_, (N _ hl).1, rfl, _, rfl⟩
  have h9 := hl'.push { cls := .type "slice", data := .fields #[.int 1 tk, .none, .none] }
  have e0 : (slicePick (x :: its).toArray (some 1) none none).toList = its := ?_
  · refine tail_any (T := "list") (Heap.IsList.typeIs (s := ⟨h.push { cls := .type "slice", data := .fields #[.int 1 tk, .none, .none] }, g, d, t, os⟩) h9) list_getitem_lookup
      (wpAny_getItem_list_slice h9 (Heap.IsSliceOf.new ..) (.int _ _) .none .none (by simp) ?_ (by rw [sizeLine_eq, List.size_toArray]; exact hz)) hs
    have F1 := F.push { cls := .type "slice", data := .fields #[.int 1 tk, .none, .none] }
    have N1 := newsSub (News.push F N { cls := .type "slice", data := .fields #[.int 1 tk, .none, .none] } rfl) fun p hp => List.mem_cons_of_mem _ hp
    have lt : ∀ p ∈ news, p.1 < (h.push { cls := .type "slice", data := .fields #[.int 1 tk, .none, .none] }).objs.size := fun p hp => Heap.lt_size (N1 _ hp).1
    have fin := kk _ _ (F1.push (lstO its 0)) (News.push F1 N1 (lstO its 0) rfl) lt
    have e1 : (lstO its 0) = { cls := .type "list", data := .seq (slicePick (x :: its).toArray (some 1) none none) } := by
      show ({ cls := .type "list", data := .seq its.toArray } : Obj) = _
      congr 1
      exact congrArg Data.seq (Array.toList_inj.mp (by rw [e0]))
    rw [e1] at fin
    exact fin
  have e : sliceBounds (some 1) none none (x :: its).toArray.size = (((1 : Nat) : Int), ((its.length + 1 : Nat) : Int), 1) := by
    simp only [sliceBounds, Option.getD_none, show (1 : Int) > 0 by decide, if_true, List.size_toArray, List.length_cons, show ¬ ((1 : Int) < 0) by decide, if_false]
    congr 1
    omega
  rw [kmk_pick_nat _ e]
  simp
/-- two lists of the same texts are equal -/
theorem lists_eq_strs {g : Nat → Str} (N : News h₀ L s.heap news) (hl : (l, lstO xs n) ∈ news) (hb : (b, lstO ys k) ∈ news) (hlen : xs.length = ys.length) (hx : ∀ i v, xs[i]? = some v → ∃ t, v = Value.str (g i) t) (hy : ∀ i v, ys[i]? = some v → ∃ t, v = Value.str (g i) t) (hu : A.units < cLine) (h : Q (.bool true) s) : wpAny (model prog w) A (compareOp .Eq (.ref l) (.ref b)) Q E s := by
  refine cmp_ofEq (SeqAt.RcAt.lists (e := fun _ => true) ⟨_, (N _ hl).1, rfl, _, rfl⟩ ⟨_, (N _ hb).1, rfl, _, rfl⟩ (by simpa using hlen) hu (fun j h1 h2 => ?_) prog w E Q ?_)
  · have e1 : xs.toArray[j] = xs[j]'(by simpa using h1) := by simp
    have e2 : ys.toArray[j] = ys[j]'(by simpa using h2) := by simp
    obtain ⟨t, ht⟩ := hx j _ (List.getElem?_eq_getElem (by simpa using h1))
    obtain ⟨u, hu⟩ := hy j _ (List.getElem?_eq_getElem (by simpa using h2))
    rw [e1, e2, ht, hu]
    have := SeqAt.EqAt.str_str (A := A.in1) (s := s) (g j) t (g j) u
    rw [beq_self_eq_true] at this
    exact this
  · rw [show (List.range xs.toArray.size).all (fun _ => true) = true by simp]; exact h
end
/-- a piece between its quotes, as the law reads it -/
def quoS (t : Str) : Str := Str.ofString "\"" ++ t ++ Str.ofString "\">"
/-- after the reading loop -/
def CutR (all : List Str) (ld : List (Addr × Obj)) (g : Heap) (L : Addr) (m0 : Str → Option Value) (RW : Addr) (s s1 : Shared) : Prop :=
  ∃ h tk ts k vN, s1 = { s with heap := h, toks := tk } ∧ Fr g L h (fun y => if y = Str.ofString "nodes" then vN else m0 y) ∧ News g L h ((RW, lstO (strValues ts) k) :: ld) ∧ ts.map (·.1) = all
theorem isl_ne_nilL {prog : Program} {w : World} {A : Around} {E : Value → Shared → Prop} {s : Shared} {Q : Value → Shared → Prop} {h₀ : Heap} {L l b : Addr} {news : List (Addr × Obj)} {xs : List Value} {n k : Nat} (N : News h₀ L s.heap news) (hl : (l, lstO xs n) ∈ news) (hb : (b, lstO [] k) ∈ news) (hu : A.units < cLine) (h : Q (.bool !xs.isEmpty) s) : wpAny (model prog w) A (compareOp .NotEq (.ref l) (.ref b)) Q E s :=
  isl_ne_nil (xs := xs) ⟨_, (N _ hl).1, rfl, _, rfl⟩ ⟨_, (N _ hb).1, rfl, _, rfl⟩ hu h
theorem line_at {lst : List (Str × Tok)} {rows : List Row} (h : lst.map (fun p => p.1) = rows.map lineS) {j : Nat} {v : Value} (hv : (strValues lst)[j]? = some v) : ∃ r t, r ∈ rows ∧ rows[j]? = some r ∧ v = Value.str (lineS r) t := by
  simp only [strValues, List.getElem?_map, Option.map_eq_some_iff] at hv
  obtain ⟨p, hp, rfl⟩ := hv
  have e := congrArg (fun l : List Str => l[j]?) h
  simp only [List.getElem?_map, hp, Option.map_some] at e
  obtain ⟨r, hr, e2⟩ := Option.map_eq_some_iff.mp e.symm
  exact ⟨r, p.2, List.mem_of_getElem? hr, hr, by rw [e2]⟩
theorem text_at {ts : List (Str × Tok)} {all : List Str} (h : ts.map (fun p => p.1) = all) {j : Nat} {v : Value} (hv : (strValues ts)[j]? = some v) : ∃ t, v = Value.str (all.getD j (Str.ofString "")) t ∧ all.getD j (Str.ofString "") ∈ all := by
  simp only [strValues, List.getElem?_map, Option.map_eq_some_iff] at hv
  obtain ⟨p, hp, rfl⟩ := hv
  have e := congrArg (fun l : List Str => l[j]?) h
  simp only [List.getElem?_map, hp, Option.map_some] at e
  have e2 : all.getD j (Str.ofString "") = p.1 := by rw [List.getD_eq_getElem?_getD, ← e]; rfl
  exact ⟨p.2, by rw [e2], by rw [e2]; exact List.mem_of_getElem? e.symm⟩
theorem quo_at {rows : List Row} {all : List Str} (h : rows.map (fun r : Row => r.2.2) = all) {j : Nat} {r : Row} (hr : rows[j]? = some r) : quoS (all.getD j (Str.ofString "")) = Str.ofString "\"" ++ r.2.2 ++ Str.ofString "\">" := by
  have e := congrArg (fun l : List Str => l[j]?) h
  simp only [List.getElem?_map, hr, Option.map_some] at e
  unfold quoS
  rw [List.getD_eq_getElem?_getD, ← e]
  rfl
theorem split_at {x y q : Str} {l : List (Str × Tok)} (h : l.map (fun p => p.1) = Txt.split x y) (h1 : (Txt.split x y)[1]? = some q) : ∃ t, (strValues l)[1]? = some (Value.str q t) := by
  rw [← h, List.getElem?_map] at h1
  obtain ⟨p, hp, rfl⟩ := Option.map_eq_some_iff.mp h1
  exact ⟨p.2, by simp only [strValues, List.getElem?_map, hp, Option.map_some]⟩
-- Law4
theorem err_text {w : World} {q1 q2 q3 : Int} {u1 u3 u5 : Tok} {v1 v2 v3 : Value} : findObj (Mine.hd.heap_39 w.params) 179 (some (dictOf [⟨q1, .str (Str.ofString "text") u1, v1⟩, ⟨q2, .str (Str.ofString "pos") u3, v2⟩, ⟨q3, .str (Str.ofString "expr") u5, v3⟩] 3)) (Str.ofString "text") = some (.value v1) := by kernel_rfl
theorem xs_dat : ∀ (F : EF) {pre : List (Addr × Obj)}, F.wf → F.dat pre → ∀ y ∈ F.xs, ∃ k d mt nm o, EK.Is k d mt nm o ∧ (y, o) ∈ F.stat ∧ ∃ od, (d, od) ∈ pre
  | .nil, _, _, _, _, h => by cases h
  | .cons k x d o mt nm kids rest, pre, ⟨h, _, h1, h2⟩, ⟨g, g1, g2⟩, y, hy => by
    rcases List.mem_cons.mp hy with rfl | hy
    · exact ⟨k, d, mt, nm, o, h, stat_self, g⟩
    rcases List.mem_append.mp hy with hy | hy
    · obtain ⟨k', d', mt', nm', o', a, b, c⟩ := xs_dat kids h1 g1 y hy
      exact ⟨k', d', mt', nm', o', a, List.mem_append_right _ (List.mem_append_left _ b), c⟩
    · obtain ⟨k', d', mt', nm', o', a, b, c⟩ := xs_dat rest h2 g2 y hy
      exact ⟨k', d', mt', nm', o', a, List.mem_append_right _ (List.mem_append_right _ b), c⟩
theorem mut1_stale {w : World} {tx : Str} {c c2 : Addr} {C : List (Int × Value)} {S : List (Addr × Obj)} {f : PegF} {d : Addr} {n : Nat} {M : List (Addr × Obj)} (h1 : Mut1 w 0 tx c C S f d n M) (hs : ∀ p ∈ M, @LT.lt Nat _ p.1 c2) : Mut1 w 1 tx c2 [] [] f d 1 M := by
  cases h1 with
  | fresh0 => exact .fresh0
  | fresh1 hb _ _ => exact absurd hb (by omega)
  | @live T P i ti t r orow olds memo a1 a2 a3 a4 a5 =>
    have : olds = [] := List.eq_nil_of_length_eq_zero (by omega)
    subst this
    exact .fresh1 (Nat.le_refl _) (hs (r, orow) (.tail _ (.tail _ (.tail _ (.head _))))) (isDict_cls a2)
/-- the expression and the empty letter, either of them -/
abbrev bothF (xb db : Addr) (ob : Obj) (mb x1 dx1 : Addr) (o1 : Obj) (mt1 : Addr) (nam : Str) (K1 : EF) (xo dq : Addr) (oo : Obj) : EF :=
  .cons .alt xb db ob mb (Str.ofString "") (.cons .seq x1 dx1 o1 mt1 nam K1 (.cons (.lit (Str.ofString "")) xo dq oo xo (Str.ofString "") .nil .nil)) .nil
theorem muts_two {w : World} {tx : Str} {c : Addr} {C : List (Int × Value)} {S : List (Addr × Obj)} {x1 dx1 : Addr} {o1 : Obj} {mt1 : Addr} {nam : Str} {K1 : EF} {n : Nat} {M : List (Addr × Obj)} (h : Muts w 0 tx c C S (.cons .seq x1 dx1 o1 mt1 nam K1 .nil) n M) (xb db : Addr) (ob : Obj) (mb xo dq : Addr) (oo : Obj) :
    ∃ M', M'.Perm ((db, dictOf [] 0) :: (dq, dictOf [] 0) :: M) ∧ Idle w 1 tx (bothF xb db ob mb x1 dx1 o1 mt1 nam K1 xo dq oo) (bothF xb db ob mb x1 dx1 o1 mt1 nam K1 xo dq oo).size M' ∧ (∀ pre : List (Addr × Obj), (∀ p ∈ M', p ∈ pre) → (bothF xb db ob mb x1 dx1 o1 mt1 nam K1 xo dq oo).dat pre) := by
  cases h with
  | @cons _ _ _ _ _ _ _ _ n1 n2 n3 M1 M2 M3 h1 h2 h3 =>
  cases h3 with
  | nil =>
  have key : ∀ c2, (∀ p ∈ [(db, dictOf [] 0)] ++ ((M1 ++ (M2 ++ ([(dq, dictOf [] 0)] ++ ([] ++ [])))) ++ []), @LT.lt Nat _ p.1 c2) → Muts w 1 tx c2 [] [] (bothF xb db ob mb x1 dx1 o1 mt1 nam K1 xo dq oo) (bothF xb db ob mb x1 dx1 o1 mt1 nam K1 xo dq oo).size ([(db, dictOf [] 0)] ++ ((M1 ++ (M2 ++ ([(dq, dictOf [] 0)] ++ ([] ++ [])))) ++ [])) := fun c2 hs => by
    have s1 : ∀ p ∈ M1, @LT.lt Nat _ p.1 c2 := fun p hp => hs p (List.mem_append_right _ (List.mem_append_left _ (List.mem_append_left _ hp)))
    have s2 : ∀ p ∈ M2, @LT.lt Nat _ p.1 c2 := fun p hp => hs p (List.mem_append_right _ (List.mem_append_left _ (List.mem_append_right _ (List.mem_append_left _ hp))))
    exact .cons .fresh0 (.cons (mut1_stale h1 s1) (muts_stale h2 s2) (.cons .fresh0 .nil .nil)) .nil
  refine ⟨_, ?_, key, fun pre hp => ?_⟩
  · classical
    refine List.perm_iff_count.mpr fun q => ?_
    simp only [List.count_append, List.count_cons, List.count_nil, List.append_nil, List.nil_append, List.cons_append]
    omega
  · obtain ⟨c2, hc2⟩ : ∃ c2 : Nat, ∀ p ∈ [(db, dictOf [] 0)] ++ ((M1 ++ (M2 ++ ([(dq, dictOf [] 0)] ++ ([] ++ [])))) ++ []), @LT.lt Nat _ p.1 c2 := by
      generalize [(db, dictOf [] 0)] ++ ((M1 ++ (M2 ++ ([(dq, dictOf [] 0)] ++ ([] ++ [])))) ++ []) = l
      clear hp key
      induction l with
      | nil => exact ⟨0, fun p hp => nomatch hp⟩
      | cons a l ih =>
        obtain ⟨c2, h⟩ := ih
        have e1 : @LT.lt Nat _ c2 (c2 + a.1 + 1) := by
          show c2 < c2 + _ + 1
          omega
        refine ⟨c2 + a.1 + 1, fun p hp => ?_⟩
        rcases List.mem_cons.mp hp with rfl | hp
        · show (_ : Nat) < c2 + _ + 1
          omega
        · exact Nat.lt_trans (h p hp) e1
    exact muts_dat (key c2 hc2) hp
/-- where the expression does not match, the empty letter does -/
theorem both_run {tx : Str} {xb db : Addr} {ob : Obj} {mb x1 dx1 : Addr} {o1 : Obj} {mt1 : Addr} {nam : Str} {K1 : EF} {xo dq : Addr} {oo : Obj} (h : EK.seq.run tx x1 nam (K1.pegs tx) 0 = none) :
    EK.alt.run tx xb (Str.ofString "") ((EF.cons .seq x1 dx1 o1 mt1 nam K1 (.cons (.lit (Str.ofString "")) xo dq oo xo (Str.ofString "") .nil .nil)).pegs tx) 0 = some (.cons xb (Str.ofString "") 0 0 (.cons xo (Str.ofString "") 0 0 .nil .nil) .nil) := by
  have e2 : (Str.ofString "").length = 0 := by decide
  have e1 : startsAt tx (Str.ofString "") 0 = true := by
    unfold startsAt
    rw [fromIndex_nat (Nat.zero_le _), e2, Bool.and_eq_true, decide_eq_true_eq, StrLaws.subAt_eq, beq_iff_eq]
    refine ⟨Nat.zero_le _, ?_⟩
    rw [e2, List.take_zero]
    decide
  have e3 : EK.run (.lit (Str.ofString "")) tx xo (Str.ofString "") ([] : List PegF) 0 = some (.cons xo (Str.ofString "") 0 0 .nil .nil) := by
    simp only [EK.run, e1, if_true, e2, Nat.add_zero]
  show (altRun (EK.seq.run tx x1 nam (K1.pegs tx) :: EK.run (.lit (Str.ofString "")) tx xo (Str.ofString "") [] :: []) 0).map _ = _
  unfold altRun
  rw [h]
  dsimp only
  unfold altRun
  rw [e3]
  rfl
-- LawG
/-- True came back, what stood before stands, the generators are bare -/
def GoodH (s₁ : Shared) (r : Result) (s' : Shared) : Prop := r = .ok (.ret (.bool true)) ∧ (∀ b o, s₁.heap.get? b = some o → s'.heap.get? b = some o) ∧ s'.os = s₁.os ∧ AllBare s'.gens
/-- the law's end from what the walk shows over the hidden tables -/
theorem kn_postH {M : Model} {A : Around} {cd : Code} {s s₁ : Shared} {cw : ClaimW} {cl : Str → Option Addr} {mean : ExcName → Option Value} {args : List WData} {tabs : List (Addr × Addr)} (hT : TabsAt tabs s₁.heap) (hr : ∀ x, cw.raises args x = false) (hp : cw.post args (.bool true) args = true)
    (h : codeAny M A cd (fun r s' => GoodH { s₁ with heap := ghostOf s₁.heap tabs } r s' ∧ GrownAll tabs s'.heap) s) : codeAny M A cd (GoodWG cw cl mean args s₁) s := by
  refine codeAny_mono h fun r s' x => ?_
  obtain ⟨⟨x1, x2, x3, x4⟩, x5⟩ := x
  refine ⟨.inl ⟨.bool true, .bool true, [], x1, hr, .bool true, hp, fun _ => ⟨List.nodup_nil, fun a ha => nomatch ha⟩⟩, ?_, x3, x4⟩
  have tabs_get : ∀ b o, b ∈ tabs.map (·.2) → s₁.heap.get? b = some o → o = tabObj #[] ∧ isCodeTable s₁.heap b ∧ ∃ ps, s'.heap.get? b = some (tabObj ps) := by
    intro b o hb e
    obtain ⟨q, hq, rfl⟩ := List.mem_map.mp hb
    obtain ⟨a1, a2⟩ := hT q hq
    have e2 : o = tabObj #[] := Option.some.inj (e.symm.trans a2)
    exact ⟨e2, (a1.tab a2).isCodeTable, x5.get q hq⟩
  constructor
  · intro b o e
    by_cases hb : b ∈ tabs.map (·.2)
    · obtain ⟨rfl, a2, ps, a3⟩ := tabs_get b o hb e
      refine .inr (.inl ⟨a2, rfl, #[], ps, rfl, ?_⟩)
      rw [Array.empty_append]; exact a3
    · exact .inl (x2 b o (ghost_ne e hb))
  · intro b o e
    by_cases hb : b ∈ tabs.map (·.2)
    · obtain ⟨_, _, ps, a3⟩ := tabs_get b o hb e
      exact ⟨_, a3⟩
    · exact ⟨o, x2 b o (ghost_ne e hb)⟩
-- LitH
theorem litH_ok {w : World} {lit : Str} {tk : Tok} {pre : List (Addr × Obj)} :
    RunH w 336 [.str lit tk] [] 10 60 pre (fun v tl => ∃ x dx it o t1, v = .ref x ∧ tl = [(it, o), (x, litO dx it lit (Str.ofString "") tk t1), (dx, dictOf [] 0)]) := by
  w_on
  intro A h₀ L m s R hAmb F N hdep hun hret
  obtain ⟨A₀, base, outer, env, p, loose, mean, mg, mb, B, X, T, hA, hf, hke, hrw⟩ := hAmb
  obtain ⟨hd, dp, fr, gd, un⟩ := A
  dsimp only at hA hdep hun
  subst hA
  revert X hrw
  k_fill
  intro X hrw
  clear hrw
  (k_dflt (refine' make_K (by k_asm) (by k_asm) ?kx ?k1 ?k2 ?k3 ?_; (case kx => k_in); (case k1 => k_is); (case k2 => k_is); (case k3 => k_is); k_whole))
  intro x dx h1 F1 N1 l1 l2
  replace l1 := allLt_of l1
  k_lt2 l2
  have l1x := tbn_up l2 l1
  (try simp only [AllLt, and_true] at l1 l1x)
  (k_dflt (refine' ks_code_super (binds := [(Str.ofString "self", .ref x), (Str.ofString "literal", .str lit tk), (Str.ofString "name", .str (Str.ofString "") 586)]) ?k1 ?k2 ?k3 ?k4 ?k5 ?kA ?kF ?kK ?k6 ?k7 ?k8 ?k9 ?kB ?_ ?c1 ?c2 ?c3 ?c4; (case kA => exact rfl); (case kF => first | exact rfl | assumption); (case kK => first | exact rfl | assumption); (case k1 => k_asm); (case k2 => k_asm); (case k3 => k_asm); (case k4 => k_asm); (case k5 => k_asm); (case k6 => k_is); (case k7 => k_is); (case k8 => k_room); (case k9 => first | exact BindsTo.of_eq rfl | exact binds_K (by k_in) rfl (by k_is) rfl rfl rfl); (case kB => exact locs rfl); (case c1 => decide); (case c2 => exact rfl); (case c3 => exact rfl); (case c4 => exact rfl); k_whole))
  intro g' L' h' FG' F' N' B' X' T' lt'
  (try dsimp only [List.reverse, List.reverseAux] at F')
  replace lt' := allLt_of lt'; (try simp only [AllLt, and_true] at lt')
  repeat' (first | ((first | (k_unfold; (try dsimp only)) | (k_end; wrow_close) | walk1 | (dsimp only; walk1) | (leave1; walk_say "STEP leave1"; try dsimp only) | fail "no step")))
  dsimp only [List.nil_append]
  (k_dflt (refine' code_def (binds := [(Str.ofString "self", .ref x), (Str.ofString "name", .str (Str.ofString "") 586)]) ?k1 ?k2 ?k3 ?k4 ?k5 ?kA ?kF ?kK ?k6 ?k7 ?k8 ?k9 ?kB ?_ ?c2 ?c3 ?c4 ?c5; (case kA => exact rfl); (case kF => first | exact rfl | assumption); (case kK => first | exact rfl | assumption); (case k1 => k_asm); (case k2 => k_asm); (case k3 => k_asm); (case k4 => k_asm); (case k5 => k_asm); (case k6 => k_is); (case k7 => k_is); (case k8 => k_room); (case k9 => first | exact BindsTo.of_eq rfl | exact binds_K (by k_in) rfl (by k_is) rfl rfl rfl); (case c5 => decide); (case kB => exact locs rfl); (case c2 => exact rfl); (case c3 => exact rfl); (case c4 => exact rfl); k_whole))
  intro g2 L2 h2 FG2 F2 N2 B2 X2 T2
  (try dsimp only [List.reverse, List.reverseAux] at F2)
  repeat' (first | ((first | (k_unfold; (try dsimp only)) | (k_end; wrow_close) | walk1 | (dsimp only; walk1) | (leave1; walk_say "STEP leave1"; try dsimp only) | fail "no step")))
  refine' hret _ [(?i, ?o), (x, ?ox), (dx, ?od)] _ _ ?kF ?kN ?kDesc ?kOrd ?kPost
  (case kF => assumption)
  (case kN => (refine' newsSub ?n ?s; (case n => assumption); (case s => walk_at "m sub")))
  (case kDesc => walk_at "m desc")
  (case kOrd => walk_at "m ord")
  (case kPost => exact ⟨x, dx, _, _, _, rfl, rfl⟩)

theorem oneH_ok {w : World} {a b : Value} {pre : List (Addr × Obj)} :
    RunH w 420 [a, b] [] 10 60 pre (fun v tl => ∃ x dx it mt o nm tk, nm = .str (Str.ofString "") tk ∧ v = .ref x ∧ tl = [(it, o), (mt, tupO [a, b] 0), (x, seqO 420 dx it mt nm), (dx, dictOf [] 0)]) := by
  w_on
  intro A h₀ L m s R hAmb F N hdep hun hret
  obtain ⟨A₀, base, outer, env, p, loose, mean, mg, mb, B, X, T, hA, hf, hke, hrw⟩ := hAmb
  obtain ⟨hd, dp, fr, gd, un⟩ := A
  dsimp only at hA hdep hun
  subst hA
  revert X hrw
  k_fill
  intro X hrw
  clear hrw
  (k_dflt (refine' make_K (by k_asm) (by k_asm) ?kx ?k1 ?k2 ?k3 ?_; (case kx => k_in); (case k1 => k_is); (case k2 => k_is); (case k3 => k_is); k_whole))
  intro x dx h1 F1 N1 l1 l2
  replace l1 := allLt_of l1
  k_lt2 l2
  have l1x := tbn_up l2 l1
  (try simp only [AllLt, and_true] at l1 l1x)
  (k_dflt (refine' m_code_super ?k1 ?k2 ?k3 ?k5 ?kA ?kF ?kK ?k6 ?k7 ?k8 ?k9 ?kB ?_ ?c1 ?c2 ?c3 ?c4; (case kA => exact rfl); (case kF => first | exact rfl | assumption); (case kK => first | exact rfl | assumption); (case k1 => k_asm); (case k2 => k_asm); (case k3 => k_asm); (case k5 => k_asm); (case k6 => k_is); (case k7 => k_is); (case k8 => k_room); (case k9 => exact binds_star0 F1 N1 (by rw [sizeLine_eq]; exact Nat.le_of_ble_eq_true rfl) (m_low T) (by rfl)); (case kB => (intro _ _ hP; first | (obtain ⟨_, rfl, _⟩ := hP; exact locs rfl) | (obtain ⟨_, _, rfl, _⟩ := hP; exact locs rfl) | (obtain ⟨_, _, _, rfl, _⟩ := hP; exact locs rfl))); (case c1 => decide); (case c2 => exact rfl); (case c3 => exact rfl); (case c4 => exact rfl); k_whole))
  intro binds news tk2 g' L' h2 hP FG' F' N' B' X' T' lt'
  obtain ⟨t, d, rfl, rfl, l3, l4, lo⟩ := hP
  replace lt' := allLt_of lt'; (try simp only [AllLt, and_true] at lt' l4)
  (try dsimp only [List.reverse, List.reverseAux] at F')
  have hd0 : (dictOf [] 0).IsDictOf (strKind PG w) [] := dict0_is
  repeat' (first | ((first | (k_unfold; (try dsimp only)) | (k_end; wrow_close) | walk1 | (dsimp only; walk1) | (leave1; walk_say "STEP leave1"; try dsimp only) | fail "no step")))
  dsimp only [List.nil_append, Option.getD]
  generalize hnv : Value.str (Str.ofString "") _ = nv
  obtain ⟨tk9, rfl⟩ : ∃ tk9, nv = Value.str (Str.ofString "") tk9 := ⟨_, hnv.symm⟩
  clear hnv
  (k_dflt (refine' code_def (binds := [(Str.ofString "self", .ref x), (Str.ofString "name", .str (Str.ofString "") tk9)]) ?k1 ?k2 ?k3 ?k4 ?k5 ?kA ?kF ?kK ?k6 ?k7 ?k8 ?k9 ?kB ?_ ?c2 ?c3 ?c4 ?c5; (case kA => exact rfl); (case kF => first | exact rfl | assumption); (case kK => first | exact rfl | assumption); (case k1 => k_asm); (case k2 => k_asm); (case k3 => k_asm); (case k4 => k_asm); (case k5 => k_asm); (case k6 => k_is); (case k7 => k_is); (case k8 => k_room); (case k9 => first | exact BindsTo.of_eq rfl | exact binds_K (by k_in) rfl (by k_is) rfl rfl rfl); (case c5 => decide); (case kB => exact locs rfl); (case c2 => exact rfl); (case c3 => exact rfl); (case c4 => exact rfl); k_whole))
  intro g2 L2 h2 FG2 F2 N2 B2 X2 T2
  (try dsimp only [List.reverse, List.reverseAux] at F2)
  repeat' (first | ((first | (k_unfold; (try dsimp only)) | (k_end; wrow_close) | walk1 | (dsimp only; walk1) | (leave1; walk_say "STEP leave1"; try dsimp only) | fail "no step")))
  refine' hret _ [(?i, ?o), (t, ?ot), (x, ?ox), (dx, ?od)] _ _ ?kF ?kN ?kDesc ?kOrd ?kPost
  (case kF => assumption)
  (case kN => (refine' newsSub ?n ?s; (case n => assumption); (case s => walk_at "m sub")))
  (case kDesc => walk_at "m desc")
  (case kOrd => walk_at "m ord")
  (case kPost => exact ⟨x, dx, _, t, _, _, _, rfl, rfl, rfl⟩)
-- Law
/-- a list of ints is at hand -/
def NumP (g : Heap) (L : Addr) (m : Str → Option Value) (led : List (Addr × Obj)) (s : Shared) (v : Value) (s' : Shared) : Prop :=
  ∃ D its n ns h' tk', v = .ref D ∧ s' = { s with heap := h', toks := tk' } ∧ Fr g L h' m ∧ News g L h' ((D, lstO its n) :: led) ∧ (∀ p ∈ led, p.1 < D) ∧ IntsAre its ns ∧ ns.length ≤ 100
def OneP (c : Str) (s' : Shared) (y : Value) (s3 : Shared) : Prop := ∃ t1 t2, y = .str c t1 ∧ s3 = { s' with toks := t2 }
theorem allBare0 {g : Array GenState} (h : g = #[]) : AllBare g := by
  exact AllBare.of_eq h
/-- a text of a and b is at hand -/
def TxtP (g : Heap) (L : Addr) (m : Str → Option Value) (led : List (Addr × Obj)) (s : Shared) (v : Value) (s' : Shared) : Prop :=
  ∃ tx t h' tk', v = .str tx t ∧ AB tx ∧ tx.length ≤ 5 ∧ s' = { s with heap := h', toks := tk' } ∧ Fr g L h' m ∧ News g L h' led
/-- an int is at hand -/
def IntP (g : Heap) (L : Addr) (m : Str → Option Value) (led : List (Addr × Obj)) (s : Shared) (v : Value) (s' : Shared) : Prop :=
  ∃ f t h' tk', v = .int f t ∧ s' = { s with heap := h', toks := tk' } ∧ Fr g L h' m ∧ News g L h' led
/-- the name is at hand -/
def NamP (g : Heap) (L : Addr) (m : Str → Option Value) (led : List (Addr × Obj)) (s : Shared) (f : Int) (v : Value) (s' : Shared) : Prop :=
  ∃ t h' tk', v = .str (if f.fmod 2 = 0 then Str.ofString "whole" else Str.ofString "") t ∧ s' = { s with heap := h', toks := tk' } ∧ Fr g L h' m ∧ News g L h' led
local macro_rules | `(tactic| kn_posts) => `(tactic| (refine kn_postH $(Lean.mkIdent `hT9) (raisesW_false ?_) ?_ ?_; (· wrow_none_raised); (· wrow_post)))
theorem law0 : PySem.Challenge.rw_vj0020_01.Holds := Mine.hd (by
  w_on
  k_go0
  rename_i w s₀ s₁ mg mb G Y fa o pm cd doc kV ho hcd hg0 XP V T0 Tb TE TW ns hs hlay0 hL1 hr1 hl2 adr1 adr2 ls vs adr3 hIsL ra w1 r0 hI hr0 hlen0 htrue hD h₁ X' T' K' F' N' l0
  have hlen : ns.length ≤ 63 := by omega
  clear hlay0 hL1 hr1 hl2 htrue hr0 w1 r0 ra hs hD ho hcd TE TW XP V Tb T0 Y hT8 hIsL
  have hge : AllBare s₁.gens := allBare0 hg0
  clear G
  generalize ghostOf s₁.heap [(67, 63)] = g₀ at *
  generalize s₁.heap.objs.size = L₀ at *
  dsimp only at F'
  replace F' := fr_map (m' := fun y => if y = Str.ofString "script" then some (Value.ref ls) else none) F' fun y => by
    by_cases e1 : y = Str.ofString "script"
    · subst e1; rfl
    · rw [if_neg e1]
      show List.lookup y [(Str.ofString "script", _)] = none
      simp only [List.lookup]
      rw [beq_eq_false_iff_ne.mpr e1]
  try dsimp only
  repeat' (first | ((fail_if_success (with_reducible show wpAny _ _ (eval (PySem.Expr.IfExp _ _ _ _) _) _ _ _)); (first | (k_unfold; (try dsimp only)) | (k_end; wrow_close) | walk1 | (dsimp only; walk1) | (leave1; walk_say "STEP leave1"; try dsimp only) | fail "no step")))
  refine wpAny_mono (Q := NumP g₀ L₀ (fun y => if y = Str.ofString "script" then some (Value.ref ls) else none) [(63, tabObj #[])] s₁) ?ev1 (fun v s2 h2 => ?_) (fun _ _ z => z)
  case ev1 =>
    repeat' (first | ((first | (k_unfold; (try dsimp only)) | (k_end; wrow_close) | walk1 | (dsimp only; walk1) | (leave1; walk_say "STEP leave1"; try dsimp only) | fail "no step")))
    all_goals try dsimp only
    · refine ⟨_, _, _, _, _, _, rfl, rfl, by assumption, by assumption, ?l1, by assumption, ?l2⟩
      · intro p hp
        rw [List.mem_singleton.mp hp]
        assumption
      · simp only [List.length_take, List.length_drop]
        omega
    · refine ⟨_, _, _, _, _, _, rfl, rfl, by assumption, by assumption, ?l3, .cons _ _ (.cons _ _ (.cons _ _ (.cons _ _ (.cons _ _ (.cons _ _ (.cons _ _ (.cons _ _ .nil))))))), by decide⟩
      · intro p hp
        rw [List.mem_singleton.mp hp]
        assumption
  obtain ⟨D, its, nD, ns1, h2, tk2, rfl, rfl, F2, N2, lD, hI1, hl1⟩ := h2
  repeat' (first | ((fail_if_success (with_reducible show wpAny _ _ (call (Value.ref 531) _ _) _ _ _)); (first | (k_unfold; (try dsimp only)) | (k_end; wrow_close) | walk1 | (dsimp only; walk1) | (leave1; walk_say "STEP leave1"; try dsimp only) | fail "no step")))
  (try clear F2); (try clear N2)
  refine wpAny_call ?_
  refine lex_ok 3 D its ns1 nD _ _ (.head _) hI1 hl1 _ _ _ _ _ _ ⟨_, _, _, _, _, _, _, _, _, by k_asm, by k_asm, by k_asm, rfl, rfl, rfl, rfl⟩ rfl (by k_asm) (by k_asm) (by (try simp only [depth_mark, depth_under_make, depth_under_kw, depth_in1, depth_deeper, depth_caller]); omega) (by (try simp only [units_in1, units_deeper, Around.mark_units, units_caller]); omega) fun v tl h3 tk3 F3 N3 dc3 lt3 hp3 => ?_
  obtain ⟨t, r, k, x, d, o, mt, nm, kids, rits, rn, Lr, Gr, rfl, rfl, pm, wf, bare, lits, htk, nr, hIr, hnr⟩ := hp3
  try dsimp only
  repeat' (first | ((fail_if_success (with_reducible show wpAny _ _ (eval (PySem.Expr.IfExp _ _ _ _) _) _ _ _)); (first | (k_unfold; (try dsimp only)) | (k_end; wrow_close) | walk1 | (dsimp only; walk1) | (leave1; walk_say "STEP leave1"; try dsimp only) | fail "no step")))
  rename_i h4 F4 N4
  obtain ⟨R, hR⟩ : ∃ R, R = (EF.cons k x d o mt nm kids .nil).dicts ++ (EF.cons k x d o mt nm kids .nil).stat := ⟨_, rfl⟩
  have hD63 : @LT.lt Nat _ 63 D := lD _ (.head _)
  have S4 : Sep [(D, lstO its nD), (63, tabObj #[])] := sep_push (by unfold Sep; simp) lD
  obtain ⟨sub5, S5⟩ : (∀ q ∈ (r, lstO rits rn) :: (63, tabObj #[]) :: R, q ∈ (t, tupO [.ref x, .ref r] 0) :: Lr ++ [(D, lstO its nD), (63, tabObj #[])]) ∧ Sep ((r, lstO rits rn) :: (63, tabObj #[]) :: R) := by
    refine led_cut (extra := (t, tupO [.ref x, .ref r] 0) :: (D, lstO its nD) :: Gr) (sep_tl S4 dc3 lt3) ?_
    have pd := led_perm (EF.cons k x d o mt nm kids .nil)
    rw [← hR] at pd
    classical
    refine List.perm_iff_count.mpr fun q => ?_
    have c1 := List.perm_iff_count.mp pm q
    have c2 := List.perm_iff_count.mp pd q
    simp only [List.count_append, List.count_cons, List.count_nil, List.cons_append, List.nil_append] at c1 c2 ⊢
    omega
  have N5 := newsSub N4 sub5
  (try clear N4); (try clear F3); (try clear N3); (try clear sub5); (try clear dc3); (try clear lt3)
  refine wpAny_mono (Q := TxtP g₀ L₀ (fun y => if y = Str.ofString "rest" then some (Value.ref r) else if y = Str.ofString "inner" then some (Value.ref x) else if y = Str.ofString "numbers" then some (Value.ref D) else if y = Str.ofString "script" then some (Value.ref ls) else none) ((r, lstO rits rn) :: (63, tabObj #[]) :: R) s₁) ?ev2 (fun v s2 h2 => ?_) (fun _ _ z => z)
  case ev2 =>
    repeat' (first | ((fail_if_success (with_reducible show wpAny _ _ (eval (PySem.Expr.ListComp _ _ _ _) _) _ _ _)); (first | (k_unfold; (try dsimp only)) | (k_end; wrow_close) | walk1 | (dsimp only; walk1) | (leave1; walk_say "STEP leave1"; try dsimp only) | fail "no step")))
    all_goals try dsimp only
    · exact ⟨_, _, _, _, rfl, by unfold AB; decide, by decide, rfl, by assumption, newsSub (by assumption) fun q hq => .tail _ hq⟩
    refine m_compLX (h₀ := g₀) (L := L₀) (m := (fun y => if y = Str.ofString "rest" then some (Value.ref r) else if y = Str.ofString "inner" then some (Value.ref x) else if y = Str.ofString "numbers" then some (Value.ref D) else if y = Str.ofString "script" then some (Value.ref ls) else none)) (cl := []) (P := fun i y => ∃ (c : Str) (tk : Tok), (c = Str.ofString "a" ∨ c = Str.ofString "b") ∧ y = .str c tk) rfl (closureFor_none (by decide)) (by decide) rfl (by decide) rfl ?hit
    case hit =>
      repeat' (first | ((fail_if_success (with_reducible show wpAny _ _ (pyIter _) _ _ _)); (first | (k_unfold; (try dsimp only)) | (k_end; wrow_close) | walk1 | (dsimp only; walk1) | (leave1; walk_say "STEP leave1"; try dsimp only) | fail "no step")))
      try dsimp only
      rename_i Ds ws h9 F9 N9 hIw hw1 hw2 lw
      refine m_pyIter F9 N9 (.head _) fun I0 h10 F10 N10 lI10 => ?_
      try dsimp only
      have hwl : ws.length ≤ 5 := by rw [hIw.length, hw1]; omega
      refine ⟨Ds, 0, ws, _, I0, itO Ds 0, by rw [sizeLine_eq]; omega, rfl, ⟨rfl, rfl⟩, F10, N10, lI10, .head _, ?step, fun D1 h11 tk11 ys q11 F11 N11 l11 hyl hys => ?_⟩
      case step =>
        intro s' j v C oC D2 oD I2 oI2 m1 E' hv Fs Ns rC hx _ _ _
        obtain ⟨c, tc, rfl⟩ := ints_val hIw hv
        repeat' (first | ((fail_if_success (with_reducible show wpAny _ _ (subscriptTail _ _ _ _) _ _ _)); (first | (k_unfold; (try dsimp only)) | (k_end; wrow_close) | walk1 | (dsimp only; walk1) | (leave1; walk_say "STEP leave1"; try dsimp only) | fail "no step")))
        have hfm : c.fmod 2 = c % 2 := Int.fmod_eq_emod_of_nonneg c (by decide)
        rcases (by omega : c % 2 = 0 ∨ c % 2 = 1) with hc | hc
        · rw [hfm, hc]
          refine wpAny_mono (Q := OneP (Str.ofString "a") s') ?_ (fun y s3 h3 => ?_) fun _ _ z => z
          · repeat' (first | ((fail_if_success (with_reducible show wpAny _ _ (OneP _ _ _ _) _ _ _)); (first | (k_unfold; (try dsimp only)) | (k_end; wrow_close) | walk1 | (dsimp only; walk1) | (leave1; walk_say "STEP leave1"; try dsimp only) | fail "no step")))
            exact ⟨_, _, rfl, rfl⟩
          · obtain ⟨u1, u2, rfl, rfl⟩ := h3
            exact ⟨_, _, rfl, Fs, Ns, _, _, .inl rfl, rfl⟩
        · rw [hfm, hc]
          refine wpAny_mono (Q := OneP (Str.ofString "b") s') ?_ (fun y s3 h3 => ?_) fun _ _ z => z
          · repeat' (first | ((fail_if_success (with_reducible show wpAny _ _ (OneP _ _ _ _) _ _ _)); (first | (k_unfold; (try dsimp only)) | (k_end; wrow_close) | walk1 | (dsimp only; walk1) | (leave1; walk_say "STEP leave1"; try dsimp only) | fail "no step")))
            exact ⟨_, _, rfl, rfl⟩
          · obtain ⟨u1, u2, rfl, rfl⟩ := h3
            exact ⟨_, _, rfl, Fs, Ns, _, _, .inr rfl, rfl⟩
      obtain ⟨ts, rfl, hts⟩ := str_vals ys hys
      try dsimp only
      repeat' (first | ((fail_if_success (with_reducible show wpAny _ _ (call (Value.builtin "str.join") _ _) _ _ _)); (first | (k_unfold; (try dsimp only)) | (k_end; wrow_close) | walk1 | (dsimp only; walk1) | (leave1; walk_say "STEP leave1"; try dsimp only) | fail "no step")))
      have hl5 : ts.length ≤ 5 := by simp only [strValues, List.length_map] at hyl; omega
      have hab := join_ab (ts.map (·.1)) (by intro q hq; obtain ⟨p, hp, rfl⟩ := List.mem_map.mp hq; exact hts p hp)
      have hsum := sum_ab (ts.map (·.1)) (by intro q hq; obtain ⟨p, hp, rfl⟩ := List.mem_map.mp hq; exact hts p hp)
      refine SC.join (l := ts) ⟨_, (N11 _ (.head _)).1, rfl, _, rfl⟩ rfl (joinOk_of ?_) fun t' k' => ?_
      · rw [hsum, List.length_map]
        have e2 : (Str.ofString "").length = 0 := by decide
        rw [e2]; omega
      rw [show Txt.join (Str.ofString "") (ts.map (·.1)) = Str.join (Str.ofString "") (ts.map (·.1)) from StrLaws.glued_eq_join _ _]
      exact ⟨_, _, _, _, rfl, hab.1, by rw [hab.2, List.length_map]; exact hl5, rfl, F11, newsSub N11 fun q hq => .tail _ (.tail _ (.tail _ hq))⟩
  obtain ⟨tx, ttx, h6, tk6, rfl, hab, htx, rfl, F6, N6⟩ := h2
  repeat' (first | ((fail_if_success (with_reducible show wpAny _ _ (eval (PySem.Expr.IfExp _ _ _ _) _) _ _ _)); (first | (k_unfold; (try dsimp only)) | (k_end; wrow_close) | walk1 | (dsimp only; walk1) | (leave1; walk_say "STEP leave1"; try dsimp only) | fail "no step")))
  rename_i h7 F7 N7
  refine wpAny_mono (Q := IntP g₀ L₀ (fun y => if y = Str.ofString "text" then some (Value.str tx ttx) else (fun y => if y = Str.ofString "rest" then some (Value.ref r) else if y = Str.ofString "inner" then some (Value.ref x) else if y = Str.ofString "numbers" then some (Value.ref D) else if y = Str.ofString "script" then some (Value.ref ls) else none) y) ((r, lstO rits rn) :: (63, tabObj #[]) :: R) s₁) ?ev3 (fun v s2 h2 => ?_) (fun _ _ z => z)
  case ev3 =>
    repeat' (first | ((fail_if_success (with_reducible show wpAny _ _ (compareOp _ _ _) _ _ _)); (first | (k_unfold; (try dsimp only)) | (k_end; wrow_close) | walk1 | (dsimp only; walk1) | (leave1; walk_say "STEP leave1"; try dsimp only) | fail "no step")))
    rename_i l9 h9 F9 N9 ol9
    refine isl_ne_nil (Fr.lst F9 lifted) ⟨_, (N9 _ (.head _)).1, rfl, _, rfl⟩ (by have hcL9 := cLine_is; ((try simp only [units_in1, units_deeper, Around.mark_units, units_caller]); omega)) ?_
    cases hI with
    | nil =>
      try dsimp only [List.isEmpty, Bool.not_true, Bool.not_false]
      repeat' (first | ((fail_if_success (with_reducible show wpAny _ _ (IntP _ _ _ _ _ _ _) _ _ _)); (first | (k_unfold; (try dsimp only)) | (k_end; wrow_close) | walk1 | (dsimp only; walk1) | (leave1; walk_say "STEP leave1"; try dsimp only) | fail "no step")))
      all_goals try dsimp only
      exact ⟨_, _, _, _, rfl, rfl, by assumption, newsSub (by assumption) fun q hq => .tail _ hq⟩
    | cons c0 tc0 hI' =>
      try dsimp only [List.isEmpty, Bool.not_true, Bool.not_false]
      repeat' (first | ((fail_if_success (with_reducible show wpAny _ _ (subscriptTail _ _ _ _) _ _ _)); (first | (k_unfold; (try dsimp only)) | (k_end; wrow_close) | walk1 | (dsimp only; walk1) | (leave1; walk_say "STEP leave1"; try dsimp only) | fail "no step")))
      refine isl_item (i := 0) (Fr.lst F9 lifted) (by decide) rfl ?_ (by with_unfolding_all rfl)
      exact ⟨_, _, _, _, rfl, rfl, F9, newsSub N9 fun q hq => .tail _ hq⟩
  obtain ⟨fi, tfi, h8, tk8, rfl, rfl, F8, N8⟩ := h2
  clear F7 N7
  repeat' (first | ((fail_if_success (with_reducible show wpAny _ _ (eval (PySem.Expr.IfExp _ _ _ _) _) _ _ _)); (first | (k_unfold; (try dsimp only)) | (k_end; wrow_close) | walk1 | (dsimp only; walk1) | (leave1; walk_say "STEP leave1"; try dsimp only) | fail "no step")))
  rename_i h9 F9 N9
  replace F9 := fr_map (m' := fun y => if y = Str.ofString "first" then some (Value.int fi tfi) else if y = Str.ofString "text" then some (Value.str tx ttx) else if y = Str.ofString "rest" then some (Value.ref r) else if y = Str.ofString "inner" then some (Value.ref x) else if y = Str.ofString "numbers" then some (Value.ref D) else if y = Str.ofString "script" then some (Value.ref ls) else none) F9 fun _ => rfl
  refine wpAny_mono (Q := NamP g₀ L₀ (fun y => if y = Str.ofString "first" then some (Value.int fi tfi) else if y = Str.ofString "text" then some (Value.str tx ttx) else if y = Str.ofString "rest" then some (Value.ref r) else if y = Str.ofString "inner" then some (Value.ref x) else if y = Str.ofString "numbers" then some (Value.ref D) else if y = Str.ofString "script" then some (Value.ref ls) else none) ((r, lstO rits rn) :: (63, tabObj #[]) :: R) s₁ fi) ?ev4 (fun v s2 h2 => ?_) (fun _ _ z => z)
  case ev4 =>
    repeat' (first | ((fail_if_success (with_reducible show wpAny _ _ (NamP _ _ _ _ _ _ _ _) _ _ _)); (first | (k_unfold; (try dsimp only)) | (k_end; wrow_close) | walk1 | (dsimp only; walk1) | (leave1; walk_say "STEP leave1"; try dsimp only) | fail "no step")))
    · rename_i hf0
      exact ⟨_, _, _, by rw [if_pos hf0], rfl, F9, N9⟩
    · rename_i hf0
      exact ⟨_, _, _, by rw [if_neg hf0], rfl, F9, N9⟩
  obtain ⟨tnm, h10, tk10, rfl, rfl, F10, N10⟩ := h2
  clear F9 N9
  try dsimp only
  repeat' (first | ((fail_if_success (with_reducible show wpAny _ _ (call (Value.ref 394) _ _) _ _ _)); (first | (k_unfold; (try dsimp only)) | (k_end; wrow_close) | walk1 | (dsimp only; walk1) | (leave1; walk_say "STEP leave1"; try dsimp only) | fail "no step")))
  obtain ⟨nam, hnam, hnw, hne⟩ : ∃ z, z = (if fi.fmod 2 = 0 then Str.ofString "whole" else Str.ofString "") ∧ (fi.fmod 2 = 0 → z = Str.ofString "whole") ∧ (fi.fmod 2 ≠ 0 → z = Str.ofString "") := ⟨_, rfl, fun h => if_pos h, fun h => if_neg h⟩
  rw [← hnam]
  clear hnam
  show wpAny _ _ (call (.ref 394) [.ref x] [(Str.ofString "name", .str nam tnm)]) _ _ _
  refine wpAny_call ?_
  refine seq1_ok _ _ _ _ _ _ ⟨_, _, _, _, _, _, _, _, _, by k_asm, by k_asm, by k_asm, rfl, rfl, rfl, rfl⟩ rfl (by k_asm) (by k_asm) (by (try simp only [depth_mark, depth_under_make, depth_under_kw, depth_in1, depth_deeper, depth_caller]); omega) (by (try simp only [units_in1, units_deeper, Around.mark_units, units_caller]); omega) fun v tl h11 tk11 F11 N11 dc11 lt11 hp11 => ?_
  obtain ⟨x1, dx1, it1, mt1, oi1, rfl, rfl⟩ := hp11
  try dsimp only
  simp only [List.cons_append, List.nil_append] at N11
  clear F10
  repeat' (first | ((fail_if_success (with_reducible show wpAny _ _ (call (Value.ref 259) _ _) _ _ _)); (first | (k_unfold; (try dsimp only)) | (k_end; wrow_close) | walk1 | (dsimp only; walk1) | (leave1; walk_say "STEP leave1"; try dsimp only) | fail "no step")))
  rename_i h12 F12 N12
  obtain ⟨o1, ho1⟩ : ∃ z, z = seqO 394 dx1 it1 mt1 (.str nam tnm) := ⟨_, rfl⟩
  obtain ⟨K1, hK1⟩ : ∃ z, z = EF.cons k x d o mt nm kids .nil := ⟨_, rfl⟩
  have hroots : K1.roots = [.ref x] := by rw [hK1]; rfl
  rw [← ho1] at N12
  rw [← hK1] at hR wf bare lits
  have hnam : nam = Str.ofString "" ∨ nam = Str.ofString "whole" := by
    by_cases hf : fi.fmod 2 = 0
    · exact .inr (hnw hf)
    · exact .inl (hne hf)
  have hF0 : (EF.cons .seq x1 dx1 o1 mt1 nam K1 .nil).wf := ⟨⟨it1, tnm, ho1⟩, by rw [hK1]; exact .inl rfl, wf, trivial⟩
  have hN0 : (EF.cons .seq x1 dx1 o1 mt1 nam K1 .nil).nams := ⟨hnam, nams_of_bare _ bare, trivial⟩
  have hL0 : (EF.cons .seq x1 dx1 o1 mt1 nam K1 .nil).lits := ⟨trivial, lits, trivial⟩
  have hH0 : (EF.cons .seq x1 dx1 o1 mt1 nam K1 .nil).ht ≤ 5 := by
    rw [hK1]; simp only [EF.ht]; omega
  have hmc := mc_all (w := w) _ 5 hF0 hL0 hH0 _ _ _ _ _ _ _ .head
  have hsz : (EF.cons .seq x1 dx1 o1 mt1 nam K1 .nil).size ≤ 1000 := by
    have := size_le 5 _ hF0 hH0
    simp only [EF.len] at this
    omega
  obtain ⟨M0, hM0⟩ : ∃ z, z = (EF.cons .seq x1 dx1 o1 mt1 nam K1 .nil).dicts := ⟨_, rfl⟩
  obtain ⟨st0, hst0⟩ : ∃ z, z = (EF.cons .seq x1 dx1 o1 mt1 nam K1 .nil).stat := ⟨_, rfl⟩
  have S12 : Sep ((it1, oi1) :: (mt1, tupO [.ref x] 0) :: (x1, o1) :: (dx1, dictOf [] 0) :: (r, lstO rits rn) :: (63, tabObj #[]) :: R) := by
    have := sep_tl (tl := [(it1, oi1), (mt1, tupO [.ref x] 0), (x1, o1), (dx1, dictOf [] 0)]) S5 (by rw [ho1]; exact dc11) (by rw [ho1]; exact lt11)
    exact this
  obtain ⟨sub13, S13⟩ : (∀ q ∈ M0 ++ (st0 ++ [(r, lstO rits rn), (63, tabObj #[])]), q ∈ (it1, oi1) :: (mt1, tupO [.ref x] 0) :: (x1, o1) :: (dx1, dictOf [] 0) :: (r, lstO rits rn) :: (63, tabObj #[]) :: R) ∧ Sep (M0 ++ (st0 ++ [(r, lstO rits rn), (63, tabObj #[])])) := by
    refine led_cut (extra := [(it1, oi1)]) S12 ?_
    rw [hM0, hst0, hR]
    simp only [EF.dicts, EF.stat, hroots, List.append_nil]
    classical
    refine List.perm_iff_count.mpr fun q => ?_
    simp only [List.count_append, List.count_cons, List.count_nil, List.cons_append, List.nil_append]
    omega
  have N13 := newsSub N12 sub13
  refine wpAny_call ?_
  refine match_ok (b := 0) (Y := fun y => y ∈ (EF.cons .seq x1 dx1 o1 mt1 nam K1 .nil).xs) (nf := (EF.cons .seq x1 dx1 o1 mt1 nam K1 .nil).size) (M := M0) (loc := st0 ++ [(r, lstO rits rn), (63, tabObj #[])]) (H := []) hmc (fun c _ => hM0 ▸ muts_fresh _) ?hys htx hsz (all_xs _ hN0 fun y hy => hy) hF0 (fun q hq => List.mem_append_left _ (hst0 ▸ hq)) (fun q hq => by cases hq) ⟨[], 0, ?hd1, rfl, rfl⟩ _ _ _ _ _ _ _ _ _ _ _ _ _ _ K' X' T' rfl rfl rfl (.inl rfl) (fun _ => rfl) F12 N13 S13 (by (try simp only [depth_mark, depth_under_make, depth_under_kw, depth_in1, depth_deeper, depth_caller]); omega) (by (try simp only [units_in1, units_deeper, Around.mark_units, units_caller]); omega) ?ok ?err
  case hys =>
    intro y hy
    obtain ⟨k', d', mt', nm', o', p1, p2, p3⟩ := xs_is _ hF0 y hy
    exact ⟨k', d', mt', nm', o', p1, List.mem_append_left _ (hst0 ▸ p2), List.mem_map.mpr ⟨_, List.mem_append_left _ (hM0 ▸ p3), rfl⟩⟩
  case hd1 => exact List.mem_append_left _ (hM0 ▸ .head _)
  case err =>
    intro e ed t' led B h13 tk13 hB hBL hlB fly F14 S14 hp14
    dsimp only
    obtain ⟨c, led0, hmp, _, hrn⟩ := hp14
    obtain ⟨oc', C', oe', nf', M', N', rfl, mst, _, _, _, _⟩ := hmp
    refine caught_X K' F14 hB hBL hlB fly X' (topRead_of T') (by kernel_rfl) fun h15 tb tk15 F15 hN15 => ?_
    try dsimp only
    obtain ⟨eo, heo⟩ : ∃ z, z = errO ed t' tb := ⟨_, rfl⟩
    rw [← heo] at hN15
    have S15 : Sep ((e, eo) :: (M' ++ (st0 ++ [(ed, oe'), (63, tabObj #[])]))) := by
      refine sep_set (pre := []) (o := errO ed t' .none) (led_cut (extra := (c, oc') :: (t', tupO [.str tx ttx] 0) :: (r, lstO rits rn) :: N') S14 ?_).2
      classical
      refine List.perm_iff_count.mpr fun q => ?_
      simp only [List.count_append, List.count_cons, List.count_nil, List.cons_append, List.nil_append]
      omega
    have N15 : News g₀ L₀ h15 ((e, eo) :: (M' ++ (st0 ++ [(ed, oe'), (63, tabObj #[])]))) := by
      refine hN15 _ fun q hq => ?_
      rcases List.mem_cons.mp hq with rfl | hq
      · exact .inl rfl
      · refine .inr ⟨?_, (sep_off (pre := []) S15).2 q hq⟩
        simp only [List.mem_append, List.mem_cons, List.not_mem_nil, or_false] at hq ⊢
        rcases hq with h | h | h | h <;> simp [h]
    clear hN15 fly hlB hB hBL S14
    repeat' (first | ((fail_if_success (with_reducible show wpAny _ _ (call (Value.ref 336) _ _) _ _ _)); (first | (k_unfold; (try dsimp only)) | (k_end; wrow_close) | walk1 | (dsimp only; walk1) | (leave1; walk_say "STEP leave1"; try dsimp only) | fail "no step")))
    refine wpAny_call ?_
    refine litH_ok _ _ _ _ _ _ ⟨_, _, _, _, _, _, _, _, _, by k_asm, by k_asm, by k_asm, rfl, rfl, rfl, rfl⟩ (by k_asm) (by k_asm) (by (try simp only [depth_mark, depth_under_make, depth_under_kw, depth_in1, depth_deeper, depth_caller]); omega) (by (try simp only [units_in1, units_deeper, Around.mark_units, units_caller]); omega) fun v tl h16 tk16 F16 N16 dc16 lt16 hp16 => ?_
    obtain ⟨xo, dq, it2, o2, t2o, rfl, rfl⟩ := hp16
    have S16 := sep_tl S15 dc16 lt16
    simp only [List.cons_append, List.nil_append] at N16 S16
    try dsimp only
    repeat' (first | ((fail_if_success (with_reducible show wpAny _ _ (call (Value.ref 420) _ _) _ _ _)); (first | (k_unfold; (try dsimp only)) | (k_end; wrow_close) | walk1 | (dsimp only; walk1) | (leave1; walk_say "STEP leave1"; try dsimp only) | fail "no step")))
    rename_i h17 F17 N17
    refine wpAny_call ?_
    refine oneH_ok _ _ _ _ _ _ ⟨_, _, _, _, _, _, _, _, _, by k_asm, by k_asm, by k_asm, rfl, rfl, rfl, rfl⟩ (by k_asm) (by k_asm) (by (try simp only [depth_mark, depth_under_make, depth_under_kw, depth_in1, depth_deeper, depth_caller]); omega) (by (try simp only [units_in1, units_deeper, Around.mark_units, units_caller]); omega) fun v tl h18 tk18 F18 N18 dc18 lt18 hp18 => ?_
    obtain ⟨xb, db, it3, mb3, o3, nmv, t3o, rfl, rfl, rfl⟩ := hp18
    have S18 := sep_tl S16 dc18 lt18
    simp only [List.cons_append, List.nil_append] at N18 S18
    try dsimp only
    repeat' (first | ((fail_if_success (with_reducible show wpAny _ _ (call (Value.ref 259) _ _) _ _ _)); (first | (k_unfold; (try dsimp only)) | (k_end; wrow_close) | walk1 | (dsimp only; walk1) | (leave1; walk_say "STEP leave1"; try dsimp only) | fail "no step")))
    obtain ⟨ob, hob⟩ : ∃ z, z = seqO 420 db it3 mb3 (Value.str (Str.ofString "") t3o) := ⟨_, rfl⟩
    obtain ⟨oo, hoo⟩ : ∃ z, z = litO dq it2 (Str.ofString "") (Str.ofString "") tk15 t2o := ⟨_, rfl⟩
    rw [← hob, ← hoo] at N18 S18
    have hF2 : (bothF xb db ob mb3 x1 dx1 o1 mt1 nam K1 xo dq oo).wf := ⟨⟨it3, t3o, hob⟩, rfl, ⟨hF0.1, hF0.2.1, hF0.2.2.1, ⟨⟨it2, tk15, t2o, hoo⟩, rfl, trivial, trivial⟩⟩, trivial⟩
    have hN2 : (bothF xb db ob mb3 x1 dx1 o1 mt1 nam K1 xo dq oo).nams := ⟨.inl rfl, ⟨hnam, hN0.2.1, ⟨.inl rfl, trivial, trivial⟩⟩, trivial⟩
    have hL2 : (bothF xb db ob mb3 x1 dx1 o1 mt1 nam K1 xo dq oo).lits := ⟨trivial, ⟨trivial, hL0.2.1, ⟨.inr (.inr (.inr rfl)), trivial, trivial⟩⟩, trivial⟩
    have hH2 : (bothF xb db ob mb3 x1 dx1 o1 mt1 nam K1 xo dq oo).ht ≤ 6 := by
      simp only [EF.ht] at hH0 ⊢; omega
    have hsz2 : (bothF xb db ob mb3 x1 dx1 o1 mt1 nam K1 xo dq oo).size ≤ 1000 := by
      have := size_le 6 _ hF2 hH2
      simp only [EF.len] at this
      omega
    have mc2 := mc_all (w := w) _ 6 hF2 hL2 hH2 _ _ _ _ _ _ _ .head
    obtain ⟨M2, pm2, idl2, dat2⟩ := muts_two mst.muts xb db ob mb3 xo dq oo
    have run2 := both_run (xb := xb) (db := db) (ob := ob) (mb := mb3) (dx1 := dx1) (o1 := o1) (mt1 := mt1) (xo := xo) (dq := dq) (oo := oo) hrn
    obtain ⟨st2, hst2⟩ : ∃ z, z = (bothF xb db ob mb3 x1 dx1 o1 mt1 nam K1 xo dq oo).stat := ⟨_, rfl⟩
    obtain ⟨sub19, S19⟩ : (∀ q ∈ M2 ++ (st2 ++ [(e, eo), (ed, oe'), (63, tabObj #[])]), q ∈ (it3, o3) :: (mb3, tupO [.ref x1, .ref xo] 0) :: (xb, ob) :: (db, dictOf [] 0) :: (it2, o2) :: (xo, oo) :: (dq, dictOf [] 0) :: (e, eo) :: (M' ++ (st0 ++ [(ed, oe'), (63, tabObj #[])]))) ∧ Sep (M2 ++ (st2 ++ [(e, eo), (ed, oe'), (63, tabObj #[])])) := by
      refine led_cut (extra := [(it3, o3), (it2, o2)]) S18 ?_
      rw [hst2, hst0]
      have er : (EF.cons .seq x1 dx1 o1 mt1 nam K1 (.cons (.lit (Str.ofString "")) xo dq oo xo (Str.ofString "") .nil .nil)).roots = [.ref x1, .ref xo] := rfl
      simp only [EF.stat, er, List.append_nil]
      classical
      refine List.perm_iff_count.mpr fun q => ?_
      have c1 := List.perm_iff_count.mp pm2 q
      simp only [List.count_append, List.count_cons, List.count_nil, List.cons_append, List.nil_append] at c1 ⊢
      omega
    have N19 := newsSub N18 sub19
    have hed : eo.data = .fields #[.ref t', tb, .none, .none, .bool false, .none] := by rw [heo]
    refine wpAny_call ?_
    refine match_ok (b := 1) (Y := fun y => y ∈ (bothF xb db ob mb3 x1 dx1 o1 mt1 nam K1 xo dq oo).xs) (nf := (bothF xb db ob mb3 x1 dx1 o1 mt1 nam K1 xo dq oo).size) (M := M2) (loc := st2 ++ [(e, eo), (ed, oe'), (63, tabObj #[])]) (H := [(e, eo)]) mc2 idl2 ?hys2 htx hsz2 (all_xs _ hN2 fun y hy => hy) hF2 (fun q hq => List.mem_append_left _ (hst2 ▸ hq)) ?hH2 ⟨[], 0, ?hd2, rfl, rfl⟩ _ _ _ _ _ _ _ _ _ _ _ _ _ _ K' X' T' rfl rfl rfl (.inr ⟨e, eo, _, rfl, .head _, hed, rfl⟩) (fun z => nomatch run2.symm.trans z) F18 N19 S19 (by (try simp only [depth_mark, depth_under_make, depth_under_kw, depth_in1, depth_deeper, depth_caller]); omega) (by (try simp only [units_in1, units_deeper, Around.mark_units, units_caller]); omega) ?ok2 ?err2
    case hys2 =>
      intro y hy
      obtain ⟨k', d', mt', nm', o', p1, p2, od, p3⟩ := xs_dat _ hF2 (dat2 (M2 ++ (st2 ++ [(e, eo), (ed, oe'), (63, tabObj #[])])) fun q hq => List.mem_append_left _ hq) y hy
      exact ⟨k', d', mt', nm', o', p1, List.mem_append_left _ (hst2 ▸ p2), List.mem_map.mpr ⟨_, p3, rfl⟩⟩
    case hH2 =>
      intro q hq
      rw [List.mem_singleton.mp hq]
      exact List.mem_append_right _ (.head _)
    case hd2 => exact List.mem_append_left _ (pm2.mem_iff.mpr (.head _))
    case err2 =>
      intro _ _ _ _ _ _ _ _ _ _ _ _ _ hp
      obtain ⟨_, _, _, _, z⟩ := hp
      exact nomatch run2.symm.trans z
    case ok2 =>
      intro v led2 h20 tk20 F20 N20 S20 hp20
      obtain ⟨c2, ed2, e2, t2, led3, hmp2, _, _⟩ := hp20
      obtain ⟨oc2, C2, oe2, nf2, M3, N3, rfl, _, _, _, res2, _⟩ := hmp2
      rw [run2] at res2
      obtain ⟨_, hno2⟩ := res2
      rw [List.append_nil] at hno2
      cases hno2 with
      | @cons a2 d2 cl2 _ u1 u2 u3 _ _ nn2 _ chs2 _ _ _ hm2 hd2 hcl2 hc2 hr2 =>
      cases hr2
      cases hc2 with
      | @cons a3 d3 cl3 _ u4 u5 u6 _ _ nn3 _ chs3 _ _ _ hm3 hd3 hcl3 hc3 hr3 =>
      cases hr3
      obtain ⟨eP, eV, ⟨q1, q2, q3, y1, y2, y3, y4, y5, rfl⟩, hp1, hp2, _⟩ := mst.err
      have N21 : News g₀ L₀ h20 ((e, eo) :: (ed, dictOf [⟨q1, .str (Str.ofString "text") y1, .str tx y2⟩, ⟨q2, .str (Str.ofString "pos") y3, .int eP y4⟩, ⟨q3, .str (Str.ofString "expr") y5, eV⟩] 3) :: (63, tabObj #[]) :: N3) := newsSub N20 fun q hq => by
        simp only [List.mem_append, List.mem_cons, List.not_mem_nil, or_false] at hq ⊢
        rcases hq with h | h | h | h <;> simp [h]
      rw [heo] at N21
      have u3N : ∀ q ∈ N3, q ∈ (e, errO ed t' tb) :: (ed, dictOf [⟨q1, .str (Str.ofString "text") y1, .str tx y2⟩, ⟨q2, .str (Str.ofString "pos") y3, .int eP y4⟩, ⟨q3, .str (Str.ofString "expr") y5, eV⟩] 3) :: (63, tabObj #[]) :: N3 := fun q hq => .tail _ (.tail _ (.tail _ hq))
      clear N20 S20 N19 S19 N18 S18 F18 S16 sub19 S15 mc2 idl2 dat2
      try dsimp only
      repeat' (first | ((fail_if_success (with_reducible show wpAny _ _ (getAttr (Value.ref _) _ _) _ _ _)); (first | (k_unfold; (try dsimp only)) | (k_end; wrow_close) | walk1 | (dsimp only; walk1) | (leave1; walk_say "STEP leave1"; try dsimp only) | fail "no step")))
      rename_i h22 F22 N22
      refine err_get F22 X' N22 (.head _) (.tail _ (.head _)) err_text rfl ?_
      repeat' (first | ((fail_if_success (with_reducible show wpAny _ _ (compareOp _ _ _) _ _ _)); (first | (k_unfold; (try dsimp only)) | (k_end; wrow_close) | walk1 | (dsimp only; walk1) | (leave1; walk_say "STEP leave1"; try dsimp only) | fail "no step")))
      refine str_eq_same rfl ?_
      repeat' (first | ((fail_if_success (with_reducible show wpAny _ _ (getAttr (Value.ref _) _ _) _ _ _)); (first | (k_unfold; (try dsimp only)) | (k_end; wrow_close) | walk1 | (dsimp only; walk1) | (leave1; walk_say "STEP leave1"; try dsimp only) | fail "no step")))
      refine err_get F22 X' N22 (.head _) (.tail _ (.head _)) err_pos rfl ?_
      repeat' (first | ((fail_if_success (with_reducible show wpAny _ _ (compareOp _ _ _) _ _ _)); (first | (k_unfold; (try dsimp only)) | (k_end; wrow_close) | walk1 | (dsimp only; walk1) | (leave1; walk_say "STEP leave1"; try dsimp only) | fail "no step")))
      refine P.le_int ?_
      rw [decide_eq_true (show (-1 : Int) ≤ eP by omega)]
      repeat' (first | ((fail_if_success (with_reducible show wpAny _ _ (call (Value.builtin "len") _ _) _ _ _)); (first | (k_unfold; (try dsimp only)) | (k_end; wrow_close) | walk1 | (dsimp only; walk1) | (leave1; walk_say "STEP leave1"; try dsimp only) | fail "no step")))
      refine P.len_str (by omega) ?_
      try dsimp only
      repeat' (first | ((fail_if_success (with_reducible show wpAny _ _ (compareOp _ _ _) _ _ _)); (first | (k_unfold; (try dsimp only)) | (k_end; wrow_close) | walk1 | (dsimp only; walk1) | (leave1; walk_say "STEP leave1"; try dsimp only) | fail "no step")))
      refine P.le_int ?_
      rw [decide_eq_true (show eP ≤ (tx.length : Int) by omega)]
      repeat' (first | ((fail_if_success (with_reducible show wpAny _ _ (getAttr (Value.ref _) _ _) _ _ _)); (first | (k_unfold; (try dsimp only)) | (k_end; wrow_close) | walk1 | (dsimp only; walk1) | (leave1; walk_say "STEP leave1"; try dsimp only) | fail "no step")))
      refine n_slot F22 X' N22 (u3N _ hm2) (u3N _ hd2) so_nen rfl rfl ?_
      repeat' (first | ((fail_if_success (with_reducible show wpAny _ _ (compareOp _ _ _) _ _ _)); (first | (k_unfold; (try dsimp only)) | (k_end; wrow_close) | walk1 | (dsimp only; walk1) | (leave1; walk_say "STEP leave1"; try dsimp only) | fail "no step")))
      refine int_eq_same rfl ?_
      repeat' (first | ((fail_if_success (with_reducible show wpAny _ _ (getAttr (Value.ref _) _ _) _ _ _)); (first | (k_unfold; (try dsimp only)) | (k_end; wrow_close) | walk1 | (dsimp only; walk1) | (leave1; walk_say "STEP leave1"; try dsimp only) | fail "no step")))
      refine n_slot F22 X' N22 (u3N _ hm2) (u3N _ hd2) so_nch rfl rfl ?_
      repeat' (first | ((fail_if_success (with_reducible show wpAny _ _ (subscriptTail _ _ _ _) _ _ _)); (first | (k_unfold; (try dsimp only)) | (k_end; wrow_close) | walk1 | (dsimp only; walk1) | (leave1; walk_say "STEP leave1"; try dsimp only) | fail "no step")))
      refine m_itemL (i := 0) N22 (u3N _ hcl2) (by decide) rfl ?_ (by with_unfolding_all rfl)
      repeat' (first | ((fail_if_success (with_reducible show wpAny _ _ (getAttr (Value.ref _) _ _) _ _ _)); (first | (k_unfold; (try dsimp only)) | (k_end; wrow_close) | walk1 | (dsimp only; walk1) | (leave1; walk_say "STEP leave1"; try dsimp only) | fail "no step")))
      refine n_slot F22 X' N22 (u3N _ hm3) (u3N _ hd3) so_nex rfl rfl ?_
      repeat' (first | ((fail_if_success (with_reducible show wpAny _ _ (GoodH _ _ _) _ _ _)); (first | (k_unfold; (try dsimp only)) | (k_end; wrow_close) | walk1 | (dsimp only; walk1) | (leave1; walk_say "STEP leave1"; try dsimp only) | fail "no step")))
      exact ⟨rfl, Fr.keep (by assumption), rfl, hge⟩
  case ok =>
    intro v led h13 tk13 F14 N14 S14 hp14
    obtain ⟨c, ed, e, t', led0, hmp, hsub, hnn⟩ := hp14
    obtain ⟨oc', C', oe', nf', M', N', rfl, mst, _, _, res, _⟩ := hmp
    obtain ⟨G, hG⟩ := Option.ne_none_iff_exists'.mp hnn
    rw [hG] at res
    obtain ⟨pre, hpre⟩ : ∃ z, z = (c, oc') :: (ed, oe') :: (M' ++ (N' ++ ((e, errO ed t' .none) :: (t', tupO [.str tx ttx] 0) :: (st0 ++ [(r, lstO rits rn)])))) := ⟨_, rfl⟩
    obtain ⟨sub15, S15⟩ : (∀ q ∈ (63, tabObj #[]) :: pre, q ∈ (c, oc') :: (ed, oe') :: (M' ++ (N' ++ ((e, errO ed t' .none) :: (t', tupO [.str tx ttx] 0) :: (st0 ++ [(r, lstO rits rn), (63, tabObj #[])]))))) ∧ Sep ((63, tabObj #[]) :: pre) := by
      refine led_cut (extra := []) S14 ?_
      rw [hpre]
      classical
      refine List.perm_iff_count.mpr fun q => ?_
      simp only [List.count_append, List.count_cons, List.count_nil, List.cons_append, List.nil_append]
      omega
    have N15 := newsSub N14 sub15
    have inN : ∀ q ∈ N' ++ [], q ∈ pre := fun q hq => by
      rw [hpre]
      rcases List.mem_append.mp hq with hq | hq
      · exact .tail _ (.tail _ (List.mem_append_right _ (List.mem_append_left _ hq)))
      · cases hq
    have inS : ∀ q ∈ st0, q ∈ pre := fun q hq => by
      rw [hpre]
      exact .tail _ (.tail _ (List.mem_append_right _ (List.mem_append_right _ (.tail _ (.tail _ (List.mem_append_left _ hq))))))
    have inM : ∀ q ∈ M', q ∈ pre := fun q hq => by
      rw [hpre]
      exact .tail _ (.tail _ (List.mem_append_left _ hq))
    have pok := pegs_ok htx 5 (EF.cons .seq x1 dx1 o1 mt1 nam K1 .nil) hF0 hN0 hH0 (fun q hq => inS q (hst0 ▸ hq)) (muts_dat mst.muts inM)
    obtain ⟨a, d1, cl, e1, t1, t2, t3, st1, en1, n1, nm1, chs, ch, rfl, rfl, hm, hd, hcl, hc⟩ := res_one res
    have hnd : NodesIn tx pre [.ref a] (.cons e1 nm1 st1 en1 ch .nil) := res.2.mono inN
    have hsn : Sn tx pre 5 (.cons e1 nm1 st1 en1 ch .nil) ∧ nm1 = nam ∧ st1 = 0 := by
      cases pok with
      | cons hpo _ =>
      obtain ⟨_, _, _, _, eq1, _, _, _, hsn⟩ := hpo 0 _ (Nat.zero_le _) hG
      obtain ⟨_, _, eq2⟩ := run_shape hG
      injection eq2 with _ e2 e3 _ _ _
      exact ⟨hsn, e2, e3⟩
    obtain ⟨hsn, rfl, rfl⟩ := hsn
    replace hm := inN _ hm
    replace hd := inN _ hd
    replace hcl := inN _ hcl
    clear N14 S14 sub15 pok res mst hsub hG hnn F12 N12 N13 S12 S13 sub13 hmc
    have hpf := pfok_of hab htx hsn.1 hsn.2.1 hsn.2.2
    have hsm := small_of _ hsn.2.1
    obtain ⟨rows, px1, px2, px3, px4, px5, px6, px7, px8⟩ := picture hab htx hsn
    have hht : (PF.cons e1 nm1 0 en1 ch .nil).ht ≤ 5 := hsn.2.2
    have up1 : ∀ q ∈ pre, q ∈ (63, tabObj #[]) :: pre := fun q hq => .tail _ hq
    obtain ⟨G, hGd⟩ : ∃ z, z = PF.cons e1 nm1 0 en1 ch .nil := ⟨_, rfl⟩
    have snd0 := sound_ok (w := w) (tkx := ttx) htx _ (hnd.mono up1) (hsn.1.mono up1) hsm
    cases snd0 with
    | cons hsd _ =>
    rw [← hGd] at hsd hht
    try dsimp only
    repeat' (first | ((fail_if_success (with_reducible show wpAny _ _ (getAttr (Value.ref _) _ _) _ _ _)); (first | (k_unfold; (try dsimp only)) | (k_end; wrow_close) | walk1 | (dsimp only; walk1) | (leave1; walk_say "STEP leave1"; try dsimp only) | fail "no step")))
    rename_i h16 F16 N16
    refine n_slot F16 X' N16 (up1 _ hm) (up1 _ hd) so_nst rfl rfl ?_
    repeat' (first | ((fail_if_success (with_reducible show wpAny _ _ (compareOp _ _ _) _ _ _)); (first | (k_unfold; (try dsimp only)) | (k_end; wrow_close) | walk1 | (dsimp only; walk1) | (leave1; walk_say "STEP leave1"; try dsimp only) | fail "no step")))
    refine int_ne_same rfl ?_
    repeat' (first | ((fail_if_success (with_reducible show wpAny _ _ (call (Value.ref 536) _ _) _ _ _)); (first | (k_unfold; (try dsimp only)) | (k_end; wrow_close) | walk1 | (dsimp only; walk1) | (leave1; walk_say "STEP leave1"; try dsimp only) | fail "no step")))
    refine wpAny_call ?_
    refine hsd _ _ _ _ _ _ ⟨_, _, _, _, _, _, _, _, _, by k_asm, by k_asm, by k_asm, rfl, rfl, rfl, rfl⟩ rfl (by k_asm) (by k_asm) (by (try simp only [depth_mark, depth_under_make, depth_under_kw, depth_in1, depth_deeper, depth_caller]); omega) (by (try simp only [units_in1, units_deeper, Around.mark_units, units_caller]); omega) fun v tl h17 tk17 F17 N17 dc17 lt17 hp17 => ?_
    obtain ⟨rfl, rfl⟩ := hp17
    simp only [List.nil_append] at N17
    try dsimp only
    clear F16 N16
    repeat' (first | ((fail_if_success (with_reducible show wpAny _ _ (getMethod (Value.ref _) _ _) _ _ _)); (first | (k_unfold; (try dsimp only)) | (k_end; wrow_close) | walk1 | (dsimp only; walk1) | (leave1; walk_say "STEP leave1"; try dsimp only) | fail "no step")))
    refine n_pretty F17 X' N17 (up1 _ hm) (up1 _ hd) ?_
    repeat' (first | ((fail_if_success (with_reducible show wpAny _ _ (call (Value.ref 68) _ _) _ _ _)); (first | (k_unfold; (try dsimp only)) | (k_end; wrow_close) | walk1 | (dsimp only; walk1) | (leave1; walk_say "STEP leave1"; try dsimp only) | fail "no step")))
    have prt0 := pretty_ok (w := w) htx _ hnd hpf hsm
    cases prt0 with
    | cons hpr _ =>
    rw [← hGd] at hpr px1
    rw [px1] at hpr
    obtain ⟨X, hX⟩ : ∃ z, z = Str.join (Str.ofString "\n") (rows.map lineS) := ⟨_, rfl⟩
    rw [← hX] at hpr px2 px7
    refine wpAny_call ?_
    refine hpr [] (.inl rfl) _ _ _ _ _ _ [(63, tabObj #[])] ⟨_, _, _, _, _, _, _, _, _, K', X', T', rfl, rfl, rfl, rfl⟩ rfl .t0 F17 N17 S15 hge (by (try simp only [depth_mark, depth_under_make, depth_under_kw, depth_in1, depth_deeper, depth_caller]); omega) (by (try simp only [units_in1, units_deeper, Around.mark_units, units_caller]); omega) fun c1 P1 oc ps s3 tkp hcO htr hsame F18 N18 S18 hg18 ho18 => ?_
    try dsimp only
    clear F17 N17 hsame
    repeat' (first | ((fail_if_success (with_reducible show wpAny _ _ (call (Value.builtin "str.split") _ _) _ _ _)); (first | (k_unfold; (try dsimp only)) | (k_end; wrow_close) | walk1 | (dsimp only; walk1) | (leave1; walk_say "STEP leave1"; try dsimp only) | fail "no step")))
    refine splitN1 F18 N18 (by decide) (fun lst h19 k19 hlst F19 N19 => ?_) (by rw [sizeLine_eq]; omega)
    rw [px2] at hlst
    have lDl : ∀ p ∈ t1L c1 P1 oc ps ++ pre, p.1 < s3.heap.objs.size := fun p hp => Heap.lt_size (N18 p hp).1
    generalize s3.heap.objs.size = Dl at N19 lDl ⊢
    try dsimp only
    repeat' (first | ((fail_if_success (with_reducible show wpAny _ _ (call (Value.builtin "len") _ _) _ _ _)); (first | (k_unfold; (try dsimp only)) | (k_end; wrow_close) | walk1 | (dsimp only; walk1) | (leave1; walk_say "STEP leave1"; try dsimp only) | fail "no step")))
    rename_i h20 F20 N20
    have hll : lst.length = rows.length := by
      have := congrArg List.length hlst
      simpa using this
    refine m_lenL (xs := strValues lst) (n := 0) N20 (.head _) (by simp only [strValues, List.length_map]; omega) fun t20 t20' => ?_
    try dsimp only
    repeat' (first | ((fail_if_success (with_reducible show wpAny _ _ (call (Value.ref 541) _ _) _ _ _)); (first | (k_unfold; (try dsimp only)) | (k_end; wrow_close) | walk1 | (dsimp only; walk1) | (leave1; walk_say "STEP leave1"; try dsimp only) | fail "no step")))
    have up2 : ∀ q ∈ pre, q ∈ (Dl, lstO (strValues lst) 0) :: (t1L c1 P1 oc ps ++ pre) := fun q hq => .tail _ (List.mem_append_right _ hq)
    have cnt0 := count_ok (w := w) _ (hnd.mono up2) hsm
    cases cnt0 with
    | cons hcn _ =>
    rw [← hGd] at hcn px3
    refine wpAny_call ?_
    refine hcn _ _ _ _ _ _ ⟨_, _, _, _, _, _, _, _, _, by k_asm, by k_asm, by k_asm, rfl, rfl, rfl, rfl⟩ rfl (by k_asm) (by k_asm) (by (try simp only [depth_mark, depth_under_make, depth_under_kw, depth_in1, depth_deeper, depth_caller]); omega) (by (try simp only [units_in1, units_deeper, Around.mark_units, units_caller]); omega) fun v tl h21 tk21 F21 N21 dc21 lt21 hp21 => ?_
    obtain ⟨rfl, tkc, rfl⟩ := hp21
    simp only [List.nil_append] at N21
    try dsimp only
    clear F20 N20
    repeat' (first | ((fail_if_success (with_reducible show wpAny _ _ (compareOp _ _ _) _ _ _)); (first | (k_unfold; (try dsimp only)) | (k_end; wrow_close) | walk1 | (dsimp only; walk1) | (leave1; walk_say "STEP leave1"; try dsimp only) | fail "no step")))
    refine int_ne_same (by simp only [strValues, List.length_map]; rw [hll, px3]) ?_
    repeat' (first | ((fail_if_success (with_reducible show wpAny _ _ (subscriptTail _ _ _ _) _ _ _)); (first | (k_unfold; (try dsimp only)) | (k_end; wrow_close) | walk1 | (dsimp only; walk1) | (leave1; walk_say "STEP leave1"; try dsimp only) | fail "no step")))
    obtain ⟨t0s, ht0⟩ : ∃ t0s, (strValues lst)[0]? = some (.str (headS nm1 (Txt.slice tx (some ((0 : Nat) : Int)) (some (en1 : Int)))) t0s) := by
      rw [← hlst, List.getElem?_map] at px4
      cases hl0 : lst[0]? with
      | none => rw [hl0] at px4; cases px4
      | some q =>
        rw [hl0] at px4
        simp only [Option.map_some, Option.some.injEq] at px4
        exact ⟨q.2, by simp only [strValues, List.getElem?_map, hl0, Option.map_some, px4]⟩
    refine m_itemL (i := 0) N21 (.head _) (by decide) ht0 ?_ (by with_unfolding_all rfl)
    refine wpAny_mono (Q := StrP g₀ L₀ (fun y => if y = Str.ofString "lines" then some (Value.ref Dl) else if y = Str.ofString "node" then some (Value.ref a) else if y = Str.ofString "expr" then some (Value.ref x1) else if y = Str.ofString "first" then some (Value.int fi tfi) else if y = Str.ofString "text" then some (Value.str tx ttx) else if y = Str.ofString "rest" then some (Value.ref r) else if y = Str.ofString "inner" then some (Value.ref x) else if y = Str.ofString "numbers" then some (Value.ref D) else if y = Str.ofString "script" then some (Value.ref ls) else none) ((Dl, lstO (strValues lst) 0) :: (t1L c1 P1 oc ps ++ pre)) s3 (headS nm1 (Txt.slice tx (some ((0 : Nat) : Int)) (some (en1 : Int))))) ?ev5 (fun v s5 h5 => ?_) (fun _ _ z => z)
    case ev5 =>
      repeat' (first | ((fail_if_success (with_reducible show wpAny _ _ (binaryOp Operator.Add _ _) _ _ _)); (first | (k_unfold; (try dsimp only)) | (k_end; wrow_close) | walk1 | (dsimp only; walk1) | (leave1; walk_say "STEP leave1"; try dsimp only) | fail "no step")))
      · rename_i hf5
        refine m_addS (by decide +kernel) fun u1 u2 => ?_
        try dsimp only
        repeat' (first | ((fail_if_success (with_reducible show wpAny _ _ (binaryOp _ _ _) _ _ _)); (first | (k_unfold; (try dsimp only)) | (k_end; wrow_close) | walk1 | (dsimp only; walk1) | (leave1; walk_say "STEP leave1"; try dsimp only) | fail "no step")))
        refine m_addS (by decide +kernel) fun u3 u4 => ?_
        try dsimp only
        repeat' (first | ((fail_if_success (with_reducible show wpAny _ _ (getAttr (Value.ref _) _ _) _ _ _)); (first | (k_unfold; (try dsimp only)) | (k_end; wrow_close) | walk1 | (dsimp only; walk1) | (leave1; walk_say "STEP leave1"; try dsimp only) | fail "no step")))
        refine n_text F21 X' N21 (up2 _ hm) (up2 _ hd) ?_
        refine text_ok (up2 _ hm) (up2 _ hd) htx _ _ _ _ _ _ ⟨_, _, _, _, _, _, _, _, _, by k_asm, by k_asm, by k_asm, rfl, rfl, rfl, rfl⟩ rfl (by k_asm) (by k_asm) (by (try simp only [depth_mark, depth_under_make, depth_under_kw, depth_in1, depth_deeper, depth_caller]); omega) (by (try simp only [units_in1, units_deeper, Around.mark_units, units_caller]); omega) fun v tl h22 tk22 F22 N22 dc22 lt22 hp22 => ?_
        obtain ⟨rfl, htl, tk23, rfl⟩ := hp22
        simp only [List.nil_append] at N22
        refine handed_on rfl ?_
        try dsimp only
        clear F21 N21
        repeat' (first | ((fail_if_success (with_reducible show wpAny _ _ (binaryOp _ _ _) _ _ _)); (first | (k_unfold; (try dsimp only)) | (k_end; wrow_close) | walk1 | (dsimp only; walk1) | (leave1; walk_say "STEP leave1"; try dsimp only) | fail "no step")))
        have ec : (Str.ofString "<Node" ++ Str.ofString " called \"whole\"" ++ Str.ofString " matching \"").length ≤ 40 := by decide +kernel
        refine m_addS (by omega) fun u5 u6 => ?_
        try dsimp only
        repeat' (first | ((fail_if_success (with_reducible show wpAny _ _ (binaryOp _ _ _) _ _ _)); (first | (k_unfold; (try dsimp only)) | (k_end; wrow_close) | walk1 | (dsimp only; walk1) | (leave1; walk_say "STEP leave1"; try dsimp only) | fail "no step")))
        have ed0 : (Str.ofString "\">").length = 2 := by decide
        refine m_addS (by rw [Str.length_append, ed0]; omega) fun u7 u8 => ?_
        refine ⟨u7, _, _, ?_, rfl, F22, N22⟩
        rw [hnw hf5]
        have ecs : callS (Str.ofString "whole") = Str.ofString " called \"whole\"" := by decide +kernel
        show Value.str _ _ = Value.str (headS _ _) _
        unfold headS
        rw [ecs]
      · rename_i hf5
        refine m_addS (by decide +kernel) fun u1 u2 => ?_
        try dsimp only
        repeat' (first | ((fail_if_success (with_reducible show wpAny _ _ (binaryOp _ _ _) _ _ _)); (first | (k_unfold; (try dsimp only)) | (k_end; wrow_close) | walk1 | (dsimp only; walk1) | (leave1; walk_say "STEP leave1"; try dsimp only) | fail "no step")))
        refine m_addS (by decide +kernel) fun u3 u4 => ?_
        try dsimp only
        repeat' (first | ((fail_if_success (with_reducible show wpAny _ _ (getAttr (Value.ref _) _ _) _ _ _)); (first | (k_unfold; (try dsimp only)) | (k_end; wrow_close) | walk1 | (dsimp only; walk1) | (leave1; walk_say "STEP leave1"; try dsimp only) | fail "no step")))
        refine n_text F21 X' N21 (up2 _ hm) (up2 _ hd) ?_
        refine text_ok (up2 _ hm) (up2 _ hd) htx _ _ _ _ _ _ ⟨_, _, _, _, _, _, _, _, _, by k_asm, by k_asm, by k_asm, rfl, rfl, rfl, rfl⟩ rfl (by k_asm) (by k_asm) (by (try simp only [depth_mark, depth_under_make, depth_under_kw, depth_in1, depth_deeper, depth_caller]); omega) (by (try simp only [units_in1, units_deeper, Around.mark_units, units_caller]); omega) fun v tl h22 tk22 F22 N22 dc22 lt22 hp22 => ?_
        obtain ⟨rfl, htl, tk23, rfl⟩ := hp22
        simp only [List.nil_append] at N22
        refine handed_on rfl ?_
        try dsimp only
        clear F21 N21
        repeat' (first | ((fail_if_success (with_reducible show wpAny _ _ (binaryOp _ _ _) _ _ _)); (first | (k_unfold; (try dsimp only)) | (k_end; wrow_close) | walk1 | (dsimp only; walk1) | (leave1; walk_say "STEP leave1"; try dsimp only) | fail "no step")))
        have ec : (Str.ofString "<Node" ++ Str.ofString "" ++ Str.ofString " matching \"").length ≤ 40 := by decide +kernel
        refine m_addS (by omega) fun u5 u6 => ?_
        try dsimp only
        repeat' (first | ((fail_if_success (with_reducible show wpAny _ _ (binaryOp _ _ _) _ _ _)); (first | (k_unfold; (try dsimp only)) | (k_end; wrow_close) | walk1 | (dsimp only; walk1) | (leave1; walk_say "STEP leave1"; try dsimp only) | fail "no step")))
        have ed0 : (Str.ofString "\">").length = 2 := by decide
        refine m_addS (by rw [Str.length_append, ed0]; omega) fun u7 u8 => ?_
        refine ⟨u7, _, _, ?_, rfl, F22, N22⟩
        rw [hne hf5]
        have ecs : callS (Str.ofString "") = Str.ofString "" := by decide +kernel
        show Value.str _ _ = Value.str (headS _ _) _
        unfold headS
        rw [ecs]
    obtain ⟨t5, h22, tk22, rfl, rfl, F22, N22⟩ := h5
    try dsimp only
    clear F21 N21
    repeat' (first | ((fail_if_success (with_reducible show wpAny _ _ (compareOp _ _ _) _ _ _)); (first | (k_unfold; (try dsimp only)) | (k_end; wrow_close) | walk1 | (dsimp only; walk1) | (leave1; walk_say "STEP leave1"; try dsimp only) | fail "no step")))
    refine str_ne_same rfl ?_
    repeat' (first | ((fail_if_success (with_reducible show wpAny _ _ (call (Value.type "str") _ _) _ _ _)); (first | (k_unfold; (try dsimp only)) | (k_end; wrow_close) | walk1 | (dsimp only; walk1) | (leave1; walk_say "STEP leave1"; try dsimp only) | fail "no step")))
    have lDl2 : @LT.lt Nat _ 63 Dl := lDl (63, _) (.head _)
    obtain ⟨pre2, hpre2⟩ : ∃ z, z = (Dl, lstO (strValues lst) 0) :: pre := ⟨_, rfl⟩
    have up3 : ∀ q ∈ pre, q ∈ pre2 := fun q hq => hpre2 ▸ .tail _ hq
    have pm22 : ((Dl, lstO (strValues lst) 0) :: (t1L c1 P1 oc ps ++ pre)).Perm (t1L c1 P1 oc ps ++ pre2) := by
      rw [hpre2]
      classical
      refine List.perm_iff_count.mpr fun q => ?_
      simp only [List.count_append, List.count_cons]
      omega
    have S23 : Sep (t1L c1 P1 oc ps ++ pre2) := sep_perm (sep_push S18 lDl) pm22
    have N23 := newsSub N22 fun q hq => pm22.mem_iff.mpr hq
    have prs0 := str_ok (w := w) (d := d1) (cl := cl) (t1 := t1) (t2 := t2) (t3 := t3) (n := n1) (chs := chs) htx (hnd.mono up3) (PFok.mono up3 _ hpf) hsm
    have prt1 := pretty_ok (w := w) htx _ (hnd.mono up3) (PFok.mono up3 _ hpf) hsm
    cases prt1 with
    | cons hpr2 _ =>
    rw [← hGd, px1, ← hX] at prs0 hpr2
    clear N22
    refine kso_call (K := Mine.hd.heap_39 w.params) (f := 75) ?hu (X'.keeps F22.keep) (InstAt.of_news N23 (List.mem_append_right _ (up3 _ hm)) (List.mem_append_right _ (up3 _ hd))) (by kernel_rfl) (by kernel_rfl) ?_
    case hu => (have hcL9 := cLine_is; ((try simp only [units_in1, units_deeper, Around.mark_units, units_caller]); omega))
    have hch5 : ch.ht + 1 ≤ 5 := by
      have := hht
      rw [hGd] at this
      simp only [PF.ht] at this
      omega
    refine wpAny_call ?_
    refine prs0 _ _ _ _ _ _ (t1L c1 P1 oc ps) ⟨_, _, _, _, _, _, _, _, _, K', X', T', rfl, rfl, rfl, rfl⟩ rfl (.t1 hcO htr) F22 N23 S23 hg18 (by (try simp only [depth_mark, depth_under_make, depth_under_kw, depth_in1, depth_deeper, depth_caller]); omega) (by (try simp only [units_in1, units_deeper, Around.mark_units, units_caller]); omega) fun c2 P2 oc2 ps2 s4 tkq hcO2 htr2 hsame2 F24 N24 S24 hg24 ho24 => ?_
    obtain ⟨rfl, rfl, rfl⟩ := hsame2 _ _ _ _ rfl
    clear N23 S23 F22
    show wpAny _ _ _ _ _ _
    try dsimp only
    repeat' (first | ((fail_if_success (with_reducible show wpAny _ _ (getMethod (Value.ref _) _ _) _ _ _)); (first | (k_unfold; (try dsimp only)) | (k_end; wrow_close) | walk1 | (dsimp only; walk1) | (leave1; walk_say "STEP leave1"; try dsimp only) | fail "no step")))
    refine n_pretty F24 X' N24 (List.mem_append_right _ (up3 _ hm)) (List.mem_append_right _ (up3 _ hd)) ?_
    repeat' (first | ((fail_if_success (with_reducible show wpAny _ _ (call (Value.ref 68) _ _) _ _ _)); (first | (k_unfold; (try dsimp only)) | (k_end; wrow_close) | walk1 | (dsimp only; walk1) | (leave1; walk_say "STEP leave1"; try dsimp only) | fail "no step")))
    refine wpAny_call ?_
    refine hpr2 [] (.inl rfl) _ _ _ _ _ _ (t1L c2 P2 oc2 ps2) ⟨_, _, _, _, _, _, _, _, _, K', X', T', rfl, rfl, rfl, rfl⟩ rfl (.t1 hcO2 htr2) F24 N24 S24 hg24 (by (try simp only [depth_mark, depth_under_make, depth_under_kw, depth_in1, depth_deeper, depth_caller]); omega) (by (try simp only [units_in1, units_deeper, Around.mark_units, units_caller]); omega) fun c3 P3 oc3 ps3 s6 tkr hcO3 htr3 hsame3 F25 N25 S25 hg25 ho25 => ?_
    obtain ⟨rfl, rfl, rfl⟩ := hsame3 _ _ _ _ rfl
    clear N24 S24 F24
    try dsimp only
    repeat' (first | ((fail_if_success (with_reducible show wpAny _ _ (compareOp _ _ _) _ _ _)); (first | (k_unfold; (try dsimp only)) | (k_end; wrow_close) | walk1 | (dsimp only; walk1) | (leave1; walk_say "STEP leave1"; try dsimp only) | fail "no step")))
    refine str_ne_same rfl ?_
    repeat' (first | ((fail_if_success (with_reducible show wpAny _ _ (exec (PySem.Stmt.While _ _ _ _) _) _ _ _)); (first | (k_unfold; (try dsimp only)) | (k_end; wrow_close) | walk1 | (dsimp only; walk1) | (leave1; walk_say "STEP leave1"; try dsimp only) | fail "no step")))
    rename_i ND0 hA lN0 RW hB lRW TT hC lTT hD1 hD2 hW FW NW
    obtain ⟨ld, hld⟩ : ∃ z, z = t1L c3 P3 oc3 ps3 ++ pre2 := ⟨_, rfl⟩
    have upd : ∀ q ∈ pre, q ∈ ld := fun q hq => hld ▸ List.mem_append_right _ (up3 q hq)
    have mDl : (Dl, lstO (strValues lst) 0) ∈ ld := by rw [hld, hpre2]; exact List.mem_append_right _ (.head _)
    have m63 : (63, tabObj #[rawInt 28, rawInt 8, .ref c3]) ∈ ld := by rw [hld]; exact List.mem_append_left _ (.head _)
    have SW : Sep ((RW, lstO [] 0) :: ld) := by
      rw [hld]
      exact sep_push S25 (ktn_ltOf lRW.2)
    have NW1 : News g₀ L₀ hW ((ND0, lstO [.ref a] 0) :: (RW, lstO (strValues []) 0) :: ld) := by
      rw [hld]
      refine newsSub NW fun q hq => ?_
      rcases List.mem_cons.mp hq with rfl | hq
      · exact .tail _ (.tail _ (.head _))
      · rcases List.mem_cons.mp hq with rfl | hq
        · exact .tail _ (.head _)
        · exact .tail _ (.tail _ (.tail _ hq))
    have nRD : ∀ p ∈ ld, p.1 ≠ RW := (sep_off (pre := []) SW).2
    have ndR : ND0 ≠ RW := Nat.ne_of_lt lRW.1
    clear NW SW lN0 lRW lTT S25 S18 lDl up2 hcn lt21 pm22 hsame2 hsame3 hpr2 prs0 px4 hpr hsd
    clear hcO hcO2 hg24 hg18
    obtain ⟨m0, hm0⟩ : ∃ z : Str → Option Value, z = (fun y => if y = Str.ofString "node" then some (Value.ref a) else if y = Str.ofString "expr" then some (Value.ref x1) else if y = Str.ofString "first" then some (Value.int fi tfi) else if y = Str.ofString "text" then some (Value.str tx ttx) else if y = Str.ofString "rest" then some (Value.ref r) else if y = Str.ofString "inner" then some (Value.ref x) else if y = Str.ofString "numbers" then some (Value.ref D) else if y = Str.ofString "script" then some (Value.ref ls) else none) := ⟨_, rfl⟩
    replace FW := fr_map (m' := fun y => if y = Str.ofString "nodes" then some (Value.ref ND0) else if y = Str.ofString "row" then some (Value.ref RW) else if y = Str.ofString "lines" then some (Value.ref Dl) else m0 y) FW fun y => by
      rw [hm0]
    have hndd : NodesIn tx ld [Value.ref a] G := hGd ▸ hnd.mono upd
    have hcnt7 : G.cnt ≤ 16807 := by omega
    refine wpAny_mono (Q := fun f s1 => f = .next ∧ CutR (G.texts tx) ld g₀ L₀ (fun y => if y = Str.ofString "row" then some (Value.ref RW) else if y = Str.ofString "lines" then some (Value.ref Dl) else m0 y) RW s6 s1) (E := fun _ _ => False) ?loop ?rest (fun _ _ z => z.elim)
    case loop =>
      refine wpAny_While ?_
      have dsp : ∃ (D : Addr) (n : Nat) (vs : List Value) (F : PF) (ts : List (Str × Tok)) (k : Nat), D ≠ RW ∧ (∀ p ∈ ld, p.1 ≠ RW) ∧ Fr g₀ L₀ hW (fun y => if y = Str.ofString "nodes" then some (Value.ref D) else if y = Str.ofString "row" then some (Value.ref RW) else if y = Str.ofString "lines" then some (Value.ref Dl) else m0 y) ∧
          News g₀ L₀ hW ((D, lstO vs n) :: (RW, lstO (strValues ts) k) :: ld) ∧ NodesIn tx ld vs F ∧ ts.map (·.1) ++ F.texts tx = G.texts tx ∧ ts.length + F.cnt ≤ 16807 := ⟨ND0, 0, _, G, [], 0, ndR, nRD, FW, NW1, hndd, rfl, by simpa using hcnt7⟩
      obtain ⟨D, n, vs, F, ts, k, hDR, _, F3, N3, hno, hts, hcn⟩ := dsp
      clear FW NW1 hndd hm0
      clear hm hd hcl hnd
      refine' (show ∀ tkz : Nat, codeAny _ _ _ _ (⟨hW, s6.gens, s6.drawn, tkz, s6.os⟩ : Shared) from ?_) _
      intro tkz
      obtain ⟨fuel, hfu⟩ : ∃ f, F.cnt < f := ⟨_, Nat.lt_succ_self _⟩
      induction fuel generalizing hW tkz D n vs F ts k with
      | zero => exact absurd hfu (by omega)
      | succ fuel ih =>
        refine while_turn ?_
        repeat' (first | ((fail_if_success (with_reducible show wpAny _ _ (compareOp _ _ _) _ _ _)); (first | (k_unfold; (try dsimp only)) | (k_end; wrow_close) | walk1 | (dsimp only; walk1) | (leave1; walk_say "STEP leave1"; try dsimp only) | fail "no step")))
        rename_i DE hE FE NE lE
        have hvl := nodes_len hno
        have hvc := len_cnt F
        refine isl_ne_nilL NE (.tail _ (.head _)) (.head _) (by have hcL9 := cLine_is; ((try simp only [units_in1, units_deeper, Around.mark_units, units_caller]); omega)) ?_
        cases hno with
        | nil =>
          try dsimp only [List.isEmpty, Bool.not_true, Bool.not_false]
          clear ih
          repeat' (first | ((fail_if_success (with_reducible show wpAny _ _ (CutR _ _ _ _ _ _ _ _) _ _ _)); (first | (k_unfold; (try dsimp only)) | (k_end; wrow_close) | walk1 | (dsimp only; walk1) | (leave1; walk_say "STEP leave1"; try dsimp only) | fail "no step")))
          refine ⟨_, _, ts, k, _, rfl, FE, newsSub NE fun q hq => .tail _ (.tail _ hq), ?_⟩
          have e0 : PF.texts tx .nil = [] := rfl
          rw [e0, List.append_nil] at hts
          exact hts
        | @cons a2 d2 cl2 e2 u1 u2 u3 st2 en2 nn2 nm2 chs2 vs2 ch2 rest2 hm2 hd2 hcl2 hc2 hr2 =>
          try dsimp only [List.isEmpty, Bool.not_true, Bool.not_false]
          repeat' (first | ((fail_if_success (with_reducible show wpAny _ _ (subscriptTail _ _ _ _) _ _ _)); (first | (k_unfold; (try dsimp only)) | (k_end; wrow_close) | walk1 | (dsimp only; walk1) | (leave1; walk_say "STEP leave1"; try dsimp only) | fail "no step")))
          refine m_itemL (i := 0) NE (.tail _ (.head _)) (by decide) rfl ?_ (by with_unfolding_all rfl)
          repeat' (first | ((fail_if_success (with_reducible show wpAny _ _ (getAttr (Value.ref _) _ _) _ _ _)); (first | (k_unfold; (try dsimp only)) | (k_end; wrow_close) | walk1 | (dsimp only; walk1) | (leave1; walk_say "STEP leave1"; try dsimp only) | fail "no step")))
          refine n_text FE X' NE (.tail _ (.tail _ (.tail _ hm2))) (.tail _ (.tail _ (.tail _ hd2))) ?_
          refine text_ok (.tail _ (.tail _ (.tail _ hm2))) (.tail _ (.tail _ (.tail _ hd2))) htx _ _ _ _ _ _ ⟨_, _, _, _, _, _, _, _, _, by k_asm, by k_asm, by k_asm, rfl, rfl, rfl, rfl⟩ rfl (by k_asm) (by k_asm) (by (try simp only [depth_mark, depth_under_make, depth_under_kw, depth_in1, depth_deeper, depth_caller]); omega) (by (try simp only [units_in1, units_deeper, Around.mark_units, units_caller]); omega) fun v tl h30 tk30 F30 N30 dc30 lt30 hp30 => ?_
          obtain ⟨rfl, htl, tk31, rfl⟩ := hp30
          simp only [List.nil_append] at N30
          refine handed_on rfl ?_
          try dsimp only
          clear FE NE dc30 lt30
          repeat' (first | ((fail_if_success (with_reducible show wpAny _ _ (call (Value.builtin "list.append") _ _) _ _ _)); (first | (k_unfold; (try dsimp only)) | (k_end; wrow_close) | walk1 | (dsimp only; walk1) | (leave1; walk_say "STEP leave1"; try dsimp only) | fail "no step")))
          have oRW : ∀ p ∈ [(DE, W.listOf #[] 0), (D, lstO (Value.ref a2 :: vs2) n)], p.1 ≠ RW := by
            intro p hp
            simp only [List.mem_cons, List.not_mem_nil, or_false] at hp
            rcases hp with rfl | rfl
            · exact Nat.ne_of_gt lE.2.1
            · exact hDR
          have hcn' : ts.length + (1 + ch2.cnt + rest2.cnt) ≤ 16807 := hcn
          refine m_append F30 N30 (updF_of (pre := [(DE, W.listOf #[] 0), (D, lstO (Value.ref a2 :: vs2) n)]) oRW nRD) (by rw [sizeLine_eq]; simp only [strValues, List.length_map]; omega) fun h32 F32 N32 => ?_
          simp only [List.cons_append, List.nil_append] at N32
          have esv : strValues ts ++ [Value.str (Txt.slice tx (some (st2 : Int)) (some (en2 : Int))) tk31] = strValues (ts ++ [(Txt.slice tx (some (st2 : Int)) (some (en2 : Int)), tk31)]) := by simp [strValues]
          rw [esv] at N32
          clear F30 N30
          have N33 : News g₀ L₀ h32 ((D, lstO (Value.ref a2 :: vs2) n) :: (RW, lstO (strValues (ts ++ [(Txt.slice tx (some (st2 : Int)) (some (en2 : Int)), tk31)])) (k + 1)) :: ld) := newsSub N32 fun q hq => .tail _ hq
          clear N32
          repeat' (first | ((fail_if_success (with_reducible show wpAny _ _ (subscriptTail _ _ _ _) _ _ _)); (first | (k_unfold; (try dsimp only)) | (k_end; wrow_close) | walk1 | (dsimp only; walk1) | (leave1; walk_say "STEP leave1"; try dsimp only) | fail "no step")))
          refine m_itemL (i := 0) N33 (.head _) (by decide) rfl ?_ (by with_unfolding_all rfl)
          repeat' (first | ((fail_if_success (with_reducible show wpAny _ _ (getAttr (Value.ref _) _ _) _ _ _)); (first | (k_unfold; (try dsimp only)) | (k_end; wrow_close) | walk1 | (dsimp only; walk1) | (leave1; walk_say "STEP leave1"; try dsimp only) | fail "no step")))
          refine n_slot F32 X' N33 (.tail _ (.tail _ hm2)) (.tail _ (.tail _ hd2)) so_nch rfl rfl ?_
          repeat' (first | ((fail_if_success (with_reducible show wpAny _ _ (subscriptTail _ _ _ _) _ _ _)); (first | (k_unfold; (try dsimp only)) | (k_end; wrow_close) | walk1 | (dsimp only; walk1) | (leave1; walk_say "STEP leave1"; try dsimp only) | fail "no step")))
          have hvl' : vs2.length + 1 = 1 + rest2.len := hvl
          have hc2l := nodes_len hc2
          have lc2 := len_cnt ch2
          have lr2 := len_cnt rest2
          refine m_from1 F32 N33 (.head _) (by omega) (fun D2 h34 F34 N34 l34 => ?_) (by with_unfolding_all rfl)
          repeat' (first | ((fail_if_success (with_reducible show wpAny _ _ (binaryOp _ _ _) _ _ _)); (first | (k_unfold; (try dsimp only)) | (k_end; wrow_close) | walk1 | (dsimp only; walk1) | (leave1; walk_say "STEP leave1"; try dsimp only) | fail "no step")))
          refine add_lists F34 N34 ⟨_, (N34 _ (.tail _ (.tail _ (.tail _ hcl2)))).1, rfl, _, rfl⟩ ⟨_, (N34 _ (.head _)).1, rfl, _, rfl⟩ (fun h35 F35 N35 => ?_) (by rw [sizeLine_eq]; omega)
          have l35 : ∀ p ∈ (D2, lstO vs2 0) :: (D, lstO (Value.ref a2 :: vs2) n) :: (RW, lstO (strValues (ts ++ [(Txt.slice tx (some (st2 : Int)) (some (en2 : Int)), tk31)])) (k + 1)) :: ld, p.1 < h34.objs.size := fun p hp => Heap.lt_size (N34 p hp).1
          generalize h34.objs.size = D3 at N35 l35 ⊢
          have N36 : News g₀ L₀ h35 ((D3, lstO (chs2 ++ vs2) 0) :: (RW, lstO (strValues (ts ++ [(Txt.slice tx (some (st2 : Int)) (some (en2 : Int)), tk31)])) (k + 1)) :: ld) := newsSub N35 fun q hq => by
            rcases List.mem_cons.mp hq with rfl | hq
            · exact .head _
            · exact .tail _ (.tail _ (.tail _ hq))
          have lD3 : D3 ≠ RW := Nat.ne_of_gt (l35 (RW, _) (.tail _ (.tail _ (.head _))))
          clear F34 N34 N35 l35 F32 N33 l34
          repeat' (first | ((fail_if_success (with_reducible show wpAny _ _ (codeAny _ _ (Code.whileLoop _ _ _ _) _ _) _ _ _)); (first | (k_unfold; (try dsimp only)) | (k_end; wrow_close) | walk1 | (dsimp only; walk1) | (leave1; walk_say "STEP leave1"; try dsimp only) | fail "no step")))
          try dsimp only
          rename_i h37 F37 N37
          refine ih h37 D3 0 _ (ch2.app rest2) (ts ++ [(Txt.slice tx (some (st2 : Int)) (some (en2 : Int)), tk31)]) _ lD3 (fr_map F37 fun y => ?_) N37 (nodes_app hc2 hr2) ?_ ?_ _ ?_
          · by_cases e1 : y = Str.ofString "nodes"
            · subst e1; rfl
            simp only [if_neg e1]
          · rw [List.map_append, texts_app, List.append_assoc, ← hts]
            rfl
          · rw [cnt_app]
            simp only [List.length_append, List.length_cons, List.length_nil]
            omega
          · rw [cnt_app]
            simp only [PF.cnt] at hfu
            omega
    case rest =>
      rintro f s7 ⟨rfl, h38, tk38, ts, kN, vN, rfl, F38, N38, hts⟩
      try dsimp only
      dsimp only at F38
      repeat' (first | ((fail_if_success (with_reducible show wpAny _ _ (eval (PySem.Expr.ListComp _ _ _ _) _) _ _ _)); (first | (k_unfold; (try dsimp only)) | (k_end; wrow_close) | walk1 | (dsimp only; walk1) | (leave1; walk_say "STEP leave1"; try dsimp only) | fail "no step")))
      rw [← hGd] at px6
      have hlst2 : lst.map (fun p => p.1) = rows.map lineS := hlst
      have htl : ts.length = rows.length := by
        have e1 := congrArg List.length hts
        have e2 := congrArg List.length px6
        simp only [List.length_map] at e1 e2
        omega
      refine m_compLX (h₀ := g₀) (L := L₀) (m := fun y => if y = Str.ofString "nodes" then vN else if y = Str.ofString "row" then some (Value.ref RW) else if y = Str.ofString "lines" then some (Value.ref Dl) else m0 y) (cl := []) (P := fun i y => ∃ t, y = Value.str (quoS ((G.texts tx).getD i (Str.ofString ""))) t) rfl (closureFor_none (by decide)) (by decide) rfl (by decide) rfl ?hit1
      case hit1 =>
        repeat' (first | ((fail_if_success (with_reducible show wpAny _ _ (pyIter _) _ _ _)); (first | (k_unfold; (try dsimp only)) | (k_end; wrow_close) | walk1 | (dsimp only; walk1) | (leave1; walk_say "STEP leave1"; try dsimp only) | fail "no step")))
        refine m_pyIter F38 N38 (.tail _ mDl) fun I0 h40 F40 N40 lI40 => ?_
        try dsimp only
        refine ⟨Dl, 0, strValues lst, _, I0, itO Dl 0, by rw [sizeLine_eq]; simp only [strValues, List.length_map]; omega, rfl, ⟨rfl, rfl⟩, F40, N40, lI40, .tail _ mDl, ?step, fun D1 h41 tk41 ys q41 F41 N41 l41 hyl hys => ?_⟩
        case step =>
          intro s' j v C oC D2 oD I2 oI2 m1 E' hv Fs Ns rC hx _ _ _
          obtain ⟨r0, t0', hr0, hrj, rfl⟩ := line_at hlst2 hv
          obtain ⟨ok0, len0⟩ := px5 r0 hr0
          repeat' (first | ((fail_if_success (with_reducible show wpAny _ _ (call (Value.builtin _) _ _) _ _ _)); (first | (k_unfold; (try dsimp only)) | (k_end; wrow_close) | walk1 | (dsimp only; walk1) | (leave1; walk_say "STEP leave1"; try dsimp only) | fail "no step")))
          refine SCL.strip (fun t6 k6 l6 => ?_) (by rw [sizeLine_eq]; omega)
          try dsimp only
          repeat' (first | ((fail_if_success (with_reducible show wpAny _ _ (call (Value.builtin _) _ _) _ _ _)); (first | (k_unfold; (try dsimp only)) | (k_end; wrow_close) | walk1 | (dsimp only; walk1) | (leave1; walk_say "STEP leave1"; try dsimp only) | fail "no step")))
          refine splitN1 Fs Ns (by decide) (fun l0 h45 k45 hl0 F45 N45 => ?_) (by rw [sizeLine_eq]; omega)
          generalize s'.heap.objs.size = D4 at N45 ⊢
          try dsimp only
          obtain ⟨t46, h46⟩ := split_at hl0 (line_read ok0)
          repeat' (first | ((fail_if_success (with_reducible show wpAny _ _ (subscriptTail _ _ _ _) _ _ _)); (first | (k_unfold; (try dsimp only)) | (k_end; wrow_close) | walk1 | (dsimp only; walk1) | (leave1; walk_say "STEP leave1"; try dsimp only) | fail "no step")))
          refine m_itemL (n := 0) (i := 1) N45 (.head _) (by decide) h46 ?_ (by with_unfolding_all rfl)
          exact ⟨_, _, rfl, F45, newsSub N45 fun q hq => .tail _ hq, _, by rw [quo_at px6 hrj]⟩
        try dsimp only
        clear F40 N40 F38
        have N42 : News g₀ L₀ h41 ((D1, lstO ys q41) :: (RW, lstO (strValues ts) kN) :: ld) := N41
        clear N41
        refine m_compLX (h₀ := g₀) (L := L₀) (m := fun y => if y = Str.ofString "nodes" then vN else if y = Str.ofString "row" then some (Value.ref RW) else if y = Str.ofString "lines" then some (Value.ref Dl) else m0 y) (cl := []) (P := fun i y => ∃ t, y = Value.str (quoS ((G.texts tx).getD i (Str.ofString ""))) t) rfl (closureFor_none (by decide)) (by decide) rfl (by decide) rfl ?hit2
        case hit2 =>
          repeat' (first | ((fail_if_success (with_reducible show wpAny _ _ (pyIter _) _ _ _)); (first | (k_unfold; (try dsimp only)) | (k_end; wrow_close) | walk1 | (dsimp only; walk1) | (leave1; walk_say "STEP leave1"; try dsimp only) | fail "no step")))
          refine m_pyIter F41 N42 (.tail _ (.head _)) fun I1 h50 F50 N50 lI50 => ?_
          try dsimp only
          refine ⟨RW, kN, strValues ts, _, I1, itO RW 0, by rw [sizeLine_eq]; simp only [strValues, List.length_map]; omega, rfl, ⟨rfl, rfl⟩, F50, N50, lI50, .tail _ (.head _), ?step2, fun D5 h51 tk51 zs q51 F51 N51 l51 hzl hzs => ?_⟩
          case step2 =>
            intro s' j v C oC D2 oD I2 oI2 m1 E' hv Fs Ns rC hx _ _ _
            obtain ⟨t60, rfl, hmem⟩ := text_at hts hv
            have hl5 : ((G.texts tx).getD j (Str.ofString "")).length ≤ 5 := by
              rw [← px6] at hmem
              obtain ⟨r0, hr0, hr1⟩ := List.mem_map.mp hmem
              rw [← px6, ← hr1]
              exact (px5 r0 hr0).1.2.2
            repeat' (first | ((fail_if_success (with_reducible show wpAny _ _ (binaryOp Operator.Add _ _) _ _ _)); (first | (k_unfold; (try dsimp only)) | (k_end; wrow_close) | walk1 | (dsimp only; walk1) | (leave1; walk_say "STEP leave1"; try dsimp only) | fail "no step")))
            have eq1 : (Str.ofString "\"").length = 1 := by decide
            have eq2 : (Str.ofString "\">").length = 2 := by decide
            refine m_addS (by omega) fun u1 u2 => ?_
            try dsimp only
            repeat' (first | ((fail_if_success (with_reducible show wpAny _ _ (binaryOp Operator.Add _ _) _ _ _)); (first | (k_unfold; (try dsimp only)) | (k_end; wrow_close) | walk1 | (dsimp only; walk1) | (leave1; walk_say "STEP leave1"; try dsimp only) | fail "no step")))
            refine m_addS (by rw [Str.length_append, eq1, eq2]; omega) fun u3 u4 => ?_
            exact ⟨_, _, rfl, Fs, Ns, _, rfl⟩
          try dsimp only
          clear F50 N50 F41 N42
          repeat' (first | ((fail_if_success (with_reducible show wpAny _ _ (compareOp _ _ _) _ _ _)); (first | (k_unfold; (try dsimp only)) | (k_end; wrow_close) | walk1 | (dsimp only; walk1) | (leave1; walk_say "STEP leave1"; try dsimp only) | fail "no step")))
          refine lists_eq_strs (xs := ys) (ys := zs) (g := fun i => quoS ((G.texts tx).getD i (Str.ofString ""))) N51 (.tail _ (.head _)) (.head _) (by rw [hyl, hzl]; simp only [strValues, List.length_map]; omega) hys hzs (by have hcL9 := cLine_is; ((try simp only [units_in1, units_deeper, Around.mark_units, units_caller]); omega)) ?_
          try dsimp only
          exact ⟨⟨rfl, F51.keep, ho25.trans (ho24.trans ho18), hg25⟩, ⟨_, (N51 _ (.tail _ (.tail _ (.tail _ m63)))).1⟩, trivial⟩
  )
end Mine
theorem PySem.Challenge.cw_vj0020_01_holds : PySem.Challenge.rw_vj0020_01.Holds := by
  exact Mine.law0
